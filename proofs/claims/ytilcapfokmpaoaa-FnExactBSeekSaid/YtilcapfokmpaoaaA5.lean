/- The walk of nodeSet at a leaf with room. -/
import Derived.Deep.AppendLies
import Derived.Test.YtilcapfokmpaoaaA1
import Derived.Test.YtilcapfokmpaoaaA2
import Derived.Test.YtilcapfokmpaoaaA3
import Derived.Test.YtilcapfokmpaoaaA4
namespace Go.Proofs.Ytilcapfokmpaoaa
set_option linter.unusedSimpArgs false
set_option linter.unusedVariables false
open Go.RowKit
variable {ord : List Int} {k : Kc ord}

theorem hit_same {lt : It ord → It ord → Bool} {xs : List (It ord)} {x y y' : It ord} {i i' : Nat} (h : HitAt lt xs x i' y') (h' : HitAt lt xs x i y) : i' = i := by
  rcases Nat.lt_trichotomy i' i with c | c | c
  · exact absurd (h'.left i' y' c h.at_) (by rw [h.n1]; simp)
  · exact c
  · exact absurd (h.left i y c h'.at_) (by rw [h'.n1]; simp)
theorem hit_le {lt : It ord → It ord → Bool} {xs : List (It ord)} {x y : It ord} {i i' : Nat} (h : PosAt lt xs x i') (h' : HitAt lt xs x i y) : i' ≤ i := by
  rcases Nat.lt_or_ge i i' with c | c
  · exact absurd (h.left i y c h'.at_) (by rw [h'.n1]; simp)
  · exact c

theorem pos_same {lt : It ord → It ord → Bool} {xs : List (It ord)} {x : It ord} {i i' : Nat} (h : PosAt lt xs x i') (h' : PosAt lt xs x i) (s : Swo lt) : i' = i := by
  have key : ∀ a b, PosAt lt xs x a → PosAt lt xs x b → ¬ a < b := by
    intro a b ha hb c
    have hlt : a < xs.length := Nat.lt_of_lt_of_le c hb.le
    have h1 := ha.right a _ (Nat.le_refl _) (List.getElem?_eq_getElem hlt)
    have h2 := hb.left a _ c (List.getElem?_eq_getElem hlt)
    rw [s.asymm _ _ h1] at h2; cases h2
  have := key i i' h' h
  have := key i' i h h'
  omega

/-- Found in the node itself: its item gives way. -/
def SetHit (k : Kc ord) (w : World) (F : Nat → Prop) (H : Nat → Option (NodeR (It ord))) (n : Nat) (r : NodeR (It ord)) (x : It ord) (i : Nat) (y : It ord) (e : Ending) (w' : World) : Prop :=
  e = .returned (.tuple #[.iface 27 (.agg #[.int .i64 y.1, .int .i64 y.2]), .bool true, .bool false]) ∧ Fam (parM k) w' (grow F w w') (upd H n { r with items := r.items.set i x }) ∧ Chg (fun b _ => F b) w w'

theorem Run.setItemM {k : Kc ord} {w0 w : World} {n : Nat} {r0 r : NodeR (It ord)} {l0 l : Lay} (h : Run (parM k) w0 n r0 l0 w r l) (i : Nat) (x : It ord) (hi : i < r.items.length) :
    Run (parM k) w0 n r0 l0 (w.setCell ⟨l.ib, l.io + i, none⟩ (.iface 27 (.agg #[.int .i64 x.1, .int .i64 x.2]))) { r with items := r.items.set i x } l := by
  obtain ⟨_, c, h1, h2, _⟩ := h.at_.row
  have hlen := h.at_.len
  have hes : l.ic * (parM k).es = l.ic := by simp [parM]
  have hp := h.putItems i [x] (by simp; omega)
  have e1 : r.items.take i ++ [x] ++ r.items.drop (i + [x].length) = r.items.set i x := by
    rw [List.set_eq_take_append_cons_drop, if_pos hi]; simp
  rw [e1] at hp
  rw [putCells_one h1 (by have := hes; omega)]
  simpa [parM, flat, encM] using hp

set_option maxRecDepth 100000 in
set_option maxHeartbeats 1000000 in
theorem nodeSet_hit (k : Kc ord) (mn mx t n : Nat) (pa : Addr) (dp : Int) (x y : It ord) (i : Nat) (r : NodeR (It ord)) (w : World) (F : Nat → Prop) (H : Nat → Option (NodeR (It ord))) (hF : Fam (parM k) w F H) (ht : MapAt k mn mx w t) (hn : H n = some r)
    (hpa : w.cell? pa = some (.pointer (some ⟨n, 0, none⟩))) (hs : Srt ltM r.items) (hlen : r.items.length ≤ 1000) (hy : HitAt ltM r.items x i y) :
    Calls Try.prog 57 #[.pointer (some ⟨t, 0, none⟩), .pointer (some pa), aggM x, .pointer none, .int .i64 dp] w (SetHit k w F H n r x i y) := by
  obtain ⟨l, hna, hb, ho, cl⟩ := hF.work hn
  have t0 := ht.c0
  have n0 := hna.c0
  have hpk : (parM k).k = k.iso := rfl
  rw [hpk] at n0
  have nlt : n < w.heap.size := World.block_lt_of_cell? w _ n0
  have tlt : t < w.heap.size := World.block_lt_of_cell? w _ t0
  have plt := World.block_lt_of_cell? w _ hpa
  unfold aggM
  go_enter Try.func57, Try.ntmps57
  go_wp2_with fail
  go_quiet (fail)
  refine name_prop (fun w0 => Chg (fun _ _ => False) w w0 ∧ w0.heap.size = w.heap.size) ⟨(Chg.refl _ _).drewN _, rfl⟩ ?_
  rintro wq ⟨hcq, hzq⟩
  have hpq := hcq.cell (fun h => h) hpa
  have HZQ := Lib.hid hzq
  clear hzq
  go_wp2_with fail
  refine name_calls (fun w1 => Chg (fun _ _ => False) w w1 ∧ w1.heap[wq.heap.size]? = some (.cells #[.pointer (some ⟨n, 0, none⟩)] 56 (0, 0))) ⟨?_, ?_⟩ ?_
  · exact hcq.trans ((Chg.refl _ _).alloc _)
  · exact ha_at _ _ rfl
  rw [HZQ.out]
  rintro w1 ⟨hc1, hb2⟩
  clear hpq hcq
  have hn1 := hna.chg hc1 (fun _ _ _ h => h)
  have ht1 := ht.chg hc1 (by simp)
  refine (search_node t x ht1 hn1 hs (by omega)).mono ?_
  rintro e w2 ⟨i', f, rfl, hw2, hf⟩
  have hfi : f = true ∧ i' = i := by
    rcases hf with ⟨h1, y', h2⟩ | ⟨h1, h2⟩
    · exact ⟨h1, hit_same h2 hy⟩
    · exact absurd hy.n2 (by rw [h2.right i y (hit_le h2 hy) hy.at_]; simp)
  obtain ⟨rfl, rfl⟩ := hfi
  have hc2 : Chg (fun _ _ => False) w1 w2 := hw2
  have hn2 := hn1.chg hc2 (fun _ _ _ h => h)
  have r0 : Run (parM k) w n r l w2 r l := ((Run.start hna).still hc1).still hc2
  have hb2' : w2.heap[w.heap.size]? = some (.cells #[.pointer (some ⟨n, 0, none⟩)] 56 (0, 0)) := by rw [hw2.block (heap_lt hb2) (fun _ h => h)]; exact hb2
  have HB2 := Lib.hid hb2'
  have q2 := cell_of_block hb2' 0
  simp only [List.getElem?_toArray, List.getElem?_cons_zero, List.getElem?_cons_succ] at q2
  have n2 := hn2.c2
  have iv := hn2.mval hy.at_
  
  have z0 := hn2.ifz (l.io + i')
  have z1 := hn2.ifz (l.io + i')
  have hilt : i' < r.items.length := (List.getElem?_eq_some_iff.1 hy.at_).1
  have j0 : (0 : Int) ≤ (i' : Int) := by omega
  have j1 : (i' : Int) < (r.items.length : Int) := by omega
  clear hw2 hb2 hb2' t0 n0 hpa
  have HX := Lib.hid (show Run (parM k) w n r l w2 r l from r0)
  go_wp2_with fail
  refine bodyPost_ret (v := .tuple #[.iface 27 (.agg #[.int .i64 y.1, .int .i64 y.2]), .bool true, .bool false]) (by simp [results, Try.results57, go_sem]) rfl ?_
  refine ⟨rfl, ?_⟩
  exact cl _ _ _ (HX.out.setItemM i' x hilt)

/-- Nothing is done: the node is full. -/
def SetFull (k : Kc ord) (w : World) (F : Nat → Prop) (H : Nat → Option (NodeR (It ord))) (e : Ending) (w' : World) : Prop :=
  e = .returned (.tuple #[.nilIface, .bool false, .bool true]) ∧ Fam (parM k) w' (grow F w w') H ∧ Chg (fun _ _ => False) w w'

theorem Fam.idle {p : Par (It ord)} {w w' : World} {F : Nat → Prop} {H : Nat → Option (NodeR (It ord))} (h : Fam p w F H) (c : Chg (fun _ _ => False) w w') : Fam p w' (grow F w w') H := by
  refine (h.chg c fun _ _ _ h => h).mono (fun b hb => .inl hb) ?_
  rintro b (hb | hb)
  · exact Nat.lt_of_lt_of_le (h.lt hb) c.size
  · exact hb.2

set_option maxRecDepth 100000 in
set_option maxHeartbeats 1000000 in
theorem nodeSet_leaf_full (k : Kc ord) (mn mx t n : Nat) (pa : Addr) (dp : Int) (x : It ord) (i : Nat) (r : NodeR (It ord)) (w : World) (F : Nat → Prop) (H : Nat → Option (NodeR (It ord))) (hF : Fam (parM k) w F H) (ht : MapAt k mn mx w t) (hn : H n = some r)
    (hpa : w.cell? pa = some (.pointer (some ⟨n, 0, none⟩))) (hs : Srt ltM r.items) (hlen : r.items.length = mx) (hmx : mx ≤ 1000) (hy : PosAt ltM r.items x i) (hk : r.kids = none) :
    Calls Try.prog 57 #[.pointer (some ⟨t, 0, none⟩), .pointer (some pa), aggM x, .pointer none, .int .i64 dp] w (SetFull k w F H) := by
  obtain ⟨l, hna, hb, ho, cl⟩ := hF.work hn
  have t0 := ht.c0
  have n0 := hna.c0
  have hpk : (parM k).k = k.iso := rfl
  rw [hpk] at n0
  have nlt : n < w.heap.size := World.block_lt_of_cell? w _ n0
  have tlt : t < w.heap.size := World.block_lt_of_cell? w _ t0
  have plt := World.block_lt_of_cell? w _ hpa
  unfold aggM
  go_enter Try.func57, Try.ntmps57
  go_wp2_with fail
  go_quiet (fail)
  refine name_prop (fun w0 => Chg (fun _ _ => False) w w0 ∧ w0.heap.size = w.heap.size) ⟨(Chg.refl _ _).drewN _, rfl⟩ ?_
  rintro wq ⟨hcq, hzq⟩
  have hpq := hcq.cell (fun h => h) hpa
  have HZQ := Lib.hid hzq
  clear hzq
  go_wp2_with fail
  refine name_calls (fun w1 => Chg (fun _ _ => False) w w1 ∧ w1.heap[wq.heap.size]? = some (.cells #[.pointer (some ⟨n, 0, none⟩)] 56 (0, 0))) ⟨?_, ?_⟩ ?_
  · exact hcq.trans ((Chg.refl _ _).alloc _)
  · exact ha_at _ _ rfl
  rw [HZQ.out]
  rintro w1 ⟨hc1, hb2⟩
  clear hpq hcq
  have hn1 := hna.chg hc1 (fun _ _ _ h => h)
  have ht1 := ht.chg hc1 (by simp)
  refine (search_node t x ht1 hn1 hs (by omega)).mono ?_
  rintro e w2 ⟨i', f, rfl, hw2, hf⟩
  have hfi : f = false := by
    rcases hf with ⟨h1, y', h2⟩ | ⟨h1, h2⟩
    · exact absurd h2.n2 (by rw [hy.right i' y' (hit_le hy h2) h2.at_]; simp)
    · exact h1
  obtain rfl := hfi
  have hc2 : Chg (fun _ _ => False) w1 w2 := hw2
  have hn2 := hn1.chg hc2 (fun _ _ _ h => h)
  have ht2 := ht1.chg hc2 (by simp)
  have hb2' : w2.heap[w.heap.size]? = some (.cells #[.pointer (some ⟨n, 0, none⟩)] 56 (0, 0)) := by rw [hw2.block (heap_lt hb2) (fun _ h => h)]; exact hb2
  have q2 := cell_of_block hb2' 0
  simp only [List.getElem?_toArray, List.getElem?_cons_zero, List.getElem?_cons_succ] at q2
  have n2 := hn2.c2
  rw [hlen] at n2
  have n3 := hn2.c3n hk
  have e4 := ht2.c4
  have e5 := ht2.c5
  
  have e7 := ht2.c7
  have hcc := hc1.trans hc2
  clear hw2 hb2 hb2' t0 n0 hpa
  go_wp2_with (go_at_call 54; refine (leaf_any _ none _ ?_).mono ?_; (focus go_simp); rintro e w' ⟨rfl, rfl⟩)
  go_quiet (fail)
  go_wp2_with fail
  refine bodyPost_ret (v := .tuple #[.nilIface, .bool false, .bool true]) (by simp [results, Try.results57, go_sem]) rfl ?_
  have hce : ∀ w', Chg (fun _ _ => False) w2 w' → Fam (parM k) w' (grow F w w') H ∧ Chg (fun _ _ => False) w w' := fun w' c => ⟨hF.idle (hcc.trans c), hcc.trans c⟩
  refine ⟨rfl, hce _ ?_⟩
  repeat (first | refine Chg.drew ?_ | refine Chg.drewN ?_ _ | exact Chg.refl _ _)
end Go.Proofs.Ytilcapfokmpaoaa

namespace Go.Proofs.Ytilcapfokmpaoaa
set_option linter.unusedSimpArgs false
set_option linter.unusedVariables false
open Go.RowKit
variable {ord : List Int} {k : Kc ord}

theorem infoPair : (Try.prog.info? 20).map (fun i => (i.zero, i.size, i.bytes)) = some (some (.nilIface), 1, 16) := by kernel_rfl
theorem infoPairSize : (Try.prog.info? 20).map (·.size) = some 1 := by kernel_rfl
theorem infoNode : (Try.prog.info? 56).map (fun i => (i.zero, i.size, i.bytes)) = some (some (.pointer none), 1, 8) := by kernel_rfl
theorem infoNodeSize : (Try.prog.info? 56).map (·.size) = some 1 := by kernel_rfl

/-- x is put in at place i. -/
def SetNew (k : Kc ord) (w : World) (F : Nat → Prop) (H : Nat → Option (NodeR (It ord))) (n : Nat) (r : NodeR (It ord)) (x : It ord) (i : Nat) (e : Ending) (w' : World) : Prop :=
  e = .returned (.tuple #[.nilIface, .bool false, .bool false]) ∧ Fam (parM k) w' (grow F w w') (upd H n { r with cnt := r.cnt + 1, items := r.items.take i ++ x :: r.items.drop i }) ∧ Chg (fun b _ => F b) w w'


set_option maxRecDepth 100000 in
set_option maxHeartbeats 4000000 in
theorem nodeSet_leaf_room (k : Kc ord) (mn mx t n : Nat) (pa : Addr) (dp : Int) (x : It ord) (i : Nat) (r : NodeR (It ord)) (w : World) (F : Nat → Prop) (H : Nat → Option (NodeR (It ord))) (hF : Fam (parM k) w F H) (ht : MapAt k mn mx w t) (htF : ∀ b, MOwn k t b → ¬ F b) (hn : H n = some r)
    (hpa : w.cell? pa = some (.pointer (some ⟨n, 0, none⟩))) (hs : Srt ltM r.items) (hlen : r.items.length < mx) (hmx : mx ≤ 1000) (hy : PosAt ltM r.items x i) (hk : r.kids = none) (hcnt : 0 ≤ r.cnt) (hcnt2 : r.cnt ≤ 100000000000000) :
    Calls Try.prog 57 #[.pointer (some ⟨t, 0, none⟩), .pointer (some pa), aggM x, .pointer none, .int .i64 dp] w (SetNew k w F H n r x i) := by
  obtain ⟨l, hna, hb, ho, cl⟩ := hF.work hn
  have t0 := ht.c0
  have n0 := hna.c0
  have hpk : (parM k).k = k.iso := rfl
  rw [hpk] at n0
  have nlt : n < w.heap.size := World.block_lt_of_cell? w _ n0
  have tlt : t < w.heap.size := World.block_lt_of_cell? w _ t0
  have plt := World.block_lt_of_cell? w _ hpa
  unfold aggM
  go_enter Try.func57, Try.ntmps57
  go_wp2_with fail
  go_quiet (fail)
  refine name_prop (fun w0 => Chg (fun _ _ => False) w w0 ∧ w0.heap.size = w.heap.size) ⟨(Chg.refl _ _).drewN _, rfl⟩ ?_
  rintro wq ⟨hcq, hzq⟩
  have hpq := hcq.cell (fun h => h) hpa
  have HZQ := Lib.hid hzq
  clear hzq
  go_wp2_with fail
  refine name_calls (fun w1 => Chg (fun _ _ => False) w w1 ∧ w1.heap[wq.heap.size]? = some (.cells #[.pointer (some ⟨n, 0, none⟩)] 56 (0, 0))) ⟨?_, ?_⟩ ?_
  · exact hcq.trans ((Chg.refl _ _).alloc _)
  · exact ha_at _ _ rfl
  rw [HZQ.out]
  rintro w1 ⟨hc1, hb2⟩
  clear hpq hcq
  have hn1 := hna.chg hc1 (fun _ _ _ h => h)
  have ht1 := ht.chg hc1 (by simp)
  refine (search_node t x ht1 hn1 hs (by omega)).mono ?_
  rintro e w2 ⟨i', f, rfl, hw2, hf⟩
  have hfi : f = false ∧ i' = i := by
    rcases hf with ⟨h1, y', h2⟩ | ⟨h1, h2⟩
    · exact absurd h2.n2 (by rw [hy.right i' y' (hit_le hy h2) h2.at_]; simp)
    · exact ⟨h1, pos_same h2 hy swoM⟩
  obtain ⟨rfl, rfl⟩ := hfi
  have hc2 : Chg (fun _ _ => False) w1 w2 := hw2
  have hn2 := hn1.chg hc2 (fun _ _ _ h => h)
  have ht2 := ht1.chg hc2 (by simp)
  have r2 : Run (parM k) w n r l w2 r l := ((Run.start hna).still hc1).still hc2
  have hb2' : w2.heap[w.heap.size]? = some (.cells #[.pointer (some ⟨n, 0, none⟩)] 56 (0, 0)) := by rw [hw2.block (heap_lt hb2) (fun _ h => h)]; exact hb2
  have HB2 := Lib.hid hb2'
  have q2 := cell_of_block hb2' 0
  simp only [List.getElem?_toArray, List.getElem?_cons_zero] at q2
  have n2 := hn2.c2
  have n3 := hn2.c3n hk
  have e4 := ht2.c4
  have e5 := ht2.c5
  have e7 := ht2.c7
  have hcc := hc1.trans hc2
  have htest : ((r.items.length : Int) == (mx : Int)) = false := by simp; omega
  have htib : t ≠ l.ib := fun h => htF t MOwn.self (h ▸ hb _ (.inr (.inl rfl)))
  have hilt := hna.lt (b := l.ib) (.inr (.inl rfl))
  have hnib : n ≠ l.ib := Ne.symm hna.d1
  clear hw2 hb2 hb2' t0 n0 hpa
  go_wp2_with (go_at_call 54; refine (leaf_any _ none _ ?_).mono ?_; (focus go_simp); rintro e w' ⟨rfl, rfl⟩)
  go_quiet (fail)
  go_wp2_with fail
  refine name_world (fun w3 => Chg (fun _ _ => False) w2 w3) ((Chg.refl _ _).drewN _) ?_
  rintro w3 hc3
  replace q2 := hc3.cell (fun h => h) q2
  replace n2 := hc3.cell (fun h => h) n2
  replace e4 := hc3.cell (fun h => h) e4
  replace e5 := hc3.cell (fun h => h) e5
  have hn3 := hn2.chg hc3 (fun _ _ _ h => h)
  have r3 := r2.still hc3
  have r3o := Run.opt.1 r3
  have hn3o := NodeAt.opt.1 hn3
  have hol : r.opt.items.length = r.items.length := by simp [NodeR.opt]
  have hz := hcc.size
  have hz3 := hc3.size
  have hbs : w.heap.size < w2.heap.size := heap_lt HB2.out
  have hlen3 := hn3.len
  obtain ⟨i0, hi0, hz0, hz1, hz2⟩ := info_parts infoPair
  have fz2 := hn3.fz 2
  have nlt3 : n < w3.heap.size := by omega
  have fz2a : ∀ o, (w3.alloc o).drew.frozen? ⟨n, 2, none⟩ = false := fun o => by rw [World.frozen?_drew, World.frozen?_alloc_past _ _ _ nlt3]; exact fz2
  clear n3 e7 htest
  refine wp_region_soft (fun w' => w'.cell? ⟨w.heap.size, 0, none⟩ = some (.pointer (some ⟨n, 0, none⟩)) ∧ w'.cell? ⟨n, 2, none⟩ = some (.slice (some ⟨l.ib, l.io, none⟩) r.items.length l.ic) ∧ w'.cell? ⟨t, 7, none⟩ = some (.nilIface) ∧ w'.cell? ⟨t, 7, none⟩ = some (.nilIface))
    11 [0, 1, 2, 3, 4, 5, 6, 7, 8] [9, 10] (by kernel_rfl) (by kernel_rfl) (fun _ _ _ _ _ h => h) rfl rfl ⟨q2, n2, e4, e5⟩ ?_
  simp only [pickOps, List.filterMap_cons, List.filterMap_nil, List.getElem?_cons_zero, List.getElem?_cons_succ]
  iterate 9
    refine wpSoft_step ?_ rfl ?_ ?_
    rotate_left
    · intro w' hS
      obtain ⟨s1, s2, s3, s4⟩ := hS
      go_simp
      try with_reducible rfl
    simp only [Act.put, List.setIfInBounds_toArray, List.set_cons_zero, List.set_cons_succ]
  refine wpSoft_nil ?_
  refine wpHards_step (fun K hK => ?_)
  go_simp
  refine hK _ _ ⟨?_, ?_, ?_, ?_⟩ ?_
  iterate 4 go_keep
  clear hK K
  refine wpHards_step (fun K hK => ?_)
  refine wp_append_row _ _ _ (by rfl) 20 i0 _ 1 16 Try.underlying107 hi0 hz0 hz1 hz2 rfl l.ib l.io r.items.length l.ic (by rfl) (flat (parO k) r.opt.items) ((hn3o.row.alloc _).drew) (by rw [flat_len, hol]; rfl) ⟨w3.heap.size, 0, none⟩ 1 _ (by rfl) [.nilIface] (by rfl) (World.news_of_block (cs := #[.nilIface]) (t := 20) (fr := (0, 0)) (heap_alloc_new w3 _)) (by simp [Value.oneCell']) (by unfold maxLen; omega) (by omega) ?_
  intro b' o1 cap' w4 happ
  refine hK _ _ ⟨happ.chg.cell (fun h => absurd h.1 (by show ¬ (w.heap.size = l.ib); omega)) (by rw [World.cell?_drew, World.cell?_alloc_past _ _ _ (by omega)]; exact q2), happ.chg.cell (fun h => absurd h.1 hnib) (by rw [World.cell?_drew, World.cell?_alloc_past _ _ _ (by omega)]; exact n2), happ.chg.cell (fun h => absurd h.1 htib) (by rw [World.cell?_drew, World.cell?_alloc_past _ _ _ (by omega)]; exact e4), happ.chg.cell (fun h => absurd h.1 htib) (by rw [World.cell?_drew, World.cell?_alloc_past _ _ _ (by omega)]; exact e5)⟩ ?_
  clear hK K
  simp only [wpHards, List.drop_succ_cons, List.drop_zero, Act.put, List.setIfInBounds_toArray, List.set_cons_zero, List.set_cons_succ]
  have g2 : w4.cell? ⟨n, 2, none⟩ = some (.slice (some ⟨l.ib, l.io, none⟩) r.items.length l.ic) := happ.chg.cell (fun h => absurd h.1 hnib) (by rw [World.cell?_drew, World.cell?_alloc_past _ _ _ (by omega)]; exact n2)
  have z2 : w4.frozen? ⟨n, 2, none⟩ = false := by rw [happ.chg.frozen (by simp; omega)]; exact fz2a _
  go_wp2_with fail
  have r3' := r3o.still (((Chg.refl (fun _ _ => False) w3).alloc (.cells #[.nilIface] 20)).drew)
  have r5 := r3'.append [(none : Option (It ord))] (by rw [hol]; exact happ) (Chg.refl _ _)
  rw [hol] at r5
  have q5 : (w4.setCell ⟨n, 2, none⟩ (.slice (some ⟨b', o1, none⟩) ((r.items.length + 1 : Nat)) cap')).cell? ⟨w.heap.size, 0, none⟩ = some (.pointer (some ⟨n, 0, none⟩)) := by
    rw [World.cell?_setCell_other _ _ _ _ (by first | (simp; done) | (simp; omega))]
    exact happ.chg.cell (fun h => absurd h.1 (by show ¬ (w.heap.size = l.ib); omega)) (by rw [World.cell?_drew, World.cell?_alloc_past _ _ _ (by omega)]; exact q2)
  have hroom := happ.room
  clear g2 z2 q2 n2 e4 e5 fz2 fz2a r3' hz0 hz1 hz2 hi0
  have hpl : b' = l.ib ∨ w2.heap.size ≤ b' := by
    rcases happ.place with h | h
    · exact .inl h.1
    · have h2 := h.1
      simp at h2
      exact .inr (by omega)
  clear happ
  obtain ⟨X, hX⟩ : ∃ X : List (Option (It ord)), X = r.items.map some := ⟨_, rfl⟩
  have hXl : X.length = r.items.length := by rw [hX]; simp
  have HX := Lib.hid hX
  refine name_world (fun w5 => ∃ l5, Run (parO k) w n r.opt l w5 { r.opt with items := X ++ [none] } l5 ∧ w5.cell? ⟨w.heap.size, 0, none⟩ = some (.pointer (some ⟨n, 0, none⟩)) ∧
    r.items.length + 1 ≤ l5.ic ∧ (l5.ib = l.ib ∨ w2.heap.size ≤ l5.ib)) ⟨_, by rw [hX]; exact r5, q5, hroom, hpl⟩ ?_
  clear q5 r5 hroom hpl hX
  rintro w5 ⟨l5, r5, q5, hroom, hpl⟩
  have n5 := r5.at_.c2
  simp only [List.length_append, List.length_cons, List.length_nil, Nat.zero_add, hXl] at n5
  have hle := hy.le
  have hleX : i' ≤ X.length := by omega
  have s0 : (0 : Int) ≤ (i' : Int) := by omega
  have s2 : (0 : Int) ≤ (i' : Int) + 1 := by omega
  have s3 : ((i' : Int) + 1).toNat = i' + 1 := by omega
  have hck2 : ¬ l5.ic = i' := by omega
  have hle2 : (i' : Int) ≤ (r.items.length : Int) + 1 := by omega
  obtain ⟨od, hif, hod, hod2⟩ : ∃ od, (if l5.ic = i' + 1 then some (⟨l5.ib, l5.io, none⟩ : Addr) else some ⟨l5.ib, l5.io + (i' + 1), none⟩) = some ⟨l5.ib, od, none⟩ ∧ (i' < X.length → od = l5.io + (i' + 1)) ∧ (od = l5.io ∨ od = l5.io + (i' + 1)) := by
    by_cases h : l5.ic = i' + 1
    · exact ⟨l5.io, by rw [if_pos h], fun h2 => by omega, .inl rfl⟩
    · exact ⟨_, by rw [if_neg h], fun _ => rfl, .inr rfl⟩
  have s1 : IntKind.i64.wrap ((i' : Int) + 1) = (i' : Int) + 1 := IntWalk.i64_in _ (by omega)
  have HXL := Lib.hid hXl
  go_still_tail 13, (by kernel_rfl)
  refine wpList_shift (p := parO k) (r := { r.opt with items := X ++ [none] }) (by rfl) _ _ _ _ (by rfl) 20 (by kernel_rfl) infoPairSize (r5.still ((Chg.refl _ _).drew)) X none rfl i' od _ _ _ _ hleX (by simpa [parO] using hod) (by simpa [parO] using hod2) (by rfl) _ (by rfl) (by first | rfl | simp [parO]) (by omega) (by omega) ?_
  intro w6 hc6 r6
  replace hc6 : Chg (fun b _ => b = l5.ib) w5 w6 := (((Chg.refl _ _).drew).trans hc6)
  have q6 := hc6.cell (fun h => absurd h (by show ¬ (w.heap.size = l5.ib); omega)) q5
  have n6 := r6.at_.c2
  have hl6 : ((X ++ [none]).take (i' + 1) ++ X.drop i').length = r.items.length + 1 := by rw [upList_len _ _ _ hleX, hXl]
  simp only [hl6] at n6
  clear q5 n5 s1 s2 s3 hif hod hod2
  have z0 := (r6.at_).ifz (l5.io + i')
  have j1 : (i' : Int) < (r.items.length : Int) + 1 := by omega
  obtain ⟨y6, hy6⟩ : ∃ y, ((X ++ [none]).take (i' + 1) ++ X.drop i')[i']? = some y := ⟨_, List.getElem?_eq_getElem (by rw [hl6]; omega)⟩
  have iv := (r6.at_).oval hy6
  have hr7a := r6.at_
  have c7 := hr7a.c1
  have fz7 := hr7a.fz 1
  have tF : t ≠ n := fun h => htF t MOwn.self (h ▸ hb _ (.inl rfl))
  have e8 := (ht.chg r6.chg (fun b o hm h => htF b hm (hb _ h.blk))).c4
  have p0 : ¬ w.heap.size = l5.ib := by omega
  have p0' : ¬ l5.ib = w.heap.size := by omega
  have p1 : ¬ n = l5.ib := Ne.symm hr7a.d1
  have p1' : ¬ l5.ib = n := hr7a.d1
  have p2 : ¬ t = l5.ib := by
    rcases hpl with h | h
    · rw [h]; exact htib
    · omega
  have p2' : ¬ l5.ib = t := fun h => p2 h.symm
  have p3 : ¬ t = n := tF
  have p3' : ¬ n = t := fun h => tF h.symm
  have s1 : IntKind.i64.wrap (r.cnt + 1) = r.cnt + 1 := IntWalk.i64_in _ (by omega)
  replace c7 : w6.cell? ⟨n, 1, none⟩ = some (.int .i64 r.cnt) := c7
  have hoV : optV y6 = optV y6 := rfl
  obtain ⟨yv, hyv⟩ : ∃ yv, optV y6 = yv := ⟨_, rfl⟩
  rw [hyv] at iv
  clear hyv hoV hy6 HXL hXl hl6
  go_wp2_with fail
  refine bodyPost_ret (v := .tuple #[.nilIface, .bool false, .bool false]) (by simp [results, Try.results57, go_sem]) rfl ?_
  refine ⟨rfl, ?_⟩
  have hl6 : ((X ++ [none]).take (i' + 1) ++ X.drop i').length = r.items.length + 1 := by rw [upList_len _ _ _ hleX, HX.out]; simp
  have r8 := r6.setItemO i' (some x) (Nat.lt_of_lt_of_eq (show i' < r.items.length + 1 by omega) hl6.symm)
  have r9 := r8.setCnt (r.cnt + 1)
  simp only [upList_set _ _ _ _ hleX] at r9
  refine cl _ { r with cnt := r.cnt + 1, items := r.items.take i' ++ x :: r.items.drop i' } _ (Run.back r9 ?_)
  rw [HX.out]
  simp [NodeR.opt, List.map_take, List.map_drop]
end Go.Proofs.Ytilcapfokmpaoaa
