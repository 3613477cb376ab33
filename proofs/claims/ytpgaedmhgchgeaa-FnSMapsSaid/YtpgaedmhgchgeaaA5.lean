/- The walk of nodeSet at a branch: the child is full. -/
import Derived.Deep.AppendLies
import Derived.Test.YtpgaedmhgchgeaaA1
import Derived.Test.YtpgaedmhgchgeaaA2
import Derived.Test.YtpgaedmhgchgeaaA4
namespace Go.Proofs.Ytpgaedmhgchgeaa
set_option linter.unusedSimpArgs false
set_option linter.unusedVariables false
open Go.RowKit

theorem hit_same {lt : Int × Int → Int × Int → Bool} {xs : List (Int × Int)} {x y y' : Int × Int} {i i' : Nat} (h : HitAt lt xs x i' y') (h' : HitAt lt xs x i y) : i' = i := by
  rcases Nat.lt_trichotomy i' i with c | c | c
  · exact absurd (h'.left i' y' c h.at_) (by rw [h.n1]; simp)
  · exact c
  · exact absurd (h.left i y c h'.at_) (by rw [h'.n1]; simp)
theorem hit_le {lt : Int × Int → Int × Int → Bool} {xs : List (Int × Int)} {x y : Int × Int} {i i' : Nat} (h : PosAt lt xs x i') (h' : HitAt lt xs x i y) : i' ≤ i := by
  rcases Nat.lt_or_ge i i' with c | c
  · exact absurd (h.left i y c h'.at_) (by rw [h'.n1]; simp)
  · exact c

theorem pos_same {lt : Int × Int → Int × Int → Bool} {xs : List (Int × Int)} {x : Int × Int} {i i' : Nat} (h : PosAt lt xs x i') (h' : PosAt lt xs x i) (s : Swo lt) : i' = i := by
  have key : ∀ a b, PosAt lt xs x a → PosAt lt xs x b → ¬ a < b := by
    intro a b ha hb c
    have hlt : a < xs.length := Nat.lt_of_lt_of_le c hb.le
    have h1 := ha.right a _ (Nat.le_refl _) (List.getElem?_eq_getElem hlt)
    have h2 := hb.left a _ c (List.getElem?_eq_getElem hlt)
    rw [s.asymm _ _ h1] at h2; cases h2
  have := key i i' h' h
  have := key i' i h h'
  omega

/-- Found in the node itself: its item gives way. -/
def SetHit (k : Int) (w : World) (F : Nat → Prop) (H : Nat → Option (NodeR (Int × Int))) (n : Nat) (r : NodeR (Int × Int)) (x : Int × Int) (i : Nat) (y : Int × Int) (e : Ending) (w' : World) : Prop :=
  e = .returned (.tuple #[.agg #[], .bool true, .bool false]) ∧ Fam (parM k) w' (grow F w w') (upd H n { r with items := r.items.set i x }) ∧ Chg (fun b _ => F b) w w'

theorem Run.setItemM {k : Int} {w0 w : World} {n : Nat} {r0 r : NodeR (Int × Int)} {l0 l : Lay} (h : Run (parM k) w0 n r0 l0 w r l) (i : Nat) (x : Int × Int) (hi : i < r.items.length) :
    Run (parM k) w0 n r0 l0 (w.setCell ⟨l.ib, l.io + i, none⟩ (.int .i64 x.1)) { r with items := r.items.set i x } l := by
  obtain ⟨_, c, h1, h2, _⟩ := h.at_.row
  have hlen := h.at_.len
  have hes : l.ic * (parM k).es = l.ic := by simp [parM]
  have hp := h.putItems i [x] (by simp; omega)
  have e1 : r.items.take i ++ [x] ++ r.items.drop (i + [x].length) = r.items.set i x := by
    rw [List.set_eq_take_append_cons_drop, if_pos hi]; simp
  rw [e1] at hp
  rw [putCells_one h1 (by have := hes; omega)]
  simpa [parM, flat, encM] using hp

set_option maxRecDepth 100000 in
set_option maxHeartbeats 1000000 in
theorem nodeSet_hit (k : Int) (mn mx t n : Nat) (pa : Addr) (x y : Int × Int) (i : Nat) (r : NodeR (Int × Int)) (w : World) (F : Nat → Prop) (H : Nat → Option (NodeR (Int × Int))) (hF : Fam (parM k) w F H) (ht : MapAt k mn mx w t) (hn : H n = some r)
    (hpa : w.cell? pa = some (.pointer (some ⟨n, 0, none⟩))) (hs : Srt ltM r.items) (hlen : r.items.length ≤ 1000) (hy : HitAt ltM r.items x i y) :
    Calls Try.prog 55 #[.pointer (some ⟨t, 0, none⟩), .pointer (some pa), aggM x] w (SetHit k w F H n r x i y) := by
  obtain ⟨l, hna, hb, ho, cl⟩ := hF.work hn
  have t0 := ht.c0
  have n0 := hna.c0
  have hpk : (parM k).k = k := rfl
  rw [hpk] at n0
  have nlt : n < w.heap.size := World.block_lt_of_cell? w _ n0
  have tlt : t < w.heap.size := World.block_lt_of_cell? w _ t0
  have plt := World.block_lt_of_cell? w _ hpa
  have hpa1 : ∀ o, (w.alloc o).cell? pa = some (.pointer (some ⟨n, 0, none⟩)) := fun o => by rw [World.cell?_alloc_lt w _ _ plt]; exact hpa
  unfold aggM
  go_enter Try.func55, Try.ntmps55
  go_wp2_with (go_at_call 66; refine (isoLoad_any _ n k _ _ _ ?_ ?_ ?_).mono ?_; (focus go_simp); (focus go_simp); (focus go_simp); rintro e w' ⟨rfl, m, rfl⟩)
  refine name_calls (fun w1 => Chg (fun _ _ => False) w w1 ∧ w1.heap[w.heap.size]? = some (.cells #[.int .i64 x.1] 53 (0, 0)) ∧ w1.heap[w.heap.size + 2]? = some (.cells #[.pointer (some ⟨n, 0, none⟩)] 50 (0, 0))) ⟨?_, ?_, ?_⟩ ?_
  · repeat (first | refine Chg.drew ?_ | refine Chg.drewN ?_ _ | refine Chg.alloc ?_ _ | exact Chg.refl _ _)
  · try simp only [hd_drew, hd_drewN]
    repeat (first | exact ha_at _ _ rfl | (rw [ha_lt _ _ (by simp; try omega)]; try simp only [hd_drew, hd_drewN]))
  · try simp only [hd_drew, hd_drewN]
    exact ha_at _ _ (by simp)
  rintro w1 ⟨hc1, hb1, hb2⟩
  have hn1 := hna.chg hc1 (fun _ _ _ h => h)
  have ht1 := ht.chg hc1 (by simp)
  refine (search_node t x ht1 hn1 hs (by omega)).mono ?_
  rintro e w2 ⟨i', f, rfl, hw2, hf⟩
  have hfi : f = true ∧ i' = i := by
    rcases hf with ⟨h1, y', h2⟩ | ⟨h1, h2⟩
    · exact ⟨h1, hit_same h2 hy⟩
    · exact absurd hy.n2 (by rw [h2.right i y (hit_le h2 hy) hy.at_]; simp)
  obtain ⟨rfl, rfl⟩ := hfi
  have hc2 : Chg (fun _ _ => False) w1 w2 := hw2
  have hn2 := hn1.chg hc2 (fun _ _ _ h => h)
  have r0 : Run (parM k) w n r l w2 r l := ((Run.start hna).still hc1).still hc2
  have hb1' : w2.heap[w.heap.size]? = some (.cells #[.int .i64 x.1] 53 (0, 0)) := by rw [hw2.block (heap_lt hb1) (fun _ h => h)]; exact hb1
  have hb2' : w2.heap[w.heap.size + 2]? = some (.cells #[.pointer (some ⟨n, 0, none⟩)] 50 (0, 0)) := by rw [hw2.block (heap_lt hb2) (fun _ h => h)]; exact hb2
  have q0 := cell_of_block hb1' 0
  have q1 := cell_of_block hb1' 0
  have q2 := cell_of_block hb2' 0
  simp only [List.getElem?_toArray, List.getElem?_cons_zero, List.getElem?_cons_succ] at q0 q1 q2
  have n2 := hn2.c2
  have iv := hn2.mval hy.at_
  have ik := hn2.mkey hy.at_
  have pz := hn2.pz (l.io + i')
  have z0 := hn2.ifz (l.io + i')
  have z1 := hn2.ifz (l.io + i')
  have hilt : i' < r.items.length := (List.getElem?_eq_some_iff.1 hy.at_).1
  have j0 : (0 : Int) ≤ (i' : Int) := by omega
  have j1 : (i' : Int) < (r.items.length : Int) := by omega
  clear hw2 hb1 hb2 hb1' hb2' t0 n0 hpa hpa1
  go_wp2_with fail
  go_still_tail 7, (by kernel_rfl)
  go_wp2_with fail
  refine bodyPost_ret (v := .tuple #[.agg #[], .bool true, .bool false]) (by simp [results, Try.results55, go_sem]) rfl ?_
  refine ⟨rfl, ?_⟩
  have hr := ((r0.setItemM i' x hilt).still ((Chg.refl _ _).drew)) 
  exact cl _ _ _ hr

/-- Nothing is done: the node is full. -/
def SetFull (k : Int) (w : World) (F : Nat → Prop) (H : Nat → Option (NodeR (Int × Int))) (e : Ending) (w' : World) : Prop :=
  e = .returned (.tuple #[.agg #[], .bool false, .bool true]) ∧ Fam (parM k) w' (grow F w w') H ∧ Chg (fun _ _ => False) w w'

theorem Fam.idle {p : Par (Int × Int)} {w w' : World} {F : Nat → Prop} {H : Nat → Option (NodeR (Int × Int))} (h : Fam p w F H) (c : Chg (fun _ _ => False) w w') : Fam p w' (grow F w w') H := by
  refine (h.chg c fun _ _ _ h => h).mono (fun b hb => .inl hb) ?_
  rintro b (hb | hb)
  · exact Nat.lt_of_lt_of_le (h.lt hb) c.size
  · exact hb.2

set_option maxRecDepth 100000 in
set_option maxHeartbeats 1000000 in
theorem nodeSet_leaf_full (k : Int) (mn mx t n : Nat) (pa : Addr) (x : Int × Int) (i : Nat) (r : NodeR (Int × Int)) (w : World) (F : Nat → Prop) (H : Nat → Option (NodeR (Int × Int))) (hF : Fam (parM k) w F H) (ht : MapAt k mn mx w t) (hn : H n = some r)
    (hpa : w.cell? pa = some (.pointer (some ⟨n, 0, none⟩))) (hs : Srt ltM r.items) (hlen : r.items.length = mx) (hmx : mx ≤ 1000) (hy : PosAt ltM r.items x i) (hk : r.kids = none) :
    Calls Try.prog 55 #[.pointer (some ⟨t, 0, none⟩), .pointer (some pa), aggM x] w (SetFull k w F H) := by
  obtain ⟨l, hna, hb, ho, cl⟩ := hF.work hn
  have t0 := ht.c0
  have n0 := hna.c0
  have hpk : (parM k).k = k := rfl
  rw [hpk] at n0
  have nlt : n < w.heap.size := World.block_lt_of_cell? w _ n0
  have tlt : t < w.heap.size := World.block_lt_of_cell? w _ t0
  have plt := World.block_lt_of_cell? w _ hpa
  have hpa1 : ∀ o, (w.alloc o).cell? pa = some (.pointer (some ⟨n, 0, none⟩)) := fun o => by rw [World.cell?_alloc_lt w _ _ plt]; exact hpa
  unfold aggM
  go_enter Try.func55, Try.ntmps55
  go_wp2_with (go_at_call 66; refine (isoLoad_any _ n k _ _ _ ?_ ?_ ?_).mono ?_; (focus go_simp); (focus go_simp); (focus go_simp); rintro e w' ⟨rfl, m, rfl⟩)
  refine name_calls (fun w1 => Chg (fun _ _ => False) w w1 ∧ w1.heap[w.heap.size]? = some (.cells #[.int .i64 x.1] 53 (0, 0)) ∧ w1.heap[w.heap.size + 2]? = some (.cells #[.pointer (some ⟨n, 0, none⟩)] 50 (0, 0))) ⟨?_, ?_, ?_⟩ ?_
  · repeat (first | refine Chg.drew ?_ | refine Chg.drewN ?_ _ | refine Chg.alloc ?_ _ | exact Chg.refl _ _)
  · try simp only [hd_drew, hd_drewN]
    repeat (first | exact ha_at _ _ rfl | (rw [ha_lt _ _ (by simp; try omega)]; try simp only [hd_drew, hd_drewN]))
  · try simp only [hd_drew, hd_drewN]
    exact ha_at _ _ (by simp)
  rintro w1 ⟨hc1, hb1, hb2⟩
  have hn1 := hna.chg hc1 (fun _ _ _ h => h)
  have ht1 := ht.chg hc1 (by simp)
  refine (search_node t x ht1 hn1 hs (by omega)).mono ?_
  rintro e w2 ⟨i', f, rfl, hw2, hf⟩
  have hfi : f = false := by
    rcases hf with ⟨h1, y', h2⟩ | ⟨h1, h2⟩
    · exact absurd h2.n2 (by rw [hy.right i' y' (hit_le hy h2) h2.at_]; simp)
    · exact h1
  obtain rfl := hfi
  have hc2 : Chg (fun _ _ => False) w1 w2 := hw2
  have hn2 := hn1.chg hc2 (fun _ _ _ h => h)
  have ht2 := ht1.chg hc2 (by simp)
  have hb2' : w2.heap[w.heap.size + 2]? = some (.cells #[.pointer (some ⟨n, 0, none⟩)] 50 (0, 0)) := by rw [hw2.block (heap_lt hb2) (fun _ h => h)]; exact hb2
  have q2 := cell_of_block hb2' 0
  simp only [List.getElem?_toArray, List.getElem?_cons_zero] at q2
  have n2 := hn2.c2
  rw [hlen] at n2
  have n3 := hn2.c3n hk
  have e4 := ht2.c4
  have pz := fun m => (ht2.chg ((Chg.refl (fun _ _ => False) _).drewN m) (fun _ _ _ h => h)).pz
  have e7 := ht2.c7
  have hcc := hc1.trans hc2
  clear hw2 hb1 hb2 hb2' t0 n0 hpa hpa1
  go_wp2_with (go_at_call 58; refine (leaf_any _ none _ ?_).mono ?_; (focus go_simp); rintro e w' ⟨rfl, rfl⟩)
  go_quiet (fail)
  go_wp2_with fail
  refine bodyPost_ret (v := .tuple #[.agg #[], .bool false, .bool true]) (by simp [results, Try.results55, go_sem]) rfl ?_
  exact ⟨rfl, hF.idle (hcc.drewN _), hcc.drewN _⟩
end Go.Proofs.Ytpgaedmhgchgeaa

namespace Go.Proofs.Ytpgaedmhgchgeaa
set_option linter.unusedSimpArgs false
set_option linter.unusedVariables false
open Go.RowKit

theorem infoPair : (Try.prog.info? 53).map (fun i => (i.zero, i.size, i.bytes)) = some (some (.agg #[.int .i64 0]), 1, 8) := by kernel_rfl
theorem infoPairSize : (Try.prog.info? 53).map (·.size) = some 1 := by kernel_rfl
theorem infoNode : (Try.prog.info? 50).map (fun i => (i.zero, i.size, i.bytes)) = some (some (.pointer none), 1, 8) := by kernel_rfl
theorem infoNodeSize : (Try.prog.info? 50).map (·.size) = some 1 := by kernel_rfl

/-- x is put in at place i. -/
def SetNew (k : Int) (w : World) (F : Nat → Prop) (H : Nat → Option (NodeR (Int × Int))) (n : Nat) (r : NodeR (Int × Int)) (x : Int × Int) (i : Nat) (e : Ending) (w' : World) : Prop :=
  e = .returned (.tuple #[.agg #[], .bool false, .bool false]) ∧ Fam (parM k) w' (grow F w w') (upd H n { r with cnt := r.cnt + 1, items := r.items.take i ++ x :: r.items.drop i }) ∧ Chg (fun b _ => F b) w w'


set_option maxRecDepth 100000 in
set_option maxHeartbeats 4000000 in
theorem nodeSet_leaf_room (k : Int) (mn mx t n : Nat) (pa : Addr) (x : Int × Int) (i : Nat) (r : NodeR (Int × Int)) (w : World) (F : Nat → Prop) (H : Nat → Option (NodeR (Int × Int))) (hF : Fam (parM k) w F H) (ht : MapAt k mn mx w t) (htF : ∀ b, MOwn k t b → ¬ F b) (hn : H n = some r)
    (hpa : w.cell? pa = some (.pointer (some ⟨n, 0, none⟩))) (hs : Srt ltM r.items) (hlen : r.items.length < mx) (hmx : mx ≤ 1000) (hy : PosAt ltM r.items x i) (hk : r.kids = none) (hcnt : 0 ≤ r.cnt) (hcnt2 : r.cnt ≤ 100000000000000) :
    Calls Try.prog 55 #[.pointer (some ⟨t, 0, none⟩), .pointer (some pa), aggM x] w (SetNew k w F H n r x i) := by
  obtain ⟨l, hna, hb, ho, cl⟩ := hF.work hn
  have t0 := ht.c0
  have n0 := hna.c0
  have hpk : (parM k).k = k := rfl
  rw [hpk] at n0
  have nlt : n < w.heap.size := World.block_lt_of_cell? w _ n0
  have tlt : t < w.heap.size := World.block_lt_of_cell? w _ t0
  have plt := World.block_lt_of_cell? w _ hpa
  have hpa1 : ∀ o, (w.alloc o).cell? pa = some (.pointer (some ⟨n, 0, none⟩)) := fun o => by rw [World.cell?_alloc_lt w _ _ plt]; exact hpa
  unfold aggM
  go_enter Try.func55, Try.ntmps55
  go_wp2_with (go_at_call 66; refine (isoLoad_any _ n k _ _ _ ?_ ?_ ?_).mono ?_; (focus go_simp); (focus go_simp); (focus go_simp); rintro e w' ⟨rfl, m, rfl⟩)
  refine name_calls (fun w1 => Chg (fun _ _ => False) w w1 ∧ w1.heap[w.heap.size]? = some (.cells #[.int .i64 x.1] 53 (0, 0)) ∧ w1.heap[w.heap.size + 2]? = some (.cells #[.pointer (some ⟨n, 0, none⟩)] 50 (0, 0))) ⟨?_, ?_, ?_⟩ ?_
  · repeat (first | refine Chg.drew ?_ | refine Chg.drewN ?_ _ | refine Chg.alloc ?_ _ | exact Chg.refl _ _)
  · try simp only [hd_drew, hd_drewN]
    repeat (first | exact ha_at _ _ rfl | (rw [ha_lt _ _ (by simp; try omega)]; try simp only [hd_drew, hd_drewN]))
  · try simp only [hd_drew, hd_drewN]
    exact ha_at _ _ (by simp)
  rintro w1 ⟨hc1, hb1, hb2⟩
  have hn1 := hna.chg hc1 (fun _ _ _ h => h)
  have ht1 := ht.chg hc1 (by simp)
  refine (search_node t x ht1 hn1 hs (by omega)).mono ?_
  rintro e w2 ⟨i', f, rfl, hw2, hf⟩
  have hfi : f = false ∧ i' = i := by
    rcases hf with ⟨h1, y', h2⟩ | ⟨h1, h2⟩
    · exact absurd h2.n2 (by rw [hy.right i' y' (hit_le hy h2) h2.at_]; simp)
    · exact ⟨h1, pos_same h2 hy swoM⟩
  obtain ⟨rfl, rfl⟩ := hfi
  have hc2 : Chg (fun _ _ => False) w1 w2 := hw2
  have hn2 := hn1.chg hc2 (fun _ _ _ h => h)
  have ht2 := ht1.chg hc2 (by simp)
  have r2 : Run (parM k) w n r l w2 r l := ((Run.start hna).still hc1).still hc2
  have hb1' : w2.heap[w.heap.size]? = some (.cells #[.int .i64 x.1] 53 (0, 0)) := by rw [hw2.block (heap_lt hb1) (fun _ h => h)]; exact hb1
  have hb2' : w2.heap[w.heap.size + 2]? = some (.cells #[.pointer (some ⟨n, 0, none⟩)] 50 (0, 0)) := by rw [hw2.block (heap_lt hb2) (fun _ h => h)]; exact hb2
  have HB1 := Lib.hid hb1'
  have HB2 := Lib.hid hb2'
  have q2 := cell_of_block hb2' 0
  simp only [List.getElem?_toArray, List.getElem?_cons_zero] at q2
  have n2 := hn2.c2
  have n3 := hn2.c3n hk
  have e4 := ht2.c4
  have e5 := ht2.c5
  have e7 := ht2.c7
  have hcc := hc1.trans hc2
  have htest : ((r.items.length : Int) == (mx : Int)) = false := by simp; omega
  have htib : t ≠ l.ib := fun h => htF t MOwn.self (h ▸ hb _ (.inr (.inl rfl)))
  have hilt := hna.lt (b := l.ib) (.inr (.inl rfl))
  have hnib : n ≠ l.ib := Ne.symm hna.d1
  clear hw2 hb1 hb2 hb1' hb2' t0 n0 hpa hpa1
  go_wp2_with (go_at_call 58; refine (leaf_any _ none _ ?_).mono ?_; (focus go_simp); rintro e w' ⟨rfl, rfl⟩)
  go_quiet (fail)
  go_wp2_with fail
  refine name_world (fun w3 => Chg (fun _ _ => False) w2 w3) ((Chg.refl _ _).drewN _) ?_
  rintro w3 hc3
  replace q2 := hc3.cell (fun h => h) q2
  replace n2 := hc3.cell (fun h => h) n2
  replace e4 := hc3.cell (fun h => h) e4
  replace e5 := hc3.cell (fun h => h) e5
  have hn3 := hn2.chg hc3 (fun _ _ _ h => h)
  have r3 := r2.still hc3
  have hz := hcc.size
  have hz3 := hc3.size
  have hbs : w.heap.size + 2 < w2.heap.size := heap_lt HB2.out
  have hlen3 := hn3.len
  obtain ⟨i0, hi0, hz0, hz1, hz2⟩ := info_parts infoPair
  have fz2 := hn3.fz 2
  have nlt3 : n < w3.heap.size := by omega
  have fz2a : ∀ o, (w3.alloc o).drew.frozen? ⟨n, 2, none⟩ = false := fun o => by rw [World.frozen?_drew, World.frozen?_alloc_past _ _ _ nlt3]; exact fz2
  clear n3 e7 htest
  refine wp_region_soft (fun w' => w'.cell? ⟨w.heap.size + 2, 0, none⟩ = some (.pointer (some ⟨n, 0, none⟩)) ∧ w'.cell? ⟨n, 2, none⟩ = some (.slice (some ⟨l.ib, l.io, none⟩) r.items.length l.ic) ∧ w'.cell? ⟨t, 4, none⟩ = some (.int .i64 0) ∧ w'.cell? ⟨t, 4, none⟩ = some (.int .i64 0))
    11 [0, 1, 2, 3, 4, 5, 6, 7, 8] [9, 10] (by kernel_rfl) (by kernel_rfl) (fun _ _ _ _ _ h => h) rfl rfl ⟨q2, n2, e4, e5⟩ ?_
  simp only [pickOps, List.filterMap_cons, List.filterMap_nil, List.getElem?_cons_zero, List.getElem?_cons_succ]
  iterate 9
    refine wpSoft_step ?_ rfl ?_ ?_
    rotate_left
    · intro w' hS
      obtain ⟨s1, s2, s3, s4⟩ := hS
      go_simp
      try with_reducible rfl
    simp only [Act.put, List.setIfInBounds_toArray, List.set_cons_zero, List.set_cons_succ]
  refine wpSoft_nil ?_
  refine wpHards_step (fun K hK => ?_)
  go_simp
  refine hK _ _ ⟨?_, ?_, ?_, ?_⟩ ?_
  iterate 4 go_keep
  clear hK K
  refine wpHards_step (fun K hK => ?_)
  refine wp_append_row _ _ _ (by rfl) 53 i0 _ 1 8 Try.underlying90 hi0 hz0 hz1 hz2 rfl l.ib l.io r.items.length l.ic (by rfl) (flat (parM k) r.items) ((hn3.row.alloc _).drew) (flat_len _ _) ⟨w3.heap.size, 0, none⟩ 1 _ (by rfl) [.int .i64 0] (by rfl) (World.news_of_block (cs := #[.int .i64 0]) (t := 53) (fr := (0, 0)) (heap_alloc_new w3 _)) (by simp [Value.oneCell']) (by unfold maxLen; omega) (by omega) ?_
  intro b' o1 cap' w4 happ
  refine hK _ _ ⟨happ.chg.cell (fun h => absurd h.1 (by show ¬ (w.heap.size + 2 = l.ib); omega)) (by rw [World.cell?_drew, World.cell?_alloc_past _ _ _ (by omega)]; exact q2), happ.chg.cell (fun h => absurd h.1 hnib) (by rw [World.cell?_drew, World.cell?_alloc_past _ _ _ (by omega)]; exact n2), happ.chg.cell (fun h => absurd h.1 htib) (by rw [World.cell?_drew, World.cell?_alloc_past _ _ _ (by omega)]; exact e4), happ.chg.cell (fun h => absurd h.1 htib) (by rw [World.cell?_drew, World.cell?_alloc_past _ _ _ (by omega)]; exact e5)⟩ ?_
  clear hK K
  simp only [wpHards, List.drop_succ_cons, List.drop_zero, Act.put, List.setIfInBounds_toArray, List.set_cons_zero, List.set_cons_succ]
  have g2 : w4.cell? ⟨n, 2, none⟩ = some (.slice (some ⟨l.ib, l.io, none⟩) r.items.length l.ic) := happ.chg.cell (fun h => absurd h.1 hnib) (by rw [World.cell?_drew, World.cell?_alloc_past _ _ _ (by omega)]; exact n2)
  have z2 : w4.frozen? ⟨n, 2, none⟩ = false := by rw [happ.chg.frozen (by simp; omega)]; exact fz2a _
  go_wp2_with fail
  have r3' := r3.still (((Chg.refl (fun _ _ => False) w3).alloc (.cells #[.int .i64 0] 53)).drew)
  have r5 := r3'.append [((0, 0) : Int × Int)] happ (Chg.refl _ _)
  have q5 : (w4.setCell ⟨n, 2, none⟩ (.slice (some ⟨b', o1, none⟩) ((r.items.length + 1 : Nat)) cap')).cell? ⟨w.heap.size + 2, 0, none⟩ = some (.pointer (some ⟨n, 0, none⟩)) := by
    rw [World.cell?_setCell_other _ _ _ _ (by simp)]
    exact happ.chg.cell (fun h => absurd h.1 (by show ¬ (w.heap.size + 2 = l.ib); omega)) (by rw [World.cell?_drew, World.cell?_alloc_past _ _ _ (by omega)]; exact q2)
  have hb5 : Hid ((w4.setCell ⟨n, 2, none⟩ (.slice (some ⟨b', o1, none⟩) ((r.items.length + 1 : Nat)) cap')).heap[w.heap.size]? = some (.cells #[.int .i64 x.1] 53 (0, 0))) :=
    Lib.hid (by
      rw [hs_ne _ (by omega), happ.chg.block (by simp; omega) (fun o h => by have := h.1; omega), hd_drew, ha_lt _ _ (by omega), hc3.block (by omega) (fun _ h => h)]
      exact HB1.out)
  have hroom := happ.room
  clear g2 z2 q2 n2 e4 e5 fz2 fz2a r3' hz0 hz1 hz2 hi0
  have hpl : b' = l.ib ∨ w2.heap.size ≤ b' := by
    rcases happ.place with h | h
    · exact .inl h.1
    · have h2 := h.1
      simp at h2
      exact .inr (by omega)
  clear happ
  obtain ⟨l5, hl5⟩ : ∃ l5, l5 = { l with ib := b', io := o1, ic := cap' } := ⟨_, rfl⟩
  refine name_world (fun w5 => ∃ l5, Run (parM k) w n r l w5 { r with items := r.items ++ [((0, 0) : Int × Int)] } l5 ∧ w5.cell? ⟨w.heap.size + 2, 0, none⟩ = some (.pointer (some ⟨n, 0, none⟩)) ∧
    Hid (w5.heap[w.heap.size]? = some (.cells #[.int .i64 x.1] 53 (0, 0))) ∧ r.items.length + 1 ≤ l5.ic ∧ (l5.ib = l.ib ∨ w2.heap.size ≤ l5.ib)) ⟨_, r5, q5, hb5, hroom, hpl⟩ ?_
  clear q5 hb5 r5 hl5 hroom hpl l5
  rintro w5 ⟨l5, r5, q5, hb5, hroom, hpl⟩
  have n5 := r5.at_.c2
  simp only [List.length_append, List.length_cons, List.length_nil, Nat.zero_add] at n5
  have hle := hy.le
  have s0 : (0 : Int) ≤ (i' : Int) := by omega
  have s2 : (0 : Int) ≤ (i' : Int) + 1 := by omega
  have s3 : ((i' : Int) + 1).toNat = i' + 1 := by omega
  have hck2 : ¬ l5.ic = i' := by omega
  have hle2 : (i' : Int) ≤ (r.items.length : Int) + 1 := by omega
  obtain ⟨od, hif, hod, hod2⟩ : ∃ od, (if l5.ic = i' + 1 then some (⟨l5.ib, l5.io, none⟩ : Addr) else some ⟨l5.ib, l5.io + (i' + 1), none⟩) = some ⟨l5.ib, od, none⟩ ∧ (i' < r.items.length → od = l5.io + (i' + 1)) ∧ (od = l5.io ∨ od = l5.io + (i' + 1)) := by
    by_cases h : l5.ic = i' + 1
    · exact ⟨l5.io, by rw [if_pos h], fun h2 => by omega, .inl rfl⟩
    · exact ⟨_, by rw [if_neg h], fun _ => rfl, .inr rfl⟩
  have s1 : IntKind.i64.wrap ((i' : Int) + 1) = (i' : Int) + 1 := IntWalk.i64_in _ (by omega)
  go_still_tail 13, (by kernel_rfl)
  refine wpList_shift (p := parM k) (r := { r with items := r.items ++ [((0, 0) : Int × Int)] }) (by rfl) _ _ _ _ (by rfl) 53 (by kernel_rfl) infoPairSize (r5.still ((Chg.refl _ _).drew)) r.items (0, 0) rfl i' od _ _ _ _ hle (by simpa [parM] using hod) (by simpa [parM] using hod2) (by rfl) _ (by rfl) (by first | rfl | simp [parM]) (by omega) (by omega) ?_
  intro w6 hc6 r6
  replace hc6 : Chg (fun b _ => b = l5.ib) w5 w6 := (((Chg.refl _ _).drew).trans hc6)
  have q6 := hc6.cell (fun h => absurd h (by show ¬ (w.heap.size + 2 = l5.ib); omega)) q5
  have hb6 : Hid (w6.heap[w.heap.size]? = some (.cells #[.int .i64 x.1] 53 (0, 0))) := Lib.hid (by
    rw [hc6.block (heap_lt hb5.out) (fun o h => by omega)]; exact hb5.out)
  have n6 := r6.at_.c2
  have hl6 : ((r.items ++ [((0, 0) : Int × Int)]).take (i' + 1) ++ r.items.drop i').length = r.items.length + 1 := upList_len _ _ _ hle
  simp only [hl6] at n6
  clear q5 hb5 n5 s1 s2 s3 hif hod hod2
  go_wp2_with fail
  refine name_world (fun w7 => Chg (fun _ _ => False) w6 w7) (Chg.refl _ _) ?_
  rintro w7 hc7
  replace q6 := hc7.cell (fun h => h) q6
  have b0 := cell_of_block hb6.out 0
  have b1 := cell_of_block hb6.out 0
  simp only [List.getElem?_toArray, List.getElem?_cons_zero, List.getElem?_cons_succ] at b0 b1
  replace b0 := hc7.cell (fun h => h) b0
  replace b1 := hc7.cell (fun h => h) b1
  replace n6 := hc7.cell (fun h => h) n6
  have z0 := ((r6.still hc7).at_).ifz (l5.io + i')
  have z1 := ((r6.still hc7).at_).ifz (l5.io + i')
  have j1 : (i' : Int) < (r.items.length : Int) + 1 := by omega
  obtain ⟨y6, hy6⟩ : ∃ y, ((r.items ++ [((0, 0) : Int × Int)]).take (i' + 1) ++ r.items.drop i')[i']? = some y := ⟨_, List.getElem?_eq_getElem (by rw [hl6]; omega)⟩
  have iv := ((r6.still hc7).at_).mval hy6
  have ik := ((r6.still hc7).at_).mkey hy6
  go_still_tail 7, (by kernel_rfl)
  have hr7 := r6.still hc7
  have hr7a := hr7.at_
  have c7 := hr7a.c1
  have fz7 := hr7a.fz 1
  have tF : t ≠ n := fun h => htF t MOwn.self (h ▸ hb _ (.inl rfl))
  have e8 := (ht.chg hr7.chg (fun b o hm h => htF b hm (hb _ h.blk))).c4
  have p0 : ¬ w.heap.size + 2 = l5.ib := by omega
  have p0' : ¬ l5.ib = w.heap.size + 2 := by omega
  have p1 : ¬ n = l5.ib := Ne.symm hr7a.d1
  have p1' : ¬ l5.ib = n := hr7a.d1
  have p2 : ¬ t = l5.ib := by
    rcases hpl with h | h
    · rw [h]; exact htib
    · omega
  have p2' : ¬ l5.ib = t := fun h => p2 h.symm
  have p3 : ¬ t = n := tF
  have p3' : ¬ n = t := fun h => tF h.symm
  have s1 : IntKind.i64.wrap (r.cnt + 1) = r.cnt + 1 := IntWalk.i64_in _ (by omega)
  clear n6
  go_wp2_with fail
  rw [MapAt.pz (k := k) (mn := mn) (mx := mx) (w := _) ((ht.chg hr7.chg (fun b o hm h => htF b hm (hb _ h.blk))).chg (A := fun b _ => b ≠ t) (by repeat (first | exact Chg.refl _ _ | refine Chg.drew ?_ | refine Chg.drewN ?_ _ | refine Chg.setCell ?_ (.inl (by simp; omega)) _)) (fun _ _ hm h => h hm))]
  go_simp
  rename_i hK
  refine hK _ _ ?_
  clear hK
  go_wp2_with fail
  refine bodyPost_ret (v := .tuple #[.agg #[], .bool false, .bool false]) (by simp [results, Try.results55, go_sem]) rfl ?_
  refine ⟨rfl, ?_⟩
  have r8 := hr7.setItemM i' x (Nat.lt_of_lt_of_eq (show i' < r.items.length + 1 by omega) hl6.symm)
  have r9 := (r8.setCnt (r.cnt + 1)).still ((Chg.refl _ _).drew)
  simp only [upList_set _ _ _ _ hle] at r9
  exact cl _ _ _ r9
end Go.Proofs.Ytpgaedmhgchgeaa

namespace Go.Proofs.Ytpgaedmhgchgeaa
set_option linter.unusedSimpArgs false
set_option linter.unusedVariables false
open Go.RowKit

/-- What the call for the child leaves. -/
def KidPost (k : Int) (F : Nat → Prop) (Z : World → (Nat → Option (NodeR (Int × Int))) → Int → Bool → Bool → Prop) (w1 : World) (e : Ending) (w' : World) : Prop :=
  ∃ H' pr rp sp, e = .returned (.tuple #[.agg #[], .bool rp, .bool sp]) ∧ Fam (parM k) w' (grow F w1 w') H' ∧ Chg (fun b _ => F b) w1 w' ∧ Z w1 H' pr rp sp

theorem Fam.grow1 {p : Par (Int × Int)} {w0 w1 w2 : World} {F : Nat → Prop} {H : Nat → Option (NodeR (Int × Int))} (h : Fam p w2 (grow F w1 w2) H) (h1 : w0.heap.size ≤ w1.heap.size) : Fam p w2 (grow F w0 w2) H := by
  refine h.mono (fun b hb => ?_) (fun b hb => ?_)
  · rcases hb with hb | hb
    · exact .inl hb
    · exact .inr ⟨by omega, hb.2⟩
  · rcases hb with hb | hb
    · exact h.lt (.inl hb)
    · exact hb.2

theorem Fam.grow2 {p : Par (Int × Int)} {w0 w1 w2 w3 : World} {F : Nat → Prop} {H : Nat → Option (NodeR (Int × Int))} (h : Fam p w3 (grow (grow F w1 w2) w2 w3) H) (h1 : w0.heap.size ≤ w1.heap.size) (h2 : w1.heap.size ≤ w2.heap.size) (h3 : w2.heap.size ≤ w3.heap.size) : Fam p w3 (grow F w0 w3) H := by
  refine h.mono (fun b hb => ?_) (fun b hb => ?_)
  · rcases hb with (hb | hb) | hb
    · exact .inl hb
    · exact .inr ⟨by omega, by omega⟩
    · exact .inr ⟨by omega, hb.2⟩
  · rcases hb with hb | hb
    · exact h.lt (.inl (.inl hb))
    · exact hb.2

def KidOk (k : Int) (w : World) (F : Nat → Prop) (n : Nat) (r : NodeR (Int × Int)) (Z : World → (Nat → Option (NodeR (Int × Int))) → Int → Bool → Bool → Prop) (e : Ending) (w' : World) : Prop :=
  ∃ w1 H' pr rp, Chg (fun _ _ => False) w w1 ∧ Z w1 H' pr rp false ∧ e = .returned (.tuple #[.agg #[], .bool rp, .bool false]) ∧
    Fam (parM k) w' (grow F w w') (if rp then H' else upd H' n { r with cnt := r.cnt + 1 }) ∧ Chg (fun b _ => F b) w w'


set_option maxRecDepth 100000 in
set_option maxHeartbeats 4000000 in
theorem nodeSet_kid_ok (k : Int) (mn mx t n : Nat) (pa : Addr) (x : Int × Int) (i : Nat) (r : NodeR (Int × Int)) (w : World) (F : Nat → Prop) (H : Nat → Option (NodeR (Int × Int))) (hF : Fam (parM k) w F H) (ht : MapAt k mn mx w t) (htF : ∀ b, MOwn k t b → ¬ F b) (hn : H n = some r)
    (hpa : w.cell? pa = some (.pointer (some ⟨n, 0, none⟩))) (hs : Srt ltM r.items) (hlen : r.items.length ≤ mx) (hmx : mx ≤ 1000) (hy : PosAt ltM r.items x i) (kl : List Nat) (hk : r.kids = some (kl.map some)) (c : Nat) (hc : kl[i]? = some c) (hcnt : 0 ≤ r.cnt) (hcnt2 : r.cnt ≤ 100000000000000)
    (Z : World → (Nat → Option (NodeR (Int × Int))) → Int → Bool → Bool → Prop)
    (hcall : ∀ w1 pa, Chg (fun _ _ => False) w w1 → Fam (parM k) w1 F H → MapAt k mn mx w1 t → w1.cell? pa = some (.pointer (some ⟨c, 0, none⟩)) → Calls Try.prog 55 #[.pointer (some ⟨t, 0, none⟩), .pointer (some pa), aggM x] w1 (KidPost k F Z w1))
    (hZ : ∀ w1 H' pr rp sp, Z w1 H' pr rp sp → w.heap.size ≤ w1.heap.size → sp = false ∧ H' n = some r) :
    Calls Try.prog 55 #[.pointer (some ⟨t, 0, none⟩), .pointer (some pa), aggM x] w (KidOk k w F n r Z) := by
  obtain ⟨l, hna, hb, ho, cl⟩ := hF.work hn
  have t0 := ht.c0
  have n0 := hna.c0
  have hpk : (parM k).k = k := rfl
  rw [hpk] at n0
  have nlt : n < w.heap.size := World.block_lt_of_cell? w _ n0
  have tlt : t < w.heap.size := World.block_lt_of_cell? w _ t0
  have plt := World.block_lt_of_cell? w _ hpa
  have hpa1 : ∀ o, (w.alloc o).cell? pa = some (.pointer (some ⟨n, 0, none⟩)) := fun o => by rw [World.cell?_alloc_lt w _ _ plt]; exact hpa
  unfold aggM
  go_enter Try.func55, Try.ntmps55
  go_wp2_with (go_at_call 66; refine (isoLoad_any _ n k _ _ _ ?_ ?_ ?_).mono ?_; (focus go_simp); (focus go_simp); (focus go_simp); rintro e w' ⟨rfl, m, rfl⟩)
  refine name_calls (fun w1 => Chg (fun _ _ => False) w w1 ∧ w1.heap[w.heap.size]? = some (.cells #[.int .i64 x.1] 53 (0, 0)) ∧ w1.heap[w.heap.size + 2]? = some (.cells #[.pointer (some ⟨n, 0, none⟩)] 50 (0, 0))) ⟨?_, ?_, ?_⟩ ?_
  · repeat (first | refine Chg.drew ?_ | refine Chg.drewN ?_ _ | refine Chg.alloc ?_ _ | exact Chg.refl _ _)
  · try simp only [hd_drew, hd_drewN]
    repeat (first | exact ha_at _ _ rfl | (rw [ha_lt _ _ (by simp; try omega)]; try simp only [hd_drew, hd_drewN]))
  · try simp only [hd_drew, hd_drewN]
    exact ha_at _ _ (by simp)
  rintro w1 ⟨hc1, hb1, hb2⟩
  have hn1 := hna.chg hc1 (fun _ _ _ h => h)
  have ht1 := ht.chg hc1 (by simp)
  refine (search_node t x ht1 hn1 hs (by omega)).mono ?_
  rintro e w2 ⟨i', f, rfl, hw2, hf⟩
  have hfi : f = false ∧ i' = i := by
    rcases hf with ⟨h1, y', h2⟩ | ⟨h1, h2⟩
    · exact absurd h2.n2 (by rw [hy.right i' y' (hit_le hy h2) h2.at_]; simp)
    · exact ⟨h1, pos_same h2 hy swoM⟩
  obtain ⟨rfl, rfl⟩ := hfi
  have hc2 : Chg (fun _ _ => False) w1 w2 := hw2
  have hn2 := hn1.chg hc2 (fun _ _ _ h => h)
  have ht2 := ht1.chg hc2 (by simp)
  have hb1' : w2.heap[w.heap.size]? = some (.cells #[.int .i64 x.1] 53 (0, 0)) := by rw [hw2.block (heap_lt hb1) (fun _ h => h)]; exact hb1
  have hb2' : w2.heap[w.heap.size + 2]? = some (.cells #[.pointer (some ⟨n, 0, none⟩)] 50 (0, 0)) := by rw [hw2.block (heap_lt hb2) (fun _ h => h)]; exact hb2
  have HB1 := Lib.hid hb1'
  have HB2 := Lib.hid hb2'
  have q0 := cell_of_block hb1' 0
  have q1 := cell_of_block hb1' 0
  have q2 := cell_of_block hb2' 0
  simp only [List.getElem?_toArray, List.getElem?_cons_zero, List.getElem?_cons_succ] at q0 q1 q2
  have n3 := hn2.c3s hk
  have hcc := hc1.trans hc2
  have hkl := (List.getElem?_eq_some_iff.1 hc).1
  have g1 := hn2.cc hk
  rw [List.length_map] at g1
  have g2 := hn2.kidc hk (j := i') (o := some c) (by simp [hc])
  clear hw2 hb1 hb2 hb1' hb2' t0 n0 hpa hpa1
  go_wp2_with (go_at_call 58; refine (leaf_any _ (some ⟨l.cc, 0, none⟩) _ ?_).mono ?_; (focus go_simp); rintro e w' ⟨rfl, rfl⟩)
  refine name_world (fun w3 => Chg (fun _ _ => False) w2 w3) (Chg.refl _ _) ?_
  rintro w3 hc3
  replace q0 := hc3.cell (fun h => h) q0
  replace q1 := hc3.cell (fun h => h) q1
  replace q2 := hc3.cell (fun h => h) q2
  replace n3 := hc3.cell (fun h => h) n3
  replace g1 := hc3.cell (fun h => h) g1
  replace g2 := hc3.cell (fun h => h) g2
  have hcc3 := hcc.trans hc3
  have j0 : (0 : Int) ≤ (i' : Int) := by omega
  have j1 : (i' : Int) < (kl.length : Int) := by omega
  have HB1' : Hid (w3.heap[w.heap.size]? = some (.cells #[.int .i64 x.1] 53 (0, 0))) := Lib.hid (by rw [hc3.block (heap_lt HB1.out) (fun _ h => h)]; exact HB1.out)
  have HB2' : Hid (w3.heap[w.heap.size + 2]? = some (.cells #[.pointer (some ⟨n, 0, none⟩)] 50 (0, 0))) := Lib.hid (by rw [hc3.block (heap_lt HB2.out) (fun _ h => h)]; exact HB2.out)
  refine wp_region_callt (fun w' => w'.cell? ⟨w.heap.size, 0, none⟩ = some (.int .i64 x.1) ∧ w'.cell? ⟨w.heap.size, 0, none⟩ = some (.int .i64 x.1) ∧ w'.cell? ⟨w.heap.size + 2, 0, none⟩ = some (.pointer (some ⟨n, 0, none⟩)) ∧ w'.cell? ⟨n, 3, none⟩ = some (.pointer (some ⟨l.cc, 0, none⟩)) ∧ w'.cell? ⟨l.cc, 0, none⟩ = some (.slice (some ⟨l.cb, l.co, none⟩) kl.length l.ck))
    10 [0, 1, 2, 3, 4, 5, 6, 7, 8, 9] _ [(11, true), (12, true), (13, true), (14, true), (15, false), (16, true), (17, true)] (by kernel_rfl) (by kernel_rfl) (fun _ _ _ _ _ h => h) rfl rfl ⟨q0, q1, q2, n3, g1⟩ ?_
  simp only [pickOps, List.filterMap_cons, List.filterMap_nil, List.getElem?_cons_zero, List.getElem?_cons_succ]
  iterate 10
    refine wpSoft_step ?_ rfl ?_ ?_
    rotate_left
    · intro w' hS
      obtain ⟨s0, s1, s2, s3, s4⟩ := hS
      go_simp
      try with_reducible rfl
    simp only [Act.put, List.setIfInBounds_toArray, List.set_cons_zero, List.set_cons_succ]
  refine wpSoft_nil ?_
  refine wp_hide (fun K hK => ?_)
  go_simp
  go_at_call 55
  have hc13 : Chg (fun _ _ => False) w w3.drew := hcc3.drew
  refine (hcall _ _ hc13 (hF.chg hc13 (fun _ _ _ h => h)) (ht.chg hc13 (by simp)) g2).mono ?_
  rintro e w4 ⟨H', pr, rp, sp, rfl, hF4, hc4, hz4⟩
  obtain ⟨rfl, hn4⟩ := hZ _ _ _ _ _ hz4 hc13.size
  refine hK _ _ ?_
  clear hK K
  refine script_soft (by rfl) ?_ (by simp [Region.wanted, yielded]) ?_ ?_
  rotate_left
  · intro w' hS
    try obtain ⟨a1⟩ := hS
    go_simp
    try with_reducible rfl
  simp only [Act.put, List.setIfInBounds_toArray, List.set_cons_zero, List.set_cons_succ]
  refine script_soft (by rfl) ?_ (by simp [Region.wanted, yielded]) ?_ ?_
  rotate_left
  · intro w' hS
    try obtain ⟨a1⟩ := hS
    go_simp
    try with_reducible rfl
  simp only [Act.put, List.setIfInBounds_toArray, List.set_cons_zero, List.set_cons_succ]
  refine script_soft (by rfl) ?_ (by simp [Region.wanted, yielded]) ?_ ?_
  rotate_left
  · intro w' hS
    try obtain ⟨a1⟩ := hS
    go_simp
    try with_reducible rfl
  simp only [Act.put, List.setIfInBounds_toArray, List.set_cons_zero, List.set_cons_succ]
  refine script_soft (by rfl) ?_ (by simp [Region.wanted, yielded]) ?_ ?_
  rotate_left
  · intro w' hS
    try obtain ⟨a1⟩ := hS
    go_simp
    try with_reducible rfl
  simp only [Act.put, List.setIfInBounds_toArray, List.set_cons_zero, List.set_cons_succ]
  refine script_hard (by rfl) (by simp [Region.wanted, yielded]) (fun K hK => ?_)
  go_simp
  refine hK _ _ (fun _ => trivial) ?_
  clear hK K
  refine script_soft (by rfl) ?_ (by simp [Region.wanted, yielded]) ?_ ?_
  rotate_left
  · intro w' hS
    try obtain ⟨a1⟩ := hS
    go_simp
    try with_reducible rfl
  simp only [Act.put, List.setIfInBounds_toArray, List.set_cons_zero, List.set_cons_succ]
  refine script_soft (by rfl) ?_ (by simp [Region.wanted, yielded]) ?_ ?_
  rotate_left
  · intro w' hS
    try obtain ⟨a1⟩ := hS
    go_simp
    try with_reducible rfl
  simp only [Act.put, List.setIfInBounds_toArray, List.set_cons_zero, List.set_cons_succ]
  refine script_nil ?_
  replace hc4 : Chg (fun b _ => F b) w3 w4 := ((Chg.refl _ _).drew).trans hc4
  have nF : ∀ b, w.heap.size ≤ b → ¬ F b := fun b hb h => Nat.lt_irrefl _ (Nat.lt_of_lt_of_le (hF.lt h) hb)
  have q5 := hc4.cell (nF _ (Nat.le_add_right _ _)) q2
  obtain ⟨l4, hna4, hb4, ho4, cl4⟩ := hF4.work hn4
  have c4 := hna4.c1
  have fz4 := hna4.fz 1
  have hsz3 := hc13.size
  have hsz4 := hc4.size
  have hw04 : Chg (fun b _ => F b) w w4 := (hcc3.mono (fun _ _ _ h => h.elim)).trans hc4
  have s1 : IntKind.i64.wrap (r.cnt + 1) = r.cnt + 1 := IntWalk.i64_in _ (by omega)
  clear q0 q1 q2 n3 g1 g2
  cases rp
  · go_wp2_with fail
    refine bodyPost_ret (v := .tuple #[.agg #[], .bool false, .bool false]) (by simp [results, Try.results55, go_sem]) rfl ?_
    obtain ⟨f5, g5⟩ := cl4 _ _ _ ((Run.start hna4).setCnt (r.cnt + 1))
    refine ⟨_, H', pr, false, hc13, hz4, rfl, ?_, ?_⟩
    · exact f5.grow2 hsz3 hsz4 (by simp)
    · exact hw04.trans' g5 (fun _ _ _ h => h) (fun b o hb h => by
        rcases h with h | h
        · exact h
        · have := h.1; omega)
  · go_wp2_with fail
    refine bodyPost_ret (v := .tuple #[.agg #[], .bool true, .bool false]) (by simp [results, Try.results55, go_sem]) rfl ?_
    refine ⟨_, H', pr, true, hc13, hz4, rfl, ?_, ?_⟩
    · exact hF4.grow1 hsz3
    · exact hw04
end Go.Proofs.Ytpgaedmhgchgeaa

namespace Go.Proofs.Ytpgaedmhgchgeaa
set_option linter.unusedSimpArgs false
set_option linter.unusedVariables false
open Go.RowKit

/-- Nothing is done: the way is full. -/
def SetNo (k : Int) (w : World) (F : Nat → Prop) (H : Nat → Option (NodeR (Int × Int))) (e : Ending) (w' : World) : Prop :=
  e = .returned (.tuple #[.agg #[], .bool false, .bool true]) ∧ Fam (parM k) w' (grow F w w') H ∧ Chg (fun b _ => F b) w w'

set_option maxRecDepth 100000 in
set_option maxHeartbeats 4000000 in
theorem nodeSet_kid_full (k : Int) (mn mx t n : Nat) (pa : Addr) (x : Int × Int) (i : Nat) (r : NodeR (Int × Int)) (w : World) (F : Nat → Prop) (H : Nat → Option (NodeR (Int × Int))) (hF : Fam (parM k) w F H) (ht : MapAt k mn mx w t) (htF : ∀ b, MOwn k t b → ¬ F b) (hn : H n = some r)
    (hpa : w.cell? pa = some (.pointer (some ⟨n, 0, none⟩))) (hs : Srt ltM r.items) (hlen : r.items.length = mx) (hmx : mx ≤ 1000) (hy : PosAt ltM r.items x i) (kl : List Nat) (hk : r.kids = some (kl.map some)) (c : Nat) (hc : kl[i]? = some c)
    (Z : World → (Nat → Option (NodeR (Int × Int))) → Int → Bool → Bool → Prop)
    (hcall : ∀ w1 pa, Chg (fun _ _ => False) w w1 → Fam (parM k) w1 F H → MapAt k mn mx w1 t → w1.cell? pa = some (.pointer (some ⟨c, 0, none⟩)) → Calls Try.prog 55 #[.pointer (some ⟨t, 0, none⟩), .pointer (some pa), aggM x] w1 (KidPost k F Z w1))
    (hZ : ∀ w1 H' pr rp sp, Z w1 H' pr rp sp → w.heap.size ≤ w1.heap.size → sp = true ∧ H' = H) :
    Calls Try.prog 55 #[.pointer (some ⟨t, 0, none⟩), .pointer (some pa), aggM x] w (SetNo k w F H) := by
  obtain ⟨l, hna, hb, ho, cl⟩ := hF.work hn
  have t0 := ht.c0
  have n0 := hna.c0
  have hpk : (parM k).k = k := rfl
  rw [hpk] at n0
  have nlt : n < w.heap.size := World.block_lt_of_cell? w _ n0
  have tlt : t < w.heap.size := World.block_lt_of_cell? w _ t0
  have plt := World.block_lt_of_cell? w _ hpa
  have hpa1 : ∀ o, (w.alloc o).cell? pa = some (.pointer (some ⟨n, 0, none⟩)) := fun o => by rw [World.cell?_alloc_lt w _ _ plt]; exact hpa
  unfold aggM
  go_enter Try.func55, Try.ntmps55
  go_wp2_with (go_at_call 66; refine (isoLoad_any _ n k _ _ _ ?_ ?_ ?_).mono ?_; (focus go_simp); (focus go_simp); (focus go_simp); rintro e w' ⟨rfl, m, rfl⟩)
  refine name_calls (fun w1 => Chg (fun _ _ => False) w w1 ∧ w1.heap[w.heap.size]? = some (.cells #[.int .i64 x.1] 53 (0, 0)) ∧ w1.heap[w.heap.size + 2]? = some (.cells #[.pointer (some ⟨n, 0, none⟩)] 50 (0, 0))) ⟨?_, ?_, ?_⟩ ?_
  · repeat (first | refine Chg.drew ?_ | refine Chg.drewN ?_ _ | refine Chg.alloc ?_ _ | exact Chg.refl _ _)
  · try simp only [hd_drew, hd_drewN]
    repeat (first | exact ha_at _ _ rfl | (rw [ha_lt _ _ (by simp; try omega)]; try simp only [hd_drew, hd_drewN]))
  · try simp only [hd_drew, hd_drewN]
    exact ha_at _ _ (by simp)
  rintro w1 ⟨hc1, hb1, hb2⟩
  have hn1 := hna.chg hc1 (fun _ _ _ h => h)
  have ht1 := ht.chg hc1 (by simp)
  refine (search_node t x ht1 hn1 hs (by omega)).mono ?_
  rintro e w2 ⟨i', f, rfl, hw2, hf⟩
  have hfi : f = false ∧ i' = i := by
    rcases hf with ⟨h1, y', h2⟩ | ⟨h1, h2⟩
    · exact absurd h2.n2 (by rw [hy.right i' y' (hit_le hy h2) h2.at_]; simp)
    · exact ⟨h1, pos_same h2 hy swoM⟩
  obtain ⟨rfl, rfl⟩ := hfi
  have hc2 : Chg (fun _ _ => False) w1 w2 := hw2
  have hn2 := hn1.chg hc2 (fun _ _ _ h => h)
  have ht2 := ht1.chg hc2 (by simp)
  have hb1' : w2.heap[w.heap.size]? = some (.cells #[.int .i64 x.1] 53 (0, 0)) := by rw [hw2.block (heap_lt hb1) (fun _ h => h)]; exact hb1
  have hb2' : w2.heap[w.heap.size + 2]? = some (.cells #[.pointer (some ⟨n, 0, none⟩)] 50 (0, 0)) := by rw [hw2.block (heap_lt hb2) (fun _ h => h)]; exact hb2
  have HB1 := Lib.hid hb1'
  have HB2 := Lib.hid hb2'
  have q0 := cell_of_block hb1' 0
  have q1 := cell_of_block hb1' 0
  have q2 := cell_of_block hb2' 0
  simp only [List.getElem?_toArray, List.getElem?_cons_zero, List.getElem?_cons_succ] at q0 q1 q2
  have n3 := hn2.c3s hk
  have hcc := hc1.trans hc2
  have hkl := (List.getElem?_eq_some_iff.1 hc).1
  have g1 := hn2.cc hk
  rw [List.length_map] at g1
  have g2 := hn2.kidc hk (j := i') (o := some c) (by simp [hc])
  clear hw2 hb1 hb2 hb1' hb2' t0 n0 hpa hpa1
  go_wp2_with (go_at_call 58; refine (leaf_any _ (some ⟨l.cc, 0, none⟩) _ ?_).mono ?_; (focus go_simp); rintro e w' ⟨rfl, rfl⟩)
  refine name_world (fun w3 => Chg (fun _ _ => False) w2 w3) (Chg.refl _ _) ?_
  rintro w3 hc3
  replace q0 := hc3.cell (fun h => h) q0
  replace q1 := hc3.cell (fun h => h) q1
  replace q2 := hc3.cell (fun h => h) q2
  replace n3 := hc3.cell (fun h => h) n3
  replace g1 := hc3.cell (fun h => h) g1
  replace g2 := hc3.cell (fun h => h) g2
  have hcc3 := hcc.trans hc3
  have j0 : (0 : Int) ≤ (i' : Int) := by omega
  have j1 : (i' : Int) < (kl.length : Int) := by omega
  have HB1' : Hid (w3.heap[w.heap.size]? = some (.cells #[.int .i64 x.1] 53 (0, 0))) := Lib.hid (by rw [hc3.block (heap_lt HB1.out) (fun _ h => h)]; exact HB1.out)
  have HB2' : Hid (w3.heap[w.heap.size + 2]? = some (.cells #[.pointer (some ⟨n, 0, none⟩)] 50 (0, 0))) := Lib.hid (by rw [hc3.block (heap_lt HB2.out) (fun _ h => h)]; exact HB2.out)
  refine wp_region_callt (fun w' => w'.cell? ⟨w.heap.size, 0, none⟩ = some (.int .i64 x.1) ∧ w'.cell? ⟨w.heap.size, 0, none⟩ = some (.int .i64 x.1) ∧ w'.cell? ⟨w.heap.size + 2, 0, none⟩ = some (.pointer (some ⟨n, 0, none⟩)) ∧ w'.cell? ⟨n, 3, none⟩ = some (.pointer (some ⟨l.cc, 0, none⟩)) ∧ w'.cell? ⟨l.cc, 0, none⟩ = some (.slice (some ⟨l.cb, l.co, none⟩) kl.length l.ck))
    10 [0, 1, 2, 3, 4, 5, 6, 7, 8, 9] _ [(11, true), (12, true), (13, true), (14, true), (15, false), (16, true), (17, true)] (by kernel_rfl) (by kernel_rfl) (fun _ _ _ _ _ h => h) rfl rfl ⟨q0, q1, q2, n3, g1⟩ ?_
  simp only [pickOps, List.filterMap_cons, List.filterMap_nil, List.getElem?_cons_zero, List.getElem?_cons_succ]
  iterate 10
    refine wpSoft_step ?_ rfl ?_ ?_
    rotate_left
    · intro w' hS
      obtain ⟨s0, s1, s2, s3, s4⟩ := hS
      go_simp
      try with_reducible rfl
    simp only [Act.put, List.setIfInBounds_toArray, List.set_cons_zero, List.set_cons_succ]
  refine wpSoft_nil ?_
  refine wp_hide (fun K hK => ?_)
  go_simp
  go_at_call 55
  have hc13 : Chg (fun _ _ => False) w w3.drew := hcc3.drew
  refine (hcall _ _ hc13 (hF.chg hc13 (fun _ _ _ h => h)) (ht.chg hc13 (by simp)) g2).mono ?_
  rintro e w4 ⟨H', pr, rp, sp, rfl, hF4, hc4, hz4⟩
  obtain ⟨rfl, rfl⟩ := hZ _ _ _ _ _ hz4 hc13.size
  refine hK _ _ ?_
  clear hK K
  refine script_soft (by rfl) ?_ (by simp [Region.wanted, yielded]) ?_ ?_
  rotate_left
  · intro w' hS
    try obtain ⟨a1⟩ := hS
    go_simp
    try with_reducible rfl
  simp only [Act.put, List.setIfInBounds_toArray, List.set_cons_zero, List.set_cons_succ]
  refine script_soft (by rfl) ?_ (by simp [Region.wanted, yielded]) ?_ ?_
  rotate_left
  · intro w' hS
    try obtain ⟨a1⟩ := hS
    go_simp
    try with_reducible rfl
  simp only [Act.put, List.setIfInBounds_toArray, List.set_cons_zero, List.set_cons_succ]
  refine script_soft (by rfl) ?_ (by simp [Region.wanted, yielded]) ?_ ?_
  rotate_left
  · intro w' hS
    try obtain ⟨a1⟩ := hS
    go_simp
    try with_reducible rfl
  simp only [Act.put, List.setIfInBounds_toArray, List.set_cons_zero, List.set_cons_succ]
  refine script_soft (by rfl) ?_ (by simp [Region.wanted, yielded]) ?_ ?_
  rotate_left
  · intro w' hS
    try obtain ⟨a1⟩ := hS
    go_simp
    try with_reducible rfl
  simp only [Act.put, List.setIfInBounds_toArray, List.set_cons_zero, List.set_cons_succ]
  refine script_hard (by rfl) (by simp [Region.wanted, yielded]) (fun K hK => ?_)
  go_simp
  refine hK _ _ (fun _ => trivial) ?_
  clear hK K
  refine script_soft (by rfl) ?_ (by simp [Region.wanted, yielded]) ?_ ?_
  rotate_left
  · intro w' hS
    try obtain ⟨a1⟩ := hS
    go_simp
    try with_reducible rfl
  simp only [Act.put, List.setIfInBounds_toArray, List.set_cons_zero, List.set_cons_succ]
  refine script_soft (by rfl) ?_ (by simp [Region.wanted, yielded]) ?_ ?_
  rotate_left
  · intro w' hS
    try obtain ⟨a1⟩ := hS
    go_simp
    try with_reducible rfl
  simp only [Act.put, List.setIfInBounds_toArray, List.set_cons_zero, List.set_cons_succ]
  refine script_nil ?_
  replace hc4 : Chg (fun b _ => F b) w3 w4 := ((Chg.refl _ _).drew).trans hc4
  have nF : ∀ b, w.heap.size ≤ b → ¬ F b := fun b hb h => Nat.lt_irrefl _ (Nat.lt_of_lt_of_le (hF.lt h) hb)
  have hsz3 := hc13.size
  have hsz4 := hc4.size
  have hw04 : Chg (fun b _ => F b) w w4 := (hcc3.mono (fun _ _ _ h => h.elim)).trans hc4
  have ht4 := ht.chg hw04 (fun b _ hm h => htF b hm h)
  have HQ0 := Lib.hid q0
  have HQ1 := Lib.hid q1
  have HQ2 := Lib.hid q2
  clear q0 q1 q2 n3 g1 g2
  have q2 := hc4.cell (nF _ (Nat.le_add_right _ _)) HQ2.out
  obtain ⟨l4, hna4, hb4, ho4, cl4⟩ := hF4.work hn
  have c4 := hna4.c2
  have e4 := ht4.c4
  have pz := fun m => (ht4.chg ((Chg.refl (fun _ _ => False) _).drewN m) (fun _ _ _ h => h)).pz
  have e7 := ht4.c7
  have htest : ((r.items.length : Int) == (mx : Int)) = true := by simp; omega
  clear hlen
  go_wp2_with fail
  go_quiet (fail)
  go_wp2_with fail
  refine bodyPost_ret (v := .tuple #[.agg #[], .bool false, .bool true]) (by simp [results, Try.results55, go_sem]) rfl ?_
  refine ⟨rfl, ?_, ?_⟩
  · exact (hF4.grow1 hsz3).chg ((Chg.refl (fun _ _ => False) w4).drewN _) (fun _ _ _ h => h)
  · exact hw04.drewN _
end Go.Proofs.Ytpgaedmhgchgeaa
