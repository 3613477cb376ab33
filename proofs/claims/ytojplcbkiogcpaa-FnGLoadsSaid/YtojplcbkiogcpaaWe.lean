/- The walk of nodeSet, way by way. -/
import Derived.Test.YtojplcbkiogcpaaWd
import Derived.Test.YtojplcbkiogcpaaOps
import Derived.Test.YtojplcbkiogcpaaBs
import Derived.Test.YtojplcbkiogcpaaHeap
namespace Go.Proofs.Ytojplcbkiogcpaa
set_option linter.unusedSimpArgs false
set_option linter.unusedVariables false
open Go.RowKit
variable {ord : List Int} {k : Kc ord}

theorem hit_same {lt : It ord → It ord → Bool} {xs : List (It ord)} {x y y' : It ord} {i i' : Nat} (h : HitAt lt xs x i' y') (h' : HitAt lt xs x i y) : i' = i := by
  rcases Nat.lt_trichotomy i' i with c | c | c
  · exact absurd (h'.left i' y' c h.at_) (by rw [h.n1]; simp)
  · exact c
  · exact absurd (h.left i y c h'.at_) (by rw [h'.n1]; simp)
theorem hit_le {lt : It ord → It ord → Bool} {xs : List (It ord)} {x y : It ord} {i i' : Nat} (h : PosAt lt xs x i') (h' : HitAt lt xs x i y) : i' ≤ i := by
  rcases Nat.lt_or_ge i i' with c | c
  · exact absurd (h.left i y c h'.at_) (by rw [h'.n1]; simp)
  · exact c

theorem pos_same {lt : It ord → It ord → Bool} {xs : List (It ord)} {x : It ord} {i i' : Nat} (h : PosAt lt xs x i') (h' : PosAt lt xs x i) (s : Swo lt) : i' = i := by
  have key : ∀ a b, PosAt lt xs x a → PosAt lt xs x b → ¬ a < b := by
    intro a b ha hb c
    have hlt : a < xs.length := Nat.lt_of_lt_of_le c hb.le
    have h1 := ha.right a _ (Nat.le_refl _) (List.getElem?_eq_getElem hlt)
    have h2 := hb.left a _ c (List.getElem?_eq_getElem hlt)
    rw [s.asymm _ _ h1] at h2; cases h2
  have := key i i' h' h
  have := key i' i h h'
  omega

/-- Found in the node itself: its item gives way. -/
def SetHit (k : Kc ord) (w : World) (F : Nat → Prop) (H : Nat → Option (NodeR (It ord))) (n : Nat) (r : NodeR (It ord)) (x : It ord) (i : Nat) (y : It ord) (e : Ending) (w' : World) : Prop :=
  e = .returned (.tuple #[.agg #[.int .i64 y.1, .int .i64 y.2], .bool true, .bool false]) ∧ Fam (parM k) w' (grow F w w') (upd H n { r with items := r.items.set i x }) ∧ Chg (fun b _ => F b) w w'

theorem Run.setItemM {k : Kc ord} {w0 w : World} {n : Nat} {r0 r : NodeR (It ord)} {l0 l : Lay} (h : Run (parM k) w0 n r0 l0 w r l) (i : Nat) (x : It ord) (hi : i < r.items.length) :
    Run (parM k) w0 n r0 l0 ((w.setCell ⟨l.ib, l.io + i * 2, none⟩ (.int .i64 x.1)).setCell ⟨l.ib, l.io + i * 2 + 1, none⟩ (.int .i64 x.2)) { r with items := r.items.set i x } l := by
  obtain ⟨_, c, h1, h2, _⟩ := h.at_.row
  have hlen := h.at_.len
  have hes : l.ic * (parM k).es = l.ic * 2 := by simp [parM]
  have hp := h.putItems i [x] (by simp; omega)
  have e1 : r.items.take i ++ [x] ++ r.items.drop (i + [x].length) = r.items.set i x := by
    rw [List.set_eq_take_append_cons_drop, if_pos hi]; simp
  rw [e1] at hp
  rw [putCells_two h1 (by omega)]
  exact hp

set_option maxRecDepth 100000 in
set_option maxHeartbeats 1000000 in
theorem nodeSet_hit (k : Kc ord) (mn mx t n : Nat) (pa : Addr) (dp : Int) (x y : It ord) (i : Nat) (r : NodeR (It ord)) (w : World) (F : Nat → Prop) (H : Nat → Option (NodeR (It ord))) (hF : Fam (parM k) w F H) (ht : MapAt k mn mx w t) (hn : H n = some r)
    (hpa : w.cell? pa = some (.pointer (some ⟨n, 0, none⟩))) (hs : Srt ltM r.items) (hlen : r.items.length ≤ 1000) (hy : HitAt ltM r.items x i y) :
    Calls Try.prog 116 #[.pointer (some ⟨t, 0, none⟩), .pointer (some pa), aggM x, .pointer none, .int .i64 dp] w (SetHit k w F H n r x i y) := by
  obtain ⟨l, hna, hb, ho, cl⟩ := hF.work hn
  have t0 := ht.c0
  have n0 := hna.c0
  have hpk : (parM k).k = k.iso := rfl
  rw [hpk] at n0
  have nlt : n < w.heap.size := World.block_lt_of_cell? w _ n0
  have tlt : t < w.heap.size := World.block_lt_of_cell? w _ t0
  have plt := World.block_lt_of_cell? w _ hpa
  have hpa1 : ∀ o, (w.alloc o).cell? pa = some (.pointer (some ⟨n, 0, none⟩)) := fun o => by rw [World.cell?_alloc_lt w _ _ plt]; exact hpa
  have hpa2 : ∀ o o', ((w.alloc o).alloc o').cell? pa = some (.pointer (some ⟨n, 0, none⟩)) := fun o o' => by rw [World.cell?_alloc_lt _ _ _ (by simp; omega)]; exact hpa1 o
  have hn1 : ∀ o o', ((w.alloc o).alloc o').cell? ⟨n, 0, none⟩ = some (.int .u64 k.iso) := fun o o' => ((hna.chg (((Chg.refl (fun _ _ => False) w).alloc o).alloc o') (fun _ _ _ h => h)).c0)
  have ht1 : ∀ o o', ((w.alloc o).alloc o').cell? ⟨t, 0, none⟩ = some (.int .u64 k.iso) := fun o o' => ((ht.chg (((Chg.refl (fun _ _ => False) w).alloc o).alloc o') (fun _ _ _ h => h)).c0)
  unfold aggM
  go_enter Try.func116, Try.ntmps116
  go_wp2_with fail
  go_quiet (fail)
  go_wp2_with fail
  clear hn1 ht1
  refine name_calls (fun w1 => Chg (fun _ _ => False) w w1 ∧ w1.heap[w.heap.size]? = some (.cells #[.int .i64 x.1, .int .i64 x.2] 26 (0, 0)) ∧ w1.heap[w.heap.size + 1]? = some (.cells #[.int .i64 0, .int .i64 0] 26 (0, 0)) ∧ w1.heap[w.heap.size + 2]? = some (.cells #[.pointer (some ⟨n, 0, none⟩)] 97 (0, 0))) ⟨?_, ?_, ?_, ?_⟩ ?_
  · repeat (first | refine Chg.drew ?_ | refine Chg.drewN ?_ _ | refine Chg.alloc ?_ _ | exact Chg.refl _ _)
  · try simp only [hd_drew, hd_drewN]
    repeat (first | exact ha_at _ _ rfl | (rw [ha_lt _ _ (by simp; try omega)]; try simp only [hd_drew, hd_drewN]))
  · try simp only [hd_drew, hd_drewN]
    rw [ha_lt _ _ (by simp; try omega)]
    try simp only [hd_drew, hd_drewN]
    exact ha_at _ _ (by simp)
  · try simp only [hd_drew, hd_drewN]
    exact ha_at _ _ (by simp)
  rintro w1 ⟨hc1, hb1, hbp, hb2⟩
  have hn1 := hna.chg hc1 (fun _ _ _ h => h)
  have ht1 := ht.chg hc1 (by simp)
  refine (search_node t x ht1 hn1 hs (by omega)).mono ?_
  rintro e w2 ⟨i', f, rfl, hw2, hf⟩
  have hfi : f = true ∧ i' = i := by
    rcases hf with ⟨h1, y', h2⟩ | ⟨h1, h2⟩
    · exact ⟨h1, hit_same h2 hy⟩
    · exact absurd hy.n2 (by rw [h2.right i y (hit_le h2 hy) hy.at_]; simp)
  obtain ⟨rfl, rfl⟩ := hfi
  have hc2 : Chg (fun _ _ => False) w1 w2 := hw2
  have hn2 := hn1.chg hc2 (fun _ _ _ h => h)
  have r0 : Run (parM k) w n r l w2 r l := ((Run.start hna).still hc1).still hc2
  have hb1' : w2.heap[w.heap.size]? = some (.cells #[.int .i64 x.1, .int .i64 x.2] 26 (0, 0)) := by rw [hw2.block (heap_lt hb1) (fun _ h => h)]; exact hb1
  have hb2' : w2.heap[w.heap.size + 2]? = some (.cells #[.pointer (some ⟨n, 0, none⟩)] 97 (0, 0)) := by rw [hw2.block (heap_lt hb2) (fun _ h => h)]; exact hb2
  have hbp' : w2.heap[w.heap.size + 1]? = some (.cells #[.int .i64 0, .int .i64 0] 26 (0, 0)) := by rw [hw2.block (heap_lt hbp) (fun _ h => h)]; exact hbp
  have HB1 := Lib.hid hb1'
  have HB2 := Lib.hid hb2'
  have HBP := Lib.hid hbp'
  have p0 := cell_of_block hbp' 0
  have p1 := cell_of_block hbp' 1
  have pf0 := frozen_of_block hbp' 0
  have pf1 := frozen_of_block hbp' 1
  have q0 := cell_of_block hb1' 0
  have q1 := cell_of_block hb1' 1
  have q2 := cell_of_block hb2' 0
  simp only [List.getElem?_toArray, List.getElem?_cons_zero, List.getElem?_cons_succ] at q0 q1 q2 p0 p1
  have n2 := hn2.c2
  have iv := hn2.mval hy.at_
  have ik := hn2.mkey hy.at_
  
  have z0 := hn2.ifz (l.io + i' * 2)
  have z1 := hn2.ifz (l.io + i' * 2 + 1)
  have hilt : i' < r.items.length := (List.getElem?_eq_some_iff.1 hy.at_).1
  have j0 : (0 : Int) ≤ (i' : Int) := by omega
  have j1 : (i' : Int) < (r.items.length : Int) := by omega
  have hnew : ∀ b o, b = w.heap.size + 1 → w.heap.size ≤ b ∧ ¬ Ext (parM k) n r l b o := fun b o e => ⟨by omega, fun h => by have := hna.lt h.blk; omega⟩
  clear hw2 hb1 hb2 hbp hb1' hb2' hbp' t0 n0 hpa hpa1 hpa2
  go_wp2_with fail
  refine name_world (fun w3 => Chg (fun b _ => b = w.heap.size + 1) w2 w3 ∧ w3.heap[w.heap.size + 1]? = some (.cells #[.int .i64 y.1, .int .i64 y.2] 26 (0, 0))) ⟨?_, ?_⟩ ?_
  · repeat (first | refine Chg.drew ?_ | refine Chg.setCell ?_ (.inl rfl) _ | exact Chg.refl _ _)
  · rw [hs_same (hs_same HBP.out _)]; rfl
  rintro w3 ⟨hc3, hb3⟩
  have hi3 : ∀ {b : Nat} {o : Obj}, b ≠ w.heap.size + 1 → w2.heap[b]? = some o → w3.heap[b]? = some o := fun h g => by rw [hc3.block (heap_lt g) (fun _ e => h e)]; exact g
  have hb13 := hi3 (by omega) HB1.out
  have hb23 := hi3 (by omega) HB2.out
  clear q0 q1 q2 p0 p1 pf0 pf1 n2 iv ik z0 z1
  have hn3 := hn2.chg hc3 (fun b o h e => (hnew b o e).2 h)
  have q0 := cell_of_block hb13 0
  have q1 := cell_of_block hb13 1
  have q2 := cell_of_block hb23 0
  have p0 := cell_of_block hb3 0
  have p1 := cell_of_block hb3 1
  have pf0 := frozen_of_block hb3 0
  have pf1 := frozen_of_block hb3 1
  simp only [List.getElem?_toArray, List.getElem?_cons_zero, List.getElem?_cons_succ] at q0 q1 q2 p0 p1
  have n2 := hn3.c2
  have iv := hn3.mval hy.at_
  have ik := hn3.mkey hy.at_
  have z0 := hn3.ifz (l.io + i' * 2)
  have z1 := hn3.ifz (l.io + i' * 2 + 1)
  have hne : ¬ w.heap.size + 1 = l.ib := by have := hna.lt (b := l.ib) (.inr (.inl rfl)); omega
  have hne' : ¬ l.ib = w.heap.size + 1 := fun h => hne h.symm
  clear hb13 hb23
  have r3 : Run (parM k) w n r l w3 r l := r0.aside hc3 hnew
  go_still_tail 7, (by kernel_rfl)
  go_wp2_with fail
  refine bodyPost_ret (v := .tuple #[.agg #[.int .i64 y.1, .int .i64 y.2], .bool true, .bool false]) (by simp [results, Try.results116, go_sem, p0, p1, hne, hne']) rfl ?_
  refine ⟨rfl, ?_⟩
  refine cl _ _ _ (Run.aside (A := fun b _ => b = w.heap.size + 1) (r3.setItemM i' x hilt) ?_ hnew)
  repeat (first | refine Chg.drew ?_ | refine Chg.setCell ?_ (.inl rfl) _ | exact Chg.refl _ _)

/-- Nothing is done: the node is full. -/
def SetFull (k : Kc ord) (w : World) (F : Nat → Prop) (H : Nat → Option (NodeR (It ord))) (e : Ending) (w' : World) : Prop :=
  e = .returned (.tuple #[.agg #[.int .i64 0, .int .i64 0], .bool false, .bool true]) ∧ Fam (parM k) w' (grow F w w') H ∧ Chg (fun _ _ => False) w w'

theorem Fam.idle {p : Par (It ord)} {w w' : World} {F : Nat → Prop} {H : Nat → Option (NodeR (It ord))} (h : Fam p w F H) (c : Chg (fun _ _ => False) w w') : Fam p w' (grow F w w') H := by
  refine (h.chg c fun _ _ _ h => h).mono (fun b hb => .inl hb) ?_
  rintro b (hb | hb)
  · exact Nat.lt_of_lt_of_le (h.lt hb) c.size
  · exact hb.2

set_option maxRecDepth 100000 in
set_option maxHeartbeats 1000000 in
theorem nodeSet_leaf_full (k : Kc ord) (mn mx t n : Nat) (pa : Addr) (dp : Int) (x : It ord) (i : Nat) (r : NodeR (It ord)) (w : World) (F : Nat → Prop) (H : Nat → Option (NodeR (It ord))) (hF : Fam (parM k) w F H) (ht : MapAt k mn mx w t) (hn : H n = some r)
    (hpa : w.cell? pa = some (.pointer (some ⟨n, 0, none⟩))) (hs : Srt ltM r.items) (hlen : r.items.length = mx) (hmx : mx ≤ 1000) (hy : PosAt ltM r.items x i) (hk : r.kids = none) :
    Calls Try.prog 116 #[.pointer (some ⟨t, 0, none⟩), .pointer (some pa), aggM x, .pointer none, .int .i64 dp] w (SetFull k w F H) := by
  obtain ⟨l, hna, hb, ho, cl⟩ := hF.work hn
  have t0 := ht.c0
  have n0 := hna.c0
  have hpk : (parM k).k = k.iso := rfl
  rw [hpk] at n0
  have nlt : n < w.heap.size := World.block_lt_of_cell? w _ n0
  have tlt : t < w.heap.size := World.block_lt_of_cell? w _ t0
  have plt := World.block_lt_of_cell? w _ hpa
  have hpa1 : ∀ o, (w.alloc o).cell? pa = some (.pointer (some ⟨n, 0, none⟩)) := fun o => by rw [World.cell?_alloc_lt w _ _ plt]; exact hpa
  have hpa2 : ∀ o o', ((w.alloc o).alloc o').cell? pa = some (.pointer (some ⟨n, 0, none⟩)) := fun o o' => by rw [World.cell?_alloc_lt _ _ _ (by simp; omega)]; exact hpa1 o
  have hn1 : ∀ o o', ((w.alloc o).alloc o').cell? ⟨n, 0, none⟩ = some (.int .u64 k.iso) := fun o o' => ((hna.chg (((Chg.refl (fun _ _ => False) w).alloc o).alloc o') (fun _ _ _ h => h)).c0)
  have ht1 : ∀ o o', ((w.alloc o).alloc o').cell? ⟨t, 0, none⟩ = some (.int .u64 k.iso) := fun o o' => ((ht.chg (((Chg.refl (fun _ _ => False) w).alloc o).alloc o') (fun _ _ _ h => h)).c0)
  unfold aggM
  go_enter Try.func116, Try.ntmps116
  go_wp2_with fail
  go_quiet (fail)
  go_wp2_with fail
  clear hn1 ht1
  refine name_calls (fun w1 => Chg (fun _ _ => False) w w1 ∧ w1.heap[w.heap.size]? = some (.cells #[.int .i64 x.1, .int .i64 x.2] 26 (0, 0)) ∧ w1.heap[w.heap.size + 1]? = some (.cells #[.int .i64 0, .int .i64 0] 26 (0, 0)) ∧ w1.heap[w.heap.size + 2]? = some (.cells #[.pointer (some ⟨n, 0, none⟩)] 97 (0, 0))) ⟨?_, ?_, ?_, ?_⟩ ?_
  · repeat (first | refine Chg.drew ?_ | refine Chg.drewN ?_ _ | refine Chg.alloc ?_ _ | exact Chg.refl _ _)
  · try simp only [hd_drew, hd_drewN]
    repeat (first | exact ha_at _ _ rfl | (rw [ha_lt _ _ (by simp; try omega)]; try simp only [hd_drew, hd_drewN]))
  · try simp only [hd_drew, hd_drewN]
    rw [ha_lt _ _ (by simp; try omega)]
    try simp only [hd_drew, hd_drewN]
    exact ha_at _ _ (by simp)
  · try simp only [hd_drew, hd_drewN]
    exact ha_at _ _ (by simp)
  rintro w1 ⟨hc1, hb1, hbp, hb2⟩
  have hn1 := hna.chg hc1 (fun _ _ _ h => h)
  have ht1 := ht.chg hc1 (by simp)
  refine (search_node t x ht1 hn1 hs (by omega)).mono ?_
  rintro e w2 ⟨i', f, rfl, hw2, hf⟩
  have hfi : f = false := by
    rcases hf with ⟨h1, y', h2⟩ | ⟨h1, h2⟩
    · exact absurd h2.n2 (by rw [hy.right i' y' (hit_le hy h2) h2.at_]; simp)
    · exact h1
  obtain rfl := hfi
  have hc2 : Chg (fun _ _ => False) w1 w2 := hw2
  have hn2 := hn1.chg hc2 (fun _ _ _ h => h)
  have ht2 := ht1.chg hc2 (by simp)
  have hb2' : w2.heap[w.heap.size + 2]? = some (.cells #[.pointer (some ⟨n, 0, none⟩)] 97 (0, 0)) := by rw [hw2.block (heap_lt hb2) (fun _ h => h)]; exact hb2
  have hbp' : w2.heap[w.heap.size + 1]? = some (.cells #[.int .i64 0, .int .i64 0] 26 (0, 0)) := by rw [hw2.block (heap_lt hbp) (fun _ h => h)]; exact hbp
  have p0 := cell_of_block hbp' 0
  have p1 := cell_of_block hbp' 1
  have pf0 := frozen_of_block hbp' 0
  have pf1 := frozen_of_block hbp' 1
  have q2 := cell_of_block hb2' 0
  simp only [List.getElem?_toArray, List.getElem?_cons_zero, List.getElem?_cons_succ] at q2 p0 p1
  have n2 := hn2.c2
  rw [hlen] at n2
  have n3 := hn2.c3n hk
  have e4 := ht2.c4
  have e5 := ht2.c5
  
  have e7 := ht2.c7
  have hcc := hc1.trans hc2
  clear hw2 hb1 hb2 hbp hb2' hbp' t0 n0 hpa hpa1 hpa2
  go_wp2_with (go_at_call 97; refine (leaf_any _ none _ ?_).mono ?_; (focus go_simp); rintro e w' ⟨rfl, rfl⟩)
  go_quiet (fail)
  go_wp2_with fail
  refine bodyPost_ret (v := .tuple #[.agg #[.int .i64 0, .int .i64 0], .bool false, .bool true]) (by simp [results, Try.results116, go_sem, p0, p1]) rfl ?_
  have hce : ∀ w', Chg (fun b _ => b = w.heap.size + 1) w2 w' → Fam (parM k) w' (grow F w w') H ∧ Chg (fun _ _ => False) w w' := fun w' c => by
    have h := hcc.trans' (B := fun _ _ => False) c (fun _ _ _ h => h) (fun b o hb e => by omega)
    exact ⟨hF.idle h, h⟩
  refine ⟨rfl, hce _ ?_⟩
  repeat (first | refine Chg.drew ?_ | refine Chg.drewN ?_ _ | refine Chg.setCell ?_ (.inl rfl) _ | exact Chg.refl _ _)
end Go.Proofs.Ytojplcbkiogcpaa
