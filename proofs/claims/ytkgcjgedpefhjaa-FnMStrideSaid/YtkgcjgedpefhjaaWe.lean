/- The walk of nodeSet, way by way. -/
import Derived.Test.YtkgcjgedpefhjaaWd
import Derived.Test.YtkgcjgedpefhjaaOps
import Derived.Test.YtkgcjgedpefhjaaHeap
namespace Go.Proofs.Ytkgcjgedpefhjaa
open Go.RowKit

def ltM (a b : Int × Int) : Bool := decide (a.1 < b.1)

theorem swoM : Swo ltM where
  asymm := by intro a b h; simp [ltM] at h ⊢; omega
  ntrans := by intro a b c h1 h2; simp [ltM] at h1 h2 ⊢; omega

def SrchN (xs : List (Int × Int)) (x : Int × Int) (w : World) (e : Ending) (w' : World) : Prop :=
  ∃ (i : Nat) (f : Bool) (m : Nat), e = .returned (.tuple #[.int .i64 i, .bool f]) ∧ w' = w.drewN m ∧ ((f = true ∧ ∃ y, HitAt ltM xs x i y) ∨ (f = false ∧ PosAt ltM xs x i))

theorem search_node {k : Int} {w : World} {n : Nat} {r : NodeR (Int × Int)} {l : Lay} (t : Nat) (x : Int × Int) (h : NodeAt (parM k) w n r l) (hs : Srt ltM r.items) (hlen : r.items.length ≤ 1000000) :
    Calls Try.prog 111 #[.pointer (some ⟨t, 0, none⟩), .pointer (some ⟨n, 0, none⟩), .int .i64 x.1] w (SrchN r.items x w) := by
  refine (search_any t n l.ib l.io r.items.length l.ic (fun j => (r.items.getD j (0, 0)).1) x.1 w h.c2 (by omega) ?_ ?_).mono ?_
  · intro i j hij hj
    have := List.pairwise_iff_getElem.1 hs i j (by omega) hj hij
    simpa [ltM, List.getD, show i < r.items.length by omega, hj] using this
  · intro j hj
    have := h.mkey (j := j) (x := r.items[j]) (List.getElem?_eq_getElem hj)
    simpa [List.getD, hj] using this
  · rintro e w' ⟨i, f, m, he, ⟨h1, h2⟩, hw⟩
    have hl : ∀ j y, j < i → r.items[j]? = some y → ltM y x = true := by
      intro j y hj hy
      have := h2 j hj
      simp [List.getD, hy] at this
      simpa [ltM] using this
    refine ⟨i, f, m, he, hw, ?_⟩
    rcases h1 with ⟨h1, h3, h4⟩ | ⟨h1, h3, h4⟩
    · refine .inl ⟨h1, r.items[i], List.getElem?_eq_getElem h3, hl, ?_, ?_⟩
      · simp [List.getD, h3] at h4; simp [ltM]; omega
      · simp [List.getD, h3] at h4; simp [ltM]; omega
    · refine .inr ⟨h1, h3, hl, ?_⟩
      intro j y hj hy
      have hlt := (List.getElem?_eq_some_iff.1 hy).1
      have := h4 j hj hlt
      simp [List.getD, hy] at this
      simpa [ltM] using this

theorem hit_same {lt : Int × Int → Int × Int → Bool} {xs : List (Int × Int)} {x y y' : Int × Int} {i i' : Nat} (h : HitAt lt xs x i' y') (h' : HitAt lt xs x i y) : i' = i := by
  rcases Nat.lt_trichotomy i' i with c | c | c
  · exact absurd (h'.left i' y' c h.at_) (by rw [h.n1]; simp)
  · exact c
  · exact absurd (h.left i y c h'.at_) (by rw [h'.n1]; simp)
theorem hit_le {lt : Int × Int → Int × Int → Bool} {xs : List (Int × Int)} {x y : Int × Int} {i i' : Nat} (h : PosAt lt xs x i') (h' : HitAt lt xs x i y) : i' ≤ i := by
  rcases Nat.lt_or_ge i i' with c | c
  · exact absurd (h.left i y c h'.at_) (by rw [h'.n1]; simp)
  · exact c

theorem pos_same {lt : Int × Int → Int × Int → Bool} {xs : List (Int × Int)} {x : Int × Int} {i i' : Nat} (h : PosAt lt xs x i') (h' : PosAt lt xs x i) (s : Swo lt) : i' = i := by
  have key : ∀ a b, PosAt lt xs x a → PosAt lt xs x b → ¬ a < b := by
    intro a b ha hb c
    have hlt : a < xs.length := Nat.lt_of_lt_of_le c hb.le
    have h1 := ha.right a _ (Nat.le_refl _) (List.getElem?_eq_getElem hlt)
    have h2 := hb.left a _ c (List.getElem?_eq_getElem hlt)
    rw [s.asymm _ _ h1] at h2; cases h2
  have := key i i' h' h
  have := key i' i h h'
  omega

def aggM (x : Int × Int) : Value := .agg #[.int .i64 x.2, .int .i64 x.1]

/-- Found in the node itself: its item gives way. -/
def SetHit (k : Int) (w : World) (F : Nat → Prop) (H : Nat → Option (NodeR (Int × Int))) (n : Nat) (r : NodeR (Int × Int)) (x : Int × Int) (i : Nat) (y : Int × Int) (e : Ending) (w' : World) : Prop :=
  e = .returned (.tuple #[.int .i64 y.2, .bool true, .bool false]) ∧ Fam (parM k) w' (grow F w w') (upd H n { r with items := r.items.set i x }) ∧ Chg (fun b _ => F b) w w'

theorem Run.setItemM {k : Int} {w0 w : World} {n : Nat} {r0 r : NodeR (Int × Int)} {l0 l : Lay} (h : Run (parM k) w0 n r0 l0 w r l) (i : Nat) (x : Int × Int) (hi : i < r.items.length) :
    Run (parM k) w0 n r0 l0 ((w.setCell ⟨l.ib, l.io + i * 2, none⟩ (.int .i64 x.2)).setCell ⟨l.ib, l.io + i * 2 + 1, none⟩ (.int .i64 x.1)) { r with items := r.items.set i x } l := by
  obtain ⟨_, c, h1, h2, _⟩ := h.at_.row
  have hlen := h.at_.len
  have hes : l.ic * (parM k).es = l.ic * 2 := rfl
  have hp := h.putItems i [x] (by simp; omega)
  have e1 : r.items.take i ++ [x] ++ r.items.drop (i + [x].length) = r.items.set i x := by
    rw [List.set_eq_take_append_cons_drop, if_pos hi]; simp
  rw [e1] at hp
  rw [putCells_two h1 (by omega)]
  exact hp

set_option maxRecDepth 100000 in
set_option maxHeartbeats 1000000 in
theorem nodeSet_hit (k : Int) (mn mx t n : Nat) (pa : Addr) (x y : Int × Int) (i : Nat) (r : NodeR (Int × Int)) (w : World) (F : Nat → Prop) (H : Nat → Option (NodeR (Int × Int))) (hF : Fam (parM k) w F H) (ht : MapAt k mn mx w t) (hn : H n = some r)
    (hpa : w.cell? pa = some (.pointer (some ⟨n, 0, none⟩))) (hs : Srt ltM r.items) (hlen : r.items.length ≤ 1000) (hy : HitAt ltM r.items x i y) :
    Calls Try.prog 95 #[.pointer (some ⟨t, 0, none⟩), .pointer (some pa), aggM x] w (SetHit k w F H n r x i y) := by
  obtain ⟨l, hna, hb, ho, cl⟩ := hF.work hn
  have t0 := ht.c0
  have n0 := hna.c0
  have hpk : (parM k).k = k := rfl
  rw [hpk] at n0
  have nlt : n < w.heap.size := World.block_lt_of_cell? w _ n0
  have tlt : t < w.heap.size := World.block_lt_of_cell? w _ t0
  have plt := World.block_lt_of_cell? w _ hpa
  have hpa1 : ∀ o, (w.alloc o).cell? pa = some (.pointer (some ⟨n, 0, none⟩)) := fun o => by rw [World.cell?_alloc_lt w _ _ plt]; exact hpa
  unfold aggM
  go_enter Try.func95, Try.ntmps95
  go_wp2_with (go_at_call 109; refine (isoLoad_any _ n k _ _ _ ?_ ?_ ?_).mono ?_; (focus go_simp); (focus go_simp); (focus go_simp); rintro e w' ⟨rfl, m, rfl⟩)
  refine name_calls (fun w1 => Chg (fun _ _ => False) w w1 ∧ w1.heap[w.heap.size]? = some (.cells #[.int .i64 x.2, .int .i64 x.1] 94 (0, 0)) ∧ w1.heap[w.heap.size + 1]? = some (.cells #[.pointer (some ⟨n, 0, none⟩)] 92 (0, 0))) ⟨?_, ?_, ?_⟩ ?_
  · repeat (first | refine Chg.drew ?_ | refine Chg.drewN ?_ _ | refine Chg.alloc ?_ _ | exact Chg.refl _ _)
  · try simp only [hd_drew, hd_drewN]
    rw [ha_lt _ _ (by simp; try omega)]; exact ha_at _ _ rfl
  · try simp only [hd_drew, hd_drewN]
    exact ha_at _ _ (by simp)
  rintro w1 ⟨hc1, hb1, hb2⟩
  have hn1 := hna.chg hc1 (fun _ _ _ h => h)
  have ht1 := ht.chg hc1 (by simp)
  refine (search_node t x hn1 hs (by omega)).mono ?_
  rintro e w2 ⟨i', f, m, rfl, hw2, hf⟩
  have hfi : f = true ∧ i' = i := by
    rcases hf with ⟨h1, y', h2⟩ | ⟨h1, h2⟩
    · exact ⟨h1, hit_same h2 hy⟩
    · exact absurd hy.n2 (by rw [h2.right i y (hit_le h2 hy) hy.at_]; simp)
  obtain ⟨rfl, rfl⟩ := hfi
  have hc2 : Chg (fun _ _ => False) w1 w2 := by rw [hw2]; exact (Chg.refl _ _).drewN _
  have hn2 := hn1.chg hc2 (fun _ _ _ h => h)
  have r0 : Run (parM k) w n r l w2 r l := ((Run.start hna).still hc1).still hc2
  have hb1' : w2.heap[w.heap.size]? = some (.cells #[.int .i64 x.2, .int .i64 x.1] 94 (0, 0)) := by rw [hw2]; exact hb1
  have hb2' : w2.heap[w.heap.size + 1]? = some (.cells #[.pointer (some ⟨n, 0, none⟩)] 92 (0, 0)) := by rw [hw2]; exact hb2
  have q0 := cell_of_block hb1' 0
  have q1 := cell_of_block hb1' 1
  have q2 := cell_of_block hb2' 0
  simp only [List.getElem?_toArray, List.getElem?_cons_zero, List.getElem?_cons_succ] at q0 q1 q2
  have n2 := hn2.c2
  have iv := hn2.mval hy.at_
  have ik := hn2.mkey hy.at_
  have z0 := hn2.ifz (l.io + i' * 2)
  have z1 := hn2.ifz (l.io + i' * 2 + 1)
  have hilt : i' < r.items.length := (List.getElem?_eq_some_iff.1 hy.at_).1
  have j0 : (0 : Int) ≤ (i' : Int) := by omega
  have j1 : (i' : Int) < (r.items.length : Int) := by omega
  clear hw2 hb1 hb2 hb1' hb2' t0 n0 hpa hpa1
  go_wp2_with fail
  go_still_tail 7, (by kernel_rfl)
  go_wp2_with fail
  go_ret3
  refine ⟨rfl, ?_⟩
  have hr := ((r0.setItemM i' x hilt).still ((Chg.refl _ _).drew)) 
  exact cl _ _ _ hr

/-- Nothing is done: the node is full. -/
def SetFull (k : Int) (w : World) (F : Nat → Prop) (H : Nat → Option (NodeR (Int × Int))) (e : Ending) (w' : World) : Prop :=
  e = .returned (.tuple #[.int .i64 0, .bool false, .bool true]) ∧ Fam (parM k) w' (grow F w w') H ∧ Chg (fun _ _ => False) w w'

theorem Fam.idle {p : Par (Int × Int)} {w w' : World} {F : Nat → Prop} {H : Nat → Option (NodeR (Int × Int))} (h : Fam p w F H) (c : Chg (fun _ _ => False) w w') : Fam p w' (grow F w w') H := by
  refine (h.chg c fun _ _ _ h => h).mono (fun b hb => .inl hb) ?_
  rintro b (hb | hb)
  · exact Nat.lt_of_lt_of_le (h.lt hb) c.size
  · exact hb.2

set_option maxRecDepth 100000 in
set_option maxHeartbeats 1000000 in
theorem nodeSet_leaf_full (k : Int) (mn mx t n : Nat) (pa : Addr) (x : Int × Int) (i : Nat) (r : NodeR (Int × Int)) (w : World) (F : Nat → Prop) (H : Nat → Option (NodeR (Int × Int))) (hF : Fam (parM k) w F H) (ht : MapAt k mn mx w t) (hn : H n = some r)
    (hpa : w.cell? pa = some (.pointer (some ⟨n, 0, none⟩))) (hs : Srt ltM r.items) (hlen : r.items.length = mx) (hmx : mx ≤ 1000) (hy : PosAt ltM r.items x i) (hk : r.kids = none) :
    Calls Try.prog 95 #[.pointer (some ⟨t, 0, none⟩), .pointer (some pa), aggM x] w (SetFull k w F H) := by
  obtain ⟨l, hna, hb, ho, cl⟩ := hF.work hn
  have t0 := ht.c0
  have n0 := hna.c0
  have hpk : (parM k).k = k := rfl
  rw [hpk] at n0
  have nlt : n < w.heap.size := World.block_lt_of_cell? w _ n0
  have tlt : t < w.heap.size := World.block_lt_of_cell? w _ t0
  have plt := World.block_lt_of_cell? w _ hpa
  have hpa1 : ∀ o, (w.alloc o).cell? pa = some (.pointer (some ⟨n, 0, none⟩)) := fun o => by rw [World.cell?_alloc_lt w _ _ plt]; exact hpa
  unfold aggM
  go_enter Try.func95, Try.ntmps95
  go_wp2_with (go_at_call 109; refine (isoLoad_any _ n k _ _ _ ?_ ?_ ?_).mono ?_; (focus go_simp); (focus go_simp); (focus go_simp); rintro e w' ⟨rfl, m, rfl⟩)
  refine name_calls (fun w1 => Chg (fun _ _ => False) w w1 ∧ w1.heap[w.heap.size]? = some (.cells #[.int .i64 x.2, .int .i64 x.1] 94 (0, 0)) ∧ w1.heap[w.heap.size + 1]? = some (.cells #[.pointer (some ⟨n, 0, none⟩)] 92 (0, 0))) ⟨?_, ?_, ?_⟩ ?_
  · repeat (first | refine Chg.drew ?_ | refine Chg.drewN ?_ _ | refine Chg.alloc ?_ _ | exact Chg.refl _ _)
  · try simp only [hd_drew, hd_drewN]
    rw [ha_lt _ _ (by simp; try omega)]; exact ha_at _ _ rfl
  · try simp only [hd_drew, hd_drewN]
    exact ha_at _ _ (by simp)
  rintro w1 ⟨hc1, hb1, hb2⟩
  have hn1 := hna.chg hc1 (fun _ _ _ h => h)
  have ht1 := ht.chg hc1 (by simp)
  refine (search_node t x hn1 hs (by omega)).mono ?_
  rintro e w2 ⟨i', f, m, rfl, hw2, hf⟩
  have hfi : f = false := by
    rcases hf with ⟨h1, y', h2⟩ | ⟨h1, h2⟩
    · exact absurd h2.n2 (by rw [hy.right i' y' (hit_le hy h2) h2.at_]; simp)
    · exact h1
  obtain rfl := hfi
  have hc2 : Chg (fun _ _ => False) w1 w2 := by rw [hw2]; exact (Chg.refl _ _).drewN _
  have hn2 := hn1.chg hc2 (fun _ _ _ h => h)
  have ht2 := ht1.chg hc2 (by simp)
  have hb2' : w2.heap[w.heap.size + 1]? = some (.cells #[.pointer (some ⟨n, 0, none⟩)] 92 (0, 0)) := by rw [hw2]; exact hb2
  have q2 := cell_of_block hb2' 0
  simp only [List.getElem?_toArray, List.getElem?_cons_zero] at q2
  have n2 := hn2.c2
  rw [hlen] at n2
  have n3 := hn2.c3n hk
  have e4 := ht2.c4
  have e7 := ht2.c7
  have hcc := hc1.trans hc2
  clear hw2 hb1 hb2 hb2' t0 n0 hpa hpa1
  go_wp2_with (go_at_call 70; refine (leaf_any _ none _ ?_).mono ?_; (focus go_simp); rintro e w' ⟨rfl, rfl⟩)
  go_quiet (fail)
  go_wp2_with fail
  go_ret3
  exact ⟨rfl, hF.idle (hcc.drewN _), hcc.drewN _⟩
end Go.Proofs.Ytkgcjgedpefhjaa
