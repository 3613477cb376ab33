/- Plain facts on worlds: what a call may change (Chg), and rows of cells in a block (RowAt). No program in sight. -/
import Derived.WalkKit
import Derived.WalkSpells
import Derived.Lib.Hide
import Derived.Deep.Draws
namespace Go.Proofs.Ytojplcbkiogcpaa
set_option linter.unusedSimpArgs false
set_option linter.unusedVariables false
open Go.RowKit

/-- From w to w' only the cells of A have changed (and new blocks have come). -/
structure Chg (A : Nat → Nat → Prop) (w w' : World) : Prop where
  os : w'.os = w.os
  tape : w'.tape = w.tape
  output : w'.output = w.output
  size : w.heap.size ≤ w'.heap.size
  cells : ∀ b c T fr, w.heap[b]? = some (.cells c T fr) → ∃ c', w'.heap[b]? = some (.cells c' T fr) ∧ c'.size = c.size ∧ ∀ o, ¬ A b o → c'[o]? = c[o]?
  other : ∀ b, b < w.heap.size → (∀ c T fr, w.heap[b]? ≠ some (.cells c T fr)) → w'.heap[b]? = w.heap[b]?

theorem heap_lt {w : World} {b : Nat} {o : Obj} (h : w.heap[b]? = some o) : b < w.heap.size := (Array.getElem?_eq_some_iff.1 h).1

theorem Chg.refl (A : Nat → Nat → Prop) (w : World) : Chg A w w := ⟨rfl, rfl, rfl, Nat.le_refl _, fun _ c _ _ h => ⟨c, h, rfl, fun _ _ => rfl⟩, fun _ _ _ => rfl⟩

theorem Chg.trans' {A A' B : Nat → Nat → Prop} {w w1 w2 : World} (h : Chg A w w1) (k : Chg A' w1 w2)
    (ha : ∀ b o, b < w.heap.size → A b o → B b o) (hb : ∀ b o, b < w.heap.size → A' b o → B b o) : Chg B w w2 := by
  refine ⟨k.os.trans h.os, k.tape.trans h.tape, k.output.trans h.output, Nat.le_trans h.size k.size, ?_, ?_⟩
  · intro b c T fr hc
    have hlt := heap_lt hc
    obtain ⟨c1, h1, s1, e1⟩ := h.cells b c T fr hc
    obtain ⟨c2, h2, s2, e2⟩ := k.cells b c1 T fr h1
    exact ⟨c2, h2, s2.trans s1, fun o ho => (e2 o (fun x => ho (hb b o hlt x))).trans (e1 o (fun x => ho (ha b o hlt x)))⟩
  · intro b hlt hn
    have h1 := h.other b hlt hn
    rw [← h1]
    refine k.other b (Nat.lt_of_lt_of_le hlt h.size) ?_
    intro c T fr hc
    rw [h1] at hc
    exact hn c T fr hc

theorem Chg.trans {A : Nat → Nat → Prop} {w w1 w2 : World} (h : Chg A w w1) (k : Chg A w1 w2) : Chg A w w2 := h.trans' k (fun _ _ _ x => x) (fun _ _ _ x => x)

theorem Chg.mono {A B : Nat → Nat → Prop} {w w1 : World} (h : Chg A w w1) (hab : ∀ b o, b < w.heap.size → A b o → B b o) : Chg B w w1 :=
  h.trans' (Chg.refl B w1) hab (fun _ _ _ x => x)

theorem Chg.drewN {A : Nat → Nat → Prop} {w w1 : World} (h : Chg A w w1) (n : Nat) : Chg A w (w1.drewN n) := ⟨h.os, h.tape, h.output, h.size, h.cells, h.other⟩
theorem Chg.drew {A : Nat → Nat → Prop} {w w1 : World} (h : Chg A w w1) : Chg A w w1.drew := ⟨h.os, h.tape, h.output, h.size, h.cells, h.other⟩

theorem Chg.alloc {A : Nat → Nat → Prop} {w w1 : World} (h : Chg A w w1) (o : Obj) : Chg A w (w1.alloc o) := by
  refine h.trans ⟨rfl, rfl, rfl, by simp, ?_, ?_⟩
  · intro b c T fr hc
    exact ⟨c, by rw [Below.heap_alloc w1 o b (heap_lt hc)]; exact hc, rfl, fun _ _ => rfl⟩
  · intro b hlt _
    exact Below.heap_alloc w1 o b hlt

theorem Chg.setCell {A : Nat → Nat → Prop} {w w1 : World} (h : Chg A w w1) {a : Addr} (ha : A a.block a.off ∨ w.heap.size ≤ a.block) (v : Value) : Chg A w (w1.setCell a v) := by
  refine h.trans' (A' := fun b o => b = a.block ∧ o = a.off) ⟨rfl, rfl, rfl, by simp, ?_, ?_⟩ (fun _ _ _ x => x) ?_
  · intro b c T fr hc
    by_cases hb : b = a.block
    · subst hb
      refine ⟨if a.spot.isSome then c else c.setIfInBounds a.off v, ?_, ?_, ?_⟩
      · simp [World.setCell, Array.getElem?_modify, hc]
      · split <;> simp
      · intro o ho
        have : o ≠ a.off := fun h => ho ⟨rfl, h⟩
        split
        · rfl
        · exact Array.getElem?_setIfInBounds_ne (Ne.symm this)
    · exact ⟨c, by rw [Below.heap_setCell w1 a v b hb]; exact hc, rfl, fun _ _ => rfl⟩
  · intro b hlt hn
    by_cases hb : b = a.block
    · subst hb
      cases hq : w1.heap[a.block]? with
      | none => simp [World.setCell, Array.getElem?_modify, hq]
      | some q =>
        cases q with
        | cells c T fr => exact absurd hq (hn c T fr)
        | _ => simp [World.setCell, Array.getElem?_modify, hq]
    · exact Below.heap_setCell w1 a v b hb
  · rintro b o hlt ⟨rfl, rfl⟩
    rcases ha with ha | ha
    · exact ha
    · omega

theorem Chg.of_below {w w' : World} (h : Below w.heap.size w w') : Chg (fun _ _ => False) w w' :=
  ⟨h.os, h.tape, h.output, h.size, fun b c T fr hc => ⟨c, by rw [h.block b (heap_lt hc)]; exact hc, rfl, fun _ _ => rfl⟩, fun b hlt _ => h.block b hlt⟩

/-- A block none of whose cells is in A is as it was. -/
theorem Chg.block {A : Nat → Nat → Prop} {w w' : World} (h : Chg A w w') {b : Nat} (hb : b < w.heap.size) (hA : ∀ o, ¬ A b o) : w'.heap[b]? = w.heap[b]? := by
  cases hq : w.heap[b]? with
  | none => exact absurd hb (by simpa using hq)
  | some q =>
    cases q with
    | cells c T fr =>
      obtain ⟨c', h1, h2, h3⟩ := h.cells b c T fr hq
      rw [h1]
      have : c' = c := Array.ext_getElem? fun i => h3 i (hA i)
      rw [this]
    | _ => rw [← hq]; exact h.other b hb (by rw [hq]; simp)

theorem Chg.below {A : Nat → Nat → Prop} {w w' : World} {B : Nat} (h : Chg A w w') (hB : B ≤ w.heap.size) (hA : ∀ b o, b < B → ¬ A b o) : Below B w w' :=
  ⟨h.os, h.tape, h.output, h.size, fun k hk => h.block (Nat.lt_of_lt_of_le hk hB) (fun o => hA k o hk)⟩

theorem Chg.cell {A : Nat → Nat → Prop} {w w' : World} (h : Chg A w w') {a : Addr} {v : Value} (hA : ¬ A a.block a.off) (hv : w.cell? a = some v) : w'.cell? a = some v := by
  unfold World.cell? at hv ⊢
  cases hq : w.heap[a.block]? with
  | none => simp [hq] at hv
  | some q =>
    cases q with
    | cells c T fr =>
      obtain ⟨c', h1, h2, h3⟩ := h.cells _ c T fr hq
      simp only [hq] at hv
      simp only [h1]
      split at hv
      · exact absurd hv (by simp)
      · rename_i hs
        simp only [hs]
        rw [if_neg (by simp)]
        rw [h3 _ hA]; exact hv
    | _ => simp [hq] at hv

theorem Chg.frozen {A : Nat → Nat → Prop} {w w' : World} (h : Chg A w w') {a : Addr} (hb : a.block < w.heap.size) : w'.frozen? a = w.frozen? a := by
  unfold World.frozen?
  cases hq : w.heap[a.block]? with
  | none => exact absurd hb (by simpa using hq)
  | some q =>
    cases q with
    | cells c T fr =>
      obtain ⟨c', h1, h2, h3⟩ := h.cells _ c T fr hq
      simp only [h1]
    | _ => rw [h.other _ hb (by rw [hq]; simp), hq]

/-- m cells of block b (of cells of type T) from o on, the first of them xs; none frozen. -/
def RowAt (w : World) (T b o m : Nat) (xs : List Value) : Prop :=
  xs.length ≤ m ∧ ∃ c : Array Value, w.heap[b]? = some (.cells c T (0, 0)) ∧ o + m ≤ c.size ∧ ∀ j, j < xs.length → c[o + j]? = xs[j]?

theorem RowAt.lt {w : World} {T b o m : Nat} {xs : List Value} (h : RowAt w T b o m xs) : b < w.heap.size := by
  obtain ⟨_, c, h1, _⟩ := h
  exact heap_lt h1

theorem RowAt.cell {w : World} {T b o m : Nat} {xs : List Value} (h : RowAt w T b o m xs) {j : Nat} {v : Value} (hj : xs[j]? = some v) : w.cell? ⟨b, o + j, none⟩ = some v := by
  obtain ⟨_, c, h1, h2, h3⟩ := h
  have hlt := (List.getElem?_eq_some_iff.1 hj).1
  simp [World.cell?, h1, h3 j hlt, hj]

theorem RowAt.there {w : World} {T b o m : Nat} {xs : List Value} (h : RowAt w T b o m xs) {j : Nat} (hj : j < m) : ∃ v, w.cell? ⟨b, o + j, none⟩ = some v := by
  obtain ⟨_, c, h1, h2, h3⟩ := h
  exact ⟨c[o + j]'(by omega), by simp [World.cell?, h1]⟩

theorem RowAt.frozen {w : World} {T b o m : Nat} {xs : List Value} (h : RowAt w T b o m xs) (j : Nat) : w.frozen? ⟨b, j, none⟩ = false := by
  obtain ⟨_, c, h1, h2, h3⟩ := h
  simp [World.frozen?, h1]

/-- The row behind a change that leaves its first cells alone. -/
theorem RowAt.chg {A : Nat → Nat → Prop} {w w' : World} {T b o m : Nat} {xs : List Value} (h : RowAt w T b o m xs) (k : Chg A w w') (hA : ∀ j, j < xs.length → ¬ A b (o + j)) : RowAt w' T b o m xs := by
  obtain ⟨h0, c, h1, h2, h3⟩ := h
  obtain ⟨c', k1, k2, k3⟩ := k.cells b c T (0, 0) h1
  exact ⟨h0, c', k1, by omega, fun j hj => by rw [k3 _ (hA j hj)]; exact h3 j hj⟩

/-- A part of a row. -/
theorem RowAt.part {w : World} {T b o m : Nat} {xs : List Value} (h : RowAt w T b o m xs) (i n m' : Nat) (hn : i + n ≤ xs.length) (hm : n ≤ m') (hm' : i + m' ≤ m) :
    RowAt w T b (o + i) m' ((xs.drop i).take n) := by
  obtain ⟨h0, c, h1, h2, h3⟩ := h
  have hl : ((xs.drop i).take n).length = n := by simp; omega
  refine ⟨by omega, c, h1, by omega, fun j hj => ?_⟩
  rw [show o + i + j = o + (i + j) by omega, h3 (i + j) (by omega)]
  rw [List.getElem?_take_of_lt (by omega), List.getElem?_drop]

/-- A store into a cell of the row. -/
theorem RowAt.setCell {w : World} {T b o m : Nat} {xs : List Value} (h : RowAt w T b o m xs) (j : Nat) (v : Value) : RowAt (w.setCell ⟨b, o + j, none⟩ v) T b o m (xs.set j v) := by
  obtain ⟨h0, c, h1, h2, h3⟩ := h
  refine ⟨by simpa using h0, c.setIfInBounds (o + j) v, ?_, by simpa using h2, fun i hi => ?_⟩
  · simp [World.setCell, Array.getElem?_modify, h1]
  · have hi' : i < xs.length := by simpa using hi
    by_cases hij : j = i
    · subst hij
      rw [Array.getElem?_setIfInBounds_self_of_lt (by omega), List.getElem?_set_self hi']
    · rw [Array.getElem?_setIfInBounds_ne (by omega), List.getElem?_set_ne hij]
      exact h3 i hi'

theorem RowAt.drewN {w : World} {T b o m : Nat} {xs : List Value} (h : RowAt w T b o m xs) (n : Nat) : RowAt (w.drewN n) T b o m xs := h
theorem RowAt.drew {w : World} {T b o m : Nat} {xs : List Value} (h : RowAt w T b o m xs) : RowAt w.drew T b o m xs := h
theorem RowAt.alloc {w : World} {T b o m : Nat} {xs : List Value} (h : RowAt w T b o m xs) (ob : Obj) : RowAt (w.alloc ob) T b o m xs :=
  h.chg ((Chg.refl (fun _ _ => False) w).alloc ob) (by simp)

theorem RowAt.of_block {w : World} {T b o : Nat} {c : Array Value} (h : w.heap[b]? = some (.cells c T (0, 0))) (m : Nat) (xs : List Value) (h0 : xs.length ≤ m) (h1 : o + m ≤ c.size) (h2 : ∀ j, j < xs.length → c[o + j]? = xs[j]?) : RowAt w T b o m xs :=
  ⟨h0, c, h, h1, h2⟩

end Go.Proofs.Ytojplcbkiogcpaa
