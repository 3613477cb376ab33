/- Trees: an item replaced, a leaf grown, a node parted. -/
import Derived.WalkKit
import Derived.WalkSpells
import Derived.Lib.Hide
import Derived.Deep.Draws
import Derived.Laws.CopyRow
import Derived.Laws.CopyOwn
import Derived.WalkLawsBesides
import Derived.RegionTactic
import Derived.ChangeAlike
import Derived.Deep.QuietTactic
import Derived.BigQuiet
import Derived.BigRegion
import Derived.StillTailTactics
import Derived.Deep.RegionHeld3
import Derived.Test.YtpgaedmhgchgeaaRows
namespace Go.Proofs.Ytpgaedmhgchgeaa
set_option linter.unusedSimpArgs false
set_option linter.unusedVariables false
open Go.RowKit

/-- From w to w' only the cells of A have changed (and new blocks have come). -/
structure Chg (A : Nat → Nat → Prop) (w w' : World) : Prop where
  os : w'.os = w.os
  tape : w'.tape = w.tape
  output : w'.output = w.output
  size : w.heap.size ≤ w'.heap.size
  cells : ∀ b c T fr, w.heap[b]? = some (.cells c T fr) → ∃ c', w'.heap[b]? = some (.cells c' T fr) ∧ c'.size = c.size ∧ ∀ o, ¬ A b o → c'[o]? = c[o]?
  other : ∀ b, b < w.heap.size → (∀ c T fr, w.heap[b]? ≠ some (.cells c T fr)) → w'.heap[b]? = w.heap[b]?

theorem heap_lt {w : World} {b : Nat} {o : Obj} (h : w.heap[b]? = some o) : b < w.heap.size := (Array.getElem?_eq_some_iff.1 h).1

theorem Chg.refl (A : Nat → Nat → Prop) (w : World) : Chg A w w := ⟨rfl, rfl, rfl, Nat.le_refl _, fun _ c _ _ h => ⟨c, h, rfl, fun _ _ => rfl⟩, fun _ _ _ => rfl⟩

theorem Chg.trans' {A A' B : Nat → Nat → Prop} {w w1 w2 : World} (h : Chg A w w1) (k : Chg A' w1 w2)
    (ha : ∀ b o, b < w.heap.size → A b o → B b o) (hb : ∀ b o, b < w.heap.size → A' b o → B b o) : Chg B w w2 := by
  refine ⟨k.os.trans h.os, k.tape.trans h.tape, k.output.trans h.output, Nat.le_trans h.size k.size, ?_, ?_⟩
  · intro b c T fr hc
    have hlt := heap_lt hc
    obtain ⟨c1, h1, s1, e1⟩ := h.cells b c T fr hc
    obtain ⟨c2, h2, s2, e2⟩ := k.cells b c1 T fr h1
    exact ⟨c2, h2, s2.trans s1, fun o ho => (e2 o (fun x => ho (hb b o hlt x))).trans (e1 o (fun x => ho (ha b o hlt x)))⟩
  · intro b hlt hn
    have h1 := h.other b hlt hn
    rw [← h1]
    refine k.other b (Nat.lt_of_lt_of_le hlt h.size) ?_
    intro c T fr hc
    rw [h1] at hc
    exact hn c T fr hc

theorem Chg.trans {A : Nat → Nat → Prop} {w w1 w2 : World} (h : Chg A w w1) (k : Chg A w1 w2) : Chg A w w2 := h.trans' k (fun _ _ _ x => x) (fun _ _ _ x => x)

theorem Chg.mono {A B : Nat → Nat → Prop} {w w1 : World} (h : Chg A w w1) (hab : ∀ b o, b < w.heap.size → A b o → B b o) : Chg B w w1 :=
  h.trans' (Chg.refl B w1) hab (fun _ _ _ x => x)

theorem Chg.drewN {A : Nat → Nat → Prop} {w w1 : World} (h : Chg A w w1) (n : Nat) : Chg A w (w1.drewN n) := ⟨h.os, h.tape, h.output, h.size, h.cells, h.other⟩
theorem Chg.drew {A : Nat → Nat → Prop} {w w1 : World} (h : Chg A w w1) : Chg A w w1.drew := ⟨h.os, h.tape, h.output, h.size, h.cells, h.other⟩

theorem Chg.alloc {A : Nat → Nat → Prop} {w w1 : World} (h : Chg A w w1) (o : Obj) : Chg A w (w1.alloc o) := by
  refine h.trans ⟨rfl, rfl, rfl, by simp, ?_, ?_⟩
  · intro b c T fr hc
    exact ⟨c, by rw [Below.heap_alloc w1 o b (heap_lt hc)]; exact hc, rfl, fun _ _ => rfl⟩
  · intro b hlt _
    exact Below.heap_alloc w1 o b hlt

theorem Chg.setCell {A : Nat → Nat → Prop} {w w1 : World} (h : Chg A w w1) {a : Addr} (ha : A a.block a.off ∨ w.heap.size ≤ a.block) (v : Value) : Chg A w (w1.setCell a v) := by
  refine h.trans' (A' := fun b o => b = a.block ∧ o = a.off) ⟨rfl, rfl, rfl, by simp, ?_, ?_⟩ (fun _ _ _ x => x) ?_
  · intro b c T fr hc
    by_cases hb : b = a.block
    · subst hb
      refine ⟨if a.spot.isSome then c else c.setIfInBounds a.off v, ?_, ?_, ?_⟩
      · simp [World.setCell, Array.getElem?_modify, hc]
      · split <;> simp
      · intro o ho
        have : o ≠ a.off := fun h => ho ⟨rfl, h⟩
        split
        · rfl
        · exact Array.getElem?_setIfInBounds_ne (Ne.symm this)
    · exact ⟨c, by rw [Below.heap_setCell w1 a v b hb]; exact hc, rfl, fun _ _ => rfl⟩
  · intro b hlt hn
    by_cases hb : b = a.block
    · subst hb
      cases hq : w1.heap[a.block]? with
      | none => simp [World.setCell, Array.getElem?_modify, hq]
      | some q =>
        cases q with
        | cells c T fr => exact absurd hq (hn c T fr)
        | _ => simp [World.setCell, Array.getElem?_modify, hq]
    · exact Below.heap_setCell w1 a v b hb
  · rintro b o hlt ⟨rfl, rfl⟩
    rcases ha with ha | ha
    · exact ha
    · omega

theorem Chg.of_below {w w' : World} (h : Below w.heap.size w w') : Chg (fun _ _ => False) w w' :=
  ⟨h.os, h.tape, h.output, h.size, fun b c T fr hc => ⟨c, by rw [h.block b (heap_lt hc)]; exact hc, rfl, fun _ _ => rfl⟩, fun b hlt _ => h.block b hlt⟩

/-- A block none of whose cells is in A is as it was. -/
theorem Chg.block {A : Nat → Nat → Prop} {w w' : World} (h : Chg A w w') {b : Nat} (hb : b < w.heap.size) (hA : ∀ o, ¬ A b o) : w'.heap[b]? = w.heap[b]? := by
  cases hq : w.heap[b]? with
  | none => exact absurd hb (by simpa using hq)
  | some q =>
    cases q with
    | cells c T fr =>
      obtain ⟨c', h1, h2, h3⟩ := h.cells b c T fr hq
      rw [h1]
      have : c' = c := Array.ext_getElem? fun i => h3 i (hA i)
      rw [this]
    | _ => rw [← hq]; exact h.other b hb (by rw [hq]; simp)

theorem Chg.below {A : Nat → Nat → Prop} {w w' : World} {B : Nat} (h : Chg A w w') (hB : B ≤ w.heap.size) (hA : ∀ b o, b < B → ¬ A b o) : Below B w w' :=
  ⟨h.os, h.tape, h.output, h.size, fun k hk => h.block (Nat.lt_of_lt_of_le hk hB) (fun o => hA k o hk)⟩

theorem Chg.cell {A : Nat → Nat → Prop} {w w' : World} (h : Chg A w w') {a : Addr} {v : Value} (hA : ¬ A a.block a.off) (hv : w.cell? a = some v) : w'.cell? a = some v := by
  unfold World.cell? at hv ⊢
  cases hq : w.heap[a.block]? with
  | none => simp [hq] at hv
  | some q =>
    cases q with
    | cells c T fr =>
      obtain ⟨c', h1, h2, h3⟩ := h.cells _ c T fr hq
      simp only [hq] at hv
      simp only [h1]
      split at hv
      · exact absurd hv (by simp)
      · rename_i hs
        simp only [hs]
        rw [if_neg (by simp)]
        rw [h3 _ hA]; exact hv
    | _ => simp [hq] at hv

theorem Chg.frozen {A : Nat → Nat → Prop} {w w' : World} (h : Chg A w w') {a : Addr} (hb : a.block < w.heap.size) : w'.frozen? a = w.frozen? a := by
  unfold World.frozen?
  cases hq : w.heap[a.block]? with
  | none => exact absurd hb (by simpa using hq)
  | some q =>
    cases q with
    | cells c T fr =>
      obtain ⟨c', h1, h2, h3⟩ := h.cells _ c T fr hq
      simp only [h1]
    | _ => rw [h.other _ hb (by rw [hq]; simp), hq]

/-- m cells of block b (of cells of type T) from o on, the first of them xs; none frozen. -/
def RowAt (w : World) (T b o m : Nat) (xs : List Value) : Prop :=
  xs.length ≤ m ∧ ∃ c : Array Value, w.heap[b]? = some (.cells c T (0, 0)) ∧ o + m ≤ c.size ∧ ∀ j, j < xs.length → c[o + j]? = xs[j]?

theorem RowAt.lt {w : World} {T b o m : Nat} {xs : List Value} (h : RowAt w T b o m xs) : b < w.heap.size := by
  obtain ⟨_, c, h1, _⟩ := h
  exact heap_lt h1

theorem RowAt.cell {w : World} {T b o m : Nat} {xs : List Value} (h : RowAt w T b o m xs) {j : Nat} {v : Value} (hj : xs[j]? = some v) : w.cell? ⟨b, o + j, none⟩ = some v := by
  obtain ⟨_, c, h1, h2, h3⟩ := h
  have hlt := (List.getElem?_eq_some_iff.1 hj).1
  simp [World.cell?, h1, h3 j hlt, hj]

theorem RowAt.there {w : World} {T b o m : Nat} {xs : List Value} (h : RowAt w T b o m xs) {j : Nat} (hj : j < m) : ∃ v, w.cell? ⟨b, o + j, none⟩ = some v := by
  obtain ⟨_, c, h1, h2, h3⟩ := h
  exact ⟨c[o + j]'(by omega), by simp [World.cell?, h1]⟩

theorem RowAt.frozen {w : World} {T b o m : Nat} {xs : List Value} (h : RowAt w T b o m xs) (j : Nat) : w.frozen? ⟨b, j, none⟩ = false := by
  obtain ⟨_, c, h1, h2, h3⟩ := h
  simp [World.frozen?, h1]

/-- The row behind a change that leaves its first cells alone. -/
theorem RowAt.chg {A : Nat → Nat → Prop} {w w' : World} {T b o m : Nat} {xs : List Value} (h : RowAt w T b o m xs) (k : Chg A w w') (hA : ∀ j, j < xs.length → ¬ A b (o + j)) : RowAt w' T b o m xs := by
  obtain ⟨h0, c, h1, h2, h3⟩ := h
  obtain ⟨c', k1, k2, k3⟩ := k.cells b c T (0, 0) h1
  exact ⟨h0, c', k1, by omega, fun j hj => by rw [k3 _ (hA j hj)]; exact h3 j hj⟩

/-- A part of a row. -/
theorem RowAt.part {w : World} {T b o m : Nat} {xs : List Value} (h : RowAt w T b o m xs) (i n m' : Nat) (hn : i + n ≤ xs.length) (hm : n ≤ m') (hm' : i + m' ≤ m) :
    RowAt w T b (o + i) m' ((xs.drop i).take n) := by
  obtain ⟨h0, c, h1, h2, h3⟩ := h
  have hl : ((xs.drop i).take n).length = n := by simp; omega
  refine ⟨by omega, c, h1, by omega, fun j hj => ?_⟩
  rw [show o + i + j = o + (i + j) by omega, h3 (i + j) (by omega)]
  rw [List.getElem?_take_of_lt (by omega), List.getElem?_drop]

/-- A store into a cell of the row. -/
theorem RowAt.setCell {w : World} {T b o m : Nat} {xs : List Value} (h : RowAt w T b o m xs) (j : Nat) (v : Value) : RowAt (w.setCell ⟨b, o + j, none⟩ v) T b o m (xs.set j v) := by
  obtain ⟨h0, c, h1, h2, h3⟩ := h
  refine ⟨by simpa using h0, c.setIfInBounds (o + j) v, ?_, by simpa using h2, fun i hi => ?_⟩
  · simp [World.setCell, Array.getElem?_modify, h1]
  · have hi' : i < xs.length := by simpa using hi
    by_cases hij : j = i
    · subst hij
      rw [Array.getElem?_setIfInBounds_self_of_lt (by omega), List.getElem?_set_self hi']
    · rw [Array.getElem?_setIfInBounds_ne (by omega), List.getElem?_set_ne hij]
      exact h3 i hi'

theorem RowAt.drewN {w : World} {T b o m : Nat} {xs : List Value} (h : RowAt w T b o m xs) (n : Nat) : RowAt (w.drewN n) T b o m xs := h
theorem RowAt.drew {w : World} {T b o m : Nat} {xs : List Value} (h : RowAt w T b o m xs) : RowAt w.drew T b o m xs := h
theorem RowAt.alloc {w : World} {T b o m : Nat} {xs : List Value} (h : RowAt w T b o m xs) (ob : Obj) : RowAt (w.alloc ob) T b o m xs :=
  h.chg ((Chg.refl (fun _ _ => False) w).alloc ob) (by simp)

theorem RowAt.of_block {w : World} {T b o : Nat} {c : Array Value} (h : w.heap[b]? = some (.cells c T (0, 0))) (m : Nat) (xs : List Value) (h0 : xs.length ≤ m) (h1 : o + m ≤ c.size) (h2 : ∀ j, j < xs.length → c[o + j]? = xs[j]?) : RowAt w T b o m xs :=
  ⟨h0, c, h, h1, h2⟩

end Go.Proofs.Ytpgaedmhgchgeaa

namespace Go.Proofs.Ytpgaedmhgchgeaa
set_option linter.unusedSimpArgs false
set_option linter.unusedVariables false
open Go.RowKit

/-- The cells of block b from o on are overwritten by cs. -/
def putCells (w : World) (b o : Nat) (cs : List Value) : World :=
  match w.heap[b]? with
  | some (.cells c _ _) => w.setRow b (c.toList.take o ++ cs ++ c.toList.drop (o + cs.length)).toArray
  | _ => w

theorem putCells_heap {w : World} {b o : Nat} {cs : List Value} {c : Array Value} {T : TypeId} {fr : Nat × Nat} (h : w.heap[b]? = some (.cells c T fr)) :
    (putCells w b o cs).heap[b]? = some (.cells (c.toList.take o ++ cs ++ c.toList.drop (o + cs.length)).toArray T fr) := by
  simp only [putCells, h]
  exact setRow_heap w b c _ T fr h

theorem splice_get {l cs : List Value} {o i : Nat} (h : o + cs.length ≤ l.length) :
    (l.take o ++ cs ++ l.drop (o + cs.length))[i]? = if o ≤ i ∧ i < o + cs.length then cs[i - o]? else l[i]? := by
  have hl : (l.take o).length = o := by simp; omega
  split
  · rename_i hi
    rw [List.append_assoc, List.getElem?_append_right (by omega), hl, List.getElem?_append_left (by omega)]
  · rename_i hi
    rcases Nat.lt_or_ge i o with h1 | h1
    · rw [List.append_assoc, List.getElem?_append_left (by omega), List.getElem?_take_of_lt h1]
    · rw [List.getElem?_append_right (by simp; omega), List.getElem?_drop]
      congr 1
      simp only [List.length_append, hl]
      omega

theorem putCells_chg {A : Nat → Nat → Prop} {w0 w : World} (h : Chg A w0 w) {b o : Nat} {cs : List Value} {c : Array Value} {T : TypeId} {fr : Nat × Nat} (hb : w.heap[b]? = some (.cells c T fr))
    (hfit : o + cs.length ≤ c.size) (hA : (∀ i, o ≤ i → i < o + cs.length → A b i) ∨ w0.heap.size ≤ b) : Chg A w0 (putCells w b o cs) := by
  refine h.trans' (A' := fun b' i => b' = b ∧ o ≤ i ∧ i < o + cs.length) ?_ (fun _ _ _ x => x) ?_
  · refine ⟨by simp only [putCells, hb]; rfl, by simp only [putCells, hb]; rfl, by simp only [putCells, hb]; rfl, by simp only [putCells, hb]; simp, ?_, ?_⟩
    · intro b' c' T' fr' hc
      by_cases hbb : b' = b
      · subst hbb
        rw [hb] at hc
        obtain ⟨rfl, rfl, rfl⟩ : c = c' ∧ T = T' ∧ fr = fr' := by simpa using hc
        refine ⟨_, putCells_heap hb, ?_, ?_⟩
        · simp; omega
        · intro i hi
          have := splice_get (l := c.toList) (cs := cs) (o := o) (i := i) (by simpa using hfit)
          rw [if_neg (fun x => hi ⟨rfl, x.1, x.2⟩)] at this
          simpa using this
      · refine ⟨c', ?_, rfl, fun _ _ => rfl⟩
        simp only [putCells, hb]
        rw [setRow_other w b b' _ hbb]; exact hc
    · intro b' _ hn
      have hbb : b' ≠ b := fun e => hn c T fr (e ▸ hb)
      simp only [putCells, hb]
      exact setRow_other w b b' _ hbb
  · rintro b' i hlt ⟨rfl, h1, h2⟩
    rcases hA with hA | hA
    · exact hA i h1 h2
    · omega

theorem RowAt.putCells {w : World} {T b o m : Nat} {xs : List Value} (h : RowAt w T b o m xs) (i : Nat) (cs : List Value) (hi : i ≤ xs.length) (hm : i + cs.length ≤ m) :
    RowAt (putCells w b (o + i) cs) T b o m (xs.take i ++ cs ++ xs.drop (i + cs.length)) := by
  obtain ⟨h0, c, h1, h2, h3⟩ := h
  refine ⟨by simp; omega, _, putCells_heap h1, by simp; omega, fun j hj => ?_⟩
  have e := splice_get (l := c.toList) (cs := cs) (o := o + i) (i := o + j) (by simp; omega)
  have hl : (xs.take i).length = i := by simp; omega
  have e' : (xs.take i ++ cs ++ xs.drop (i + cs.length))[j]? = if i ≤ j ∧ j < i + cs.length then cs[j - i]? else xs[j]? := by
    split
    · rw [List.append_assoc, List.getElem?_append_right (by omega), hl, List.getElem?_append_left (by omega)]
    · rcases Nat.lt_or_ge j i with h1 | h1
      · rw [List.append_assoc, List.getElem?_append_left (by omega), List.getElem?_take_of_lt h1]
      · rw [List.getElem?_append_right (by simp; omega), List.getElem?_drop]
        congr 1
        simp only [List.length_append, hl]
        omega
  rw [e', List.getElem?_toArray, e]
  by_cases hc : i ≤ j ∧ j < i + cs.length
  · rw [if_pos hc, if_pos (by omega)]
    congr 1; omega
  · rw [if_neg hc, if_neg (by omega)]
    simp only [Array.getElem?_toList]
    refine h3 j ?_
    rw [List.length_append, List.length_append, hl] at hj
    simp at hj
    omega

theorem add_none (b o j : Nat) : ({ block := b, off := o, spot := none } : Addr).add j = ⟨b, o + j, none⟩ := by
  unfold Addr.add; split <;> simp_all

theorem RowAt.adds {w : World} {T b o m : Nat} {xs : List Value} (h : RowAt w T b o m xs) : ∀ j v, xs[j]? = some v → w.cell? (({ block := b, off := o, spot := none } : Addr).add j) = some v := by
  intro j v hj
  rw [add_none]; exact h.cell hj

section
variable {P : Program}

/-- What append gives: the slice and the world. -/
structure Appd (e size : Nat) (w : World) (b o len cap : Nat) (xs news : List Value) (m : Nat) (b' o' cap' : Nat) (w' : World) : Prop where
  row : RowAt w' e b' o' (cap' * size) (xs ++ news)
  chg : Chg (fun B O => B = b ∧ o + len * size ≤ O ∧ O < o + cap * size) w w'
  room : len + m ≤ cap'
  place : (b' = b ∧ o' = o ∧ cap' = cap) ∨ (w.heap.size ≤ b' ∧ o' = 0 ∧ cap < len + m ∧ cap' ≤ maxLen)

theorem run_append_row (w : World) (t ty e : TypeId) (i : TypeInfo) (z : Value) (size bytes : Nat) (ht : P.underlying t = some (.slice e)) (hi : P.info? e = some i) (hz : i.zero = some z)
    (hsize : i.size = size) (hby : i.bytes = bytes) (hzs : z.cells.size = size)
    (b o len cap : Nat) (xs : List Value) (hrow : RowAt w e b o (cap * size) xs) (hxs : xs.length = len * size)
    (ad : Addr) (m c : Nat) (news : List Value) (hl : news.length = m * size) (hnews : ∀ j u, news[j]? = some u → w.cell? (ad.add j) = some u) (h1 : ∀ u ∈ news, u.oneCell' = true)
    (h63 : len + m ≤ maxLen) (hbytes : (len + m) * bytes ≤ 140737488355328) :
    ∃ b' o' cap' w', (Builtin.append_ #[t, t] ty #[.slice (some ⟨b, o, none⟩) len cap, .slice (some ad) m c]).run P w = .ok (.slice (some ⟨b', o', none⟩) (len + m) cap') w' ∧ Appd e size w b o len cap xs news m b' o' cap' w' := by
  subst hsize
  subst hby
  have hsmall : len + m ≤ 9223372036854775807 := by simp only [maxLen] at h63; omega
  have hrow' := hrow
  obtain ⟨h0, cc, hg, hfit, hcs⟩ := hrow
  by_cases hroom : len + m ≤ cap
  · have hmul : (len + m) * i.size ≤ cap * i.size := Nat.mul_le_mul_right _ hroom
    rw [Nat.add_mul] at hmul
    refine ⟨b, o, cap, Ytpgaedmhgchgeaa.putCells w b (o + len * i.size) news, ?_, ?_, ?_, hroom, .inl ⟨rfl, rfl, rfl⟩⟩
    · have hf := run_firstCells_some (P := P) w i.size m ad m c news hl hnews
      have hst := run_storeCells_at P b (o + len * i.size) e news 0 cc w hg (by omega) h1
      simp only [Nat.add_zero] at hst
      simp only [Ytpgaedmhgchgeaa.putCells, hg]
      simp [Builtin.append_, run_underlying ht, sizeOf, typeInfo, hi, Builtin.lenOf, hroom, hf, add_none, hst]
    · have := hrow'.putCells (len * i.size) news (by omega) (by omega)
      have e1 : xs.take (len * i.size) = xs := List.take_of_length_le (by omega)
      have e2 : xs.drop (len * i.size + news.length) = [] := List.drop_of_length_le (by omega)
      rw [e1, e2, List.append_nil] at this
      exact this
    · refine putCells_chg (Chg.refl _ _) hg (by omega) (.inl fun k h1 h2 => ⟨rfl, h1, by omega⟩)
  · have hr := run_append_grow (P := P) w t ty e i z ht hi hz ⟨b, o, none⟩ len cap xs hxs hrow'.adds ad m c news hl hnews (by omega) (by omega) (growslice_fits (by omega) hbytes)
    have hge := grownCap_ge w (len + m) cap e
    have hcm : grownCap w (len + m) cap e ≤ maxLen := grownCap_le_maxLen w (len + m) cap e h63
    refine ⟨_, _, _, _, hr, ?_, ((Chg.refl _ _).drew).alloc _, hge, .inr ⟨Nat.le_refl _, rfl, by omega, hcm⟩⟩
    have hs : (xs.toArray ++ news.toArray ++ Builtin.zeroCells z.cells (grownCap w (len + m) cap e - (len + m))).size = grownCap w (len + m) cap e * i.size := by
      simp only [Array.size_append, List.size_toArray, size_zeroCells, hzs, hxs, hl, ← Nat.add_mul]
      congr 1
      omega
    refine RowAt.of_block (heap_alloc_new w.drew _) _ _ ?_ ?_ ?_
    · rw [List.length_append, hxs, hl, ← Nat.add_mul]
      exact Nat.mul_le_mul_right _ hge
    · omega
    · intro j hj
      rw [Nat.zero_add, Array.getElem?_append_left (by simpa using hj)]
      simp

theorem wp_append_row {o' : Oper} {a : Act} {w : World} {K : Act → World → Prop} {Q : Exit → Act → World → Prop} (s x : Operand) (t : TypeId)
    (ho : o'.op = .call { callee := .builtin .append, args := #[s, x], argTypes := #[t, t] })
    (e : TypeId) (i : TypeInfo) (z : Value) (size bytes : Nat) (ht : P.underlying t = some (.slice e)) (hi : P.info? e = some i) (hz : i.zero = some z)
    (hsize : i.size = size) (hby : i.bytes = bytes) (hzs : z.cells.size = size)
    (b o len cap : Nat) (hs : a.eval s = .slice (some ⟨b, o, none⟩) len cap) (xs : List Value) (hrow : RowAt w e b o (cap * size) xs) (hxs : xs.length = len * size)
    (ad : Addr) (m c : Nat) (hx : a.eval x = .slice (some ad) m c) (news : List Value) (hl : news.length = m * size) (hnews : ∀ j u, news[j]? = some u → w.cell? (ad.add j) = some u) (h1 : ∀ u ∈ news, u.oneCell' = true)
    (h63 : len + m ≤ maxLen) (hbytes : (len + m) * bytes ≤ 140737488355328)
    (h : ∀ b' o1 cap' w', Appd e size w b o len cap xs news m b' o1 cap' w' → K (a.put o'.dst (.slice (some ⟨b', o1, none⟩) (len + m) cap')) w') : o'.wp P a w K Q := by
  obtain ⟨b', o1, cap', w', hr, h2⟩ := run_append_row (P := P) w t o'.type e i z size bytes ht hi hz hsize hby hzs b o len cap xs hrow hxs ad m c news hl hnews h1 h63 hbytes
  unfold Oper.wp execOp
  simp only [ho, resolve, invoke, builtin, Sem.run_bind, Sem.run_pure, Result.andThen_ok, List.map_toArray, List.map_cons, List.map_nil, hs, hx, hr]
  exact h b' o1 cap' w' h2

theorem wpList_append_row {ops : Array Oper} {rest : List Oper} {o' : Oper} {a : Act} {w : World} {Q : Exit → Act → World → Prop} (hgd : o'.guard = none) (s x : Operand) (t : TypeId)
    (ho : o'.op = .call { callee := .builtin .append, args := #[s, x], argTypes := #[t, t] })
    (e : TypeId) (i : TypeInfo) (z : Value) (size bytes : Nat) (ht : P.underlying t = some (.slice e)) (hi : P.info? e = some i) (hz : i.zero = some z)
    (hsize : i.size = size) (hby : i.bytes = bytes) (hzs : z.cells.size = size)
    (b o len cap : Nat) (hs : a.eval s = .slice (some ⟨b, o, none⟩) len cap) (xs : List Value) (hrow : RowAt w e b o (cap * size) xs) (hxs : xs.length = len * size)
    (ad : Addr) (m c : Nat) (hx : a.eval x = .slice (some ad) m c) (news : List Value) (hl : news.length = m * size) (hnews : ∀ j u, news[j]? = some u → w.cell? (ad.add j) = some u) (h1 : ∀ u ∈ news, u.oneCell' = true)
    (h63 : len + m ≤ maxLen) (hbytes : (len + m) * bytes ≤ 140737488355328)
    (h : ∀ b' o1 cap' w', Appd e size w b o len cap xs news m b' o1 cap' w' → wpList P ops Q rest (a.put o'.dst (.slice (some ⟨b', o1, none⟩) (len + m) cap')) w') : wpList P ops Q (o' :: rest) a w :=
  wpList_plain hgd fun _ hK => wp_append_row s x t ho e i z size bytes ht hi hz hsize hby hzs b o len cap hs xs hrow hxs ad m c hx news hl hnews h1 h63 hbytes fun b' o1 cap' w' h2 => hK _ _ (h b' o1 cap' w' h2)

theorem step_append_row {ops : Array Oper} {o' : Oper} {a : Act} {w : World} {K : Act → World → Prop} {Q : Exit → Act → World → Prop} {E : Prop} (hgd : o'.guard = none) (s x : Operand) (t : TypeId)
    (ho : o'.op = .call { callee := .builtin .append, args := #[s, x], argTypes := #[t, t] })
    (e : TypeId) (i : TypeInfo) (z : Value) (size bytes : Nat) (ht : P.underlying t = some (.slice e)) (hi : P.info? e = some i) (hz : i.zero = some z)
    (hsize : i.size = size) (hby : i.bytes = bytes) (hzs : z.cells.size = size)
    (b o len cap : Nat) (hs : a.eval s = .slice (some ⟨b, o, none⟩) len cap) (xs : List Value) (hrow : RowAt w e b o (cap * size) xs) (hxs : xs.length = len * size)
    (ad : Addr) (m c : Nat) (hx : a.eval x = .slice (some ad) m c) (news : List Value) (hl : news.length = m * size) (hnews : ∀ j u, news[j]? = some u → w.cell? (ad.add j) = some u) (h1 : ∀ u ∈ news, u.oneCell' = true)
    (h63 : len + m ≤ maxLen) (hbytes : (len + m) * bytes ≤ 140737488355328)
    (h : ∀ b' o1 cap' w', Appd e size w b o len cap xs news m b' o1 cap' w' → K (a.put o'.dst (.slice (some ⟨b', o1, none⟩) (len + m) cap')) w') :
    if Region.wanted o' (yielded ops a.tmps) = true then Oper.wp P o' a w K Q else E := by
  have hw : Region.wanted o' (yielded ops a.tmps) = true := by simp [Region.wanted, hgd]
  rw [if_pos hw]
  exact wp_append_row s x t ho e i z size bytes ht hi hz hsize hby hzs b o len cap hs xs hrow hxs ad m c hx news hl hnews h1 h63 hbytes h

/-- copy. -/
theorem run_copy_row (w : World) (dT sT ty elem : TypeId) (size : Nat) (hu : P.underlying dT = some (.slice elem)) (hsz : (P.info? elem).map (·.size) = some size)
    (b o dl dc : Nat) (sp : Addr) (sl sc : Nat) (cs : List Value) (hn : cs.length = Nat.min sl dl * size) (hsrc : ∀ j v, cs[j]? = some v → w.cell? (sp.add j) = some v)
    (c : Array Value) (T : TypeId) (hg : w.heap[b]? = some (.cells c T (0, 0))) (hfit : o + cs.length ≤ c.size) (h1 : ∀ u ∈ cs, u.oneCell' = true) :
    (Builtin.copy_ #[dT, sT] ty #[.slice (some ⟨b, o, none⟩) dl dc, .slice (some sp) sl sc]).run P w = .ok (goInt (Nat.min sl dl)) (putCells w b o cs) := by
  obtain ⟨i, hi, hs⟩ : ∃ i, P.info? elem = some i ∧ i.size = size := by
    cases h : P.info? elem with
    | none => simp [h] at hsz
    | some i => exact ⟨i, rfl, by simpa [h] using hsz⟩
  subst hs
  have hf := run_firstCells_some (P := P) w i.size (Nat.min sl dl) sp sl sc cs hn hsrc
  have hst := run_storeCells_at P b o T cs 0 c w hg (by omega) h1
  simp only [Nat.add_zero] at hst
  simp only [putCells, hg]
  simp [Builtin.copy_, run_underlying hu, sizeOf, typeInfo, hi, Builtin.lenOf, hf, hst]

theorem wp_copy_row {o' : Oper} {a : Act} {w : World} {K : Act → World → Prop} {Q : Exit → Act → World → Prop} (d s : Operand) (dT sT : TypeId)
    (ho : o'.op = .call { callee := .builtin .copy, args := #[d, s], argTypes := #[dT, sT] }) (elem : TypeId) (size : Nat) (hu : P.underlying dT = some (.slice elem)) (hsz : (P.info? elem).map (·.size) = some size)
    (b o dl dc : Nat) (hd : a.eval d = .slice (some ⟨b, o, none⟩) dl dc) (sp : Addr) (sl sc : Nat) (hs : a.eval s = .slice (some sp) sl sc)
    (cs : List Value) (hn : cs.length = Nat.min sl dl * size) (hsrc : ∀ j v, cs[j]? = some v → w.cell? (sp.add j) = some v)
    (c : Array Value) (T : TypeId) (hg : w.heap[b]? = some (.cells c T (0, 0))) (hfit : o + cs.length ≤ c.size) (h1 : ∀ u ∈ cs, u.oneCell' = true)
    (h : K (a.put o'.dst (goInt (Nat.min sl dl))) (putCells w b o cs)) : o'.wp P a w K Q := by
  have hr := run_copy_row (P := P) w dT sT o'.type elem size hu hsz b o dl dc sp sl sc cs hn hsrc c T hg hfit h1
  unfold Oper.wp execOp
  simp only [ho, resolve, invoke, builtin, Sem.run_bind, Sem.run_pure, Result.andThen_ok, List.map_toArray, List.map_cons, List.map_nil, hd, hs, hr]
  exact h

theorem wpList_copy_row {ops : Array Oper} {rest : List Oper} {o' : Oper} {a : Act} {w : World} {Q : Exit → Act → World → Prop} (hgd : o'.guard = none) (d s : Operand) (dT sT : TypeId)
    (ho : o'.op = .call { callee := .builtin .copy, args := #[d, s], argTypes := #[dT, sT] }) (elem : TypeId) (size : Nat) (hu : P.underlying dT = some (.slice elem)) (hsz : (P.info? elem).map (·.size) = some size)
    (b o dl dc : Nat) (hd : a.eval d = .slice (some ⟨b, o, none⟩) dl dc) (sp : Addr) (sl sc : Nat) (hs : a.eval s = .slice (some sp) sl sc)
    (cs : List Value) (hn : cs.length = Nat.min sl dl * size) (hsrc : ∀ j v, cs[j]? = some v → w.cell? (sp.add j) = some v)
    (c : Array Value) (T : TypeId) (hg : w.heap[b]? = some (.cells c T (0, 0))) (hfit : o + cs.length ≤ c.size) (h1 : ∀ u ∈ cs, u.oneCell' = true)
    (h : wpList P ops Q rest (a.put o'.dst (goInt (Nat.min sl dl))) (putCells w b o cs)) : wpList P ops Q (o' :: rest) a w :=
  wpList_plain hgd fun _ hK => wp_copy_row d s dT sT ho elem size hu hsz b o dl dc hd sp sl sc hs cs hn hsrc c T hg hfit h1 (hK _ _ h)
end
end Go.Proofs.Ytpgaedmhgchgeaa

namespace Go.Proofs.Ytpgaedmhgchgeaa
set_option linter.unusedSimpArgs false
set_option linter.unusedVariables false
open Go.RowKit

/-- How items are laid in cells, the types' numbers, and the isoid that all nodes bear. -/
structure Par (α : Type) where
  es : Nat
  enc : α → List Value
  TN : TypeId
  TI : TypeId
  TS : TypeId
  TP : TypeId
  k : Int
  epos : 0 < es
  elen : ∀ x, (enc x).length = es
  eone : ∀ x, ∀ v ∈ enc x, v.oneCell' = true

structure NodeR (α : Type) where
  cnt : Int
  items : List α
  kids : Option (List (Option Nat))

structure Lay where
  ib : Nat
  io : Nat
  ic : Nat
  cc : Nat
  cb : Nat
  co : Nat
  ck : Nat

def kidV (o : Option Nat) : Value := .pointer (o.map fun n => ⟨n, 0, none⟩)

variable {α : Type}

def flat (p : Par α) (xs : List α) : List Value := xs.flatMap p.enc

theorem flat_nil (p : Par α) : flat p [] = [] := rfl
theorem flat_cons (p : Par α) (x : α) (xs : List α) : flat p (x :: xs) = p.enc x ++ flat p xs := rfl
theorem flat_append (p : Par α) (xs ys : List α) : flat p (xs ++ ys) = flat p xs ++ flat p ys := by simp [flat]
theorem flat_single (p : Par α) (x : α) : flat p [x] = p.enc x := by simp [flat]

theorem flat_len (p : Par α) : ∀ xs : List α, (flat p xs).length = xs.length * p.es
  | [] => by simp [flat]
  | x :: xs => by rw [flat_cons, List.length_append, flat_len p xs, p.elen, List.length_cons, Nat.add_mul]; omega

theorem flat_drop (p : Par α) : ∀ (xs : List α) (i : Nat), (flat p xs).drop (i * p.es) = flat p (xs.drop i)
  | [], i => by simp [flat]
  | x :: xs, 0 => by simp
  | x :: xs, i + 1 => by
    rw [flat_cons, List.drop_succ_cons, ← flat_drop p xs i, Nat.add_mul, Nat.one_mul, Nat.add_comm, ← List.drop_drop]
    congr 1
    have h := p.elen x
    rw [List.drop_append, List.drop_of_length_le (by omega), h]; simp

theorem flat_take (p : Par α) : ∀ (xs : List α) (i : Nat), (flat p xs).take (i * p.es) = flat p (xs.take i)
  | [], i => by simp [flat]
  | x :: xs, 0 => by simp [flat]
  | x :: xs, i + 1 => by
    rw [flat_cons, List.take_succ_cons, flat_cons, ← flat_take p xs i, Nat.add_mul, Nat.one_mul]
    have h := p.elen x
    rw [List.take_append, List.take_of_length_le (by omega)]
    congr 2
    omega

theorem flat_get (p : Par α) {xs : List α} {j q : Nat} {x : α} {v : Value} (hj : xs[j]? = some x) (hq : (p.enc x)[q]? = some v) : (flat p xs)[j * p.es + q]? = some v := by
  have hd := flat_drop p xs j
  have hx : xs.drop j = x :: xs.drop (j + 1) := by
    obtain ⟨h1, h2⟩ := List.getElem?_eq_some_iff.1 hj
    rw [List.drop_eq_getElem_cons h1, h2]
  rw [hx, flat_cons] at hd
  have hlt := (List.getElem?_eq_some_iff.1 hq).1
  rw [← List.getElem?_drop, hd, List.getElem?_append_left hlt, hq]

/-- A place of the cells is a place of an item. -/
theorem flat_place (p : Par α) {xs : List α} {i : Nat} {v : Value} (h : (flat p xs)[i]? = some v) : ∃ x, xs[i / p.es]? = some x ∧ (p.enc x)[i % p.es]? = some v := by
  have hlt := (List.getElem?_eq_some_iff.1 h).1
  rw [flat_len] at hlt
  have hi : i / p.es < xs.length := Nat.div_lt_of_lt_mul (by rw [Nat.mul_comm]; exact hlt)
  refine ⟨xs[i / p.es], List.getElem?_eq_getElem hi, ?_⟩
  have hm : i % p.es < (p.enc xs[i / p.es]).length := by rw [p.elen]; exact Nat.mod_lt _ p.epos
  have := flat_get p (List.getElem?_eq_getElem hi) (List.getElem?_eq_getElem hm)
  rw [Nat.mul_comm, Nat.div_add_mod] at this
  rw [List.getElem?_eq_getElem hm, ← this, h]

theorem flat_one (p : Par α) (xs : List α) : ∀ v ∈ flat p xs, v.oneCell' = true := by
  intro v hv
  obtain ⟨x, _, h⟩ := List.mem_flatMap.1 hv
  exact p.eone x v h

/-- The cells of one item overwritten. -/
theorem flat_splice (p : Par α) (xs : List α) (j : Nat) (x : α) (hj : j < xs.length) :
    (flat p xs).take (j * p.es) ++ p.enc x ++ (flat p xs).drop (j * p.es + (p.enc x).length) = flat p (xs.set j x) := by
  rw [p.elen, show j * p.es + p.es = (j + 1) * p.es by rw [Nat.add_mul, Nat.one_mul], flat_take, flat_drop]
  rw [List.set_eq_take_append_cons_drop, if_pos hj, flat_append, flat_cons, List.append_assoc]

def hdCells (p : Par α) (r : NodeR α) (l : Lay) : Array Value :=
  #[.int .u64 p.k, .int .i64 r.cnt, .slice (some ⟨l.ib, l.io, none⟩) r.items.length l.ic, .pointer (r.kids.map fun _ => ⟨l.cc, 0, none⟩)]

/-- The node's record lies in the world. -/
structure NodeAt (p : Par α) (w : World) (n : Nat) (r : NodeR α) (l : Lay) : Prop where
  hd : w.heap[n]? = some (.cells (hdCells p r l) p.TN (0, 0))
  row : RowAt w p.TI l.ib l.io (l.ic * p.es) (flat p r.items)
  kid : ∀ ks, r.kids = some ks → w.heap[l.cc]? = some (.cells #[.slice (some ⟨l.cb, l.co, none⟩) ks.length l.ck] p.TS (0, 0)) ∧ RowAt w p.TP l.cb l.co l.ck (ks.map kidV)
  d1 : l.ib ≠ n
  d2 : r.kids ≠ none → l.cc ≠ n ∧ l.cb ≠ n ∧ l.cc ≠ l.ib ∧ l.cb ≠ l.ib ∧ l.cb ≠ l.cc

theorem NodeAt.len {p : Par α} {w : World} {n : Nat} {r : NodeR α} {l : Lay} (h : NodeAt p w n r l) : r.items.length ≤ l.ic := by
  have := h.row.1
  rw [flat_len] at this
  exact Nat.le_of_mul_le_mul_right this p.epos

theorem NodeAt.klen {p : Par α} {w : World} {n : Nat} {r : NodeR α} {l : Lay} (h : NodeAt p w n r l) {ks : List (Option Nat)} (hk : r.kids = some ks) : ks.length ≤ l.ck := by
  have := (h.kid ks hk).2.1
  simpa using this

/-- The cells that are the node's own. -/
def Ext (p : Par α) (n : Nat) (r : NodeR α) (l : Lay) (b o : Nat) : Prop :=
  b = n ∨ (b = l.ib ∧ l.io ≤ o ∧ o < l.io + l.ic * p.es) ∨ (r.kids ≠ none ∧ (b = l.cc ∨ (b = l.cb ∧ l.co ≤ o ∧ o < l.co + l.ck)))

/-- The blocks in which they lie. -/
def Blk (n : Nat) (r : NodeR α) (l : Lay) (b : Nat) : Prop := b = n ∨ b = l.ib ∨ (r.kids ≠ none ∧ (b = l.cc ∨ b = l.cb))

theorem Ext.blk {p : Par α} {n : Nat} {r : NodeR α} {l : Lay} {b o : Nat} (h : Ext p n r l b o) : Blk n r l b := by
  rcases h with h | ⟨h, _⟩ | ⟨h, h1 | ⟨h1, _⟩⟩
  · exact .inl h
  · exact .inr (.inl h)
  · exact .inr (.inr ⟨h, .inl h1⟩)
  · exact .inr (.inr ⟨h, .inr h1⟩)

theorem NodeAt.lt {p : Par α} {w : World} {n : Nat} {r : NodeR α} {l : Lay} (h : NodeAt p w n r l) {b : Nat} (hb : Blk n r l b) : b < w.heap.size := by
  rcases hb with rfl | rfl | ⟨h0, hb⟩
  · exact heap_lt h.hd
  · exact h.row.lt
  · cases hk : r.kids with
    | none => exact absurd hk h0
    | some ks =>
      rcases hb with rfl | rfl
      · exact heap_lt (h.kid ks hk).1
      · exact (h.kid ks hk).2.lt

/-- What changes none of the node's own cells leaves it as it is. -/
theorem NodeAt.chg {A : Nat → Nat → Prop} {p : Par α} {w w' : World} {n : Nat} {r : NodeR α} {l : Lay} (h : NodeAt p w n r l) (k : Chg A w w') (hA : ∀ b o, Ext p n r l b o → ¬ A b o) : NodeAt p w' n r l := by
  refine ⟨?_, ?_, ?_, h.d1, h.d2⟩
  · rw [k.block (heap_lt h.hd) (fun o => hA n o (.inl rfl))]; exact h.hd
  · refine h.row.chg k fun j hj => hA _ _ (.inr (.inl ⟨rfl, by omega, ?_⟩))
    have := h.row.1
    omega
  · intro ks hk
    have hne : r.kids ≠ none := by rw [hk]; simp
    obtain ⟨h1, h2⟩ := h.kid ks hk
    refine ⟨?_, ?_⟩
    · rw [k.block (heap_lt h1) (fun o => hA _ o (.inr (.inr ⟨hne, .inl rfl⟩)))]; exact h1
    · refine h2.chg k fun j hj => hA _ _ (.inr (.inr ⟨hne, .inr ⟨rfl, by omega, ?_⟩⟩))
      have := h2.1
      omega

/-- The family's blocks, grown by all that has come since w. -/
def grow (F : Nat → Prop) (w w' : World) (b : Nat) : Prop := F b ∨ (w.heap.size ≤ b ∧ b < w'.heap.size)

def upd (H : Nat → Option (NodeR α)) (n : Nat) (r : NodeR α) : Nat → Option (NodeR α) := fun m => if m = n then some r else H m
theorem upd_same (H : Nat → Option (NodeR α)) (n : Nat) (r : NodeR α) : upd H n r n = some r := by simp [upd]
theorem upd_ne (H : Nat → Option (NodeR α)) {n m : Nat} (r : NodeR α) (h : m ≠ n) : upd H n r m = H m := by simp [upd, h]

/-- THE NODES OF H LIE IN THE WORLD, apart from each other, in blocks of F. -/
def Fam (p : Par α) (w : World) (F : Nat → Prop) (H : Nat → Option (NodeR α)) : Prop :=
  ∃ L : Nat → Lay, (∀ n r, H n = some r → NodeAt p w n r (L n) ∧ ∀ b, Blk n r (L n) b → F b) ∧
    (∀ n m r s, n ≠ m → H n = some r → H m = some s → ∀ b o, Ext p n r (L n) b o → ¬ Ext p m s (L m) b o) ∧ (∀ b, F b → b < w.heap.size)

theorem Fam.empty (p : Par α) (w : World) : Fam p w (fun _ => False) (fun _ => none) := ⟨fun _ => ⟨0, 0, 0, 0, 0, 0, 0⟩, by simp, by simp, by simp⟩

theorem Fam.lt {p : Par α} {w : World} {F : Nat → Prop} {H : Nat → Option (NodeR α)} (h : Fam p w F H) {b : Nat} (hb : F b) : b < w.heap.size := by
  obtain ⟨L, _, _, h3⟩ := h; exact h3 b hb

theorem Fam.mem {p : Par α} {w : World} {F : Nat → Prop} {H : Nat → Option (NodeR α)} (h : Fam p w F H) {n : Nat} {r : NodeR α} (hn : H n = some r) : F n := by
  obtain ⟨L, h1, _, _⟩ := h; exact (h1 n r hn).2 n (.inl rfl)

theorem Fam.mono {p : Par α} {w : World} {F F' : Nat → Prop} {H : Nat → Option (NodeR α)} (h : Fam p w F H) (h1 : ∀ b, F b → F' b) (h2 : ∀ b, F' b → b < w.heap.size) : Fam p w F' H := by
  obtain ⟨L, a, b, c⟩ := h
  exact ⟨L, fun n r hn => ⟨(a n r hn).1, fun x hx => h1 x ((a n r hn).2 x hx)⟩, b, h2⟩

theorem Fam.sub {p : Par α} {w : World} {F : Nat → Prop} {H H' : Nat → Option (NodeR α)} (h : Fam p w F H) (h1 : ∀ n r, H' n = some r → H n = some r) : Fam p w F H' := by
  obtain ⟨L, a, b, c⟩ := h
  exact ⟨L, fun n r hn => a n r (h1 n r hn), fun n m r s hne hn hm => b n m r s hne (h1 n r hn) (h1 m s hm), c⟩

/-- What is changed outside the family leaves it as it is. -/
theorem Fam.chg {A : Nat → Nat → Prop} {p : Par α} {w w' : World} {F : Nat → Prop} {H : Nat → Option (NodeR α)} (h : Fam p w F H) (k : Chg A w w') (hA : ∀ b o, F b → ¬ A b o) : Fam p w' F H := by
  obtain ⟨L, a, b, c⟩ := h
  exact ⟨L, fun n r hn => ⟨(a n r hn).1.chg k fun x o hx => hA x o ((a n r hn).2 x hx.blk), (a n r hn).2⟩, b, fun x hx => Nat.lt_of_lt_of_le (c x hx) k.size⟩

/-- ONE NODE IS OPENED, CHANGED, AND SHUT AGAIN. -/
theorem Fam.open {p : Par α} {w : World} {F : Nat → Prop} {H : Nat → Option (NodeR α)} (h : Fam p w F H) {n : Nat} {r : NodeR α} (hn : H n = some r) :
    ∃ l, NodeAt p w n r l ∧ (∀ b, Blk n r l b → F b) ∧ (∀ c s, c ≠ n → H c = some s → (∃ l', NodeAt p w c s l') ∧ ∀ o, ¬ Ext p n r l c o) ∧ ∀ w' r' l', Chg (Ext p n r l) w w' → NodeAt p w' n r' l' → (∀ b o, Ext p n r' l' b o → Ext p n r l b o ∨ w.heap.size ≤ b) →
      (∀ b, Blk n r' l' b → Blk n r l b ∨ w.heap.size ≤ b) → Fam p w' (grow F w w') (upd H n r') := by
  obtain ⟨L, a, b, c⟩ := h
  refine ⟨L n, (a n r hn).1, (a n r hn).2, fun q s hq hs => ⟨⟨_, (a q s hs).1⟩, fun o h => b q n s r hq hs hn q o (.inl rfl) h⟩, fun w' r' l' hc hn' he hb => ?_⟩
  refine ⟨fun m => if m = n then l' else L m, ?_, ?_, ?_⟩
  · intro m s hm
    by_cases hmn : m = n
    · subst hmn
      rw [upd_same] at hm
      obtain rfl := Option.some.inj hm
      simp only [if_true]
      refine ⟨hn', fun x hx => ?_⟩
      rcases hb x hx with h1 | h1
      · exact .inl ((a m r hn).2 x h1)
      · exact .inr ⟨h1, hn'.lt hx⟩
    · rw [upd_ne _ _ hmn] at hm
      simp only [hmn, if_false]
      refine ⟨(a m s hm).1.chg hc fun x o hx hy => b m n s r hmn hm hn x o hx hy, fun x hx => .inl ((a m s hm).2 x hx)⟩
  · have key : ∀ m s, m ≠ n → H m = some s → ∀ x o, Ext p m s (L m) x o → ¬ Ext p n r' l' x o := by
      intro m s hmn hm x o hx hy
      rcases he x o hy with h1 | h1
      · exact b m n s r hmn hm hn x o hx h1
      · have := c x ((a m s hm).2 x hx.blk); omega
    intro m q s t hmq hm hq x o hx hy
    by_cases h1 : m = n
    · subst h1
      have hqn : q ≠ m := fun e => hmq e.symm
      rw [upd_same] at hm
      obtain rfl := Option.some.inj hm
      rw [upd_ne _ _ hqn] at hq
      simp only [if_true, hqn, if_false] at hx hy
      exact key q t hqn hq x o hy hx
    · rw [upd_ne _ _ h1] at hm
      simp only [h1, if_false] at hx
      by_cases h2 : q = n
      · subst h2
        rw [upd_same] at hq
        obtain rfl := Option.some.inj hq
        simp only [if_true] at hy
        exact key m s h1 hm x o hx hy
      · rw [upd_ne _ _ h2] at hq
        simp only [h2, if_false] at hy
        exact b m q s t hmq hm hq x o hx hy
  · intro x hx
    rcases hx with hx | hx
    · exact Nat.lt_of_lt_of_le (c x hx) hc.size
    · exact hx.2

/-- A NODE IN NEW BLOCKS JOINS. -/
theorem Fam.add {p : Par α} {w w' : World} {F : Nat → Prop} {H : Nat → Option (NodeR α)} (h : Fam p w F H) {A : Nat → Nat → Prop} (hc : Chg A w w') (hA : ∀ b o, F b → ¬ A b o) {m : Nat} {s : NodeR α} {l : Lay}
    (hm : NodeAt p w' m s l) (hb : ∀ b, Blk m s l b → w.heap.size ≤ b) : Fam p w' (grow F w w') (upd H m s) := by
  obtain ⟨L, a, b, c⟩ := h
  have hne : ∀ n r, H n = some r → n ≠ m := by
    rintro n r hn rfl
    have := c n ((a n r hn).2 n (.inl rfl))
    have := hb n (.inl rfl)
    omega
  have key : ∀ n r, H n = some r → ∀ x o, Ext p n r (L n) x o → ¬ Ext p m s l x o := by
    intro n r hn x o hx hy
    have := c x ((a n r hn).2 x hx.blk)
    have := hb x hy.blk
    omega
  refine ⟨fun q => if q = m then l else L q, ?_, ?_, ?_⟩
  · intro n r hn
    by_cases h1 : n = m
    · subst h1
      rw [upd_same] at hn
      obtain rfl := Option.some.inj hn
      simp only [if_true]
      exact ⟨hm, fun x hx => .inr ⟨hb x hx, hm.lt hx⟩⟩
    · rw [upd_ne _ _ h1] at hn
      simp only [h1, if_false]
      exact ⟨(a n r hn).1.chg hc fun x o hx => hA x o ((a n r hn).2 x hx.blk), fun x hx => .inl ((a n r hn).2 x hx)⟩
  · intro n q r t hnq hn hq x o hx hy
    by_cases h1 : n = m
    · subst h1
      have h2 : q ≠ n := fun e => hnq e.symm
      rw [upd_same] at hn
      obtain rfl := Option.some.inj hn
      rw [upd_ne _ _ h2] at hq
      simp only [if_true, h2, if_false] at hx hy
      exact key q t hq x o hy hx
    · rw [upd_ne _ _ h1] at hn
      simp only [h1, if_false] at hx
      by_cases h2 : q = m
      · subst h2
        rw [upd_same] at hq
        obtain rfl := Option.some.inj hq
        simp only [if_true] at hy
        exact key n r hn x o hx hy
      · rw [upd_ne _ _ h2] at hq
        simp only [h2, if_false] at hy
        exact b n q r t hnq hn hq x o hx hy
  · intro x hx
    rcases hx with hx | hx
    · exact Nat.lt_of_lt_of_le (c x hx) hc.size
    · exact hx.2

/-- ONE NODE IS PARTED INTO TWO, the second one (m) new. -/
theorem Fam.split {p : Par α} {w : World} {F : Nat → Prop} {H : Nat → Option (NodeR α)} (h : Fam p w F H) {n : Nat} {r : NodeR α} (hn : H n = some r) :
    ∃ l, NodeAt p w n r l ∧ (∀ b, Blk n r l b → F b) ∧ (∀ c s, c ≠ n → H c = some s → (∃ l', NodeAt p w c s l') ∧ ∀ o, ¬ Ext p n r l c o) ∧ ∀ w' r1 l1 m r2 l2, Chg (Ext p n r l) w w' → NodeAt p w' n r1 l1 → NodeAt p w' m r2 l2 → w.heap.size ≤ m →
      (∀ b o, Ext p n r1 l1 b o → Ext p n r l b o ∨ w.heap.size ≤ b) → (∀ b o, Ext p m r2 l2 b o → Ext p n r l b o ∨ w.heap.size ≤ b) → (∀ b o, Ext p n r1 l1 b o → ¬ Ext p m r2 l2 b o) →
      (∀ b, Blk n r1 l1 b → Blk n r l b ∨ w.heap.size ≤ b) → (∀ b, Blk m r2 l2 b → Blk n r l b ∨ w.heap.size ≤ b) → Fam p w' (grow F w w') (upd (upd H n r1) m r2) := by
  obtain ⟨L, a, b, c⟩ := h
  refine ⟨L n, (a n r hn).1, (a n r hn).2, fun q s hq hs => ⟨⟨_, (a q s hs).1⟩, fun o h => b q n s r hq hs hn q o (.inl rfl) h⟩, fun w' r1 l1 m r2 l2 hc h1 h2 hm e1 e2 e12 b1 b2 => ?_⟩
  have hnlt := c n ((a n r hn).2 n (.inl rfl))
  have hnm : n ≠ m := by omega
  have hne : ∀ q t, H q = some t → q ≠ m := by
    rintro q t hq rfl
    have := c q ((a q t hq).2 q (.inl rfl))
    omega
  have key : ∀ q t x o, q ≠ n → H q = some t → Ext p q t (L q) x o → Ext p n r (L n) x o ∨ w.heap.size ≤ x → False := by
    intro q t x o hqn hq hx hy
    rcases hy with hy | hy
    · exact b q n t r hqn hq hn x o hx hy
    · have := c x ((a q t hq).2 x hx.blk); omega
  refine ⟨fun q => if q = m then l2 else if q = n then l1 else L q, ?_, ?_, ?_⟩
  · intro q t hq
    by_cases q1 : q = m
    · subst q1
      rw [upd_same] at hq
      obtain rfl := Option.some.inj hq
      simp only [if_true]
      refine ⟨h2, fun x hx => ?_⟩
      rcases b2 x hx with h3 | h3
      · exact .inl ((a n r hn).2 x h3)
      · exact .inr ⟨h3, h2.lt hx⟩
    · rw [upd_ne _ _ q1] at hq
      by_cases q2 : q = n
      · subst q2
        rw [upd_same] at hq
        obtain rfl := Option.some.inj hq
        simp only [if_true, if_neg hnm]
        refine ⟨h1, fun x hx => ?_⟩
        rcases b1 x hx with h3 | h3
        · exact .inl ((a q r hn).2 x h3)
        · exact .inr ⟨h3, h1.lt hx⟩
      · rw [upd_ne _ _ q2] at hq
        simp only [q1, q2, if_false]
        exact ⟨(a q t hq).1.chg hc fun x o hx hy => b q n t r q2 hq hn x o hx hy, fun x hx => .inl ((a q t hq).2 x hx)⟩
  · intro q q' t t' hqq hq hq' x o hx hy
    by_cases q1 : q = m
    · subst q1
      rw [upd_same] at hq
      obtain rfl := Option.some.inj hq
      simp only [if_true] at hx
      have q2 : q' ≠ q := fun e => hqq e.symm
      rw [upd_ne _ _ q2] at hq'
      simp only [q2, if_false] at hy
      by_cases q3 : q' = n
      · subst q3
        rw [upd_same] at hq'
        obtain rfl := Option.some.inj hq'
        simp only [if_true] at hy
        exact e12 x o hy hx
      · rw [upd_ne _ _ q3] at hq'
        simp only [q3, if_false] at hy
        exact key q' t' x o q3 hq' hy (e2 x o hx)
    · rw [upd_ne _ _ q1] at hq
      simp only [q1, if_false] at hx
      by_cases q2 : q' = m
      · subst q2
        rw [upd_same] at hq'
        obtain rfl := Option.some.inj hq'
        simp only [if_true] at hy
        by_cases q3 : q = n
        · subst q3
          rw [upd_same] at hq
          obtain rfl := Option.some.inj hq
          simp only [if_true] at hx
          exact e12 x o hx hy
        · rw [upd_ne _ _ q3] at hq
          simp only [q3, if_false] at hx
          exact key q t x o q3 hq hx (e2 x o hy)
      · rw [upd_ne _ _ q2] at hq'
        simp only [q2, if_false] at hy
        by_cases q3 : q = n
        · subst q3
          rw [upd_same] at hq
          obtain rfl := Option.some.inj hq
          simp only [if_true] at hx
          have q4 : q' ≠ q := fun e => hqq e.symm
          rw [upd_ne _ _ q4] at hq'
          simp only [q4, if_false] at hy
          exact key q' t' x o q4 hq' hy (e1 x o hx)
        · rw [upd_ne _ _ q3] at hq
          simp only [q3, if_false] at hx
          by_cases q4 : q' = n
          · subst q4
            rw [upd_same] at hq'
            obtain rfl := Option.some.inj hq'
            simp only [if_true] at hy
            exact key q t x o q3 hq hx (e1 x o hy)
          · rw [upd_ne _ _ q4] at hq'
            simp only [q4, if_false] at hy
            exact b q q' t t' hqq hq hq' x o hx hy
  · intro x hx
    rcases hx with hx | hx
    · exact Nat.lt_of_lt_of_le (c x hx) hc.size
    · exact hx.2

theorem hs_same {w : World} {b o : Nat} {c : Array Value} {T : TypeId} {fr : Nat × Nat} (h : w.heap[b]? = some (.cells c T fr)) (v : Value) : (w.setCell ⟨b, o, none⟩ v).heap[b]? = some (.cells (c.setIfInBounds o v) T fr) := by
  simp [World.setCell, Array.getElem?_modify, h]
theorem hs_ne {w : World} {b o b' : Nat} (v : Value) (h : b' ≠ b) : (w.setCell ⟨b, o, none⟩ v).heap[b']? = w.heap[b']? := Below.heap_setCell w ⟨b, o, none⟩ v b' h
theorem hd_drew (w : World) (b : Nat) : w.drew.heap[b]? = w.heap[b]? := rfl
theorem hd_drewN (w : World) (m b : Nat) : (w.drewN m).heap[b]? = w.heap[b]? := rfl
theorem ha_at (w : World) (o : Obj) {b : Nat} (h : b = w.heap.size) : (w.alloc o).heap[b]? = some o := by subst h; exact heap_alloc_new w o
theorem ha_lt (w : World) (o : Obj) {b : Nat} (h : b < w.heap.size) : (w.alloc o).heap[b]? = w.heap[b]? := Below.heap_alloc w o b h

/-- A part of a node's items, where nothing of that part has changed. -/
theorem NodeAt.rowPart {α : Type} {p : Par α} {A : Nat → Nat → Prop} {w w' : World} {n : Nat} {r : NodeR α} {l : Lay} (h : NodeAt p w n r l) (k : Chg A w w') (i j c : Nat) (hij : i + j ≤ r.items.length) (hj : j ≤ c) (hc : i + c ≤ l.ic)
    (hA : ∀ o, l.io + i * p.es ≤ o → o < l.io + (i + j) * p.es → ¬ A l.ib o) : RowAt w' p.TI l.ib (l.io + i * p.es) (c * p.es) (flat p ((r.items.drop i).take j)) := by
  have m1 : (i + j) * p.es ≤ r.items.length * p.es := Nat.mul_le_mul_right _ hij
  have m2 : (i + c) * p.es ≤ l.ic * p.es := Nat.mul_le_mul_right _ hc
  have m3 : j * p.es ≤ c * p.es := Nat.mul_le_mul_right _ hj
  rw [Nat.add_mul] at m1 m2
  have h1 := h.row.part (i * p.es) (j * p.es) (c * p.es) (by rw [flat_len]; exact m1) m3 m2
  rw [flat_drop, flat_take] at h1
  refine h1.chg k fun q hq => hA _ (by omega) ?_
  rw [flat_len] at hq
  have : ((r.items.drop i).take j).length ≤ j := List.length_take_le _ _
  have := Nat.mul_le_mul_right p.es this
  rw [Nat.add_mul]
  omega

/-- A part of a node's children. -/
theorem NodeAt.kidPart {α : Type} {p : Par α} {A : Nat → Nat → Prop} {w w' : World} {n : Nat} {r : NodeR α} {l : Lay} (h : NodeAt p w n r l) {ks : List (Option Nat)} (hk : r.kids = some ks) (k : Chg A w w') (i j c : Nat) (hij : i + j ≤ ks.length) (hj : j ≤ c) (hc : i + c ≤ l.ck)
    (hA : ∀ o, l.co + i ≤ o → o < l.co + (i + j) → ¬ A l.cb o) : RowAt w' p.TP l.cb (l.co + i) c (((ks.drop i).take j).map kidV) := by
  have h1 := (h.kid ks hk).2.part i j c (by simpa using hij) hj hc
  rw [← List.map_drop, ← List.map_take] at h1
  refine h1.chg k fun q hq => hA _ (by omega) ?_
  have : ((ks.drop i).take j).length ≤ j := List.length_take_le _ _
  rw [List.length_map] at hq
  omega

end Go.Proofs.Ytpgaedmhgchgeaa

namespace Go.Proofs.Ytpgaedmhgchgeaa
set_option linter.unusedSimpArgs false
set_option linter.unusedVariables false
open Go.RowKit

theorem leaf_any (n : Nat) (p : Option Addr) (w : World) (h : w.cell? ⟨n, 3, none⟩ = some (.pointer p)) :
    Calls Try.prog 58 #[.pointer (some ⟨n, 0, none⟩)] w fun e w' => e = .returned (.bool (p.isNone)) ∧ w = w' := by
  rcases p with _ | a
  · go_enter Try.func58, Try.ntmps58
    go_wp2
    go_ret
    exact ⟨rfl, rfl⟩
  · go_enter Try.func58, Try.ntmps58
    go_wp2
    go_ret
    exact ⟨rfl, rfl⟩

set_option maxHeartbeats 400000 in
theorem isoLoad_any (t n : Nat) (k : Int) (ad : Addr) (b : Bool) (w : World) (hp : w.cell? ad = some (.pointer (some ⟨n, 0, none⟩)))
    (hn : w.cell? ⟨n, 0, none⟩ = some (.int .u64 k)) (ht : w.cell? ⟨t, 0, none⟩ = some (.int .u64 k)) :
    Calls Try.prog 66 #[.pointer (some ⟨t, 0, none⟩), .pointer (some ad), .bool b] w fun e w' => e = .returned (.pointer (some ⟨n, 0, none⟩)) ∧ ∃ m, w' = w.drewN m := by
  cases b
  · go_enter Try.func66, Try.ntmps66
    go_wp2
    go_quiet (fail)
    go_wp2
    go_ret
    exact ⟨rfl, _, rfl⟩
  · go_enter Try.func66, Try.ntmps66
    go_wp2
    go_quiet (fail)
    go_wp2
    go_ret
    exact ⟨rfl, _, rfl⟩

theorem newNode_leaf (t : Nat) (k : Int) (w : World) (ht : w.cell? ⟨t, 0, none⟩ = some (.int .u64 k)) :
    Calls Try.prog 54 #[.pointer (some ⟨t, 0, none⟩), .bool true] w fun e w' => e = .returned (.pointer (some ⟨w.heap.size, 0, none⟩)) ∧
      w' = w.alloc (.cells #[.int .u64 k, .int .i64 0, .slice none 0 0, .pointer none] 93) := by
  have hlt := World.block_lt_of_cell? w _ ht
  go_enter Try.func54, Try.ntmps54
  go_wp2
  go_ret
  exact ⟨rfl, rfl⟩

theorem newNode_branch (t : Nat) (k : Int) (w : World) (ht : w.cell? ⟨t, 0, none⟩ = some (.int .u64 k)) :
    Calls Try.prog 54 #[.pointer (some ⟨t, 0, none⟩), .bool false] w fun e w' => e = .returned (.pointer (some ⟨w.heap.size, 0, none⟩)) ∧
      w' = (w.alloc (.cells #[.int .u64 k, .int .i64 0, .slice none 0 0, .pointer (some ⟨w.heap.size + 1, 0, none⟩)] 93)).alloc (.cells #[.slice none 0 0] 99) := by
  have hlt := World.block_lt_of_cell? w _ ht
  go_enter Try.func54, Try.ntmps54
  go_wp2
  go_ret
  exact ⟨rfl, rfl⟩

theorem setCell_twice (w : World) (a : Addr) (u v : Value) : (w.setCell a u).setCell a v = w.setCell a v := by
  unfold World.setCell
  congr 1
  apply Array.ext_getElem?
  intro i
  simp only [Array.getElem?_modify]
  by_cases hi : a.block = i
  · simp only [hi, if_true]
    cases hq : w.heap[i]? with
    | none => rfl
    | some q =>
      cases q with
      | cells c T fr => by_cases hs : a.spot.isSome = true <;> simp [hs]
      | _ => rfl
  · simp only [hi, if_false]

/-- The sum of the first m counts. -/
def sumTo (cs : Nat → Int) : Nat → Int
  | 0 => 0
  | m + 1 => sumTo cs m + cs m

theorem sumTo_nonneg (cs : Nat → Int) (K : Nat) (h : ∀ j, j < K → 0 ≤ cs j) : ∀ m, m ≤ K → 0 ≤ sumTo cs m := by
  intro m
  induction m with
  | zero => intro _; simp [sumTo]
  | succ m ih => intro hm; have := ih (by omega); have := h m (by omega); simp only [sumTo]; omega

theorem sumTo_le (cs : Nat → Int) (K : Nat) (h : ∀ j, j < K → 0 ≤ cs j) : ∀ m, m ≤ K → sumTo cs m ≤ sumTo cs K := by
  induction K with
  | zero => intro m hm; obtain rfl : m = 0 := by omega
            exact Int.le_refl _
  | succ K ih =>
    intro m hm
    rcases Nat.lt_or_ge K m with h1 | h1
    · obtain rfl : m = K + 1 := by omega
      exact Int.le_refl _
    · have := ih (fun j hj => h j (by omega)) m h1
      have := h K (by omega)
      simp only [sumTo]; omega

set_option maxHeartbeats 400000 in
theorem updateCount_leaf (n ib io len cap : Nat) (c0 : Int) (w : World) (h1 : w.cell? ⟨n, 1, none⟩ = some (.int .i64 c0)) (hf : w.frozen? ⟨n, 1, none⟩ = false)
    (h2 : w.cell? ⟨n, 2, none⟩ = some (.slice (some ⟨ib, io, none⟩) len cap)) (h3 : w.cell? ⟨n, 3, none⟩ = some (.pointer none)) :
    Calls Try.prog 57 #[.pointer (some ⟨n, 0, none⟩)] w fun e w' => e = .returned (.tuple #[]) ∧ w' = w.setCell ⟨n, 1, none⟩ (.int .i64 len) := by
  go_enter Try.func57, Try.ntmps57
  go_wp2_with (go_at_call 58; refine (leaf_any _ none _ ?_).mono ?_; (focus go_simp); rintro e w' ⟨rfl, rfl⟩)
  go_end0
  exact ⟨rfl, rfl⟩

set_option maxRecDepth 100000 in
set_option maxHeartbeats 1000000 in
theorem updateCount_branch (n ib io len cap cc cb co K ck : Nat) (c0 : Int) (kid : Nat → Nat) (cs : Nat → Int) (w : World) (h1 : w.cell? ⟨n, 1, none⟩ = some (.int .i64 c0)) (hf : w.frozen? ⟨n, 1, none⟩ = false)
    (h2 : w.cell? ⟨n, 2, none⟩ = some (.slice (some ⟨ib, io, none⟩) len cap)) (h3 : w.cell? ⟨n, 3, none⟩ = some (.pointer (some ⟨cc, 0, none⟩)))
    (hc : w.cell? ⟨cc, 0, none⟩ = some (.slice (some ⟨cb, co, none⟩) K ck)) (hccn : cc ≠ n) (hcbn : cb ≠ n)
    (hk : ∀ j, j < K → w.cell? ⟨cb, co + j, none⟩ = some (.pointer (some ⟨kid j, 0, none⟩)) ∧ kid j ≠ n ∧ w.cell? ⟨kid j, 1, none⟩ = some (.int .i64 (cs j)) ∧ 0 ≤ cs j)
    (hK : K ≤ 1000000) (hb : (len : Int) + sumTo cs K ≤ 1000000000000000) :
    Calls Try.prog 57 #[.pointer (some ⟨n, 0, none⟩)] w fun e w' => e = .returned (.tuple #[]) ∧ ∃ m, w' = (w.setCell ⟨n, 1, none⟩ (.int .i64 (len + sumTo cs K))).drewN m := by
  have Hk := Lib.hid hk; clear hk
  have hmono : ∀ m, m ≤ K → 0 ≤ sumTo cs m := sumTo_nonneg cs K fun j hj => (Hk.out j hj).2.2.2
  have hmono2 : ∀ m, m ≤ K → sumTo cs m ≤ sumTo cs K := sumTo_le cs K fun j hj => (Hk.out j hj).2.2.2
  have Hm := Lib.hid hmono; clear hmono
  have Hm2 := Lib.hid hmono2; clear hmono2
  go_enter Try.func57, Try.ntmps57
  go_wp2_with (go_at_call 58; refine (leaf_any _ (some ⟨cc, 0, none⟩) _ ?_).mono ?_; (focus go_simp); rintro e w' ⟨rfl, rfl⟩)
  go_loopw [2] (fun i wr => ∃ (j m : Nat), j ≤ K ∧ i = .int .i64 j ∧ Hid (wr = (w.setCell ⟨n, 1, none⟩ (.int .i64 (len + sumTo cs j))).drewN m)) (fun i _ => K - (intOf i).toNat)
  case atStart => exact ⟨0, 0, Nat.zero_le _, rfl, Lib.hid (by simp [sumTo]; rfl)⟩
  case round =>
    obtain ⟨j, m, hj, rfl, hw⟩ := hrel
    have hs : ∀ a, ¬ (a = ⟨n, 1, none⟩) → wr.cell? a = w.cell? a := fun a ha => by rw [hw.out]; exact World.cell?_setCell_other w _ _ _ (Ne.symm ha)
    have r1 : wr.cell? ⟨n, 1, none⟩ = some (.int .i64 (len + sumTo cs j)) := by rw [hw.out]; exact World.cell?_setCell_same w _ _ h1
    have r3 : wr.cell? ⟨n, 3, none⟩ = some (.pointer (some ⟨cc, 0, none⟩)) := by rw [hs _ (by simp)]; exact h3
    have rc : wr.cell? ⟨cc, 0, none⟩ = some (.slice (some ⟨cb, co, none⟩) K ck) := by rw [hs _ (by simp)]; exact hc
    have rf : wr.frozen? ⟨n, 1, none⟩ = false := by rw [hw.out]; simpa using hf
    have Hs := Lib.hid hs; clear hs
    by_cases hlt : j < K
    · obtain ⟨g1, g2, g3, g4⟩ := Hk.out j hlt
      have g5 := Hm.out j (by omega)
      have g6 := Hm2.out (j + 1) (by omega)
      have g7 : sumTo cs (j + 1) = sumTo cs j + cs j := rfl
      have r5 : wr.cell? ⟨cb, co + j, none⟩ = some (.pointer (some ⟨kid j, 0, none⟩)) := by rw [Hs.out _ (by simp [hcbn])]; exact g1
      have r6 : wr.cell? ⟨kid j, 1, none⟩ = some (.int .i64 (cs j)) := by rw [Hs.out _ (by simp [g2])]; exact g3
      rw [g7] at g6
      have G7 := Lib.hid g7
      clear g7
      have i0 : (0 : Int) ≤ (j : Int) := by omega
      have i1 : (j : Int) < (K : Int) := by omega
      go_wp2
      go_still_tail 17, (by kernel_rfl)
      go_wp2
      go_roundw
      case rel =>
        refine ⟨j + 1, m + 1, by omega, by go_num, Lib.hid ?_⟩
        rw [hw.out, G7.out, ← Int.add_assoc]
        exact congrArg (fun x => World.drewN x (m + 1)) (setCell_twice w ⟨n, 1, none⟩ _ _)
      case measure => simp [intOf]; omega
    · obtain rfl : j = K := by omega
      go_wp2
      go_end0
      exact ⟨rfl, m, hw.out⟩
/-- The sum of the counts of a list of nodes. -/
def ksum (cf : Nat → Int) (ks : List Nat) : Int := (ks.map cf).sum

theorem ksum_nil (cf : Nat → Int) : ksum cf [] = 0 := rfl
theorem ksum_cons (cf : Nat → Int) (c : Nat) (ks : List Nat) : ksum cf (c :: ks) = cf c + ksum cf ks := by simp [ksum]
theorem ksum_append (cf : Nat → Int) (ks ls : List Nat) : ksum cf (ks ++ ls) = ksum cf ks + ksum cf ls := by simp [ksum]

theorem ksum_nonneg (cf : Nat → Int) : ∀ ks : List Nat, (∀ c ∈ ks, 0 ≤ cf c) → 0 ≤ ksum cf ks
  | [], _ => Int.le_refl _
  | c :: ks, h => by
    have := ksum_nonneg cf ks (fun x hx => h x (List.mem_cons_of_mem _ hx))
    have := h c (List.mem_cons_self)
    rw [ksum_cons]; omega

theorem ksum_split (cf : Nat → Int) (ks : List Nat) (h : ∀ c ∈ ks, 0 ≤ cf c) (i : Nat) : 0 ≤ ksum cf (ks.take i) ∧ 0 ≤ ksum cf (ks.drop i) ∧ ksum cf (ks.take i) + ksum cf (ks.drop i) = ksum cf ks :=
  ⟨ksum_nonneg cf _ fun c hc => h c (List.mem_of_mem_take hc), ksum_nonneg cf _ fun c hc => h c (List.mem_of_mem_drop hc), by rw [← ksum_append, List.take_append_drop]⟩

theorem sumTo_shift (cs : Nat → Int) : ∀ m, sumTo cs (m + 1) = cs 0 + sumTo (fun j => cs (j + 1)) m
  | 0 => by simp [sumTo]
  | m + 1 => by rw [sumTo, sumTo_shift cs m, sumTo]; omega

theorem sumTo_ksum (cf : Nat → Int) : ∀ ks : List Nat, sumTo (fun j => cf (ks.getD j 0)) ks.length = ksum cf ks
  | [] => rfl
  | c :: ks => by rw [List.length_cons, sumTo_shift, ksum_cons, ← sumTo_ksum cf ks]; rfl

end Go.Proofs.Ytpgaedmhgchgeaa

namespace Go.Proofs.Ytpgaedmhgchgeaa
set_option linter.unusedSimpArgs false
set_option linter.unusedVariables false
open Go.RowKit

/-- The world gets a name; of it only R is known. -/
theorem name_world {P : Program} {c : Code} {Q : Exit → Act → World → Prop} {a : Act} {w : World} (R : World → Prop) (hR : R w) (h : ∀ w1, R w1 → c.wp P Q a w1) : c.wp P Q a w := h w hR

theorem name_prop {Q : World → Prop} {w : World} (R : World → Prop) (hR : R w) (h : ∀ w1, R w1 → Q w1) : Q w := h w hR

theorem name_calls {P : Program} {f : FuncId} {args : Array Value} {Q : Ending → World → Prop} {w : World} (R : World → Prop) (hR : R w) (h : ∀ w1, R w1 → Calls P f args w1 Q) : Calls P f args w Q := h w hR

def encM (x : Int × Int) : List Value := [.int .i64 x.1]

def aggM (x : Int × Int) : Value := .agg #[.int .i64 x.1]

def parM (k : Int) : Par (Int × Int) where
  es := 1
  enc := encM
  TN := 93
  TI := 53
  TS := 99
  TP := 50
  k := k
  epos := by omega
  elen := fun _ => rfl
  eone := by intro x v hv; simp [encM] at hv; subst hv; rfl

section
variable {α : Type} {p : Par α} {w : World} {n : Nat} {r : NodeR α} {l : Lay}

theorem cell_of_block {b : Nat} {c : Array Value} {T : TypeId} {fr : Nat × Nat} (h : w.heap[b]? = some (.cells c T fr)) (o : Nat) : w.cell? ⟨b, o, none⟩ = c[o]? := by
  simp [World.cell?, h]
theorem frozen_of_block {b : Nat} {c : Array Value} {T : TypeId} (h : w.heap[b]? = some (.cells c T (0, 0))) (o : Nat) : w.frozen? ⟨b, o, none⟩ = false := by
  simp [World.frozen?, h]

theorem NodeAt.c0 (h : NodeAt p w n r l) : w.cell? ⟨n, 0, none⟩ = some (.int .u64 p.k) := by rw [cell_of_block h.hd]; rfl
theorem NodeAt.c1 (h : NodeAt p w n r l) : w.cell? ⟨n, 1, none⟩ = some (.int .i64 r.cnt) := by rw [cell_of_block h.hd]; rfl
theorem NodeAt.c2 (h : NodeAt p w n r l) : w.cell? ⟨n, 2, none⟩ = some (.slice (some ⟨l.ib, l.io, none⟩) r.items.length l.ic) := by rw [cell_of_block h.hd]; rfl
theorem NodeAt.c3 (h : NodeAt p w n r l) : w.cell? ⟨n, 3, none⟩ = some (.pointer (r.kids.map fun _ => ⟨l.cc, 0, none⟩)) := by rw [cell_of_block h.hd]; rfl
theorem NodeAt.c3n (h : NodeAt p w n r l) (hk : r.kids = none) : w.cell? ⟨n, 3, none⟩ = some (.pointer none) := by rw [h.c3, hk]; rfl
theorem NodeAt.c3s (h : NodeAt p w n r l) {ks : List (Option Nat)} (hk : r.kids = some ks) : w.cell? ⟨n, 3, none⟩ = some (.pointer (some ⟨l.cc, 0, none⟩)) := by rw [h.c3, hk]; rfl
theorem NodeAt.fz (h : NodeAt p w n r l) (o : Nat) : w.frozen? ⟨n, o, none⟩ = false := frozen_of_block h.hd o
theorem NodeAt.ifz (h : NodeAt p w n r l) (o : Nat) : w.frozen? ⟨l.ib, o, none⟩ = false := h.row.frozen o
theorem NodeAt.item (h : NodeAt p w n r l) {j : Nat} {x : α} (hj : r.items[j]? = some x) (q : Nat) {v : Value} (hq : (p.enc x)[q]? = some v) : w.cell? ⟨l.ib, l.io + (j * p.es + q), none⟩ = some v :=
  h.row.cell (flat_get p hj hq)
theorem NodeAt.cc (h : NodeAt p w n r l) {ks : List (Option Nat)} (hk : r.kids = some ks) : w.cell? ⟨l.cc, 0, none⟩ = some (.slice (some ⟨l.cb, l.co, none⟩) ks.length l.ck) := by rw [cell_of_block (h.kid ks hk).1]; rfl
theorem NodeAt.ccz (h : NodeAt p w n r l) {ks : List (Option Nat)} (hk : r.kids = some ks) (o : Nat) : w.frozen? ⟨l.cc, o, none⟩ = false := frozen_of_block (h.kid ks hk).1 o
theorem NodeAt.kidc (h : NodeAt p w n r l) {ks : List (Option Nat)} (hk : r.kids = some ks) {j : Nat} {o : Option Nat} (hj : ks[j]? = some o) : w.cell? ⟨l.cb, l.co + j, none⟩ = some (kidV o) :=
  (h.kid ks hk).2.cell (by simp [hj])
theorem NodeAt.kidz (h : NodeAt p w n r l) {ks : List (Option Nat)} (hk : r.kids = some ks) (o : Nat) : w.frozen? ⟨l.cb, o, none⟩ = false := (h.kid ks hk).2.frozen o
end

theorem NodeAt.mval {k : Int} {w : World} {n : Nat} {r : NodeR (Int × Int)} {l : Lay} (h : NodeAt (parM k) w n r l) {j : Nat} {x : Int × Int} (hj : r.items[j]? = some x) : w.cell? ⟨l.ib, l.io + j, none⟩ = some (.int .i64 x.1) :=
  by have := h.item hj 0 rfl; simpa [parM] using this
theorem NodeAt.mkey {k : Int} {w : World} {n : Nat} {r : NodeR (Int × Int)} {l : Lay} (h : NodeAt (parM k) w n r l) {j : Nat} {x : Int × Int} (hj : r.items[j]? = some x) : w.cell? ⟨l.ib, l.io + j, none⟩ = some (.int .i64 x.1) :=
  by have := h.item hj 0 rfl; simpa [parM] using this

end Go.Proofs.Ytpgaedmhgchgeaa

namespace Go.Proofs.Ytpgaedmhgchgeaa
set_option linter.unusedSimpArgs false
set_option linter.unusedVariables false

variable {α : Type}

/-- A strict weak order. -/
structure Swo (lt : α → α → Bool) : Prop where
  asymm : ∀ a b, lt a b = true → lt b a = false
  ntrans : ∀ a b c, lt a b = false → lt b c = false → lt a c = false

theorem Swo.irrefl {lt : α → α → Bool} (s : Swo lt) (a : α) : lt a a = false := by
  cases h : lt a a with
  | false => rfl
  | true => exact (s.asymm a a h) ▸ h ▸ rfl

theorem Swo.trans {lt : α → α → Bool} (s : Swo lt) {a b c : α} (h1 : lt a b = true) (h2 : lt b c = true) : lt a c = true := by
  cases h : lt a c with
  | true => rfl
  | false =>
    have := s.ntrans a c b h (s.asymm b c h2)
    rw [h1] at this; cases this

/-- a before b, b not behind c: a before c. -/
theorem Swo.lt_of_lt_of_nlt {lt : α → α → Bool} (s : Swo lt) {a b c : α} (h1 : lt a b = true) (h2 : lt c b = false) : lt a c = true := by
  cases h : lt a c with
  | true => rfl
  | false =>
    have := s.ntrans a c b h h2
    rw [h1] at this; cases this

theorem Swo.lt_of_nlt_of_lt {lt : α → α → Bool} (s : Swo lt) {a b c : α} (h1 : lt b a = false) (h2 : lt b c = true) : lt a c = true := by
  cases h : lt a c with
  | true => rfl
  | false =>
    have := s.ntrans b a c h1 h
    rw [h2] at this; cases this

def Srt (lt : α → α → Bool) (l : List α) : Prop := l.Pairwise fun a b => lt a b = true

/-- x is put into the sorted list l (in place of an equal one). -/
def insL (lt : α → α → Bool) (x : α) : List α → List α
  | [] => [x]
  | y :: l => if lt y x then y :: insL lt x l else if lt x y then x :: y :: l else x :: l

/-- What equals x in the list. -/
def fndL (lt : α → α → Bool) (x : α) : List α → Option α
  | [] => none
  | y :: l => if lt y x then fndL lt x l else if lt x y then none else some y

theorem insL_pre {lt : α → α → Bool} {x : α} : ∀ {A B : List α}, (∀ a ∈ A, lt a x = true) → insL lt x (A ++ B) = A ++ insL lt x B
  | [], _, _ => rfl
  | a :: A, B, h => by
    rw [List.cons_append, insL, if_pos (h a List.mem_cons_self), insL_pre (fun b hb => h b (List.mem_cons_of_mem _ hb))]; rfl

theorem fndL_pre {lt : α → α → Bool} {x : α} : ∀ {A B : List α}, (∀ a ∈ A, lt a x = true) → fndL lt x (A ++ B) = fndL lt x B
  | [], _, _ => rfl
  | a :: A, B, h => by
    rw [List.cons_append, fndL, if_pos (h a List.mem_cons_self), fndL_pre (fun b hb => h b (List.mem_cons_of_mem _ hb))]

theorem insL_post {lt : α → α → Bool} (s : Swo lt) {x : α} : ∀ {B C : List α}, (∀ c ∈ C, lt x c = true) → insL lt x (B ++ C) = insL lt x B ++ C
  | [], [], _ => rfl
  | [], c :: C, h => by
    have := h c List.mem_cons_self
    simp [insL, this, s.asymm _ _ this]
  | b :: B, C, h => by
    rw [List.cons_append, insL, insL]
    split
    · rw [insL_post s h]; rfl
    · split <;> rfl

theorem fndL_post {lt : α → α → Bool} (s : Swo lt) {x : α} : ∀ {B C : List α}, (∀ c ∈ C, lt x c = true) → fndL lt x (B ++ C) = fndL lt x B
  | [], [], _ => rfl
  | [], c :: C, h => by
    have := h c List.mem_cons_self
    simp [fndL, this, s.asymm _ _ this]
  | b :: B, C, h => by
    rw [List.cons_append, fndL, fndL, fndL_post s h]

theorem insL_mid {lt : α → α → Bool} (s : Swo lt) {x : α} {A B C : List α} (hA : ∀ a ∈ A, lt a x = true) (hC : ∀ c ∈ C, lt x c = true) : insL lt x (A ++ B ++ C) = A ++ insL lt x B ++ C := by
  rw [List.append_assoc, insL_pre hA, insL_post s hC, List.append_assoc]

theorem fndL_mid {lt : α → α → Bool} (s : Swo lt) {x : α} {A B C : List α} (hA : ∀ a ∈ A, lt a x = true) (hC : ∀ c ∈ C, lt x c = true) : fndL lt x (A ++ B ++ C) = fndL lt x B := by
  rw [List.append_assoc, fndL_pre hA, fndL_post s hC]

theorem insL_hit {lt : α → α → Bool} {x y : α} {P S : List α} (hP : ∀ a ∈ P, lt a x = true) (h1 : lt y x = false) (h2 : lt x y = false) : insL lt x (P ++ y :: S) = P ++ x :: S := by
  rw [insL_pre hP]; simp [insL, h1, h2]

theorem fndL_hit {lt : α → α → Bool} {x y : α} {P S : List α} (hP : ∀ a ∈ P, lt a x = true) (h1 : lt y x = false) (h2 : lt x y = false) : fndL lt x (P ++ y :: S) = some y := by
  rw [fndL_pre hP]; simp [fndL, h1, h2]

theorem insL_gap {lt : α → α → Bool} (s : Swo lt) {x : α} {A C : List α} (hA : ∀ a ∈ A, lt a x = true) (hC : ∀ c ∈ C, lt x c = true) : insL lt x (A ++ C) = A ++ x :: C := by
  have := insL_mid s (B := []) hA hC
  simpa [insL] using this

theorem fndL_gap {lt : α → α → Bool} (s : Swo lt) {x : α} {A C : List α} (hA : ∀ a ∈ A, lt a x = true) (hC : ∀ c ∈ C, lt x c = true) : fndL lt x (A ++ C) = none := by
  have := fndL_mid s (B := []) hA hC
  simpa [fndL] using this

theorem fndL_some {lt : α → α → Bool} {x y : α} : ∀ {l : List α}, fndL lt x l = some y → y ∈ l ∧ lt y x = false ∧ lt x y = false
  | [], h => by simp [fndL] at h
  | z :: l, h => by
    rw [fndL] at h
    split at h
    · obtain ⟨h1, h2⟩ := fndL_some h; exact ⟨List.mem_cons_of_mem _ h1, h2⟩
    · split at h
      · cases h
      · rename_i a b
        obtain rfl := Option.some.inj h
        exact ⟨List.mem_cons_self, by simpa using a, by simpa using b⟩

theorem insL_mem {lt : α → α → Bool} {x y : α} : ∀ {l : List α}, y ∈ insL lt x l → y = x ∨ y ∈ l
  | [], h => by simp [insL] at h; exact .inl h
  | z :: l, h => by
    rw [insL] at h
    split at h
    · rcases List.mem_cons.1 h with h | h
      · exact .inr (h ▸ List.mem_cons_self)
      · rcases insL_mem h with h | h
        · exact .inl h
        · exact .inr (List.mem_cons_of_mem _ h)
    · split at h
      · rcases List.mem_cons.1 h with h | h
        · exact .inl h
        · exact .inr h
      · rcases List.mem_cons.1 h with h | h
        · exact .inl h
        · exact .inr (List.mem_cons_of_mem _ h)

theorem insL_srt {lt : α → α → Bool} (s : Swo lt) (x : α) : ∀ {l : List α}, Srt lt l → Srt lt (insL lt x l)
  | [], _ => by simp [insL, Srt]
  | z :: l, h => by
    obtain ⟨h1, h2⟩ := List.pairwise_cons.1 h
    rw [insL]
    split
    · rename_i a
      refine List.pairwise_cons.2 ⟨fun y hy => ?_, insL_srt s x h2⟩
      rcases insL_mem hy with rfl | hy
      · exact a
      · exact h1 y hy
    · rename_i a
      split
      · rename_i b
        refine List.pairwise_cons.2 ⟨fun y hy => ?_, h⟩
        rcases List.mem_cons.1 hy with rfl | hy
        · exact b
        · exact s.trans b (h1 y hy)
      · refine List.pairwise_cons.2 ⟨fun y hy => ?_, h2⟩
        rename_i b
        exact s.lt_of_nlt_of_lt (b := z) (by simpa using a) (h1 y hy)

theorem insL_len {lt : α → α → Bool} {x : α} : ∀ {l : List α}, (insL lt x l).length = l.length + (if (fndL lt x l).isSome then 0 else 1)
  | [] => by simp [insL, fndL]
  | z :: l => by
    rw [insL, fndL]
    split
    · simp only [List.length_cons, insL_len (l := l)]; omega
    · split <;> simp

/-! ### Trees of one height -/
def BT (α : Type) : Nat → Type
  | 0 => Nat × List α
  | h + 1 => Nat × List α × List (BT α h)

def rid : {h : Nat} → BT α h → Nat
  | 0, t => t.1
  | _ + 1, t => t.1
def its : {h : Nat} → BT α h → List α
  | 0, t => t.2
  | _ + 1, t => t.2.1
def kds {h : Nat} (t : BT α (h + 1)) : List (BT α h) := t.2.2

/-- Items between lists. -/
def inter : List α → List (List α) → List α
  | _, [] => []
  | [], t :: ts => t ++ inter [] ts
  | x :: xs, t :: ts => t ++ x :: inter xs ts

/-- The lists, each with its item behind it; the items, each with its list behind it. -/
def pre : List α → List (List α) → List α
  | x :: xs, t :: ts => t ++ x :: pre xs ts
  | _, _ => []
def post : List α → List (List α) → List α
  | x :: xs, t :: ts => x :: t ++ post xs ts
  | _, _ => []

theorem inter_last (t : List α) : inter [] [t] = t := by simp [inter]

theorem inter_eq : ∀ (xs : List α) (t : List α) (ts : List (List α)), ts.length = xs.length → inter xs (t :: ts) = t ++ post xs ts
  | [], t, [], _ => by simp [inter, post]
  | x :: xs, t, u :: ts, h => by
    rw [inter, inter_eq xs u ts (by simpa using h)]; simp [post]

theorem inter_split : ∀ (i : Nat) (xs : List α) (ts : List (List α)) (t : List α), ts.length = xs.length + 1 → ts[i]? = some t →
    inter xs ts = pre (xs.take i) (ts.take i) ++ t ++ post (xs.drop i) (ts.drop (i + 1))
  | 0, xs, u :: ts, t, h, hi => by
    obtain rfl : u = t := by simpa using hi
    simp [pre, inter_eq xs u ts (by simpa using h)]
  | i + 1, x :: xs, u :: ts, t, h, hi => by
    rw [inter, inter_split i xs ts t (by simpa using h) (by simpa using hi)]
    simp [pre]
  | i + 1, [], u :: ts, t, h, hi => by
    obtain rfl : ts = [] := by simpa using h
    simp at hi
  | i, xs, [], t, h, hi => by simp at hi

theorem pre_last : ∀ (i : Nat) (xs : List α) (ts : List (List α)) (x : α), xs[i]? = some x → i < ts.length → ∃ P, pre (xs.take (i + 1)) (ts.take (i + 1)) = P ++ [x]
  | 0, x :: xs, t :: ts, y, h, _ => by
    obtain rfl : x = y := by simpa using h
    exact ⟨t, by simp [pre]⟩
  | i + 1, x :: xs, t :: ts, y, h, h2 => by
    obtain ⟨P, hP⟩ := pre_last i xs ts y (by simpa using h) (by simpa using h2)
    exact ⟨t ++ x :: P, by simp [pre, hP]⟩
  | _, [], _, _, h, _ => by simp at h
  | _, _ :: _, [], _, _, h => by simp at h

theorem pre_app : ∀ (xs ys : List α) (ts us : List (List α)), xs.length = ts.length → pre (xs ++ ys) (ts ++ us) = pre xs ts ++ pre ys us
  | [], ys, [], us, _ => rfl
  | x :: xs, ys, t :: ts, us, h => by simp [pre, pre_app xs ys ts us (by simpa using h)]

theorem post_app : ∀ (xs ys : List α) (ts us : List (List α)), xs.length = ts.length → post (xs ++ ys) (ts ++ us) = post xs ts ++ post ys us
  | [], ys, [], us, _ => rfl
  | x :: xs, ys, t :: ts, us, h => by simp [post, post_app xs ys ts us (by simpa using h)]

theorem inter_app (xs ys : List α) (x : α) (ts us : List (List α)) (h : ts.length = xs.length + 1) : inter (xs ++ x :: ys) (ts ++ us) = inter xs ts ++ x :: inter ys us := by
  induction xs generalizing ts with
  | nil =>
    match ts, h with
    | [t], _ => simp [inter]
  | cons y xs ih =>
    match ts, h with
    | t :: ts, h => simp [inter, ih ts (by simpa using h)]

def toL : (h : Nat) → BT α h → List α
  | 0, t => t.2
  | h + 1, t => inter t.2.1 (t.2.2.map (toL h))

def ids : (h : Nat) → BT α h → List Nat
  | 0, t => [t.1]
  | h + 1, t => t.1 :: t.2.2.flatMap (ids h)

/-- The shape: no node has more than mx items, a branch has one child more than items, no child has fewer than mn items. -/
def Sh (mn mx : Nat) : (h : Nat) → BT α h → Prop
  | 0, t => t.2.length ≤ mx
  | h + 1, t => t.2.1.length ≤ mx ∧ t.2.2.length = t.2.1.length + 1 ∧ ∀ c ∈ t.2.2, mn ≤ (its c).length ∧ Sh mn mx h c

theorem Sh.len {mn mx : Nat} : {h : Nat} → {t : BT α h} → Sh mn mx h t → (its t).length ≤ mx
  | 0, _, h => h
  | _ + 1, _, h => h.1

theorem rid_mem : {h : Nat} → (t : BT α h) → rid t ∈ ids h t
  | 0, _ => List.mem_singleton.2 rfl
  | _ + 1, _ => List.mem_cons_self

theorem its_sub : {h : Nat} → {t : BT α h} → {mn mx : Nat} → Sh mn mx h t → (its t).Sublist (toL h t)
  | 0, t, _, _, _ => List.Sublist.refl _
  | h + 1, t, _, _, hs => by
    obtain ⟨_, h2, _⟩ := hs
    show t.2.1.Sublist (inter t.2.1 (t.2.2.map (toL h)))
    have : ∀ (xs : List α) (ts : List (List α)), ts.length = xs.length + 1 → xs.Sublist (inter xs ts) := by
      intro xs
      induction xs with
      | nil => intro ts _; exact List.nil_sublist _
      | cons x xs ih =>
        intro ts hts
        match ts, hts with
        | u :: ts, hts => exact (((ih ts (by simpa using hts)).cons_cons x).trans (List.sublist_append_right u _))
    exact this _ _ (by simpa using h2)

/-- A branch, seen from its i-th child. -/
theorem toL_at {h : Nat} {t : BT α (h + 1)} {mn mx i : Nat} {c : BT α h} (hs : Sh mn mx (h + 1) t) (hc : t.2.2[i]? = some c) :
    toL (h + 1) t = pre (t.2.1.take i) ((t.2.2.map (toL h)).take i) ++ toL h c ++ post (t.2.1.drop i) ((t.2.2.map (toL h)).drop (i + 1)) :=
  inter_split i _ _ _ (by simpa using hs.2.1) (by simp [hc])

/-- Position among sorted items. -/
structure PosAt (lt : α → α → Bool) (xs : List α) (x : α) (i : Nat) : Prop where
  le : i ≤ xs.length
  left : ∀ j y, j < i → xs[j]? = some y → lt y x = true
  right : ∀ j y, i ≤ j → xs[j]? = some y → lt x y = true

structure HitAt (lt : α → α → Bool) (xs : List α) (x : α) (i : Nat) (y : α) : Prop where
  at_ : xs[i]? = some y
  left : ∀ j z, j < i → xs[j]? = some z → lt z x = true
  n1 : lt y x = false
  n2 : lt x y = false

theorem mem_take_get {l : List α} {i : Nat} {a : α} (h : a ∈ l.take i) : ∃ j, j < i ∧ l[j]? = some a := by
  obtain ⟨j, hj, e⟩ := List.mem_iff_getElem.1 h
  have hj' : j < i ∧ j < l.length := by rw [List.length_take] at hj; omega
  exact ⟨j, hj'.1, by rw [List.getElem?_eq_getElem hj'.2]; rw [List.getElem_take] at e; rw [e]⟩
theorem mem_drop_get {l : List α} {i : Nat} {a : α} (h : a ∈ l.drop i) : ∃ j, i ≤ j ∧ l[j]? = some a := by
  obtain ⟨j, hj, e⟩ := List.mem_iff_getElem.1 h
  have hj' : j < l.length - i := by simpa using hj
  exact ⟨i + j, by omega, by rw [List.getElem?_eq_getElem (by omega)]; rw [List.getElem_drop] at e; rw [e]⟩

/-- All ahead of the child at the place are before x, all behind it are behind x. -/
theorem around {lt : α → α → Bool} (s : Swo lt) {h : Nat} {t : BT α (h + 1)} {mn mx i : Nat} {c : BT α h} {x : α} (hs : Sh mn mx (h + 1) t) (hc : t.2.2[i]? = some c) (hsrt : Srt lt (toL (h + 1) t)) (hp : PosAt lt t.2.1 x i) :
    (∀ a ∈ pre (t.2.1.take i) ((t.2.2.map (toL h)).take i), lt a x = true) ∧ (∀ a ∈ post (t.2.1.drop i) ((t.2.2.map (toL h)).drop (i + 1)), lt x a = true) := by
  rw [toL_at hs hc] at hsrt
  obtain ⟨h12, h3, _⟩ := List.pairwise_append.1 hsrt
  obtain ⟨h1, _, _⟩ := List.pairwise_append.1 h12
  constructor
  · intro a ha
    cases i with
    | zero => simp [pre] at ha
    | succ i =>
      have hlen : i < t.2.1.length := hp.le
      obtain ⟨P, hP⟩ := pre_last i t.2.1 (t.2.2.map (toL h)) _ (List.getElem?_eq_getElem hlen) (by have := hs.2.1; simp; omega)
      rw [hP] at ha h1
      have hl := hp.left i _ (by omega) (List.getElem?_eq_getElem hlen)
      rcases List.mem_append.1 ha with ha | ha
      · exact s.trans ((List.pairwise_append.1 h1).2.2 a ha _ (List.mem_singleton.2 rfl)) hl
      · rw [List.mem_singleton.1 ha]; exact hl
  · intro a ha
    cases hd : t.2.1.drop i with
    | nil => rw [hd] at ha; simp [post] at ha
    | cons y ys =>
      have hy : t.2.1[i]? = some y := by
        have := List.getElem?_drop (xs := t.2.1) (i := i) (j := 0)
        rw [hd] at this; simpa using this.symm
      have hl := hp.right i y (Nat.le_refl _) hy
      cases hd2 : (t.2.2.map (toL h)).drop (i + 1) with
      | nil => rw [hd, hd2] at ha; simp [post] at ha
      | cons u us =>
        rw [hd, hd2] at ha h3
        simp only [post, List.cons_append] at ha h3
        rcases List.mem_cons.1 ha with rfl | ha
        · exact hl
        · exact s.trans hl ((List.pairwise_cons.1 h3).1 a ha)

theorem sub_srt {lt : α → α → Bool} {h : Nat} {t : BT α (h + 1)} {mn mx i : Nat} {c : BT α h} (hs : Sh mn mx (h + 1) t) (hc : t.2.2[i]? = some c) (hsrt : Srt lt (toL (h + 1) t)) : Srt lt (toL h c) := by
  rw [toL_at hs hc] at hsrt
  exact (List.pairwise_append.1 (List.pairwise_append.1 hsrt).1).2.1

theorem its_srt {lt : α → α → Bool} {h : Nat} {t : BT α h} {mn mx : Nat} (hs : Sh mn mx h t) (hsrt : Srt lt (toL h t)) : Srt lt (its t) := hsrt.sublist (its_sub hs)

/-- A child replaced. -/
def setKid {h : Nat} (t : BT α (h + 1)) (i : Nat) (c : BT α h) : BT α (h + 1) := (t.1, t.2.1, t.2.2.set i c)

theorem toL_setKid {h : Nat} {t : BT α (h + 1)} {mn mx i : Nat} {c c' : BT α h} (hs : Sh mn mx (h + 1) t) (hc : t.2.2[i]? = some c) :
    toL (h + 1) (setKid t i c') = pre (t.2.1.take i) ((t.2.2.map (toL h)).take i) ++ toL h c' ++ post (t.2.1.drop i) ((t.2.2.map (toL h)).drop (i + 1)) := by
  have hi : i < t.2.2.length := (List.getElem?_eq_some_iff.1 hc).1
  show inter t.2.1 ((t.2.2.set i c').map (toL h)) = _
  rw [inter_split i _ _ (toL h c') (by simpa using hs.2.1) (by simp [hi])]
  congr 2
  · rw [List.map_set, List.take_set_of_le (Nat.le_refl _)]
  · rw [List.map_set, List.drop_set_of_lt (by omega)]

/-- An item replaced. -/
def setIt : {h : Nat} → BT α h → Nat → α → BT α h
  | 0, t, i, x => (t.1, t.2.set i x)
  | _ + 1, t, i, x => (t.1, t.2.1.set i x, t.2.2)

theorem toL_around {h : Nat} {t : BT α h} {mn mx i : Nat} {y : α} (hs : Sh mn mx h t) (hy : (its t)[i]? = some y) : ∃ P S, toL h t = P ++ y :: S ∧ ∀ x, toL h (setIt t i x) = P ++ x :: S := by
  match h, t with
  | 0, t =>
    have hi : i < t.2.length := (List.getElem?_eq_some_iff.1 hy).1
    have hg : t.2[i] = y := (List.getElem?_eq_some_iff.1 hy).2
    refine ⟨t.2.take i, t.2.drop (i + 1), ?_, fun x => ?_⟩
    · show t.2 = _
      rw [← hg, ← List.drop_eq_getElem_cons hi, List.take_append_drop]
    · show t.2.set i x = _
      rw [List.set_eq_take_append_cons_drop, if_pos hi]
  | h + 1, t =>
    have hi : i < t.2.1.length := (List.getElem?_eq_some_iff.1 hy).1
    have hg : t.2.1[i] = y := (List.getElem?_eq_some_iff.1 hy).2
    have hl : t.2.2.length = t.2.1.length + 1 := hs.2.1
    refine ⟨inter (t.2.1.take i) ((t.2.2.map (toL h)).take (i + 1)), inter (t.2.1.drop (i + 1)) ((t.2.2.map (toL h)).drop (i + 1)), ?_, fun x => ?_⟩
    · show inter t.2.1 (t.2.2.map (toL h)) = _
      rw [← inter_app _ _ _ _ _ (by simp; omega), List.take_append_drop, ← hg, ← List.drop_eq_getElem_cons hi, List.take_append_drop]
    · show inter (t.2.1.set i x) (t.2.2.map (toL h)) = _
      rw [← inter_app _ _ _ _ _ (by simp; omega), List.take_append_drop, List.set_eq_take_append_cons_drop, if_pos hi]

end Go.Proofs.Ytpgaedmhgchgeaa

namespace Go.Proofs.Ytpgaedmhgchgeaa
set_option linter.unusedSimpArgs false
set_option linter.unusedVariables false
open Go.RowKit

/-- How elements lie in cells. -/
structure El (α : Type) where
  es : Nat
  enc : α → List Value
  T : TypeId
  epos : 0 < es
  elen : ∀ x, (enc x).length = es
  eone : ∀ x, ∀ v ∈ enc x, v.oneCell' = true

def El.par {α : Type} (p : El α) : Par α := ⟨p.es, p.enc, 0, p.T, 0, 0, 0, p.epos, p.elen, p.eone⟩

variable {α : Type}

/-- A slice that is only read. -/
def SlE (p : El α) (w : World) (v : Value) (xs : List α) : Prop := ∃ a cap, v = .slice a xs.length cap ∧ xs.length ≤ cap ∧ (xs = [] ∨ ∃ b o, a = some ⟨b, o, none⟩ ∧ ∀ j u, (flat p.par xs)[j]? = some u → w.cell? ⟨b, o + j, none⟩ = some u)

/-- A slice of the call's own: nil, or a row from base on. -/
def OwnE (p : El α) (w : World) (v : Value) (xs : List α) (base : Nat) : Prop := (xs = [] ∧ v = .slice none 0 0) ∨ ∃ b o cap, v = .slice (some ⟨b, o, none⟩) xs.length cap ∧ xs.length ≤ cap ∧ base ≤ b ∧ RowAt w p.T b o (cap * p.es) (flat p.par xs)

theorem OwnE.nil (p : El α) (w : World) (base : Nat) : OwnE p w (.slice none 0 0) [] base := .inl ⟨rfl, rfl⟩

theorem OwnE.chg {p : El α} {w w' : World} {v : Value} {xs : List α} {base : Nat} {A : Nat → Nat → Prop} (h : OwnE p w v xs base) (c : Chg A w w') (hA : ∀ b o, base ≤ b → ¬ A b o) : OwnE p w' v xs base := by
  rcases h with h | ⟨b, o, cap, h1, h2, h3, h4⟩
  · exact .inl h
  · exact .inr ⟨b, o, cap, h1, h2, h3, h4.chg c (fun j _ => hA _ _ h3)⟩

theorem OwnE.keep {p : El α} {w w' : World} {v : Value} {xs : List α} {base : Nat} (h : OwnE p w v xs base) (c : Chg (fun _ _ => False) w w') : OwnE p w' v xs base := h.chg c (fun _ _ _ h => h)

theorem OwnE.mono {p : El α} {w : World} {v : Value} {xs : List α} {base base' : Nat} (h : OwnE p w v xs base) (hb : base' ≤ base) : OwnE p w v xs base' := by
  rcases h with h | ⟨b, o, cap, h1, h2, h3, h4⟩
  · exact .inl h
  · exact .inr ⟨b, o, cap, h1, h2, by omega, h4⟩

theorem OwnE.sl {p : El α} {w : World} {v : Value} {xs : List α} {base : Nat} (h : OwnE p w v xs base) : SlE p w v xs := by
  rcases h with ⟨rfl, rfl⟩ | ⟨b, o, cap, rfl, h2, h3, h4⟩
  · exact ⟨none, 0, rfl, Nat.le_refl _, .inl rfl⟩
  · exact ⟨_, cap, rfl, h2, .inr ⟨b, o, rfl, fun j u hj => h4.cell hj⟩⟩

theorem SlE.chg {p : El α} {w w' : World} {v : Value} {xs : List α} (h : SlE p w v xs) (c : Chg (fun _ _ => False) w w') : SlE p w' v xs := by
  obtain ⟨a, cap, h1, h2, h3⟩ := h
  refine ⟨a, cap, h1, h2, h3.imp id ?_⟩
  rintro ⟨b, o, g1, g2⟩
  exact ⟨b, o, g1, fun j u hj => c.cell (fun h => h) (g2 j u hj)⟩

theorem SlE.form {p : El α} {w : World} {v : Value} {xs : List α} (h : SlE p w v xs) : ∃ a cap, v = .slice a xs.length cap := by
  obtain ⟨a, cap, h1, _⟩ := h
  exact ⟨a, cap, h1⟩

/-- One cell of one element. -/
theorem SlE.cell {p : El α} {w : World} {a : Option Addr} {n cap : Nat} {xs : List α} (h : SlE p w (.slice a n cap) xs) {j : Nat} {x : α} (hj : xs[j]? = some x) : ∃ b o, a = some ⟨b, o, none⟩ ∧ ∀ q u, (p.enc x)[q]? = some u → w.cell? ⟨b, o + (j * p.es + q), none⟩ = some u := by
  obtain ⟨a', cap', h1, h2, h3⟩ := h
  injection h1 with e1 e2 e3
  subst e1
  rcases h3 with rfl | ⟨b, o, rfl, h4⟩
  · simp at hj
  · exact ⟨b, o, rfl, fun q u hq => h4 _ u (flat_get p.par hj hq)⟩

section
variable {P : Program}

theorem run_append_E (p : El α) (w : World) (t ty : TypeId) (i : TypeInfo) (z : Value) (bytes : Nat) (ht : P.underlying t = some (.slice p.T)) (hi : P.info? p.T = some i) (hz : i.zero = some z)
    (hsize : i.size = p.es) (hby : i.bytes = bytes) (hzs : z.cells.size = p.es) (v : Value) (xs : List α) (base : Nat) (how : OwnE p w v xs base) (hbase : base ≤ w.heap.size)
    (ad : Addr) (m c : Nat) (ys : List α) (hm : ys.length = m) (hm0 : 0 < m) (hsrc : ∀ j u, (flat p.par ys)[j]? = some u → w.cell? (ad.add j) = some u) (h63 : xs.length + m ≤ maxLen) (hbytes : (xs.length + m) * bytes ≤ 140737488355328) :
    ∃ v' w', (Builtin.append_ #[t, t] ty #[v, .slice (some ad) m c]).run P w = .ok v' w' ∧ OwnE p w' v' (xs ++ ys) base ∧ Chg (fun b _ => base ≤ b) w w' ∧ v' ≠ .slice none 0 0 := by
  have hfl : (flat p.par ys).length = m * p.es := by rw [flat_len, hm]; rfl
  have hone : ∀ u ∈ flat p.par ys, u.oneCell' = true := flat_one p.par ys
  rcases how with ⟨rfl, rfl⟩ | ⟨b, o, cap, rfl, h2, h3, h4⟩
  · simp only [List.length_nil, Nat.zero_add] at h63 hbytes
    have hr := run_append_nil (P := P) w t ty p.T i z ht hi hz ad m c (flat p.par ys) (by rw [hfl, hsize]) hsrc hm0 (by simp only [maxLen] at h63; omega) (by rw [hby]; omega)
    have hge : m ≤ grownCap w m 0 p.T := by have := grownCap_ge w (0 + m) 0 p.T; simpa using this
    refine ⟨_, _, hr, .inr ⟨w.heap.size, 0, grownCap w m 0 p.T, by simp [hm], by simpa [hm] using hge, hbase, ?_⟩, ((Chg.refl _ _).drew).alloc _, by simp⟩
    have hs : ((flat p.par ys).toArray ++ Builtin.zeroCells z.cells (grownCap w m 0 p.T - m)).size = grownCap w m 0 p.T * p.es := by
      simp only [Array.size_append, List.size_toArray, size_zeroCells, hzs, hfl, ← Nat.add_mul]
      congr 1
      omega
    refine RowAt.of_block (heap_alloc_new w.drew _) _ _ ?_ ?_ ?_
    · rw [List.nil_append, hfl]; exact Nat.mul_le_mul_right _ hge
    · omega
    · intro j hj
      rw [List.nil_append] at hj ⊢
      rw [Nat.zero_add, Array.getElem?_append_left (by simpa using hj)]
      simp
  · obtain ⟨b', o', cap', w', hr, hA⟩ := run_append_row (P := P) w t ty p.T i z p.es bytes ht hi hz hsize hby hzs b o xs.length cap (flat p.par xs) h4 (flat_len p.par xs) ad m c (flat p.par ys) hfl hsrc hone h63 hbytes
    have hlen : (xs ++ ys).length = xs.length + m := by simp [hm]
    refine ⟨_, w', hr, .inr ⟨b', o', cap', by rw [hlen], by rw [hlen]; exact hA.room, ?_, by rw [flat_append]; exact hA.row⟩, hA.chg.mono (fun b1 _ _ h => by rw [h.1]; exact h3), by simp⟩
    rcases hA.place with h | h
    · rw [h.1]; exact h3
    · exact Nat.le_trans hbase h.1

theorem wp_append_E (p : El α) {o' : Oper} {a : Act} {w : World} {K : Act → World → Prop} {Q : Exit → Act → World → Prop} (s x : Operand) (t : TypeId)
    (ho : o'.op = .call { callee := .builtin .append, args := #[s, x], argTypes := #[t, t] }) (i : TypeInfo) (z : Value) (bytes : Nat) (ht : P.underlying t = some (.slice p.T)) (hi : P.info? p.T = some i) (hz : i.zero = some z)
    (hsize : i.size = p.es) (hby : i.bytes = bytes) (hzs : z.cells.size = p.es) (v : Value) (hs : a.eval s = v) (xs : List α) (base : Nat) (how : OwnE p w v xs base) (hbase : base ≤ w.heap.size)
    (ad : Addr) (m c : Nat) (hx : a.eval x = .slice (some ad) m c) (ys : List α) (hm : ys.length = m) (hm0 : 0 < m) (hsrc : ∀ j u, (flat p.par ys)[j]? = some u → w.cell? (ad.add j) = some u) (h63 : xs.length + m ≤ maxLen) (hbytes : (xs.length + m) * bytes ≤ 140737488355328)
    (h : ∀ v' w', OwnE p w' v' (xs ++ ys) base → Chg (fun b _ => base ≤ b) w w' → v' ≠ .slice none 0 0 → K (a.put o'.dst v') w') : o'.wp P a w K Q := by
  obtain ⟨v', w', hr, h2, h3, h4⟩ := run_append_E (P := P) p w t o'.type i z bytes ht hi hz hsize hby hzs v xs base how hbase ad m c ys hm hm0 hsrc h63 hbytes
  unfold Oper.wp execOp
  simp only [ho, resolve, invoke, builtin, Sem.run_bind, Sem.run_pure, Result.andThen_ok, List.map_toArray, List.map_cons, List.map_nil, hs, hx, hr]
  exact h v' w' h2 h3 h4

theorem wpList_append_E (p : El α) {ops : Array Oper} {rest : List Oper} {o' : Oper} {a : Act} {w : World} {Q : Exit → Act → World → Prop} (hgd : o'.guard = none) (s x : Operand) (t : TypeId)
    (ho : o'.op = .call { callee := .builtin .append, args := #[s, x], argTypes := #[t, t] }) (i : TypeInfo) (z : Value) (bytes : Nat) (ht : P.underlying t = some (.slice p.T)) (hi : P.info? p.T = some i) (hz : i.zero = some z)
    (hsize : i.size = p.es) (hby : i.bytes = bytes) (hzs : z.cells.size = p.es) (v : Value) (hs : a.eval s = v) (xs : List α) (base : Nat) (how : OwnE p w v xs base) (hbase : base ≤ w.heap.size)
    (ad : Addr) (m c : Nat) (hx : a.eval x = .slice (some ad) m c) (ys : List α) (hm : ys.length = m) (hm0 : 0 < m) (hsrc : ∀ j u, (flat p.par ys)[j]? = some u → w.cell? (ad.add j) = some u) (h63 : xs.length + m ≤ maxLen) (hbytes : (xs.length + m) * bytes ≤ 140737488355328)
    (h : ∀ v' w', OwnE p w' v' (xs ++ ys) base → Chg (fun b _ => base ≤ b) w w' → v' ≠ .slice none 0 0 → wpList P ops Q rest (a.put o'.dst v') w') : wpList P ops Q (o' :: rest) a w :=
  wpList_plain hgd fun _ hK => wp_append_E p s x t ho i z bytes ht hi hz hsize hby hzs v hs xs base how hbase ad m c hx ys hm hm0 hsrc h63 hbytes fun v' w' h2 h3 h4 => hK _ _ (h v' w' h2 h3 h4)
end

/-- No block in common. -/
def Apart (v1 v2 : Value) : Prop := ∀ b, v1.ownBlock = some b → v2.ownBlock ≠ some b

theorem OwnE.chgOwn {p : El α} {w w' : World} {v : Value} {xs : List α} {base : Nat} {A : Nat → Nat → Prop} (h : OwnE p w v xs base) (c : Chg A w w') (hA : ∀ b o, v.ownBlock = some b → ¬ A b o) : OwnE p w' v xs base := by
  rcases h with h | ⟨b, o, cap, rfl, h2, h3, h4⟩
  · exact .inl h
  · exact .inr ⟨b, o, cap, rfl, h2, h3, h4.chg c (fun j _ => hA _ _ rfl)⟩

theorem OwnE.own_lt {p : El α} {w : World} {v : Value} {xs : List α} {base b : Nat} (h : OwnE p w v xs base) (hb : v.ownBlock = some b) : base ≤ b ∧ b < w.heap.size := by
  rcases h with ⟨_, rfl⟩ | ⟨b', o, cap, rfl, h2, h3, h4⟩
  · cases hb
  · have e : b' = b := Option.some.inj hb
    subst e
    exact ⟨h3, h4.lt⟩

section
variable {P : Program}
/-- append, with what it may touch and where the new slice lies. -/
theorem run_append_E2 (p : El α) (w : World) (t ty : TypeId) (i : TypeInfo) (z : Value) (bytes : Nat) (ht : P.underlying t = some (.slice p.T)) (hi : P.info? p.T = some i) (hz : i.zero = some z)
    (hsize : i.size = p.es) (hby : i.bytes = bytes) (hzs : z.cells.size = p.es) (v : Value) (xs : List α) (base : Nat) (how : OwnE p w v xs base) (hbase : base ≤ w.heap.size)
    (ad : Addr) (m c : Nat) (ys : List α) (hm : ys.length = m) (hm0 : 0 < m) (hsrc : ∀ j u, (flat p.par ys)[j]? = some u → w.cell? (ad.add j) = some u) (h63 : xs.length + m ≤ maxLen) (hbytes : (xs.length + m) * bytes ≤ 140737488355328) :
    ∃ v' w', (Builtin.append_ #[t, t] ty #[v, .slice (some ad) m c]).run P w = .ok v' w' ∧ OwnE p w' v' (xs ++ ys) base ∧ Chg (fun b _ => v.ownBlock = some b) w w' ∧ (v'.ownBlock = v.ownBlock ∨ ∃ nb, v'.ownBlock = some nb ∧ w.heap.size ≤ nb) ∧ v' ≠ .slice none 0 0 := by
  have hfl : (flat p.par ys).length = m * p.es := by rw [flat_len, hm]; rfl
  have hone : ∀ u ∈ flat p.par ys, u.oneCell' = true := flat_one p.par ys
  obtain ⟨v1, w1, hr1, h1, _, h4⟩ := run_append_E (P := P) p w t ty i z bytes ht hi hz hsize hby hzs v xs base how hbase ad m c ys hm hm0 hsrc h63 hbytes
  refine ⟨v1, w1, hr1, h1, ?_, ?_, h4⟩
  · rcases how with ⟨rfl, rfl⟩ | ⟨b, o, cap, rfl, h2, h3, h4⟩
    · simp only [List.length_nil, Nat.zero_add] at h63 hbytes
      have hr := run_append_nil (P := P) w t ty p.T i z ht hi hz ad m c (flat p.par ys) (by rw [hfl, hsize]) hsrc hm0 (by simp only [maxLen] at h63; omega) (by rw [hby]; omega)
      rw [hr] at hr1
      injection hr1 with e1 e2
      rw [← e2]
      exact ((Chg.refl _ _).drew).alloc _
    · obtain ⟨b', o', cap', w', hr, hA⟩ := run_append_row (P := P) w t ty p.T i z p.es bytes ht hi hz hsize hby hzs b o xs.length cap (flat p.par xs) h4 (flat_len p.par xs) ad m c (flat p.par ys) hfl hsrc hone h63 hbytes
      rw [hr] at hr1
      injection hr1 with e1 e2
      rw [← e2]
      exact hA.chg.mono fun b1 _ _ h => by rw [h.1]; rfl
  · rcases how with ⟨rfl, rfl⟩ | ⟨b, o, cap, rfl, h2, h3, h4⟩
    · simp only [List.length_nil, Nat.zero_add] at h63 hbytes
      have hr := run_append_nil (P := P) w t ty p.T i z ht hi hz ad m c (flat p.par ys) (by rw [hfl, hsize]) hsrc hm0 (by simp only [maxLen] at h63; omega) (by rw [hby]; omega)
      rw [hr] at hr1
      injection hr1 with e1 e2
      exact .inr ⟨w.heap.size, by rw [← e1]; rfl, Nat.le_refl _⟩
    · obtain ⟨b', o', cap', w', hr, hA⟩ := run_append_row (P := P) w t ty p.T i z p.es bytes ht hi hz hsize hby hzs b o xs.length cap (flat p.par xs) h4 (flat_len p.par xs) ad m c (flat p.par ys) hfl hsrc hone h63 hbytes
      rw [hr] at hr1
      injection hr1 with e1 e2
      rcases hA.place with h | h
      · exact .inl (by rw [← e1, h.1]; rfl)
      · exact .inr ⟨b', by rw [← e1]; rfl, h.1⟩

theorem wp_append_E2 (p : El α) {o' : Oper} {a : Act} {w : World} {K : Act → World → Prop} {Q : Exit → Act → World → Prop} (s x : Operand) (t : TypeId)
    (ho : o'.op = .call { callee := .builtin .append, args := #[s, x], argTypes := #[t, t] }) (i : TypeInfo) (z : Value) (bytes : Nat) (ht : P.underlying t = some (.slice p.T)) (hi : P.info? p.T = some i) (hz : i.zero = some z)
    (hsize : i.size = p.es) (hby : i.bytes = bytes) (hzs : z.cells.size = p.es) (v : Value) (hs : a.eval s = v) (xs : List α) (base : Nat) (how : OwnE p w v xs base) (hbase : base ≤ w.heap.size)
    (ad : Addr) (m c : Nat) (hx : a.eval x = .slice (some ad) m c) (ys : List α) (hm : ys.length = m) (hm0 : 0 < m) (hsrc : ∀ j u, (flat p.par ys)[j]? = some u → w.cell? (ad.add j) = some u) (h63 : xs.length + m ≤ maxLen) (hbytes : (xs.length + m) * bytes ≤ 140737488355328)
    (h : ∀ v' w', OwnE p w' v' (xs ++ ys) base → Chg (fun b _ => v.ownBlock = some b) w w' → (v'.ownBlock = v.ownBlock ∨ ∃ nb, v'.ownBlock = some nb ∧ w.heap.size ≤ nb) → K (a.put o'.dst v') w') : o'.wp P a w K Q := by
  obtain ⟨v', w', hr, h2, h3, h4, _⟩ := run_append_E2 (P := P) p w t o'.type i z bytes ht hi hz hsize hby hzs v xs base how hbase ad m c ys hm hm0 hsrc h63 hbytes
  unfold Oper.wp execOp
  simp only [ho, resolve, invoke, builtin, Sem.run_bind, Sem.run_pure, Result.andThen_ok, List.map_toArray, List.map_cons, List.map_nil, hs, hx, hr]
  exact h v' w' h2 h3 h4

theorem wpList_append_E2 (p : El α) {ops : Array Oper} {rest : List Oper} {o' : Oper} {a : Act} {w : World} {Q : Exit → Act → World → Prop} (hgd : o'.guard = none) (s x : Operand) (t : TypeId)
    (ho : o'.op = .call { callee := .builtin .append, args := #[s, x], argTypes := #[t, t] }) (i : TypeInfo) (z : Value) (bytes : Nat) (ht : P.underlying t = some (.slice p.T)) (hi : P.info? p.T = some i) (hz : i.zero = some z)
    (hsize : i.size = p.es) (hby : i.bytes = bytes) (hzs : z.cells.size = p.es) (v : Value) (hs : a.eval s = v) (xs : List α) (base : Nat) (how : OwnE p w v xs base) (hbase : base ≤ w.heap.size)
    (ad : Addr) (m c : Nat) (hx : a.eval x = .slice (some ad) m c) (ys : List α) (hm : ys.length = m) (hm0 : 0 < m) (hsrc : ∀ j u, (flat p.par ys)[j]? = some u → w.cell? (ad.add j) = some u) (h63 : xs.length + m ≤ maxLen) (hbytes : (xs.length + m) * bytes ≤ 140737488355328)
    (h : ∀ v' w', OwnE p w' v' (xs ++ ys) base → Chg (fun b _ => v.ownBlock = some b) w w' → (v'.ownBlock = v.ownBlock ∨ ∃ nb, v'.ownBlock = some nb ∧ w.heap.size ≤ nb) → wpList P ops Q rest (a.put o'.dst v') w') : wpList P ops Q (o' :: rest) a w := by
  refine wpList_plain hgd fun K hK => ?_
  obtain ⟨v', w', hr, h2, h3, h4, _⟩ := run_append_E2 (P := P) p w t o'.type i z bytes ht hi hz hsize hby hzs v xs base how hbase ad m c ys hm hm0 hsrc h63 hbytes
  unfold Oper.wp execOp
  simp only [ho, resolve, invoke, builtin, Sem.run_bind, Sem.run_pure, Result.andThen_ok, List.map_toArray, List.map_cons, List.map_nil, hs, hx, hr]
  exact hK _ _ (h v' w' h2 h3 h4)

/-- Two lists of the call's own, one of which grows. -/
theorem Apart.grow {w : World} {v v' u : Value} (h : Apart v u) (hv : v'.ownBlock = v.ownBlock ∨ ∃ nb, v'.ownBlock = some nb ∧ w.heap.size ≤ nb) (hu : ∀ b, u.ownBlock = some b → b < w.heap.size) : Apart v' u := by
  intro b hb hub
  rcases hv with hv | ⟨nb, hv, hn⟩
  · exact h b (hv ▸ hb) hub
  · rw [hv] at hb
    have e : nb = b := Option.some.inj hb
    have := hu b hub
    omega
theorem Apart.symm {v u : Value} (h : Apart v u) : Apart u v := fun b h1 h2 => h b h2 h1
end

/-- One element out of a new block. -/
theorem El.src1 (p : El α) {w : World} {b : Nat} {c : Array Value} {T : TypeId} {fr : Nat × Nat} (h : w.heap[b]? = some (.cells c T fr)) (x : α) (hc : c.toList = p.enc x) : ∀ j u, (flat p.par [x])[j]? = some u → w.cell? ((⟨b, 0, none⟩ : Addr).add j) = some u := by
  intro j u hj
  rw [flat_single] at hj
  have hj' : c[j]? = some u := by rw [← Array.getElem?_toList, hc]; exact hj
  rw [add_none]
  simp [World.cell?, h, hj']
end Go.Proofs.Ytpgaedmhgchgeaa

namespace Go.Proofs.Ytpgaedmhgchgeaa
set_option linter.unusedSimpArgs false
set_option linter.unusedVariables false
open Go.RowKit
variable {α : Type}

/-- The node n, of the record r0 in w0, has the record r in w; else nothing that was there has changed. -/
structure Run (p : Par α) (w0 : World) (n : Nat) (r0 : NodeR α) (l0 : Lay) (w : World) (r : NodeR α) (l : Lay) : Prop where
  at_ : NodeAt p w n r l
  chg : Chg (Ext p n r0 l0) w0 w
  ext : ∀ b o, Ext p n r l b o → Ext p n r0 l0 b o ∨ w0.heap.size ≤ b
  blk : ∀ b, Blk n r l b → Blk n r0 l0 b ∨ w0.heap.size ≤ b

section
variable {p : Par α} {w0 w w' : World} {n : Nat} {r0 r : NodeR α} {l0 l : Lay}

theorem Run.start (h : NodeAt p w0 n r0 l0) : Run p w0 n r0 l0 w0 r0 l0 := ⟨h, Chg.refl _ _, fun _ _ h => .inl h, fun _ h => .inl h⟩

/-- Changes elsewhere, in new blocks alone. -/
theorem Run.aside {A : Nat → Nat → Prop} (h : Run p w0 n r0 l0 w r l) (c : Chg A w w') (hA : ∀ b o, A b o → w0.heap.size ≤ b ∧ ¬ Ext p n r l b o) : Run p w0 n r0 l0 w' r l :=
  ⟨h.at_.chg c fun b o hx hy => (hA b o hy).2 hx, h.chg.trans' c (fun _ _ _ x => x) (fun b o hb x => by have := (hA b o x).1; omega), h.ext, h.blk⟩

theorem Run.still (h : Run p w0 n r0 l0 w r l) (c : Chg (fun _ _ => False) w w') : Run p w0 n r0 l0 w' r l := h.aside c fun _ _ x => x.elim

theorem NodeAt.setCnt (h : NodeAt p w n r l) (c : Int) : NodeAt p (w.setCell ⟨n, 1, none⟩ (.int .i64 c)) n { r with cnt := c } l := by
  have hc : Chg (fun b _ => b = n) w (w.setCell ⟨n, 1, none⟩ (.int .i64 c)) := (Chg.refl _ _).setCell (.inl rfl) _
  refine ⟨by rw [hs_same h.hd]; rfl, h.row.chg hc fun _ _ => h.d1, fun ks hk => ?_, h.d1, h.d2⟩
  have hne : r.kids ≠ none := by rw [show r.kids = some ks from hk]; simp
  obtain ⟨k1, k2⟩ := h.kid ks hk
  obtain ⟨e1, e2, _⟩ := h.d2 hne
  exact ⟨by rw [hs_ne _ e1]; exact k1, k2.chg hc fun _ _ => e2⟩

theorem Run.setCnt (h : Run p w0 n r0 l0 w r l) (c : Int) : Run p w0 n r0 l0 (w.setCell ⟨n, 1, none⟩ (.int .i64 c)) { r with cnt := c } l :=
  ⟨h.at_.setCnt c, h.chg.setCell (.inl (.inl rfl)) _, h.ext, h.blk⟩

/-- The items' cells overwritten within the row. -/
theorem Run.putItems (h : Run p w0 n r0 l0 w r l) (i : Nat) (ys : List α) (hi : i + ys.length ≤ r.items.length) :
    Run p w0 n r0 l0 (putCells w l.ib (l.io + i * p.es) (flat p ys)) { r with items := r.items.take i ++ ys ++ r.items.drop (i + ys.length) } l := by
  have hlen := h.at_.len
  have m1 : (i + ys.length) * p.es ≤ r.items.length * p.es := Nat.mul_le_mul_right _ hi
  have m2 : r.items.length * p.es ≤ l.ic * p.es := Nat.mul_le_mul_right _ hlen
  have m3 : (i + ys.length) * p.es = i * p.es + ys.length * p.es := Nat.add_mul _ _ _
  obtain ⟨q0, c, q1, q2, q3⟩ := h.at_.row
  have hfl := flat_len p ys
  have hin : ∀ o, l.io + i * p.es ≤ o → o < l.io + i * p.es + (flat p ys).length → Ext p n r l l.ib o := fun o h1 h2 => .inr (.inl ⟨rfl, by omega, by omega⟩)
  have hc : Chg (fun b o => b = l.ib ∧ l.io + i * p.es ≤ o ∧ o < l.io + i * p.es + (flat p ys).length) w (putCells w l.ib (l.io + i * p.es) (flat p ys)) :=
    putCells_chg (Chg.refl _ _) q1 (by omega) (.inl fun o h1 h2 => ⟨rfl, h1, h2⟩)
  have hl' : (r.items.take i ++ ys ++ r.items.drop (i + ys.length)).length = r.items.length := by simp; omega
  refine ⟨⟨?_, ?_, ?_, h.at_.d1, h.at_.d2⟩, ?_, h.ext, h.blk⟩
  · rw [hc.block (heap_lt h.at_.hd) (fun o hx => h.at_.d1 hx.1.symm), h.at_.hd]
    simp only [hdCells, hl']
  · have := h.at_.row.putCells (i * p.es) (flat p ys) (by rw [flat_len]; omega) (by omega)
    rw [hfl, ← m3, flat_take, flat_drop, ← flat_append, ← flat_append] at this
    exact this
  · intro ks hk
    have hne : r.kids ≠ none := by rw [show r.kids = some ks from hk]; simp
    obtain ⟨k1, k2⟩ := h.at_.kid ks hk
    obtain ⟨_, _, e3, e4, _⟩ := h.at_.d2 hne
    exact ⟨by rw [hc.block (heap_lt k1) (fun o hx => e3 hx.1)]; exact k1, k2.chg hc fun _ _ hx => e4 hx.1⟩
  · refine putCells_chg h.chg q1 (by omega) ?_
    by_cases hb : w0.heap.size ≤ l.ib
    · exact .inr hb
    · refine .inl fun o h1 h2 => ?_
      rcases h.ext _ _ (hin o h1 h2) with hx | hx
      · exact hx
      · exact absurd hx hb

/-- append to the items, and the store of the slice. -/
theorem Run.append (h : Run p w0 n r0 l0 w r l) (ys : List α) {b' o' cap' : Nat} {w1 : World} (ha : Appd p.TI p.es w l.ib l.io r.items.length l.ic (flat p r.items) (flat p ys) ys.length b' o' cap' w1)
    {w2 : World} (hc2 : Chg (fun _ _ => False) w1 w2) :
    Run p w0 n r0 l0 (w2.setCell ⟨n, 2, none⟩ (.slice (some ⟨b', o', none⟩) ((r.items.length + ys.length : Nat)) cap')) { r with items := r.items ++ ys } { l with ib := b', io := o', ic := cap' } := by
  obtain ⟨a1, a2, a3, a4⟩ := ha
  have hs0 := h.chg.size
  have hext : ∀ b o, b = l.ib ∧ l.io + r.items.length * p.es ≤ o ∧ o < l.io + l.ic * p.es → Ext p n r l b o := fun b o hx => .inr (.inl ⟨hx.1, by omega, hx.2.2⟩)
  have hA : Chg (fun b o => (b = l.ib ∧ l.io + r.items.length * p.es ≤ o ∧ o < l.io + l.ic * p.es) ∨ b = n) w (w2.setCell ⟨n, 2, none⟩ (.slice (some ⟨b', o', none⟩) ((r.items.length + ys.length : Nat)) cap')) :=
    ((a2.mono fun _ _ _ x => .inl x).trans' hc2 (fun _ _ _ x => x) (fun _ _ _ x => x.elim)).setCell (.inl (.inr rfl)) _
  have hbn : b' ≠ n := by
    have := heap_lt h.at_.hd
    rcases a4 with ⟨e, _⟩ | ⟨e, _⟩
    · rw [e]; exact h.at_.d1
    · omega
  have hhd : w2.heap[n]? = some (.cells (hdCells p r l) p.TN (0, 0)) := by
    rw [hc2.block (Nat.lt_of_lt_of_le (heap_lt h.at_.hd) a2.size) (fun _ x => x), a2.block (heap_lt h.at_.hd) (fun o hx => h.at_.d1 hx.1.symm)]; exact h.at_.hd
  have hc2' : Chg (fun b _ => b = n) w2 (w2.setCell ⟨n, 2, none⟩ (.slice (some ⟨b', o', none⟩) ((r.items.length + ys.length : Nat)) cap')) := (Chg.refl _ _).setCell (.inl rfl) _
  have hdk : r.kids ≠ Option.none → b' ≠ l.cc ∧ b' ≠ l.cb := by
    intro hne
    obtain ⟨e1, e2, e3, e4, e5⟩ := h.at_.d2 hne
    have := h.at_.lt (b := l.cc) (.inr (.inr ⟨hne, .inl rfl⟩))
    have := h.at_.lt (b := l.cb) (.inr (.inr ⟨hne, .inr rfl⟩))
    rcases a4 with ⟨e, _⟩ | ⟨e, _⟩
    · rw [e]; exact ⟨Ne.symm e3, Ne.symm e4⟩
    · omega
  refine ⟨⟨?_, ?_, ?_, hbn, ?_⟩, ?_, ?_, ?_⟩
  · rw [hs_same hhd]; simp [hdCells]
  · show RowAt _ _ b' o' (cap' * p.es) (flat p (r.items ++ ys))
    rw [flat_append]
    exact (a1.chg hc2 fun _ _ x => x).chg hc2' fun _ _ => hbn
  · intro ks hk
    have hne : r.kids ≠ Option.none := by rw [show r.kids = some ks from hk]; simp
    obtain ⟨k1, k2⟩ := h.at_.kid ks hk
    obtain ⟨e1, e2, e3, e4, e5⟩ := h.at_.d2 hne
    exact ⟨by rw [hA.block (heap_lt k1) (fun o hx => by rcases hx with hx | hx; exact e3 hx.1; exact e1 hx)]; exact k1, k2.chg hA fun _ _ hx => by rcases hx with hx | hx; exact e4 hx.1; exact e2 hx⟩
  · intro hne
    obtain ⟨e1, e2, e3, e4, e5⟩ := h.at_.d2 hne
    obtain ⟨f1, f2⟩ := hdk hne
    exact ⟨e1, e2, Ne.symm f1, Ne.symm f2, e5⟩
  · refine h.chg.trans' hA (fun _ _ _ x => x) ?_
    rintro b o hb (hx | rfl)
    · rcases h.ext b o (hext b o hx) with hy | hy
      · exact hy
      · omega
    · exact .inl rfl
  · rintro b o (hx | ⟨e1, e2, e3⟩ | hx)
    · exact .inl (.inl hx)
    · have e1' : b = b' := e1
      have e2' : o' ≤ o := e2
      have e3' : o < o' + cap' * p.es := e3
      rcases a4 with ⟨g1, g2, g3⟩ | ⟨g1, _⟩
      · refine h.ext b o (.inr (.inl ⟨e1'.trans g1, by omega, ?_⟩))
        rw [g2, g3] at e3'; exact e3'
      · exact .inr (by omega)
    · exact h.ext b o (.inr (.inr hx))
  · rintro b (hx | hx | hx)
    · exact .inl (.inl hx)
    · have hx' : b = b' := hx
      rcases a4 with ⟨g1, _⟩ | ⟨g1, _⟩
      · exact h.blk b (.inr (.inl (hx'.trans g1)))
      · exact .inr (by omega)
    · exact h.blk b (.inr (.inr hx))

/-- The items cut: 'n.items = n.items[i:j]' of whatever capacity within. -/
theorem Run.cut (h : Run p w0 n r0 l0 w r l) (i j c : Nat) (hij : i + j ≤ r.items.length) (hjc : j ≤ c) (hic : i + c ≤ l.ic) :
    Run p w0 n r0 l0 (w.setCell ⟨n, 2, none⟩ (.slice (some ⟨l.ib, l.io + i * p.es, none⟩) j c)) { r with items := (r.items.drop i).take j } { l with io := l.io + i * p.es, ic := c } := by
  have hc : Chg (fun b _ => b = n) w (w.setCell ⟨n, 2, none⟩ (.slice (some ⟨l.ib, l.io + i * p.es, none⟩) j c)) := (Chg.refl _ _).setCell (.inl rfl) _
  have hm : (i + c) * p.es ≤ l.ic * p.es := Nat.mul_le_mul_right _ hic
  rw [Nat.add_mul] at hm
  refine ⟨⟨?_, ?_, ?_, h.at_.d1, h.at_.d2⟩, h.chg.setCell (.inl (.inl rfl)) _, ?_, fun b hb => h.blk b hb⟩
  · rw [hs_same h.at_.hd]
    have : min j (r.items.length - i) = j := by omega
    simp [hdCells, this]
  · exact h.at_.rowPart hc i j c hij hjc hic fun o _ _ e => h.at_.d1 e
  · intro ks hk
    have hne : r.kids ≠ Option.none := by rw [show r.kids = some ks from hk]; simp
    obtain ⟨k1, k2⟩ := h.at_.kid ks hk
    obtain ⟨e1, e2, _⟩ := h.at_.d2 hne
    exact ⟨by rw [hs_ne _ e1]; exact k1, k2.chg hc fun _ _ => e2⟩
  · rintro b o (hx | ⟨e1, e2, e3⟩ | hx)
    · exact .inl (.inl hx)
    · have e2' : l.io + i * p.es ≤ o := e2
      have e3' : o < l.io + i * p.es + c * p.es := e3
      exact h.ext b o (.inr (.inl ⟨e1, by omega, by omega⟩))
    · exact h.ext b o (.inr (.inr hx))

/-- The children's cells overwritten within the row. -/
theorem Run.putKids (h : Run p w0 n r0 l0 w r l) {ks : List (Option Nat)} (hk : r.kids = some ks) (i : Nat) (ys : List (Option Nat)) (hi : i + ys.length ≤ ks.length) :
    Run p w0 n r0 l0 (putCells w l.cb (l.co + i) (ys.map kidV)) { r with kids := some (ks.take i ++ ys ++ ks.drop (i + ys.length)) } l := by
  have hne : r.kids ≠ Option.none := by rw [hk]; simp
  have hklen := h.at_.klen hk
  obtain ⟨k1, k2⟩ := h.at_.kid ks hk
  obtain ⟨e1, e2, e3, e4, e5⟩ := h.at_.d2 hne
  obtain ⟨q0, c, q1, q2, q3⟩ := k2
  have hin : ∀ o, l.co + i ≤ o → o < l.co + i + (ys.map kidV).length → Ext p n r l l.cb o := fun o h1 h2 => .inr (.inr ⟨hne, .inr ⟨rfl, by omega, by simp at h2; omega⟩⟩)
  have hc : Chg (fun b o => b = l.cb ∧ l.co + i ≤ o ∧ o < l.co + i + (ys.map kidV).length) w (putCells w l.cb (l.co + i) (ys.map kidV)) :=
    putCells_chg (Chg.refl _ _) q1 (by simp; omega) (.inl fun o h1 h2 => ⟨rfl, h1, h2⟩)
  have hl' : (ks.take i ++ ys ++ ks.drop (i + ys.length)).length = ks.length := by simp; omega
  refine ⟨⟨?_, ?_, ?_, h.at_.d1, fun _ => h.at_.d2 hne⟩, ?_, ?_, ?_⟩
  · rw [hc.block (heap_lt h.at_.hd) (fun o hx => e2 hx.1.symm), h.at_.hd]
    simp [hdCells, hk]
  · exact h.at_.row.chg hc fun _ _ hx => e4 hx.1.symm
  · intro ks' hk'
    obtain rfl := Option.some.inj hk'
    refine ⟨?_, ?_⟩
    · rw [hc.block (heap_lt k1) (fun o hx => e5 hx.1.symm), k1, hl']
    · have := (h.at_.kid ks hk).2.putCells i (ys.map kidV) (by simp; omega) (by simp; omega)
      rw [List.length_map, ← List.map_take, ← List.map_drop, ← List.map_append, ← List.map_append] at this
      exact this
  · refine putCells_chg h.chg q1 (by simp; omega) ?_
    by_cases hb : w0.heap.size ≤ l.cb
    · exact .inr hb
    · refine .inl fun o h1 h2 => ?_
      rcases h.ext _ _ (hin o h1 h2) with hx | hx
      · exact hx
      · exact absurd hx hb
  · rintro b o (hx | hx | ⟨_, hx⟩)
    · exact .inl (.inl hx)
    · exact h.ext b o (.inr (.inl hx))
    · exact h.ext b o (.inr (.inr ⟨hne, hx⟩))
  · rintro b (hx | hx | ⟨_, hx⟩)
    · exact .inl (.inl hx)
    · exact h.blk b (.inr (.inl hx))
    · exact h.blk b (.inr (.inr ⟨hne, hx⟩))

/-- append to the children, and the store of the slice. -/
theorem Run.appendKids (h : Run p w0 n r0 l0 w r l) {ks : List (Option Nat)} (hk : r.kids = some ks) (ys : List (Option Nat)) {b' o' cap' : Nat} {w1 : World} (ha : Appd p.TP 1 w l.cb l.co ks.length l.ck (ks.map kidV) (ys.map kidV) ys.length b' o' cap' w1)
    {w2 : World} (hc2 : Chg (fun _ _ => False) w1 w2) :
    Run p w0 n r0 l0 (w2.setCell ⟨l.cc, 0, none⟩ (.slice (some ⟨b', o', none⟩) ((ks.length + ys.length : Nat)) cap')) { r with kids := some (ks ++ ys) } { l with cb := b', co := o', ck := cap' } := by
  obtain ⟨a1, a2, a3, a4⟩ := ha
  have hs0 := h.chg.size
  have hne : r.kids ≠ Option.none := by rw [hk]; simp
  obtain ⟨k1, k2⟩ := h.at_.kid ks hk
  obtain ⟨e1, e2, e3, e4, e5⟩ := h.at_.d2 hne
  have ltn := heap_lt h.at_.hd
  have lti := h.at_.row.lt
  have ltc := heap_lt k1
  have hext : ∀ b o, b = l.cb ∧ l.co + ks.length * 1 ≤ o ∧ o < l.co + l.ck * 1 → Ext p n r l b o := fun b o hx => .inr (.inr ⟨hne, .inr ⟨hx.1, by omega, by omega⟩⟩)
  have hA : Chg (fun b o => (b = l.cb ∧ l.co + ks.length * 1 ≤ o ∧ o < l.co + l.ck * 1) ∨ b = l.cc) w (w2.setCell ⟨l.cc, 0, none⟩ (.slice (some ⟨b', o', none⟩) ((ks.length + ys.length : Nat)) cap')) :=
    ((a2.mono fun _ _ _ x => .inl x).trans' hc2 (fun _ _ _ x => x) (fun _ _ _ x => x.elim)).setCell (.inl (.inr rfl)) _
  have hcc : w2.heap[l.cc]? = some (.cells #[.slice (some ⟨l.cb, l.co, none⟩) ks.length l.ck] p.TS (0, 0)) := by
    rw [hc2.block (Nat.lt_of_lt_of_le ltc a2.size) (fun _ x => x), a2.block ltc (fun o hx => e5 hx.1.symm)]; exact k1
  have hc2' : Chg (fun b _ => b = l.cc) w2 (w2.setCell ⟨l.cc, 0, none⟩ (.slice (some ⟨b', o', none⟩) ((ks.length + ys.length : Nat)) cap')) := (Chg.refl _ _).setCell (.inl rfl) _
  have hd : b' ≠ n ∧ b' ≠ l.ib ∧ b' ≠ l.cc := by
    rcases a4 with ⟨e, _⟩ | ⟨e, _⟩
    · rw [e]; exact ⟨e2, e4, e5⟩
    · omega
  refine ⟨⟨?_, ?_, ?_, h.at_.d1, fun _ => ⟨e1, hd.1, e3, hd.2.1, hd.2.2⟩⟩, ?_, ?_, ?_⟩
  · rw [hA.block ltn (fun o hx => by rcases hx with hx | hx; exact e2 hx.1.symm; exact e1 hx.symm), h.at_.hd]
    simp [hdCells, hk]
  · exact h.at_.row.chg hA fun _ _ hx => by rcases hx with hx | hx; exact e4 hx.1.symm; exact e3 hx.symm
  · intro ks' hk'
    obtain rfl := Option.some.inj hk'
    refine ⟨by rw [hs_same hcc]; simp, ?_⟩
    show RowAt _ _ b' o' cap' ((ks ++ ys).map kidV)
    rw [List.map_append]
    rw [Nat.mul_one] at a1
    exact (a1.chg hc2 fun _ _ x => x).chg hc2' fun _ _ => hd.2.2
  · refine h.chg.trans' hA (fun _ _ _ x => x) ?_
    rintro b o hb (hx | rfl)
    · rcases h.ext b o (hext b o hx) with hy | hy
      · exact hy
      · omega
    · rcases h.ext l.cc o (.inr (.inr ⟨hne, .inl rfl⟩)) with hy | hy
      · exact hy
      · omega
  · rintro b o (hx | hx | ⟨_, hx⟩)
    · exact .inl (.inl hx)
    · exact h.ext b o (.inr (.inl hx))
    · rcases hx with hx | ⟨f1, f2, f3⟩
      · exact h.ext b o (.inr (.inr ⟨hne, .inl hx⟩))
      · have f1' : b = b' := f1
        have f2' : o' ≤ o := f2
        have f3' : o < o' + cap' := f3
        rcases a4 with ⟨g1, g2, g3⟩ | ⟨g1, _⟩
        · exact h.ext b o (.inr (.inr ⟨hne, .inr ⟨f1'.trans g1, by omega, by omega⟩⟩))
        · exact .inr (by omega)
  · rintro b (hx | hx | ⟨_, hx⟩)
    · exact .inl (.inl hx)
    · exact h.blk b (.inr (.inl hx))
    · rcases hx with hx | hx
      · exact h.blk b (.inr (.inr ⟨hne, .inl hx⟩))
      · have hx' : b = b' := hx
        rcases a4 with ⟨g1, _⟩ | ⟨g1, _⟩
        · exact h.blk b (.inr (.inr ⟨hne, .inr (hx'.trans g1)⟩))
        · exact .inr (by omega)

/-- The children cut. -/
theorem Run.cutKids (h : Run p w0 n r0 l0 w r l) {ks : List (Option Nat)} (hk : r.kids = some ks) (i j c : Nat) (hij : i + j ≤ ks.length) (hjc : j ≤ c) (hic : i + c ≤ l.ck) :
    Run p w0 n r0 l0 (w.setCell ⟨l.cc, 0, none⟩ (.slice (some ⟨l.cb, l.co + i, none⟩) j c)) { r with kids := some ((ks.drop i).take j) } { l with co := l.co + i, ck := c } := by
  have hne : r.kids ≠ Option.none := by rw [hk]; simp
  obtain ⟨k1, k2⟩ := h.at_.kid ks hk
  obtain ⟨e1, e2, e3, e4, e5⟩ := h.at_.d2 hne
  have hc : Chg (fun b _ => b = l.cc) w (w.setCell ⟨l.cc, 0, none⟩ (.slice (some ⟨l.cb, l.co + i, none⟩) j c)) := (Chg.refl _ _).setCell (.inl rfl) _
  refine ⟨⟨?_, ?_, ?_, h.at_.d1, fun _ => h.at_.d2 hne⟩, ?_, ?_, ?_⟩
  · rw [hs_ne _ (Ne.symm e1), h.at_.hd]; simp [hdCells, hk]
  · exact h.at_.row.chg hc fun _ _ => Ne.symm e3
  · intro ks' hk'
    obtain rfl := Option.some.inj hk'
    refine ⟨?_, h.at_.kidPart hk hc i j c hij hjc hic fun o _ _ => e5⟩
    rw [hs_same k1]
    have : min j (ks.length - i) = j := by omega
    simp [this]
  · refine h.chg.setCell ?_ _
    rcases h.ext l.cc 0 (.inr (.inr ⟨hne, .inl rfl⟩)) with hy | hy
    · exact .inl hy
    · exact .inr hy
  · rintro b o (hx | hx | ⟨_, hx⟩)
    · exact .inl (.inl hx)
    · exact h.ext b o (.inr (.inl hx))
    · rcases hx with hx | ⟨f1, f2, f3⟩
      · exact h.ext b o (.inr (.inr ⟨hne, .inl hx⟩))
      · have f2' : l.co + i ≤ o := f2
        have f3' : o < l.co + i + c := f3
        exact h.ext b o (.inr (.inr ⟨hne, .inr ⟨f1, by omega, by omega⟩⟩))
  · rintro b (hx | hx | ⟨_, hx⟩)
    · exact .inl (.inl hx)
    · exact h.blk b (.inr (.inl hx))
    · exact h.blk b (.inr (.inr ⟨hne, hx⟩))

end

/-- OPEN A NODE, WORK, SHUT IT. -/
theorem Fam.work {p : Par α} {w : World} {F : Nat → Prop} {H : Nat → Option (NodeR α)} (h : Fam p w F H) {n : Nat} {r : NodeR α} (hn : H n = some r) :
    ∃ l, NodeAt p w n r l ∧ (∀ b, Blk n r l b → F b) ∧ (∀ c s, c ≠ n → H c = some s → (∃ l', NodeAt p w c s l') ∧ ∀ o, ¬ Ext p n r l c o) ∧
      ∀ w' r' l', Run p w n r l w' r' l' → Fam p w' (grow F w w') (upd H n r') ∧ Chg (fun b _ => F b) w w' := by
  obtain ⟨l, h1, h2, h3, h4⟩ := h.open hn
  exact ⟨l, h1, h2, h3, fun w' r' l' hr => ⟨h4 w' r' l' hr.chg hr.at_ hr.ext hr.blk, hr.chg.mono fun b o _ hb => h2 b hb.blk⟩⟩

/-- Two cells set one behind the other. -/
theorem set2 {β : Type} (l : List β) (a : Nat) (u v : β) (h : a + 1 < l.length) : (l.set a u).set (a + 1) v = l.take a ++ [u, v] ++ l.drop (a + 2) := by
  rw [List.set_eq_take_append_cons_drop, if_pos (by simpa using h), List.set_eq_take_append_cons_drop, if_pos (by omega)]
  have h1 : (l.take a).length = a := by simp; omega
  rw [List.take_append, List.drop_append, h1]
  simp [show a + 1 - a = 1 by omega, show a + 1 + 1 - a = 2 by omega, List.take_of_length_le, List.drop_eq_nil_of_le, h1]
  omega

theorem putCells_two {w : World} {b o : Nat} {c : Array Value} {T : TypeId} {fr : Nat × Nat} (h : w.heap[b]? = some (.cells c T fr)) (hlt : o + 1 < c.size) (u v : Value) :
    (w.setCell ⟨b, o, none⟩ u).setCell ⟨b, o + 1, none⟩ v = putCells w b o [u, v] := by
  have e : (c.setIfInBounds o u).setIfInBounds (o + 1) v = (c.toList.take o ++ [u, v] ++ c.toList.drop (o + [u, v].length)).toArray := by
    apply Array.ext'
    have := set2 c.toList o u v (by simpa using hlt)
    simpa using this
  simp only [putCells, h]
  unfold World.setCell World.setRow
  congr 1
  apply Array.ext_getElem?
  intro i
  simp only [Array.getElem?_modify]
  by_cases hi : b = i
  · subst hi
    simp [h]
    simpa using e
  · simp [hi]

theorem putCells_one {w : World} {b o : Nat} {c : Array Value} {T : TypeId} {fr : Nat × Nat} (h : w.heap[b]? = some (.cells c T fr)) (hlt : o < c.size) (u : Value) :
    w.setCell ⟨b, o, none⟩ u = putCells w b o [u] := by
  have e : c.setIfInBounds o u = (c.toList.take o ++ [u] ++ c.toList.drop (o + [u].length)).toArray := by
    apply Array.ext'
    have : c.toList.set o u = c.toList.take o ++ [u] ++ c.toList.drop (o + 1) := by
      rw [List.set_eq_take_append_cons_drop, if_pos (by simpa using hlt)]; simp
    simpa using this
  simp only [putCells, h]
  unfold World.setCell World.setRow
  congr 1
  apply Array.ext_getElem?
  intro i
  simp only [Array.getElem?_modify]
  by_cases hi : b = i
  · subst hi
    simp [h]
    simpa using e
  · simp [hi]

end Go.Proofs.Ytpgaedmhgchgeaa

namespace Go.Proofs.Ytpgaedmhgchgeaa
set_option linter.unusedSimpArgs false
set_option linter.unusedVariables false

variable {α : Type}

/-- The record of a tree's root. -/
def recOf : (h : Nat) → BT α h → NodeR α
  | 0, t => ⟨t.2.length, t.2, none⟩
  | h + 1, t => ⟨(toL (h + 1) t).length, t.2.1, some (t.2.2.map fun c => some (rid c))⟩

/-- The tree lies among the nodes. -/
def IsT (H : Nat → Option (NodeR α)) : (h : Nat) → BT α h → Prop
  | 0, t => H (rid t) = some (recOf 0 t)
  | h + 1, t => H (rid t) = some (recOf (h + 1) t) ∧ ∀ c ∈ t.2.2, IsT H h c

theorem IsT.root {H : Nat → Option (NodeR α)} : {h : Nat} → {t : BT α h} → IsT H h t → H (rid t) = some (recOf h t)
  | 0, _, h => h
  | _ + 1, _, h => h.1

theorem IsT.kid {H : Nat → Option (NodeR α)} {h : Nat} {t : BT α (h + 1)} (hT : IsT H (h + 1) t) {c : BT α h} (hc : c ∈ t.2.2) : IsT H h c := hT.2 c hc

theorem recOf_items : {h : Nat} → (t : BT α h) → (recOf h t).items = its t
  | 0, _ => rfl
  | _ + 1, _ => rfl
theorem recOf_cnt : {h : Nat} → (t : BT α h) → (recOf h t).cnt = (toL h t).length
  | 0, _ => rfl
  | _ + 1, _ => rfl

theorem ids_kid {h : Nat} {t : BT α (h + 1)} {c : BT α h} (hc : c ∈ t.2.2) {n : Nat} (hn : n ∈ ids h c) : n ∈ ids (h + 1) t :=
  List.mem_cons_of_mem _ (List.mem_flatMap.2 ⟨c, hc, hn⟩)

theorem IsT.congr {H H' : Nat → Option (NodeR α)} : {h : Nat} → {t : BT α h} → IsT H h t → (∀ n ∈ ids h t, H' n = H n) → IsT H' h t
  | 0, t, h, e => (e _ (rid_mem t)).trans h
  | _ + 1, t, h, e => ⟨(e _ (rid_mem t)).trans h.1, fun c hc => (h.2 c hc).congr fun n hn => e n (ids_kid hc hn)⟩

theorem IsT.mem {H : Nat → Option (NodeR α)} : {h : Nat} → {t : BT α h} → IsT H h t → ∀ {n : Nat}, n ∈ ids h t → ∃ r, H n = some r
  | 0, t, h, n, hn => by rw [List.mem_singleton.1 hn]; exact ⟨_, h⟩
  | _ + 1, t, h, n, hn => by
    rcases List.mem_cons.1 hn with rfl | hn
    · exact ⟨_, h.1⟩
    · obtain ⟨c, hc, hm⟩ := List.mem_flatMap.1 hn
      exact (h.2 c hc).mem hm

theorem IsT.lt {p : Par α} {w : World} {F : Nat → Prop} {H : Nat → Option (NodeR α)} (hF : Fam p w F H) {h : Nat} {t : BT α h} (hT : IsT H h t) {n : Nat} (hn : n ∈ ids h t) : n < w.heap.size := by
  obtain ⟨r, hr⟩ := hT.mem hn
  exact hF.lt (hF.mem hr)

theorem nodup_root {h : Nat} {t : BT α (h + 1)} (hd : (ids (h + 1) t).Nodup) {c : BT α h} (hc : c ∈ t.2.2) : rid t ∉ ids h c := fun hm =>
  (List.nodup_cons.1 hd).1 (List.mem_flatMap.2 ⟨c, hc, hm⟩)

theorem nodup_kid {h : Nat} {t : BT α (h + 1)} (hd : (ids (h + 1) t).Nodup) {c : BT α h} (hc : c ∈ t.2.2) : (ids h c).Nodup := by
  obtain ⟨_, h2⟩ := List.nodup_cons.1 hd
  obtain ⟨L, R, e⟩ := List.append_of_mem hc
  rw [e, List.flatMap_append, List.flatMap_cons] at h2
  exact (List.nodup_append.1 (List.nodup_append.1 h2).2.1).1

/-- Children apart. -/
theorem nodup_apart {h : Nat} {n : Nat} {xs : List α} {L R : List (BT α h)} {c : BT α h} (hd : (ids (h + 1) ((n, xs, L ++ c :: R) : BT α (h + 1))).Nodup) {a : Nat} (ha : a ∈ ids h c) :
    a ≠ n ∧ a ∉ L.flatMap (ids h) ∧ a ∉ R.flatMap (ids h) := by
  have hd' : (n :: (L ++ c :: R).flatMap (ids h)).Nodup := hd
  obtain ⟨h1, h2⟩ := List.nodup_cons.1 hd'
  rw [List.flatMap_append, List.flatMap_cons] at h1 h2
  obtain ⟨h3, h4, h5⟩ := List.nodup_append.1 h2
  obtain ⟨h6, h7, h8⟩ := List.nodup_append.1 h4
  refine ⟨fun e => h1 (e ▸ List.mem_append.2 (.inr (List.mem_append.2 (.inl ha)))), fun hL => h5 a hL a (List.mem_append.2 (.inl ha)) rfl, fun hR => h8 a ha a hR rfl⟩

/-- One child gives way to trees whose nodes are its own, or new. -/
theorem ids_replace {h : Nat} {n : Nat} {xs xs' : List α} {L R cs : List (BT α h)} {c : BT α h} {B : Nat} (hd : (ids (h + 1) ((n, xs, L ++ c :: R) : BT α (h + 1))).Nodup) (hB : ∀ a ∈ ids (h + 1) ((n, xs, L ++ c :: R) : BT α (h + 1)), a < B)
    (hcs : ∀ a ∈ cs.flatMap (ids h), a ∈ ids h c ∨ B ≤ a) (hnd : (cs.flatMap (ids h)).Nodup) :
    (ids (h + 1) ((n, xs', L ++ cs ++ R) : BT α (h + 1))).Nodup ∧ ∀ a ∈ ids (h + 1) ((n, xs', L ++ cs ++ R) : BT α (h + 1)), a ∈ ids (h + 1) ((n, xs, L ++ c :: R) : BT α (h + 1)) ∨ B ≤ a := by
  have hd' : (n :: (L ++ c :: R).flatMap (ids h)).Nodup := hd
  have hB' : ∀ a ∈ (n :: (L ++ c :: R).flatMap (ids h)), a < B := hB
  have ap := fun a ha => nodup_apart hd (a := a) ha
  obtain ⟨h1, h2⟩ := List.nodup_cons.1 hd'
  rw [List.flatMap_append, List.flatMap_cons] at h1 h2
  simp only [List.flatMap_append, List.flatMap_cons, List.mem_cons, List.mem_append] at hB' h1
  obtain ⟨h3, h4, h5⟩ := List.nodup_append.1 h2
  obtain ⟨h6, h7, h8⟩ := List.nodup_append.1 h4
  show (n :: (L ++ cs ++ R).flatMap (ids h)).Nodup ∧ ∀ a ∈ (n :: (L ++ cs ++ R).flatMap (ids h)), a ∈ (n :: (L ++ c :: R).flatMap (ids h)) ∨ B ≤ a
  rw [List.flatMap_append, List.flatMap_append]
  constructor
  · refine List.nodup_cons.2 ⟨?_, List.nodup_append.2 ⟨List.nodup_append.2 ⟨h3, hnd, ?_⟩, h7, ?_⟩⟩
    · intro hm
      rcases List.mem_append.1 hm with hm | hm
      · rcases List.mem_append.1 hm with hm | hm
        · exact h1 (.inl hm)
        · rcases hcs n hm with h | h
          · exact (ap n h).1 rfl
          · have := hB' n (.inl rfl); omega
      · exact h1 (.inr (.inr hm))
    · rintro a ha b hb rfl
      rcases hcs a hb with h | h
      · exact (ap a h).2.1 ha
      · have := hB' a (.inr (.inl ha)); omega
    · rintro a ha b hb rfl
      rcases List.mem_append.1 ha with ha | ha
      · exact h5 a ha a (List.mem_append.2 (.inr hb)) rfl
      · rcases hcs a ha with h | h
        · exact (ap a h).2.2 hb
        · have := hB' a (.inr (.inr (.inr hb))); omega
  · intro a ha
    simp only [List.flatMap_append, List.flatMap_cons, List.mem_cons, List.mem_append] at ha ⊢
    rcases ha with ha | (ha | ha) | ha
    · exact .inl (.inl ha)
    · exact .inl (.inr (.inl ha))
    · rcases hcs a ha with h | h
      · exact .inl (.inr (.inr (.inl h)))
      · exact .inr h
    · exact .inl (.inr (.inr (.inr ha)))

theorem split_at {α : Type} {l : List α} {i : Nat} {c : α} (h : l[i]? = some c) : l = l.take i ++ c :: l.drop (i + 1) := by
  obtain ⟨hi, rfl⟩ := List.getElem?_eq_some_iff.1 h
  rw [← List.drop_eq_getElem_cons hi, List.take_append_drop]

theorem set_at {α : Type} {l : List α} {i : Nat} {c c' : α} (h : l[i]? = some c) : l.set i c' = l.take i ++ [c'] ++ l.drop (i + 1) := by
  obtain ⟨hi, _⟩ := List.getElem?_eq_some_iff.1 h
  rw [List.set_eq_take_append_cons_drop, if_pos hi]; simp

/-- A child replaced by a tree with the same root. -/
theorem ids_setKid {h : Nat} {t : BT α (h + 1)} {i : Nat} {c c' : BT α h} {B : Nat} (hc : t.2.2[i]? = some c) (hd : (ids (h + 1) t).Nodup) (hB : ∀ a ∈ ids (h + 1) t, a < B)
    (hcs : ∀ a ∈ ids h c', a ∈ ids h c ∨ B ≤ a) (hnd : (ids h c').Nodup) : (ids (h + 1) (setKid t i c')).Nodup ∧ ∀ a ∈ ids (h + 1) (setKid t i c'), a ∈ ids (h + 1) t ∨ B ≤ a := by
  obtain ⟨n, xs, ts⟩ := t
  have e : ts = ts.take i ++ c :: ts.drop (i + 1) := split_at hc
  have e' : setKid ((n, xs, ts) : BT α (h + 1)) i c' = ((n, xs, ts.take i ++ [c'] ++ ts.drop (i + 1)) : BT α (h + 1)) := by
    show (n, xs, ts.set i c') = _
    rw [set_at hc]
  rw [e']
  have e2 : ids (h + 1) ((n, xs, ts) : BT α (h + 1)) = ids (h + 1) ((n, xs, ts.take i ++ c :: ts.drop (i + 1)) : BT α (h + 1)) := by rw [← e]
  rw [e2] at hd hB ⊢
  exact ids_replace (xs' := xs) (cs := [c']) hd hB (by simpa using hcs) (by simpa using hnd)

end Go.Proofs.Ytpgaedmhgchgeaa

namespace Go.Proofs.Ytpgaedmhgchgeaa
set_option linter.unusedSimpArgs false
set_option linter.unusedVariables false

variable {α : Type}

theorem rid_setIt : {h : Nat} → (t : BT α h) → (i : Nat) → (x : α) → rid (setIt t i x) = rid t
  | 0, _, _, _ => rfl
  | _ + 1, _, _, _ => rfl
theorem ids_setIt : {h : Nat} → (t : BT α h) → (i : Nat) → (x : α) → ids h (setIt t i x) = ids h t
  | 0, _, _, _ => rfl
  | _ + 1, _, _, _ => rfl
theorem its_setIt : {h : Nat} → (t : BT α h) → (i : Nat) → (x : α) → its (setIt t i x) = (its t).set i x
  | 0, _, _, _ => rfl
  | _ + 1, _, _, _ => rfl
theorem sh_setIt : {h : Nat} → {t : BT α h} → {mn mx : Nat} → (i : Nat) → (x : α) → Sh mn mx h t → Sh mn mx h (setIt t i x)
  | 0, t, mn, mx, i, x, hs => by show (t.2.set i x).length ≤ mx; rw [List.length_set]; exact hs
  | h + 1, t, mn, mx, i, x, hs => by
    show (t.2.1.set i x).length ≤ mx ∧ t.2.2.length = (t.2.1.set i x).length + 1 ∧ _
    rw [List.length_set]; exact hs

theorem toL_setIt_len {h : Nat} {t : BT α h} {mn mx i : Nat} {y : α} (hs : Sh mn mx h t) (hy : (its t)[i]? = some y) (x : α) : (toL h (setIt t i x)).length = (toL h t).length := by
  obtain ⟨P, S, h1, h2⟩ := toL_around hs hy
  rw [h1, h2]; simp

theorem recOf_setIt {h : Nat} {t : BT α h} {mn mx i : Nat} {y : α} (hs : Sh mn mx h t) (hy : (its t)[i]? = some y) (x : α) : recOf h (setIt t i x) = { recOf h t with items := (its t).set i x } := by
  have hl := toL_setIt_len hs hy x
  match h, t with
  | 0, t =>
    show (⟨((t.2.set i x).length : Nat), t.2.set i x, none⟩ : NodeR α) = ⟨(t.2.length : Nat), t.2.set i x, none⟩
    rw [List.length_set]
  | h + 1, t =>
    show (⟨((toL (h + 1) (setIt t i x)).length : Nat), t.2.1.set i x, _⟩ : NodeR α) = ⟨((toL (h + 1) t).length : Nat), t.2.1.set i x, _⟩
    rw [hl]; rfl

/-- The root's record alone changes. -/
theorem IsT.setRoot {H : Nat → Option (NodeR α)} {h : Nat} {t t' : BT α h} (hT : IsT H h t) (hd : (ids h t).Nodup) (h1 : rid t' = rid t) (h2 : ∀ {h' : Nat} (e : h = h' + 1), (e ▸ t' : BT α (h' + 1)).2.2 = (e ▸ t : BT α (h' + 1)).2.2) (r : NodeR α) (hr : recOf h t' = r) : IsT (upd H (rid t) r) h t' := by
  match h, t, t' with
  | 0, t, t' =>
    show upd H (rid t) r (rid t') = some (recOf 0 t')
    rw [h1, hr]; exact if_pos rfl
  | h + 1, t, t' =>
    refine ⟨?_, fun c hc => ?_⟩
    · show upd H (rid t) r (rid t') = some (recOf (h + 1) t')
      rw [h1, hr]; exact if_pos rfl
    · have hc' : c ∈ t.2.2 := by have := h2 rfl; rw [← this]; exact hc
      refine (hT.2 c hc').congr fun a ha => ?_
      have : a ≠ rid t := fun e => nodup_root hd hc' (e ▸ ha)
      exact if_neg this

theorem IsT.setIt {H : Nat → Option (NodeR α)} {h : Nat} {t : BT α h} {mn mx i : Nat} {y : α} (hT : IsT H h t) (hd : (ids h t).Nodup) (hs : Sh mn mx h t) (hy : (its t)[i]? = some y) (x : α) :
    IsT (upd H (rid t) { recOf h t with items := (its t).set i x }) h (Go.Proofs.Ytpgaedmhgchgeaa.setIt t i x) :=
  hT.setRoot hd (rid_setIt t i x) (by rintro h' rfl; rfl) _ (recOf_setIt hs hy x)

theorem toL_hit {lt : α → α → Bool} (s : Swo lt) {h : Nat} {t : BT α h} {mn mx i : Nat} {x y : α} (hs : Sh mn mx h t) (hsrt : Srt lt (toL h t)) (hy : HitAt lt (its t) x i y) :
    toL h (setIt t i x) = insL lt x (toL h t) ∧ fndL lt x (toL h t) = some y := by
  obtain ⟨P, S, h1, h2⟩ := toL_around hs hy.at_
  rw [h1] at hsrt ⊢
  have hP : ∀ a ∈ P, lt a x = true := fun a ha => s.lt_of_lt_of_nlt ((List.pairwise_append.1 hsrt).2.2 a ha y List.mem_cons_self) hy.n2
  exact ⟨by rw [h2, insL_hit hP hy.n1 hy.n2], fndL_hit hP hy.n1 hy.n2⟩

theorem pos_mem {lt : α → α → Bool} {xs : List α} {x : α} {i : Nat} (h : PosAt lt xs x i) : (∀ a ∈ xs.take i, lt a x = true) ∧ (∀ a ∈ xs.drop i, lt x a = true) := by
  constructor
  · intro a ha
    obtain ⟨j, h1, h2⟩ := mem_take_get ha
    exact h.left j a h1 h2
  · intro a ha
    obtain ⟨j, h1, h2⟩ := mem_drop_get ha
    exact h.right j a h1 h2

theorem pos_gap {lt : α → α → Bool} (s : Swo lt) {xs : List α} {x : α} {i : Nat} (h : PosAt lt xs x i) : insL lt x xs = xs.take i ++ x :: xs.drop i ∧ fndL lt x xs = none := by
  obtain ⟨h1, h2⟩ := pos_mem h
  have e1 := insL_gap s h1 h2
  have e2 := fndL_gap s h1 h2
  rw [List.take_append_drop] at e1 e2
  exact ⟨e1, e2⟩

theorem pos_or_hit {lt : α → α → Bool} (s : Swo lt) {x : α} : ∀ {xs : List α}, Srt lt xs → (∃ i, PosAt lt xs x i) ∨ (∃ i y, HitAt lt xs x i y)
  | [], _ => .inl ⟨0, Nat.le_refl _, fun j y _ h => by simp at h, fun j y _ h => by simp at h⟩
  | z :: xs, h => by
    obtain ⟨h1, h2⟩ := List.pairwise_cons.1 h
    cases hz : lt z x with
    | true =>
      have left : ∀ {i : Nat}, (∀ j y, j < i → xs[j]? = some y → lt y x = true) → ∀ j y, j < i + 1 → (z :: xs)[j]? = some y → lt y x = true := by
        intro i hl j y hj hy
        cases j with
        | zero => obtain rfl : z = y := by simpa using hy
                  exact hz
        | succ j => exact hl j y (by omega) (by simpa using hy)
      rcases pos_or_hit s h2 with ⟨i, hi⟩ | ⟨i, y, hi⟩
      · refine .inl ⟨i + 1, by have := hi.le; simp; omega, left hi.left, fun j y hj hy => ?_⟩
        cases j with
        | zero => omega
        | succ j => exact hi.right j y (by omega) (by simpa using hy)
      · exact .inr ⟨i + 1, y, by simpa using hi.at_, left hi.left, hi.n1, hi.n2⟩
    | false =>
      cases hx : lt x z with
      | true =>
        refine .inl ⟨0, Nat.zero_le _, fun j y h => by omega, fun j y _ hy => ?_⟩
        cases j with
        | zero => obtain rfl : z = y := by simpa using hy
                  exact hx
        | succ j => exact s.trans hx (h1 y (List.mem_of_getElem? (by simpa using hy)))
      | false => exact .inr ⟨0, z, rfl, fun j y h => by omega, hz, hx⟩

/-! ### A node parted -/
def cutL : {h : Nat} → BT α h → Nat → BT α h
  | 0, t, i => (t.1, t.2.take i)
  | _ + 1, t, i => (t.1, t.2.1.take i, t.2.2.take (i + 1))
def cutR : {h : Nat} → BT α h → Nat → Nat → BT α h
  | 0, t, m, i => (m, t.2.drop (i + 1))
  | _ + 1, t, m, i => (m, t.2.1.drop (i + 1), t.2.2.drop (i + 1))

theorem its_cutL : {h : Nat} → (t : BT α h) → (i : Nat) → its (cutL t i) = (its t).take i
  | 0, _, _ => rfl
  | _ + 1, _, _ => rfl
theorem its_cutR : {h : Nat} → (t : BT α h) → (m i : Nat) → its (cutR t m i) = (its t).drop (i + 1)
  | 0, _, _, _ => rfl
  | _ + 1, _, _, _ => rfl
theorem rid_cutL : {h : Nat} → (t : BT α h) → (i : Nat) → rid (cutL t i) = rid t
  | 0, _, _ => rfl
  | _ + 1, _, _ => rfl
theorem rid_cutR : {h : Nat} → (t : BT α h) → (m i : Nat) → rid (cutR t m i) = m
  | 0, _, _, _ => rfl
  | _ + 1, _, _, _ => rfl

theorem toL_cut {h : Nat} {t : BT α h} {mn mx i : Nat} {x : α} (m : Nat) (hs : Sh mn mx h t) (hx : (its t)[i]? = some x) : toL h t = toL h (cutL t i) ++ x :: toL h (cutR t m i) := by
  match h, t with
  | 0, t => exact split_at hx
  | h + 1, t =>
    have hx' : t.2.1[i]? = some x := hx
    have hi : i < t.2.1.length := (List.getElem?_eq_some_iff.1 hx').1
    have hl : t.2.2.length = t.2.1.length + 1 := hs.2.1
    show inter t.2.1 (t.2.2.map (toL h)) = inter (t.2.1.take i) ((t.2.2.take (i + 1)).map (toL h)) ++ x :: inter (t.2.1.drop (i + 1)) ((t.2.2.drop (i + 1)).map (toL h))
    rw [← inter_app _ _ _ _ _ (by simp; omega), ← List.map_append, List.take_append_drop, ← split_at hx']

theorem sh_cut {h : Nat} {t : BT α h} {mn mx i : Nat} (m : Nat) (hs : Sh mn mx h t) (hi : i < (its t).length) : Sh mn mx h (cutL t i) ∧ Sh mn mx h (cutR t m i) := by
  match h, t with
  | 0, t =>
    have h0 : t.2.length ≤ mx := hs
    show (t.2.take i).length ≤ mx ∧ (t.2.drop (i + 1)).length ≤ mx
    simp; omega
  | h + 1, t =>
    have hi' : i < t.2.1.length := hi
    obtain ⟨h1, h2, h3⟩ := hs
    refine ⟨⟨?_, ?_, fun c hc => h3 c (List.mem_of_mem_take hc)⟩, ⟨?_, ?_, fun c hc => h3 c (List.mem_of_mem_drop hc)⟩⟩
    · show (t.2.1.take i).length ≤ mx
      simp; omega
    · show (t.2.2.take (i + 1)).length = (t.2.1.take i).length + 1
      simp; omega
    · show (t.2.1.drop (i + 1)).length ≤ mx
      simp; omega
    · show (t.2.2.drop (i + 1)).length = (t.2.1.drop (i + 1)).length + 1
      simp; omega

/-- The nodes of both parts: those of the node, and m. -/
theorem ids_cut {h : Nat} {t : BT α h} {m i B : Nat} (hd : (ids h t).Nodup) (hB : ∀ a ∈ ids h t, a < B) (hm : B ≤ m) :
    (ids h (cutL t i) ++ ids h (cutR t m i)).Nodup ∧ (∀ a ∈ ids h (cutL t i), a ∈ ids h t) ∧ ∀ a ∈ ids h (cutR t m i), a ∈ ids h t ∨ a = m := by
  match h, t with
  | 0, t =>
    have h0 : t.1 < B := hB t.1 (List.mem_singleton.2 rfl)
    refine ⟨?_, ?_, ?_⟩
    · show ([t.1] ++ [m]).Nodup
      simp; omega
    · intro a ha; exact ha
    · intro a ha; exact .inr (List.mem_singleton.1 ha)
  | h + 1, t =>
    obtain ⟨h1, h2⟩ := List.nodup_cons.1 hd
    have h0 : t.1 < B := hB t.1 List.mem_cons_self
    have hB' : ∀ a ∈ t.2.2.flatMap (ids h), a < B := fun a ha => hB a (List.mem_cons_of_mem _ ha)
    have e : t.2.2.flatMap (ids h) = (t.2.2.take (i + 1)).flatMap (ids h) ++ (t.2.2.drop (i + 1)).flatMap (ids h) := by rw [← List.flatMap_append, List.take_append_drop]
    change t.1 ∉ t.2.2.flatMap (ids h) at h1
    change (t.2.2.flatMap (ids h)).Nodup at h2
    rw [e] at h1 h2 hB'
    obtain ⟨g1, g2, g3⟩ := List.nodup_append.1 h2
    show ((t.1 :: (t.2.2.take (i + 1)).flatMap (ids h)) ++ (m :: (t.2.2.drop (i + 1)).flatMap (ids h))).Nodup ∧ (∀ a ∈ (t.1 :: (t.2.2.take (i + 1)).flatMap (ids h)), a ∈ (t.1 :: t.2.2.flatMap (ids h))) ∧
      ∀ a ∈ (m :: (t.2.2.drop (i + 1)).flatMap (ids h)), a ∈ (t.1 :: t.2.2.flatMap (ids h)) ∨ a = m
    rw [e]
    simp only [List.mem_append] at h1 hB'
    refine ⟨List.nodup_append.2 ⟨List.nodup_cons.2 ⟨fun h => h1 (.inl h), g1⟩, List.nodup_cons.2 ⟨fun h => ?_, g2⟩, ?_⟩, ?_, ?_⟩
    · have := hB' m (.inr h); omega
    · rintro a ha b hb rfl
      rcases List.mem_cons.1 ha with rfl | ha
      · rcases List.mem_cons.1 hb with hb | hb
        · omega
        · exact h1 (.inr hb)
      · rcases List.mem_cons.1 hb with rfl | hb
        · have := hB' a (.inl ha); omega
        · exact g3 a ha a hb rfl
    · intro a ha
      rcases List.mem_cons.1 ha with rfl | ha
      · exact List.mem_cons_self
      · exact List.mem_cons_of_mem _ (List.mem_append.2 (.inl ha))
    · intro a ha
      rcases List.mem_cons.1 ha with rfl | ha
      · exact .inr rfl
      · exact .inl (List.mem_cons_of_mem _ (List.mem_append.2 (.inr ha)))

theorem inter_put : ∀ (i : Nat) (xs : List α) (ts : List (List α)) (t1 t2 : List α) (x : α), ts.length = xs.length + 1 → ts[i]? = some (t1 ++ x :: t2) →
    inter (xs.take i ++ x :: xs.drop i) (ts.take i ++ t1 :: t2 :: ts.drop (i + 1)) = inter xs ts
  | 0, xs, u :: ts, t1, t2, x, h, hi => by
    obtain rfl : u = t1 ++ x :: t2 := by simpa using hi
    have hl : ts.length = xs.length := by simpa using h
    simp only [List.take_zero, List.nil_append, List.drop_zero, List.drop_succ_cons, inter]
    rw [inter_eq xs t2 ts hl, inter_eq xs _ ts hl]; simp
  | i + 1, y :: xs, u :: ts, t1, t2, x, h, hi => by
    simp only [List.take_succ_cons, List.drop_succ_cons, List.cons_append, inter]
    rw [inter_put i xs ts t1 t2 x (by simpa using h) (by simpa using hi)]
  | i + 1, [], u :: ts, t1, t2, x, h, hi => by
    obtain rfl : ts = [] := by simpa using h
    simp at hi
  | i, xs, [], t1, t2, x, h, hi => by simp at hi

/-- A child parted: the item between goes up. -/
def put2 {h : Nat} (t : BT α (h + 1)) (i : Nat) (x : α) (c1 c2 : BT α h) : BT α (h + 1) := (t.1, t.2.1.take i ++ x :: t.2.1.drop i, t.2.2.take i ++ [c1, c2] ++ t.2.2.drop (i + 1))

theorem toL_put2 {h : Nat} {t : BT α (h + 1)} {mn mx i : Nat} {c c1 c2 : BT α h} {x : α} (hs : Sh mn mx (h + 1) t) (hc : t.2.2[i]? = some c) (e : toL h c = toL h c1 ++ x :: toL h c2) : toL (h + 1) (put2 t i x c1 c2) = toL (h + 1) t := by
  show inter (t.2.1.take i ++ x :: t.2.1.drop i) ((t.2.2.take i ++ [c1, c2] ++ t.2.2.drop (i + 1)).map (toL h)) = inter t.2.1 (t.2.2.map (toL h))
  rw [← inter_put i t.2.1 (t.2.2.map (toL h)) (toL h c1) (toL h c2) x (by simpa using hs.2.1) (by simp [hc, e])]
  congr 1
  simp

theorem sh_put2 {h : Nat} {t : BT α (h + 1)} {mn mx i : Nat} {c c1 c2 : BT α h} {x : α} (hs : Sh mn mx (h + 1) t) (hc : t.2.2[i]? = some c) (hl : t.2.1.length < mx) (h1 : Sh mn mx h c1) (h2 : Sh mn mx h c2) (m1 : mn ≤ (its c1).length) (m2 : mn ≤ (its c2).length) :
    Sh mn mx (h + 1) (put2 t i x c1 c2) := by
  obtain ⟨g1, g2, g3⟩ := hs
  have hi : i < t.2.2.length := (List.getElem?_eq_some_iff.1 hc).1
  refine ⟨?_, ?_, ?_⟩
  · show (t.2.1.take i ++ x :: t.2.1.drop i).length ≤ mx
    simp; omega
  · show (t.2.2.take i ++ [c1, c2] ++ t.2.2.drop (i + 1)).length = (t.2.1.take i ++ x :: t.2.1.drop i).length + 1
    simp; omega
  · intro d hd
    change d ∈ t.2.2.take i ++ [c1, c2] ++ t.2.2.drop (i + 1) at hd
    simp only [List.mem_append, List.mem_cons, List.not_mem_nil, or_false] at hd
    rcases hd with (hd | rfl | rfl) | hd
    · exact g3 d (List.mem_of_mem_take hd)
    · exact ⟨m1, h1⟩
    · exact ⟨m2, h2⟩
    · exact g3 d (List.mem_of_mem_drop hd)

end Go.Proofs.Ytpgaedmhgchgeaa
