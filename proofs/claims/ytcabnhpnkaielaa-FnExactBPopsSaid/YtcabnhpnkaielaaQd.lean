/- PopMin and PopMax of whatever tree; bools; what is taken by a row of bools. -/
import Derived.Test.YtcabnhpnkaielaaQc
namespace Go.Proofs.Ytcabnhpnkaielaa
set_option linter.unusedSimpArgs false
set_option linter.unusedVariables false
open Go.RowKit
variable {ord : List Int} {k : Kc ord}

variable {ord : List Int}

def HPopAns (k : Kc ord) (mn mx : Nat) (w : World) (F : Nat → Prop) (t : Nat) (d : Bool) (l : List (It ord)) (e : Ending) (w' : World) : Prop :=
  e = .returned (optV (popF d l)) ∧ ∃ F', MapIn k mn mx w' F' t (popL d l) ∧ Chg (fun b _ => F b ∨ b = t) w w' ∧ ∀ b, F' b → F b ∨ w.heap.size ≤ b

theorem PopMin_any {k : Kc ord} {mn mx : Nat} {w : World} {F : Nat → Prop} {t : Nat} {l : List (It ord)} (hM : MapIn k mn mx w F t l) (hmn : 1 ≤ mn) (hl : l.length ≤ 1000000000000) :
    Calls Try.prog 100 #[.pointer (some ⟨t, 0, none⟩)] w (PopAns k mn mx w F t false l) := by
  rcases hM with ⟨rfl, hF, hB⟩ | ⟨H, h, T, hI, hB, rfl, h1⟩
  · have c2 : w.cell? ⟨t, 2, none⟩ = some (.pointer none) := hB.c2
    have c7 := hB.at_.c4
    have HB := Lib.hid hB
    clear hB
    go_enter Try.func100, Try.ntmps100
    go_wp2_with fail
    refine (lock_any t true _).mono ?_
    rintro e w' ⟨rfl, rfl⟩
    go_wp2_with fail
    refine bodyPost_ret (v := .tuple #[.nilIface, .bool false]) (by simp [results, Try.results100, go_sem]) rfl ?_
    exact ⟨rfl, F, .inl ⟨rfl, hF, HB.out⟩, Chg.refl _ _, fun _ h => .inl h⟩
  · exact popMin_tree hI hB h1 hmn hl

theorem HPopMin_any {k : Kc ord} {mn mx : Nat} {w : World} {F : Nat → Prop} {hp t : Nat} {l : List (It ord)} (hH : HeapAt k w hp t) (hM : MapIn k mn mx w F t l) (hmn : 1 ≤ mn) (hl : l.length ≤ 1000000000000) :
    Calls Try.prog 78 #[.pointer (some ⟨hp, 0, none⟩)] w (HPopAns k mn mx w F t false l) := by
  have HC := Lib.hid (PopMin_any hM hmn hl)
  unfold PopAns at HC
  have c0 := cell_of_block hH 0
  simp only [List.getElem?_toArray, List.getElem?_cons_zero] at c0
  clear hM hH
  unfold HPopAns
  generalize popF false l = o at HC ⊢
  go_enter Try.func78, Try.ntmps78
  go_wp2_with fail
  refine HC.out.mono ?_
  rintro e w2 ⟨rfl, hrest⟩
  have HR := Lib.hid hrest
  clear hrest
  rcases o with _ | y
  all_goals
    unfold endV
    go_wp2_with fail
    go_ret
    exact ⟨rfl, HR.out⟩
theorem PopMax_any {k : Kc ord} {mn mx : Nat} {w : World} {F : Nat → Prop} {t : Nat} {l : List (It ord)} (hM : MapIn k mn mx w F t l) (hmn : 1 ≤ mn) (hl : l.length ≤ 1000000000000) :
    Calls Try.prog 99 #[.pointer (some ⟨t, 0, none⟩)] w (PopAns k mn mx w F t true l) := by
  rcases hM with ⟨rfl, hF, hB⟩ | ⟨H, h, T, hI, hB, rfl, h1⟩
  · have c2 : w.cell? ⟨t, 2, none⟩ = some (.pointer none) := hB.c2
    have c7 := hB.at_.c4
    have HB := Lib.hid hB
    clear hB
    go_enter Try.func99, Try.ntmps99
    go_wp2_with fail
    refine (lock_any t true _).mono ?_
    rintro e w' ⟨rfl, rfl⟩
    go_wp2_with fail
    refine bodyPost_ret (v := .tuple #[.nilIface, .bool false]) (by simp [results, Try.results99, go_sem]) rfl ?_
    exact ⟨rfl, F, .inl ⟨rfl, hF, HB.out⟩, Chg.refl _ _, fun _ h => .inl h⟩
  · exact popMax_tree hI hB h1 hmn hl

theorem HPopMax_any {k : Kc ord} {mn mx : Nat} {w : World} {F : Nat → Prop} {hp t : Nat} {l : List (It ord)} (hH : HeapAt k w hp t) (hM : MapIn k mn mx w F t l) (hmn : 1 ≤ mn) (hl : l.length ≤ 1000000000000) :
    Calls Try.prog 77 #[.pointer (some ⟨hp, 0, none⟩)] w (HPopAns k mn mx w F t true l) := by
  have HC := Lib.hid (PopMax_any hM hmn hl)
  unfold PopAns at HC
  have c0 := cell_of_block hH 0
  simp only [List.getElem?_toArray, List.getElem?_cons_zero] at c0
  clear hM hH
  unfold HPopAns
  generalize popF true l = o at HC ⊢
  go_enter Try.func77, Try.ntmps77
  go_wp2_with fail
  refine HC.out.mono ?_
  rintro e w2 ⟨rfl, hrest⟩
  have HR := Lib.hid hrest
  clear hrest
  rcases o with _ | y
  all_goals
    unfold endV
    go_wp2_with fail
    go_ret
    exact ⟨rfl, HR.out⟩

def boolE : El Bool where
  es := 1
  enc := fun x => [.bool x]
  T := 4
  epos := by omega
  elen := fun _ => rfl
  eone := by intro x v hv; simp at hv; subst hv; rfl

theorem SlE.bool {w : World} {a : Option Addr} {n cap : Nat} {xs : List Bool} (h : SlE boolE w (.slice a n cap) xs) {j : Nat} {x : Bool} (hj : xs[j]? = some x) : ∃ b o, a = some ⟨b, o, none⟩ ∧ w.cell? ⟨b, o + j, none⟩ = some (.bool x) := by
  obtain ⟨b, o, h1, h2⟩ := h.cell hj
  exact ⟨b, o, h1, by have := h2 0 _ rfl; simpa [boolE] using this⟩

section
variable {α : Type}
/-- What is left when items have been taken from the ends. -/
def popsL (l : List α) (ds : List Bool) : List α := ds.foldl (fun acc d => popL d acc) l

/-- What was taken. -/
def popsF (l : List α) (ds : List Bool) : List (Option α) := (List.range ds.length).map fun j => (ds[j]?).bind fun d => popF d (popsL l (ds.take j))

theorem popsF_len (l : List α) (ds : List Bool) : (popsF l ds).length = ds.length := by simp [popsF]

theorem popsF_take {l : List α} {ds : List Bool} {j : Nat} {d : Bool} (hx : ds[j]? = some d) : (popsF l ds).take (j + 1) = (popsF l ds).take j ++ [popF d (popsL l (ds.take j))] := by
  have hj := (List.getElem?_eq_some_iff.1 hx).1
  rw [List.take_add_one]
  congr 1
  unfold popsF
  rw [List.getElem?_map, List.getElem?_range hj]
  simp [hx]

theorem popsL_take {l : List α} {ds : List Bool} {j : Nat} {d : Bool} (hx : ds[j]? = some d) : popsL l (ds.take (j + 1)) = popL d (popsL l (ds.take j)) := by
  unfold popsL
  rw [List.take_add_one, hx, List.foldl_append]; rfl

theorem popsL_len : ∀ (ds : List Bool) (l : List α), (popsL l ds).length ≤ l.length
  | [], l => Nat.le_refl _
  | d :: ds, l => Nat.le_trans (popsL_len ds (popL d l)) (popL_len d l)
end
end Go.Proofs.Ytcabnhpnkaielaa
