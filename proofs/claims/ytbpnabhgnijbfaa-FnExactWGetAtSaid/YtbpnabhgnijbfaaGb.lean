/- GetAt. -/
import Derived.Test.YtbpnabhgnijbfaaGa
namespace Go.Proofs.Ytbpnabhgnijbfaa
set_option linter.unusedSimpArgs false
set_option linter.unusedVariables false
open Go.RowKit

/-- The item at an index. -/
def atL (l : List (ByteArray × Int)) (i : Int) : Option (ByteArray × Int) := if 0 ≤ i then l[i.toNat]? else none

set_option maxRecDepth 100000 in
theorem getAt_out {mn mx : Nat} {w : World} {F : Nat → Prop} {t : Nat} {l : List (ByteArray × Int)} (mt : Bool) (i : Int) (hM : MapIn mn mx w F t l) (hi : i < 0 ∨ (l.length : Int) ≤ i) :
    Calls Try.prog 50 #[.pointer (some ⟨t, 0, none⟩), .int .i64 i, .bool mt] w fun e w' => e = .returned (headV none) ∧ Chg (fun _ _ => False) w w' := by
  rcases hM with ⟨rfl, _, hB⟩ | ⟨H, h, T, hI, hB, rfl, h1⟩
  · have c2 : w.cell? ⟨t, 2, none⟩ = some (.pointer none) := hB.c2
    have c4 := hB.at_.c4
    have c5 := hB.at_.c5
    clear hi
    go_enter Try.func50, Try.ntmps50
    go_wp2
    go_quiet (fail)
    go_wp2
    go_ret3
    exact ⟨rfl, (Chg.refl _ _).drewN _⟩
  · have c2 : w.cell? ⟨t, 2, none⟩ = some (.pointer (some ⟨rid T, 0, none⟩)) := hB.c2
    have c3 := hB.c3
    have c4 := hB.at_.c4
    have c5 := hB.at_.c5
    by_cases h0 : i < 0
    · clear hi
      go_enter Try.func50, Try.ntmps50
      go_wp2
      go_quiet (fail)
      go_wp2
      go_ret3
      exact ⟨rfl, (Chg.refl _ _).drewN _⟩
    · have h2 : ((toL h T).length : Int) ≤ i := by omega
      clear hi
      go_enter Try.func50, Try.ntmps50
      go_wp2
      go_quiet (fail)
      go_wp2
      go_ret3
      exact ⟨rfl, (Chg.refl _ _).drewN _⟩

theorem getAt_any {mn mx : Nat} {w : World} {F : Nat → Prop} {t : Nat} {l : List (ByteArray × Int)} (mt : Bool) (i : Int) (hM : MapIn mn mx w F t l) (hmn : 1 ≤ mn) (hlen : l.length ≤ 1000000000000) :
    Calls Try.prog 50 #[.pointer (some ⟨t, 0, none⟩), .int .i64 i, .bool mt] w fun e w' => e = .returned (headV (atL l i)) ∧ Chg (fun _ _ => False) w w' := by
  by_cases h : i < 0 ∨ (l.length : Int) ≤ i
  · have e : atL l i = none := by
      unfold atL
      split
      · rw [List.getElem?_eq_none (by omega)]
      · rfl
    rw [e]
    exact getAt_out mt i hM h
  · obtain ⟨j, rfl⟩ : ∃ j : Nat, i = (j : Int) := ⟨i.toNat, by omega⟩
    obtain ⟨y, hy⟩ : ∃ y, l[j]? = some y := ⟨_, List.getElem?_eq_getElem (by omega)⟩
    have e : atL l (j : Int) = some y := by unfold atL; rw [if_pos (by omega)]; simpa using hy
    rw [e]
    exact getAt_in mt j y hM hmn hy hlen

theorem headV_word (o : Option (ByteArray × Int)) : ∃ k v b, headV o = .tuple #[.string k, .int .i64 v, .bool b] ∧ o.getD (⟨#[]⟩, 0) = (k, v) ∧ o.isSome = b := by
  cases o with
  | none => exact ⟨_, _, _, rfl, rfl, rfl⟩
  | some x => exact ⟨_, _, _, rfl, rfl, rfl⟩

theorem GetAt_any {mn mx : Nat} {w : World} {F : Nat → Prop} {t : Nat} {l : List (ByteArray × Int)} (i : Int) (hM : MapIn mn mx w F t l) (hmn : 1 ≤ mn) (hlen : l.length ≤ 1000000000000) :
    Calls Try.prog 37 #[.pointer (some ⟨t, 0, none⟩), .int .i64 i] w fun e w' => e = .returned (headV (atL l i)) ∧ Chg (fun _ _ => False) w w' := by
  have hg := getAt_any false i hM hmn hlen
  obtain ⟨k, v, b, hv, _⟩ := headV_word (atL l i)
  rw [hv] at hg ⊢
  have HG := Lib.hid hg
  clear hg hv
  go_enter Try.func37, Try.ntmps37
  go_wp2_with fail
  refine HG.out.mono ?_
  rintro e w1 ⟨rfl, h1⟩
  go_wp2_with fail
  go_ret3
  exact ⟨rfl, h1⟩
end Go.Proofs.Ytbpnabhgnijbfaa
