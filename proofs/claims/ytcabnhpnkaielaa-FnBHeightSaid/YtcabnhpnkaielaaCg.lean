/- The law on BSet, whatever the input. -/
import Derived.Test.YtcabnhpnkaielaaCf
import Derived.BigQuiet
namespace Go.Proofs.Ytcabnhpnkaielaa
set_option linter.unusedSimpArgs false
set_option linter.unusedVariables false
open Go.RowKit

set_option maxRecDepth 100000 in
theorem law_ExactBSet (sv : Value) (os : List Int) (d : Int) (nl : Bool) (p : Option Addr) (cap : Nat) (l : List (Int × Int)) (w : World) (hs : SlE intE w sv os) (hl : ItemsAt w p l) (hcapl : l.length ≤ cap) :
    Calls Try.prog 8 #[.agg #[sv, .int .i64 d, .bool nl], .slice p l.length cap] w fun e w' => e = .returned (.bool true) ∧ Chg (fun _ _ => False) w w' := by
  obtain ⟨sa, sc, rfl⟩ : ∃ a c, sv = .slice a os.length c := hs.form
  have hz := fun w1 => zzFits1_any sa os.length sc d nl w1
  by_cases hol : os.length ≤ 2147483647
  rotate_left
  · rw [decide_eq_false hol] at hz
    go_enter Try.func8, Try.ntmps8
    go_wp2_with fail
    refine name_calls (fun w1 => Chg (fun _ _ => False) w w1) (((Chg.refl _ _).alloc _)) ?_
    intro w1 hc1
    refine (hz w1).mono ?_
    rintro e w2 ⟨rfl, hc2⟩
    go_wp2_with fail
    go_ret
    exact ⟨rfl, hc1.trans hc2⟩
  rw [decide_eq_true hol] at hz
  by_cases hlen : l.length ≤ 2147483647
  rotate_left
  · have hlen' : 2147483647 < l.length := by omega
    go_enter Try.func8, Try.ntmps8
    go_wp2_with fail
    refine name_calls (fun w1 => Chg (fun _ _ => False) w w1) (((Chg.refl _ _).alloc _)) ?_
    intro w1 hc1
    refine (hz w1).mono ?_
    rintro e w2 ⟨rfl, hc2⟩
    go_wp2_with fail
    go_ret
    exact ⟨rfl, hc1.trans hc2⟩
  have hn : ¬ 2147483647 < l.length := by omega
  have HEX := Lib.hid (fun q w1 (hq : ItemsAt w1 q exL) => bSet_any (ord := []) (.slice none 0 0) 2 false q 7 exL w1 ⟨none, 0, rfl, Nat.le_refl _, .inl rfl⟩ (by simp) (.inr ⟨by omega, by omega⟩) hq (by decide) (by decide))
  have HG := Lib.hid (fun hd w1 (c : Chg (fun _ _ => False) w w1) => bSet_any (ord := os) (.slice sa os.length sc) d nl p cap l w1 (hs.chg c) hol hd (hl.chg c) hcapl hlen)
  clear hs hl
  have q1 : exL.length = 7 := rfl
  go_enter Try.func8, Try.ntmps8
  go_wp2_with fail
  refine name_calls (fun w1 => Chg (fun _ _ => False) w w1 ∧ w1.heap[w.heap.size]? = some (.cells #[.slice sa os.length sc, .int .i64 d, .bool nl] 24 (0, 0))) ⟨((Chg.refl _ _).alloc _), ha_at _ _ rfl⟩ ?_
  rintro w1 ⟨hc1, hb0⟩
  have m0 := cell_of_block hb0 0
  have m1 := cell_of_block hb0 1
  have m2 := cell_of_block hb0 2
  simp only [List.getElem?_toArray, List.getElem?_cons_zero, List.getElem?_cons_succ] at m0 m1 m2
  clear hb0
  refine (hz w1).mono ?_
  rintro e w2 ⟨rfl, hc2⟩
  replace m0 := hc2.cell (fun h => h) m0
  replace m1 := hc2.cell (fun h => h) m1
  replace m2 := hc2.cell (fun h => h) m2
  go_wp2_with fail
  refine (exMake_any _).mono ?_
  rintro e w3 ⟨rfl, hc3⟩
  replace m0 := hc3.cell (fun h => h) m0
  replace m1 := hc3.cell (fun h => h) m1
  replace m2 := hc3.cell (fun h => h) m2
  go_wp2_with fail
  refine (exItems_any _).mono ?_
  rintro e w4 ⟨q, rfl, hq, hc4⟩
  replace m0 := hc4.cell (fun h => h) m0
  replace m1 := hc4.cell (fun h => h) m1
  replace m2 := hc4.cell (fun h => h) m2
  go_wp2_with fail
  refine (HEX.out q _ hq).mono ?_
  rintro e w5 ⟨rfl, hc5⟩
  replace m0 := hc5.cell (fun h => h) m0
  replace m1 := hc5.cell (fun h => h) m1
  replace m2 := hc5.cell (fun h => h) m2
  have hc04 := (((hc1.trans hc2).trans hc3).trans hc4).trans hc5
  by_cases hd : FitD d
  · go_wp2_with fail
    refine (fits_fit d _ hd).mono ?_
    rintro e w' ⟨rfl, rfl⟩
    go_wp2_with fail
    refine (HG.out hd _ hc04).mono ?_
    rintro e w5 ⟨rfl, hc5⟩
    go_wp2_with fail
    go_ret
    exact ⟨rfl, hc04.trans hc5⟩
  · go_wp2_with fail
    refine (fits_not d _ hd).mono ?_
    rintro e w' ⟨rfl, rfl⟩
    go_wp2_with fail
    go_ret
    exact ⟨rfl, hc04⟩
end Go.Proofs.Ytcabnhpnkaielaa
