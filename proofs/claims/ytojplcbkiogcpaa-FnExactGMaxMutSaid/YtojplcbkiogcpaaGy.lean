/- The law on GMaxMut. -/
import Derived.Test.YtojplcbkiogcpaaY0
namespace Go.Proofs.Ytojplcbkiogcpaa
set_option linter.unusedSimpArgs false
set_option linter.unusedVariables false
open Go.RowKit

set_option maxRecDepth 100000 in
theorem gMaxMut_any {ord : List Int} (sv : Value) (d : Int) (nl : Bool) (p : Option Addr) (cap : Nat) (l : List (It ord)) (w : World) (hs : SlE intE w sv ord) (hol : ord.length ≤ 2147483647) (hd : FitD d) (hl : ItemsAt w p l) (hlen : l.length ≤ 2147483647) :
    Calls Try.prog 19 #[.agg #[sv, .int .i64 d, .bool nl], .slice p l.length cap] w fun e w' => e = .returned (.bool true) ∧ Chg (fun _ _ => False) w w' := by
  have HM := Lib.hid (fun w1 (c : Chg (fun _ _ => False) w w1) => GMaxMut_any sv d nl p cap l w1 (hs.chg c) hol hd (hl.chg c) hlen)
  have HG := Lib.hid (fun w1 (c : Chg (fun _ _ => False) w w1) => GMax_any sv d nl p cap l w1 (hs.chg c) hol (hl.chg c) hlen)
  obtain ⟨sa, sc, rfl⟩ : ∃ a c, sv = .slice a ord.length c := hs.form
  clear hs hl
  generalize (growL l).getLast? = o at HG HM
  rcases o with _ | y
  · unfold foundV at HG HM
    go_enter Try.func19, Try.ntmps19
    go_wp2_with fail
    refine (HM.out _ ((Chg.refl _ _).alloc _)).mono ?_
    rintro e w1 ⟨rfl, hc1⟩
    have hb0 : w1.heap[w.heap.size]? = some (.cells #[.slice sa ord.length sc, .int .i64 d, .bool nl] 24 (0, 0)) := by rw [hc1.block (by simp) (fun _ h => h)]; exact ha_at _ _ rfl
    have m0 := cell_of_block hb0 0
    have m1 := cell_of_block hb0 1
    have m2 := cell_of_block hb0 2
    simp only [List.getElem?_toArray, List.getElem?_cons_zero, List.getElem?_cons_succ] at m0 m1 m2
    have hlw := heap_lt hb0
    clear hb0
    go_wp2_with fail
    refine name_calls (fun w2 => Chg (fun _ _ => False) w w2 ∧ w2.heap[w1.heap.size]? = some (.cells #[.int .i64 0, .int .i64 0, .bool false] 38 (0, 0))) ⟨(((Chg.refl _ _).alloc _).trans hc1).alloc _, ha_at _ _ rfl⟩ ?_
    rintro w2 ⟨hc2, hb2⟩
    have c0 := cell_of_block hb2 0
    have c1 := cell_of_block hb2 1
    have c2 := cell_of_block hb2 2
    have hlt := heap_lt hb2
    clear hb2
    simp only [List.getElem?_toArray, List.getElem?_cons_zero, List.getElem?_cons_succ] at c0 c1 c2
    refine (HG.out _ hc2).mono ?_
    rintro e w3 ⟨rfl, hc3⟩
    clear m0 m1 m2
    replace c0 := hc3.cell (fun h => h) c0
    replace c1 := hc3.cell (fun h => h) c1
    replace c2 := hc3.cell (fun h => h) c2
    have hsz3 := hc3.size
    have hl3 : w1.heap.size < w3.heap.size := by omega
    go_wp2_with fail
    go_ret
    refine ⟨rfl, ?_⟩
    refine ((hc2.trans hc3).alloc _)
  · unfold foundV at HG HM
    go_enter Try.func19, Try.ntmps19
    go_wp2_with fail
    refine (HM.out _ ((Chg.refl _ _).alloc _)).mono ?_
    rintro e w1 ⟨rfl, hc1⟩
    have hb0 : w1.heap[w.heap.size]? = some (.cells #[.slice sa ord.length sc, .int .i64 d, .bool nl] 24 (0, 0)) := by rw [hc1.block (by simp) (fun _ h => h)]; exact ha_at _ _ rfl
    have m0 := cell_of_block hb0 0
    have m1 := cell_of_block hb0 1
    have m2 := cell_of_block hb0 2
    simp only [List.getElem?_toArray, List.getElem?_cons_zero, List.getElem?_cons_succ] at m0 m1 m2
    have hlw := heap_lt hb0
    clear hb0
    go_wp2_with fail
    refine name_calls (fun w2 => Chg (fun _ _ => False) w w2 ∧ w2.heap[w1.heap.size]? = some (.cells #[.int .i64 y.1, .int .i64 y.2, .bool true] 38 (0, 0))) ⟨(((Chg.refl _ _).alloc _).trans hc1).alloc _, ha_at _ _ rfl⟩ ?_
    rintro w2 ⟨hc2, hb2⟩
    have c0 := cell_of_block hb2 0
    have c1 := cell_of_block hb2 1
    have c2 := cell_of_block hb2 2
    have hlt := heap_lt hb2
    clear hb2
    simp only [List.getElem?_toArray, List.getElem?_cons_zero, List.getElem?_cons_succ] at c0 c1 c2
    refine (HG.out _ hc2).mono ?_
    rintro e w3 ⟨rfl, hc3⟩
    clear m0 m1 m2
    replace c0 := hc3.cell (fun h => h) c0
    replace c1 := hc3.cell (fun h => h) c1
    replace c2 := hc3.cell (fun h => h) c2
    have hsz3 := hc3.size
    have hl3 : w1.heap.size < w3.heap.size := by omega
    go_wp2_with fail
    go_ret
    refine ⟨rfl, ?_⟩
    refine ((hc2.trans hc3).alloc _)

set_option maxRecDepth 100000 in
theorem law_ExactGMaxMut (sv : Value) (os : List Int) (d : Int) (nl : Bool) (p : Option Addr) (cap : Nat) (l : List (Int × Int)) (w : World) (hs : SlE intE w sv os) (hl : ItemsAt w p l) :
    Calls Try.prog 4 #[.agg #[sv, .int .i64 d, .bool nl], .slice p l.length cap] w fun e w' => e = .returned (.bool true) ∧ Chg (fun _ _ => False) w w' := by
  obtain ⟨sa, sc, rfl⟩ : ∃ a c, sv = .slice a os.length c := hs.form
  have hz := fun w1 => zzFits1_any sa os.length sc d nl w1
  by_cases hol : os.length ≤ 2147483647
  rotate_left
  · rw [decide_eq_false hol] at hz
    go_enter Try.func4, Try.ntmps4
    go_wp2_with fail
    refine name_calls (fun w1 => Chg (fun _ _ => False) w w1) (((Chg.refl _ _).alloc _)) ?_
    intro w1 hc1
    refine (hz w1).mono ?_
    rintro e w2 ⟨rfl, hc2⟩
    go_wp2_with fail
    go_ret
    exact ⟨rfl, hc1.trans hc2⟩
  rw [decide_eq_true hol] at hz
  by_cases hlen : l.length ≤ 2147483647
  rotate_left
  · have hlen' : 2147483647 < l.length := by omega
    go_enter Try.func4, Try.ntmps4
    go_wp2_with fail
    refine name_calls (fun w1 => Chg (fun _ _ => False) w w1) (((Chg.refl _ _).alloc _)) ?_
    intro w1 hc1
    refine (hz w1).mono ?_
    rintro e w2 ⟨rfl, hc2⟩
    go_wp2_with fail
    go_ret
    exact ⟨rfl, hc1.trans hc2⟩
  have hn : ¬ 2147483647 < l.length := by omega
  have HEX := Lib.hid (fun q w1 (hq : ItemsAt w1 q exL) => gMaxMut_any (ord := []) (.slice none 0 0) 2 false q 7 exL w1 ⟨none, 0, rfl, Nat.le_refl _, .inl rfl⟩ (by simp) (.inr ⟨by omega, by omega⟩) hq (by decide))
  have HG := Lib.hid (fun hd w1 (c : Chg (fun _ _ => False) w w1) => gMaxMut_any (ord := os) (.slice sa os.length sc) d nl p cap l w1 (hs.chg c) hol hd (hl.chg c) hlen)
  clear hs hl
  have q1 : exL.length = 7 := rfl
  go_enter Try.func4, Try.ntmps4
  go_wp2_with fail
  refine name_calls (fun w1 => Chg (fun _ _ => False) w w1 ∧ w1.heap[w.heap.size]? = some (.cells #[.slice sa os.length sc, .int .i64 d, .bool nl] 24 (0, 0))) ⟨((Chg.refl _ _).alloc _), ha_at _ _ rfl⟩ ?_
  rintro w1 ⟨hc1, hb0⟩
  have m0 := cell_of_block hb0 0
  have m1 := cell_of_block hb0 1
  have m2 := cell_of_block hb0 2
  simp only [List.getElem?_toArray, List.getElem?_cons_zero, List.getElem?_cons_succ] at m0 m1 m2
  clear hb0
  refine (hz w1).mono ?_
  rintro e w2 ⟨rfl, hc2⟩
  replace m0 := hc2.cell (fun h => h) m0
  replace m1 := hc2.cell (fun h => h) m1
  replace m2 := hc2.cell (fun h => h) m2
  go_wp2_with fail
  refine (exMake_any _).mono ?_
  rintro e w3 ⟨rfl, hc3⟩
  replace m0 := hc3.cell (fun h => h) m0
  replace m1 := hc3.cell (fun h => h) m1
  replace m2 := hc3.cell (fun h => h) m2
  go_wp2_with fail
  refine (exItems_any _).mono ?_
  rintro e w4 ⟨q, rfl, hq, hc4⟩
  replace m0 := hc4.cell (fun h => h) m0
  replace m1 := hc4.cell (fun h => h) m1
  replace m2 := hc4.cell (fun h => h) m2
  go_wp2_with fail
  refine (HEX.out q _ hq).mono ?_
  rintro e w5 ⟨rfl, hc5⟩
  replace m0 := hc5.cell (fun h => h) m0
  replace m1 := hc5.cell (fun h => h) m1
  replace m2 := hc5.cell (fun h => h) m2
  have hc04 := (((hc1.trans hc2).trans hc3).trans hc4).trans hc5
  by_cases hd : FitD d
  · go_wp2_with fail
    refine (fits_fit d _ hd).mono ?_
    rintro e w' ⟨rfl, rfl⟩
    go_wp2_with fail
    refine (HG.out hd _ hc04).mono ?_
    rintro e w5 ⟨rfl, hc5⟩
    go_wp2_with fail
    go_ret
    exact ⟨rfl, hc04.trans hc5⟩
  · go_wp2_with fail
    refine (fits_not d _ hd).mono ?_
    rintro e w' ⟨rfl, rfl⟩
    go_wp2_with fail
    go_ret
    exact ⟨rfl, hc04⟩
end Go.Proofs.Ytojplcbkiogcpaa
