/- BMin, its reference and the law. -/
import Derived.Test.YtcabnhpnkaielaaA9
import Derived.Test.YtcabnhpnkaielaaBx
namespace Go.Proofs.Ytcabnhpnkaielaa
set_option linter.unusedSimpArgs false
set_option linter.unusedVariables false
open Go.RowKit

theorem growL_tree {ord : List Int} (l : List (It ord)) : growL l = treeL (ltR (rkL ord)) l := rfl

theorem fresh_found1 {w w1 : World} (B : Nat) (hB : w.heap.size ≤ B) (hc : Chg (fun _ _ => False) w w1) {u v x : Value} : Chg (fun _ _ => False) w (((w1.setCell ⟨B, 0, none⟩ u).setCell ⟨B, 1, none⟩ v).setCell ⟨B, 2, none⟩ x) := by
  refine hc.trans' (A' := fun b _ => b = B) ?_ (fun _ _ _ h => h) (fun b o hb h => by omega)
  repeat (first | refine Chg.setCell ?_ (.inl rfl) _ | exact Chg.refl _ _)

set_option maxRecDepth 100000 in
theorem BMin_any {ord : List Int} (sv : Value) (d : Int) (nl : Bool) (p : Option Addr) (cap : Nat) (l : List (It ord)) (w : World) (hs : SlE intE w sv ord) (hol : ord.length ≤ 2147483647) (hd : FitD d) (hl : ItemsAt w p l) (hlen : l.length ≤ 2147483647) :
    Calls Try.prog 34 #[.agg #[sv, .int .i64 d, .bool nl], .slice p l.length cap] w fun e w' => e = .returned (foundV (growL l).head?) ∧ Chg (fun _ _ => False) w w' := by
  have HP := Lib.hid (fun w => foundAny_any (growL l).head? w)
  have HG := Lib.hid (fun w1 (c : Chg (fun _ _ => False) w w1) => grow_any (ord := ord) sv d nl p cap l w1 hd (hs.chg c) hol (hl.chg c) hlen)
  have hdim := hd.dims.1
  unfold GrowPost at HG
  generalize ho : (growL l).head? = o at HP ⊢
  have HO := Lib.hid ho
  obtain ⟨sa, sc, rfl⟩ : ∃ a c, sv = .slice a ord.length c := hs.form
  clear hs hl ho
  go_enter Try.func34, Try.ntmps34
  go_wp2_with fail
  refine (HG.out _ (((Chg.refl _ _).alloc _).alloc _)).mono ?_
  rintro e w2 ⟨k, hp, t, F, rfl, hH, hM, hc2, _⟩
  go_wp2_with fail
  refine (HMin_any hH hM hdim).mono ?_
  rw [HO.out]
  rintro e w3 ⟨rfl, hc3⟩
  go_wp2_with fail
  refine (HP.out _).mono ?_
  rintro e w4 ⟨rfl, hc4⟩
  have hc := (hc2.trans hc3).trans hc4
  have hb1 : w4.heap[w.heap.size + 1]? = some (.cells #[.int .i64 0, .int .i64 0, .bool false] 45 (0, 0)) := by rw [hc.block (by simp) (fun _ h => h)]; exact ha_at _ _ (by simp)
  have c0 := cell_of_block hb1 0
  have c1 := cell_of_block hb1 1
  have c2 := cell_of_block hb1 2
  have z0 := frozen_of_block hb1 0
  have z1 := frozen_of_block hb1 1
  have z2 := frozen_of_block hb1 2
  simp only [List.getElem?_toArray, List.getElem?_cons_zero, List.getElem?_cons_succ] at c0 c1 c2
  have HB1 := Lib.hid hb1
  clear hb1
  have hc0 := (((Chg.refl (fun _ _ => False) w).alloc _).alloc _).trans hc
  rcases o with _ | y
  all_goals
    unfold foundV
    go_wp2_with fail
  · refine bodyPost_ret (v := foundV none) (by simp [results, Try.results34, go_sem, foundV, c0, c1, c2]) rfl ⟨rfl, ?_⟩
    exact fresh_found1 _ (by omega) hc0
  · refine bodyPost_ret (v := foundV (some y)) (by simp [results, Try.results34, go_sem, foundV, c0, c1, c2]) rfl ⟨rfl, ?_⟩
    exact fresh_found1 _ (by omega) hc0

set_option maxRecDepth 100000 in
theorem GMin_any {ord : List Int} (sv : Value) (d : Int) (nl : Bool) (p : Option Addr) (cap : Nat) (l : List (It ord)) (w : World) (hs : SlE intE w sv ord) (hol : ord.length ≤ 2147483647) (hl : ItemsAt w p l) (hlen : l.length ≤ 2147483647) :
    Calls Try.prog 35 #[.agg #[sv, .int .i64 d, .bool nl], .slice p l.length cap] w fun e w' => e = .returned (foundV (growL l).head?) ∧ Chg (fun _ _ => False) w w' := by
  have HT := Lib.hid (fun w1 (c : Chg (fun _ _ => False) w w1) => tree_any sv (rkL ord) p cap l w1 (rank_list sv ord w1 (hs.chg c) hol) (hl.chg c) hlen)
  rw [growL_tree]
  generalize ho : (treeL (ltR (rkL ord)) l).head? = o
  have HO := Lib.hid ho
  obtain ⟨sa, sc, rfl⟩ : ∃ a c, sv = .slice a ord.length c := hs.form
  clear hs hl ho
  go_enter Try.func35, Try.ntmps35
  go_wp2_with fail
  refine (HT.out _ (((Chg.refl _ _).alloc _).alloc _)).mono ?_
  rintro e w1 ⟨v, rfl, hv, hc⟩
  obtain ⟨q, cap2, rfl, hi, hcap⟩ := hv.items
  have hlen2 := treeL_len (ltR (rkL ord)) l
  generalize hL : treeL (ltR (rkL ord)) l = L at hi hcap hlen2 HO ⊢
  clear hL hv
  go_wp2_with fail
  refine (at_any q cap2 L 0 _ hi (by omega) hcap).mono ?_
  rintro e w2 ⟨rfl, hc2⟩
  have hat : atL L 0 = L.head? := by
    simp [atL, List.head?_eq_getElem?]
  rw [hat, HO.out]
  have hc12 := hc.trans hc2
  have hb1 : w2.heap[w.heap.size + 1]? = some (.cells #[.int .i64 0, .int .i64 0, .bool false] 45 (0, 0)) := by rw [hc12.block (by simp) (fun _ h => h)]; exact ha_at _ _ (by simp)
  have c0 := cell_of_block hb1 0
  have c1 := cell_of_block hb1 1
  have c2 := cell_of_block hb1 2
  have z0 := frozen_of_block hb1 0
  have z1 := frozen_of_block hb1 1
  have z2 := frozen_of_block hb1 2
  simp only [List.getElem?_toArray, List.getElem?_cons_zero, List.getElem?_cons_succ] at c0 c1 c2
  have HB1 := Lib.hid hb1
  clear hb1
  clear hat hlen2
  rcases o with _ | y
  all_goals
    unfold foundV
    go_wp2_with fail
  · refine bodyPost_ret (v := foundV none) (by simp [results, Try.results35, go_sem, foundV, c0, c1, c2]) rfl ⟨rfl, ?_⟩
    exact fresh_found1 _ (by omega) ((((Chg.refl (fun _ _ => False) w).alloc _).alloc _).trans hc12)
  · refine bodyPost_ret (v := foundV (some y)) (by simp [results, Try.results35, go_sem, foundV, c0, c1, c2]) rfl ⟨rfl, ?_⟩
    exact fresh_found1 _ (by omega) ((((Chg.refl (fun _ _ => False) w).alloc _).alloc _).trans hc12)
set_option maxRecDepth 100000 in
theorem bMin_any {ord : List Int} (sv : Value) (d : Int) (nl : Bool) (p : Option Addr) (cap : Nat) (l : List (It ord)) (w : World) (hs : SlE intE w sv ord) (hol : ord.length ≤ 2147483647) (hd : FitD d) (hl : ItemsAt w p l) (hlen : l.length ≤ 2147483647) :
    Calls Try.prog 17 #[.agg #[sv, .int .i64 d, .bool nl], .slice p l.length cap] w fun e w' => e = .returned (.bool true) ∧ Chg (fun _ _ => False) w w' := by
  have HM := Lib.hid (fun w1 (c : Chg (fun _ _ => False) w w1) => BMin_any sv d nl p cap l w1 (hs.chg c) hol hd (hl.chg c) hlen)
  have HG := Lib.hid (fun w1 (c : Chg (fun _ _ => False) w w1) => GMin_any sv d nl p cap l w1 (hs.chg c) hol (hl.chg c) hlen)
  obtain ⟨sa, sc, rfl⟩ : ∃ a c, sv = .slice a ord.length c := hs.form
  clear hs hl
  generalize (growL l).head? = o at HG HM
  rcases o with _ | y
  · unfold foundV at HG HM
    go_enter Try.func17, Try.ntmps17
    go_wp2_with fail
    refine (HM.out _ ((Chg.refl _ _).alloc _)).mono ?_
    rintro e w1 ⟨rfl, hc1⟩
    have hb0 : w1.heap[w.heap.size]? = some (.cells #[.slice sa ord.length sc, .int .i64 d, .bool nl] 24 (0, 0)) := by rw [hc1.block (by simp) (fun _ h => h)]; exact ha_at _ _ rfl
    have m0 := cell_of_block hb0 0
    have m1 := cell_of_block hb0 1
    have m2 := cell_of_block hb0 2
    simp only [List.getElem?_toArray, List.getElem?_cons_zero, List.getElem?_cons_succ] at m0 m1 m2
    have hlw := heap_lt hb0
    clear hb0
    go_wp2_with fail
    refine name_calls (fun w2 => Chg (fun _ _ => False) w w2 ∧ w2.heap[w1.heap.size]? = some (.cells #[.int .i64 0, .int .i64 0, .bool false] 45 (0, 0))) ⟨(((Chg.refl _ _).alloc _).trans hc1).alloc _, ha_at _ _ rfl⟩ ?_
    rintro w2 ⟨hc2, hb2⟩
    have c0 := cell_of_block hb2 0
    have c1 := cell_of_block hb2 1
    have c2 := cell_of_block hb2 2
    have hlt := heap_lt hb2
    clear hb2
    simp only [List.getElem?_toArray, List.getElem?_cons_zero, List.getElem?_cons_succ] at c0 c1 c2
    refine (HG.out _ hc2).mono ?_
    rintro e w3 ⟨rfl, hc3⟩
    clear m0 m1 m2
    replace c0 := hc3.cell (fun h => h) c0
    replace c1 := hc3.cell (fun h => h) c1
    replace c2 := hc3.cell (fun h => h) c2
    have hsz3 := hc3.size
    have hl3 : w1.heap.size < w3.heap.size := by omega
    go_wp2_with fail
    go_ret
    refine ⟨rfl, ?_⟩
    refine ((hc2.trans hc3).alloc _)
  · unfold foundV at HG HM
    go_enter Try.func17, Try.ntmps17
    go_wp2_with fail
    refine (HM.out _ ((Chg.refl _ _).alloc _)).mono ?_
    rintro e w1 ⟨rfl, hc1⟩
    have hb0 : w1.heap[w.heap.size]? = some (.cells #[.slice sa ord.length sc, .int .i64 d, .bool nl] 24 (0, 0)) := by rw [hc1.block (by simp) (fun _ h => h)]; exact ha_at _ _ rfl
    have m0 := cell_of_block hb0 0
    have m1 := cell_of_block hb0 1
    have m2 := cell_of_block hb0 2
    simp only [List.getElem?_toArray, List.getElem?_cons_zero, List.getElem?_cons_succ] at m0 m1 m2
    have hlw := heap_lt hb0
    clear hb0
    go_wp2_with fail
    refine name_calls (fun w2 => Chg (fun _ _ => False) w w2 ∧ w2.heap[w1.heap.size]? = some (.cells #[.int .i64 y.1, .int .i64 y.2, .bool true] 45 (0, 0))) ⟨(((Chg.refl _ _).alloc _).trans hc1).alloc _, ha_at _ _ rfl⟩ ?_
    rintro w2 ⟨hc2, hb2⟩
    have c0 := cell_of_block hb2 0
    have c1 := cell_of_block hb2 1
    have c2 := cell_of_block hb2 2
    have hlt := heap_lt hb2
    clear hb2
    simp only [List.getElem?_toArray, List.getElem?_cons_zero, List.getElem?_cons_succ] at c0 c1 c2
    refine (HG.out _ hc2).mono ?_
    rintro e w3 ⟨rfl, hc3⟩
    clear m0 m1 m2
    replace c0 := hc3.cell (fun h => h) c0
    replace c1 := hc3.cell (fun h => h) c1
    replace c2 := hc3.cell (fun h => h) c2
    have hsz3 := hc3.size
    have hl3 : w1.heap.size < w3.heap.size := by omega
    go_wp2_with fail
    go_ret
    refine ⟨rfl, ?_⟩
    refine ((hc2.trans hc3).alloc _)

set_option maxRecDepth 100000 in
theorem law_ExactBMin (sv : Value) (os : List Int) (d : Int) (nl : Bool) (p : Option Addr) (cap : Nat) (l : List (Int × Int)) (w : World) (hs : SlE intE w sv os) (hl : ItemsAt w p l) :
    Calls Try.prog 4 #[.agg #[sv, .int .i64 d, .bool nl], .slice p l.length cap] w fun e w' => e = .returned (.bool true) ∧ Chg (fun _ _ => False) w w' := by
  obtain ⟨sa, sc, rfl⟩ : ∃ a c, sv = .slice a os.length c := hs.form
  have hz := fun w1 => zzFits1_any sa os.length sc d nl w1
  by_cases hol : os.length ≤ 2147483647
  rotate_left
  · rw [decide_eq_false hol] at hz
    go_enter Try.func4, Try.ntmps4
    go_wp2_with fail
    refine name_calls (fun w1 => Chg (fun _ _ => False) w w1) (((Chg.refl _ _).alloc _)) ?_
    intro w1 hc1
    refine (hz w1).mono ?_
    rintro e w2 ⟨rfl, hc2⟩
    go_wp2_with fail
    go_ret
    exact ⟨rfl, hc1.trans hc2⟩
  rw [decide_eq_true hol] at hz
  by_cases hlen : l.length ≤ 2147483647
  rotate_left
  · have hlen' : 2147483647 < l.length := by omega
    go_enter Try.func4, Try.ntmps4
    go_wp2_with fail
    refine name_calls (fun w1 => Chg (fun _ _ => False) w w1) (((Chg.refl _ _).alloc _)) ?_
    intro w1 hc1
    refine (hz w1).mono ?_
    rintro e w2 ⟨rfl, hc2⟩
    go_wp2_with fail
    go_ret
    exact ⟨rfl, hc1.trans hc2⟩
  have hn : ¬ 2147483647 < l.length := by omega
  have HEX := Lib.hid (fun q w1 (hq : ItemsAt w1 q exL) => bMin_any (ord := []) (.slice none 0 0) 2 false q 7 exL w1 ⟨none, 0, rfl, Nat.le_refl _, .inl rfl⟩ (by simp) (.inr ⟨by omega, by omega⟩) hq (by decide))
  have HG := Lib.hid (fun hd w1 (c : Chg (fun _ _ => False) w w1) => bMin_any (ord := os) (.slice sa os.length sc) d nl p cap l w1 (hs.chg c) hol hd (hl.chg c) hlen)
  clear hs hl
  have q1 : exL.length = 7 := rfl
  go_enter Try.func4, Try.ntmps4
  go_wp2_with fail
  refine name_calls (fun w1 => Chg (fun _ _ => False) w w1 ∧ w1.heap[w.heap.size]? = some (.cells #[.slice sa os.length sc, .int .i64 d, .bool nl] 24 (0, 0))) ⟨((Chg.refl _ _).alloc _), ha_at _ _ rfl⟩ ?_
  rintro w1 ⟨hc1, hb0⟩
  have m0 := cell_of_block hb0 0
  have m1 := cell_of_block hb0 1
  have m2 := cell_of_block hb0 2
  simp only [List.getElem?_toArray, List.getElem?_cons_zero, List.getElem?_cons_succ] at m0 m1 m2
  clear hb0
  refine (hz w1).mono ?_
  rintro e w2 ⟨rfl, hc2⟩
  replace m0 := hc2.cell (fun h => h) m0
  replace m1 := hc2.cell (fun h => h) m1
  replace m2 := hc2.cell (fun h => h) m2
  go_wp2_with fail
  refine (exMake_any _).mono ?_
  rintro e w3 ⟨rfl, hc3⟩
  replace m0 := hc3.cell (fun h => h) m0
  replace m1 := hc3.cell (fun h => h) m1
  replace m2 := hc3.cell (fun h => h) m2
  go_wp2_with fail
  refine (exItems_any _).mono ?_
  rintro e w4 ⟨q, rfl, hq, hc4⟩
  replace m0 := hc4.cell (fun h => h) m0
  replace m1 := hc4.cell (fun h => h) m1
  replace m2 := hc4.cell (fun h => h) m2
  go_wp2_with fail
  refine (HEX.out q _ hq).mono ?_
  rintro e w5 ⟨rfl, hc5⟩
  replace m0 := hc5.cell (fun h => h) m0
  replace m1 := hc5.cell (fun h => h) m1
  replace m2 := hc5.cell (fun h => h) m2
  have hc04 := (((hc1.trans hc2).trans hc3).trans hc4).trans hc5
  by_cases hd : FitD d
  · go_wp2_with fail
    refine (fits_fit d _ hd).mono ?_
    rintro e w' ⟨rfl, rfl⟩
    go_wp2_with fail
    refine (HG.out hd _ hc04).mono ?_
    rintro e w5 ⟨rfl, hc5⟩
    go_wp2_with fail
    go_ret
    exact ⟨rfl, hc04.trans hc5⟩
  · go_wp2_with fail
    refine (fits_not d _ hd).mono ?_
    rintro e w' ⟨rfl, rfl⟩
    go_wp2_with fail
    go_ret
    exact ⟨rfl, hc04⟩
end Go.Proofs.Ytcabnhpnkaielaa
