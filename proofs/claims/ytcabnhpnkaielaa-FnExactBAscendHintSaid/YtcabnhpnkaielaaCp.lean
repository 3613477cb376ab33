/- The laws on BAscend and BAscendHint, whatever the input. -/
import Derived.Test.YtcabnhpnkaielaaCw
import Derived.BigQuiet
namespace Go.Proofs.Ytcabnhpnkaielaa
set_option linter.unusedSimpArgs false
set_option linter.unusedVariables false
open Go.RowKit

theorem growL_len' {ord : List Int} (l : List (It ord)) : (growL l).length ≤ l.length := by
  have := growL_take_len l l.length
  rw [List.take_length] at this
  exact this

set_option maxRecDepth 100000 in
theorem bAscend_any {ord : List Int} (sv : Value) (d : Int) (nl : Bool) (p : Option Addr) (cap : Nat) (l : List (It ord)) (all : Bool) (x : It ord) (n : Int) (w : World) (hs : SlE intE w sv ord) (hol : ord.length ≤ 2147483647) (hd : FitD d) (hl : ItemsAt w p l) (hlen : l.length ≤ 2147483647) :
    Calls Try.prog 21 #[.agg #[sv, .int .i64 d, .bool nl], .slice p l.length cap, .bool all, .agg #[.int .i64 x.1, .int .i64 x.2], .int .i64 n] w fun e w' => e = .returned (.bool true) ∧ Chg (fun _ _ => False) w w' := by
  have HM := Lib.hid (fun w1 (c : Chg (fun _ _ => False) w w1) => BAscend_any (ord := ord) sv d nl p cap l all x n w1 (hs.chg c) hol hd (hl.chg c) hlen)
  have hpl := Nat.le_trans (firstN_len n (partL all x (growL l))) (Nat.le_trans (partL_len all x (growL l)) (growL_len' l))
  unfold OwnPostI at HM
  cases all
  · have HS := Lib.hid (fun w1 (c : Chg (fun _ _ => False) w w1) => specGAscend_any (ord := ord) sv d nl p cap l x n w1 (hs.chg c) hol (hl.chg c) hlen)
    have e1 : firstN n (partL false x (growL l)) = firstN n (uppL (ltR (rkL ord)) x (treeL (ltR (rkL ord)) l)) := rfl
    rw [e1] at HM hpl
    generalize firstN n (uppL (ltR (rkL ord)) x (treeL (ltR (rkL ord)) l)) = V at HM HS hpl
    obtain ⟨sa, sc, rfl⟩ : ∃ a c, sv = .slice a ord.length c := hs.form
    clear hs hl e1
    go_enter Try.func21, Try.ntmps21
    go_wp2_with fail
    refine name_calls (fun w1 => Chg (fun _ _ => False) w w1 ∧ w1.heap[w.heap.size]? = some (.cells #[.slice sa ord.length sc, .int .i64 d, .bool nl] 24 (0, 0)) ∧ w1.heap[w.heap.size + 1]? = some (.cells #[.int .i64 x.1, .int .i64 x.2] 26 (0, 0))) ⟨((Chg.refl _ _).alloc _).alloc _, ?_, ?_⟩ ?_
    · rw [ha_lt _ _ (by simp)]; exact ha_at _ _ rfl
    · exact ha_at _ _ (by simp)
    rintro w1 ⟨hc1, hb0, hb1⟩
    have m0 := cell_of_block hb0 0
    have m1 := cell_of_block hb0 1
    have m2 := cell_of_block hb0 2
    have q0 := cell_of_block hb1 0
    have q1 := cell_of_block hb1 1
    simp only [List.getElem?_toArray, List.getElem?_cons_zero, List.getElem?_cons_succ] at m0 m1 m2 q0 q1
    clear hb0 hb1
    refine (HM.out _ hc1).mono ?_
    rintro e w2 ⟨v1, rfl, how1, hc2⟩
    replace m0 := hc2.cell (fun h => h) m0
    replace m1 := hc2.cell (fun h => h) m1
    replace m2 := hc2.cell (fun h => h) m2
    replace q0 := hc2.cell (fun h => h) q0
    replace q1 := hc2.cell (fun h => h) q1
    have HOW := Lib.hid how1.sl
    clear how1
    go_wp2_with fail
    refine (HS.out _ (hc1.trans hc2)).mono ?_
    rintro e w3 ⟨v3, rfl, hs3, hc3⟩
    have HS3 := Lib.hid hs3
    clear hs3
    go_wp2_with fail
    refine (equal_item _ _ _ _ (HOW.out.chg hc3) HS3.out (by omega)).mono ?_
    rintro e w4 ⟨rfl, hc4⟩
    go_wp2_with fail
    go_ret
    exact ⟨rfl, ((hc1.trans hc2).trans hc3).trans hc4⟩
  · have HS := Lib.hid (fun w1 (c : Chg (fun _ _ => False) w w1) => specGScan_any (ord := ord) sv d nl p cap l n w1 (hs.chg c) hol (hl.chg c) hlen)
    have e1 : firstN n (partL true x (growL l)) = firstN n (treeL (ltR (rkL ord)) l) := rfl
    rw [e1] at HM hpl
    generalize firstN n (treeL (ltR (rkL ord)) l) = V at HM HS hpl
    obtain ⟨sa, sc, rfl⟩ : ∃ a c, sv = .slice a ord.length c := hs.form
    clear hs hl e1
    go_enter Try.func21, Try.ntmps21
    go_wp2_with fail
    refine name_calls (fun w1 => Chg (fun _ _ => False) w w1 ∧ w1.heap[w.heap.size]? = some (.cells #[.slice sa ord.length sc, .int .i64 d, .bool nl] 24 (0, 0)) ∧ w1.heap[w.heap.size + 1]? = some (.cells #[.int .i64 x.1, .int .i64 x.2] 26 (0, 0))) ⟨((Chg.refl _ _).alloc _).alloc _, ?_, ?_⟩ ?_
    · rw [ha_lt _ _ (by simp)]; exact ha_at _ _ rfl
    · exact ha_at _ _ (by simp)
    rintro w1 ⟨hc1, hb0, hb1⟩
    have m0 := cell_of_block hb0 0
    have m1 := cell_of_block hb0 1
    have m2 := cell_of_block hb0 2
    have q0 := cell_of_block hb1 0
    have q1 := cell_of_block hb1 1
    simp only [List.getElem?_toArray, List.getElem?_cons_zero, List.getElem?_cons_succ] at m0 m1 m2 q0 q1
    clear hb0 hb1
    refine (HM.out _ hc1).mono ?_
    rintro e w2 ⟨v1, rfl, how1, hc2⟩
    replace m0 := hc2.cell (fun h => h) m0
    replace m1 := hc2.cell (fun h => h) m1
    replace m2 := hc2.cell (fun h => h) m2
    replace q0 := hc2.cell (fun h => h) q0
    replace q1 := hc2.cell (fun h => h) q1
    have HOW := Lib.hid how1.sl
    clear how1
    go_wp2_with fail
    refine (HS.out _ (hc1.trans hc2)).mono ?_
    rintro e w3 ⟨v3, rfl, hs3, hc3⟩
    have HS3 := Lib.hid hs3
    clear hs3
    go_wp2_with fail
    refine (equal_item _ _ _ _ (HOW.out.chg hc3) HS3.out (by omega)).mono ?_
    rintro e w4 ⟨rfl, hc4⟩
    go_wp2_with fail
    go_ret
    exact ⟨rfl, ((hc1.trans hc2).trans hc3).trans hc4⟩

set_option maxRecDepth 100000 in
theorem bAscendHint_any {ord : List Int} (sv : Value) (d : Int) (nl : Bool) (p : Option Addr) (cap : Nat) (l : List (It ord)) (all : Bool) (x : It ord) (n : Int) (w : World) (hs : SlE intE w sv ord) (hol : ord.length ≤ 2147483647) (hd : FitD d) (hl : ItemsAt w p l) (hlen : l.length ≤ 2147483647) :
    Calls Try.prog 22 #[.agg #[sv, .int .i64 d, .bool nl], .slice p l.length cap, .bool all, .agg #[.int .i64 x.1, .int .i64 x.2], .int .i64 n] w fun e w' => e = .returned (.bool true) ∧ Chg (fun _ _ => False) w w' := by
  have HM := Lib.hid (fun w1 (c : Chg (fun _ _ => False) w w1) => BAscendHint_any (ord := ord) sv d nl p cap l all x n w1 (hs.chg c) hol hd (hl.chg c) hlen)
  have hpl := Nat.le_trans (firstN_len n (partL all x (growL l))) (Nat.le_trans (partL_len all x (growL l)) (growL_len' l))
  unfold OwnPostI at HM
  cases all
  · have HS := Lib.hid (fun w1 (c : Chg (fun _ _ => False) w w1) => specGAscend_any (ord := ord) sv d nl p cap l x n w1 (hs.chg c) hol (hl.chg c) hlen)
    have e1 : firstN n (partL false x (growL l)) = firstN n (uppL (ltR (rkL ord)) x (treeL (ltR (rkL ord)) l)) := rfl
    rw [e1] at HM hpl
    generalize firstN n (uppL (ltR (rkL ord)) x (treeL (ltR (rkL ord)) l)) = V at HM HS hpl
    obtain ⟨sa, sc, rfl⟩ : ∃ a c, sv = .slice a ord.length c := hs.form
    clear hs hl e1
    go_enter Try.func22, Try.ntmps22
    go_wp2_with fail
    refine name_calls (fun w1 => Chg (fun _ _ => False) w w1 ∧ w1.heap[w.heap.size]? = some (.cells #[.slice sa ord.length sc, .int .i64 d, .bool nl] 24 (0, 0)) ∧ w1.heap[w.heap.size + 1]? = some (.cells #[.int .i64 x.1, .int .i64 x.2] 26 (0, 0))) ⟨((Chg.refl _ _).alloc _).alloc _, ?_, ?_⟩ ?_
    · rw [ha_lt _ _ (by simp)]; exact ha_at _ _ rfl
    · exact ha_at _ _ (by simp)
    rintro w1 ⟨hc1, hb0, hb1⟩
    have m0 := cell_of_block hb0 0
    have m1 := cell_of_block hb0 1
    have m2 := cell_of_block hb0 2
    have q0 := cell_of_block hb1 0
    have q1 := cell_of_block hb1 1
    simp only [List.getElem?_toArray, List.getElem?_cons_zero, List.getElem?_cons_succ] at m0 m1 m2 q0 q1
    clear hb0 hb1
    refine (HM.out _ hc1).mono ?_
    rintro e w2 ⟨v1, rfl, how1, hc2⟩
    replace m0 := hc2.cell (fun h => h) m0
    replace m1 := hc2.cell (fun h => h) m1
    replace m2 := hc2.cell (fun h => h) m2
    replace q0 := hc2.cell (fun h => h) q0
    replace q1 := hc2.cell (fun h => h) q1
    have HOW := Lib.hid how1.sl
    clear how1
    go_wp2_with fail
    refine (HS.out _ (hc1.trans hc2)).mono ?_
    rintro e w3 ⟨v3, rfl, hs3, hc3⟩
    have HS3 := Lib.hid hs3
    clear hs3
    go_wp2_with fail
    refine (equal_item _ _ _ _ (HOW.out.chg hc3) HS3.out (by omega)).mono ?_
    rintro e w4 ⟨rfl, hc4⟩
    go_wp2_with fail
    go_ret
    exact ⟨rfl, ((hc1.trans hc2).trans hc3).trans hc4⟩
  · have HS := Lib.hid (fun w1 (c : Chg (fun _ _ => False) w w1) => specGScan_any (ord := ord) sv d nl p cap l n w1 (hs.chg c) hol (hl.chg c) hlen)
    have e1 : firstN n (partL true x (growL l)) = firstN n (treeL (ltR (rkL ord)) l) := rfl
    rw [e1] at HM hpl
    generalize firstN n (treeL (ltR (rkL ord)) l) = V at HM HS hpl
    obtain ⟨sa, sc, rfl⟩ : ∃ a c, sv = .slice a ord.length c := hs.form
    clear hs hl e1
    go_enter Try.func22, Try.ntmps22
    go_wp2_with fail
    refine name_calls (fun w1 => Chg (fun _ _ => False) w w1 ∧ w1.heap[w.heap.size]? = some (.cells #[.slice sa ord.length sc, .int .i64 d, .bool nl] 24 (0, 0)) ∧ w1.heap[w.heap.size + 1]? = some (.cells #[.int .i64 x.1, .int .i64 x.2] 26 (0, 0))) ⟨((Chg.refl _ _).alloc _).alloc _, ?_, ?_⟩ ?_
    · rw [ha_lt _ _ (by simp)]; exact ha_at _ _ rfl
    · exact ha_at _ _ (by simp)
    rintro w1 ⟨hc1, hb0, hb1⟩
    have m0 := cell_of_block hb0 0
    have m1 := cell_of_block hb0 1
    have m2 := cell_of_block hb0 2
    have q0 := cell_of_block hb1 0
    have q1 := cell_of_block hb1 1
    simp only [List.getElem?_toArray, List.getElem?_cons_zero, List.getElem?_cons_succ] at m0 m1 m2 q0 q1
    clear hb0 hb1
    refine (HM.out _ hc1).mono ?_
    rintro e w2 ⟨v1, rfl, how1, hc2⟩
    replace m0 := hc2.cell (fun h => h) m0
    replace m1 := hc2.cell (fun h => h) m1
    replace m2 := hc2.cell (fun h => h) m2
    replace q0 := hc2.cell (fun h => h) q0
    replace q1 := hc2.cell (fun h => h) q1
    have HOW := Lib.hid how1.sl
    clear how1
    go_wp2_with fail
    refine (HS.out _ (hc1.trans hc2)).mono ?_
    rintro e w3 ⟨v3, rfl, hs3, hc3⟩
    have HS3 := Lib.hid hs3
    clear hs3
    go_wp2_with fail
    refine (equal_item _ _ _ _ (HOW.out.chg hc3) HS3.out (by omega)).mono ?_
    rintro e w4 ⟨rfl, hc4⟩
    go_wp2_with fail
    go_ret
    exact ⟨rfl, ((hc1.trans hc2).trans hc3).trans hc4⟩

set_option maxRecDepth 100000 in
theorem law_ExactBAscend (sv : Value) (os : List Int) (d : Int) (nl : Bool) (p : Option Addr) (cap : Nat) (l : List (Int × Int)) (all : Bool) (x : Int × Int) (n : Int) (w : World) (hs : SlE intE w sv os) (hl : ItemsAt w p l) :
    Calls Try.prog 6 #[.agg #[sv, .int .i64 d, .bool nl], .slice p l.length cap, .bool all, .agg #[.int .i64 x.1, .int .i64 x.2], .int .i64 n] w fun e w' => e = .returned (.bool true) ∧ Chg (fun _ _ => False) w w' := by
  obtain ⟨sa, sc, rfl⟩ : ∃ a c, sv = .slice a os.length c := hs.form
  have hz := fun w1 => zzFits1_any sa os.length sc d nl w1
  by_cases hol : os.length ≤ 2147483647
  rotate_left
  · rw [decide_eq_false hol] at hz
    go_enter Try.func6, Try.ntmps6
    go_wp2_with fail
    refine name_calls (fun w1 => Chg (fun _ _ => False) w w1) ((((Chg.refl _ _).alloc _).alloc _)) ?_
    intro w1 hc1
    refine (hz w1).mono ?_
    rintro e w2 ⟨rfl, hc2⟩
    go_wp2_with fail
    go_ret
    exact ⟨rfl, hc1.trans hc2⟩
  rw [decide_eq_true hol] at hz
  by_cases hlen : l.length ≤ 2147483647
  rotate_left
  · have hlen' : 2147483647 < l.length := by omega
    go_enter Try.func6, Try.ntmps6
    go_wp2_with fail
    refine name_calls (fun w1 => Chg (fun _ _ => False) w w1) ((((Chg.refl _ _).alloc _).alloc _)) ?_
    intro w1 hc1
    refine (hz w1).mono ?_
    rintro e w2 ⟨rfl, hc2⟩
    go_wp2_with fail
    go_ret
    exact ⟨rfl, hc1.trans hc2⟩
  have hn : ¬ 2147483647 < l.length := by omega
  have HEX := Lib.hid (fun q w1 (hq : ItemsAt w1 q exL) => bAscend_any (ord := []) (.slice none 0 0) 2 false q 7 exL false ((4, 0) : Int × Int) 2 w1 ⟨none, 0, rfl, Nat.le_refl _, .inl rfl⟩ (by simp) (.inr ⟨by omega, by omega⟩) hq (by decide))
  have HG := Lib.hid (fun hd w1 (c : Chg (fun _ _ => False) w w1) => bAscend_any (ord := os) (.slice sa os.length sc) d nl p cap l all x n w1 (hs.chg c) hol hd (hl.chg c) hlen)
  clear hs hl
  have q1 : exL.length = 7 := rfl
  go_enter Try.func6, Try.ntmps6
  go_wp2_with fail
  refine name_calls (fun w1 => Chg (fun _ _ => False) w w1 ∧ w1.heap[w.heap.size]? = some (.cells #[.slice sa os.length sc, .int .i64 d, .bool nl] 24 (0, 0)) ∧ w1.heap[w.heap.size + 1]? = some (.cells #[.int .i64 x.1, .int .i64 x.2] 26 (0, 0))) ⟨(((Chg.refl _ _).alloc _).alloc _), ?_, ?_⟩ ?_
  · rw [ha_lt _ _ (by simp; try omega)]; exact ha_at _ _ rfl
  · exact ha_at _ _ (by simp)
  rintro w1 ⟨hc1, hb0, hb1⟩
  have k0 := cell_of_block hb1 0
  have k1 := cell_of_block hb1 1
  have m0 := cell_of_block hb0 0
  have m1 := cell_of_block hb0 1
  have m2 := cell_of_block hb0 2
  simp only [List.getElem?_toArray, List.getElem?_cons_zero, List.getElem?_cons_succ] at m0 m1 m2 k0 k1
  clear hb0 hb1
  refine (hz w1).mono ?_
  rintro e w2 ⟨rfl, hc2⟩
  replace m0 := hc2.cell (fun h => h) m0
  replace m1 := hc2.cell (fun h => h) m1
  replace m2 := hc2.cell (fun h => h) m2
  replace k0 := hc2.cell (fun h => h) k0
  replace k1 := hc2.cell (fun h => h) k1
  go_wp2_with fail
  refine (exMake_any _).mono ?_
  rintro e w3 ⟨rfl, hc3⟩
  replace m0 := hc3.cell (fun h => h) m0
  replace m1 := hc3.cell (fun h => h) m1
  replace m2 := hc3.cell (fun h => h) m2
  replace k0 := hc3.cell (fun h => h) k0
  replace k1 := hc3.cell (fun h => h) k1
  go_wp2_with fail
  refine (exItems_any _).mono ?_
  rintro e w4 ⟨q, rfl, hq, hc4⟩
  replace m0 := hc4.cell (fun h => h) m0
  replace m1 := hc4.cell (fun h => h) m1
  replace m2 := hc4.cell (fun h => h) m2
  replace k0 := hc4.cell (fun h => h) k0
  replace k1 := hc4.cell (fun h => h) k1
  go_wp2_with fail
  refine (HEX.out q _ hq).mono ?_
  rintro e w5 ⟨rfl, hc5⟩
  replace m0 := hc5.cell (fun h => h) m0
  replace m1 := hc5.cell (fun h => h) m1
  replace m2 := hc5.cell (fun h => h) m2
  replace k0 := hc5.cell (fun h => h) k0
  replace k1 := hc5.cell (fun h => h) k1
  have hc04 := (((hc1.trans hc2).trans hc3).trans hc4).trans hc5
  by_cases hd : FitD d
  · go_wp2_with fail
    refine (fits_fit d _ hd).mono ?_
    rintro e w' ⟨rfl, rfl⟩
    go_wp2_with fail
    refine (HG.out hd _ hc04).mono ?_
    rintro e w5 ⟨rfl, hc5⟩
    go_wp2_with fail
    go_ret
    exact ⟨rfl, hc04.trans hc5⟩
  · go_wp2_with fail
    refine (fits_not d _ hd).mono ?_
    rintro e w' ⟨rfl, rfl⟩
    go_wp2_with fail
    go_ret
    exact ⟨rfl, hc04⟩

set_option maxRecDepth 100000 in
theorem law_ExactBAscendHint (sv : Value) (os : List Int) (d : Int) (nl : Bool) (p : Option Addr) (cap : Nat) (l : List (Int × Int)) (all : Bool) (x : Int × Int) (n : Int) (w : World) (hs : SlE intE w sv os) (hl : ItemsAt w p l) :
    Calls Try.prog 7 #[.agg #[sv, .int .i64 d, .bool nl], .slice p l.length cap, .bool all, .agg #[.int .i64 x.1, .int .i64 x.2], .int .i64 n] w fun e w' => e = .returned (.bool true) ∧ Chg (fun _ _ => False) w w' := by
  obtain ⟨sa, sc, rfl⟩ : ∃ a c, sv = .slice a os.length c := hs.form
  have hz := fun w1 => zzFits1_any sa os.length sc d nl w1
  by_cases hol : os.length ≤ 2147483647
  rotate_left
  · rw [decide_eq_false hol] at hz
    go_enter Try.func7, Try.ntmps7
    go_wp2_with fail
    refine name_calls (fun w1 => Chg (fun _ _ => False) w w1) ((((Chg.refl _ _).alloc _).alloc _)) ?_
    intro w1 hc1
    refine (hz w1).mono ?_
    rintro e w2 ⟨rfl, hc2⟩
    go_wp2_with fail
    go_ret
    exact ⟨rfl, hc1.trans hc2⟩
  rw [decide_eq_true hol] at hz
  by_cases hlen : l.length ≤ 2147483647
  rotate_left
  · have hlen' : 2147483647 < l.length := by omega
    go_enter Try.func7, Try.ntmps7
    go_wp2_with fail
    refine name_calls (fun w1 => Chg (fun _ _ => False) w w1) ((((Chg.refl _ _).alloc _).alloc _)) ?_
    intro w1 hc1
    refine (hz w1).mono ?_
    rintro e w2 ⟨rfl, hc2⟩
    go_wp2_with fail
    go_ret
    exact ⟨rfl, hc1.trans hc2⟩
  have hn : ¬ 2147483647 < l.length := by omega
  have HEX := Lib.hid (fun q w1 (hq : ItemsAt w1 q exL) => bAscendHint_any (ord := []) (.slice none 0 0) 2 false q 7 exL false ((4, 0) : Int × Int) 2 w1 ⟨none, 0, rfl, Nat.le_refl _, .inl rfl⟩ (by simp) (.inr ⟨by omega, by omega⟩) hq (by decide))
  have HG := Lib.hid (fun hd w1 (c : Chg (fun _ _ => False) w w1) => bAscendHint_any (ord := os) (.slice sa os.length sc) d nl p cap l all x n w1 (hs.chg c) hol hd (hl.chg c) hlen)
  clear hs hl
  have q1 : exL.length = 7 := rfl
  go_enter Try.func7, Try.ntmps7
  go_wp2_with fail
  refine name_calls (fun w1 => Chg (fun _ _ => False) w w1 ∧ w1.heap[w.heap.size]? = some (.cells #[.slice sa os.length sc, .int .i64 d, .bool nl] 24 (0, 0)) ∧ w1.heap[w.heap.size + 1]? = some (.cells #[.int .i64 x.1, .int .i64 x.2] 26 (0, 0))) ⟨(((Chg.refl _ _).alloc _).alloc _), ?_, ?_⟩ ?_
  · rw [ha_lt _ _ (by simp; try omega)]; exact ha_at _ _ rfl
  · exact ha_at _ _ (by simp)
  rintro w1 ⟨hc1, hb0, hb1⟩
  have k0 := cell_of_block hb1 0
  have k1 := cell_of_block hb1 1
  have m0 := cell_of_block hb0 0
  have m1 := cell_of_block hb0 1
  have m2 := cell_of_block hb0 2
  simp only [List.getElem?_toArray, List.getElem?_cons_zero, List.getElem?_cons_succ] at m0 m1 m2 k0 k1
  clear hb0 hb1
  refine (hz w1).mono ?_
  rintro e w2 ⟨rfl, hc2⟩
  replace m0 := hc2.cell (fun h => h) m0
  replace m1 := hc2.cell (fun h => h) m1
  replace m2 := hc2.cell (fun h => h) m2
  replace k0 := hc2.cell (fun h => h) k0
  replace k1 := hc2.cell (fun h => h) k1
  go_wp2_with fail
  refine (exMake_any _).mono ?_
  rintro e w3 ⟨rfl, hc3⟩
  replace m0 := hc3.cell (fun h => h) m0
  replace m1 := hc3.cell (fun h => h) m1
  replace m2 := hc3.cell (fun h => h) m2
  replace k0 := hc3.cell (fun h => h) k0
  replace k1 := hc3.cell (fun h => h) k1
  go_wp2_with fail
  refine (exItems_any _).mono ?_
  rintro e w4 ⟨q, rfl, hq, hc4⟩
  replace m0 := hc4.cell (fun h => h) m0
  replace m1 := hc4.cell (fun h => h) m1
  replace m2 := hc4.cell (fun h => h) m2
  replace k0 := hc4.cell (fun h => h) k0
  replace k1 := hc4.cell (fun h => h) k1
  go_wp2_with fail
  refine (HEX.out q _ hq).mono ?_
  rintro e w5 ⟨rfl, hc5⟩
  replace m0 := hc5.cell (fun h => h) m0
  replace m1 := hc5.cell (fun h => h) m1
  replace m2 := hc5.cell (fun h => h) m2
  replace k0 := hc5.cell (fun h => h) k0
  replace k1 := hc5.cell (fun h => h) k1
  have hc04 := (((hc1.trans hc2).trans hc3).trans hc4).trans hc5
  by_cases hd : FitD d
  · go_wp2_with fail
    refine (fits_fit d _ hd).mono ?_
    rintro e w' ⟨rfl, rfl⟩
    go_wp2_with fail
    refine (HG.out hd _ hc04).mono ?_
    rintro e w5 ⟨rfl, hc5⟩
    go_wp2_with fail
    go_ret
    exact ⟨rfl, hc04.trans hc5⟩
  · go_wp2_with fail
    refine (fits_not d _ hd).mono ?_
    rintro e w' ⟨rfl, rfl⟩
    go_wp2_with fail
    go_ret
    exact ⟨rfl, hc04⟩
end Go.Proofs.Ytcabnhpnkaielaa
