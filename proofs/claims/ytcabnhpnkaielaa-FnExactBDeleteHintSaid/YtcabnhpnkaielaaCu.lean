/- The law FnExactBDeleteHint. -/
import Derived.Test.YtcabnhpnkaielaaEn
import Derived.BigQuiet
namespace Go.Proofs.Ytcabnhpnkaielaa
set_option linter.unusedSimpArgs false
set_option linter.unusedVariables false
open Go.RowKit

set_option maxRecDepth 100000 in
theorem bDeleteHint_any {ord : List Int} (sv : Value) (d : Int) (nl : Bool) (p : Option Addr) (cap : Nat) (l : List (It ord)) (kv : Value) (ks : List (It ord)) (w : World) (hs : SlE intE w sv ord) (hol : ord.length ≤ 2147483647) (hd : FitD d) (hl : ItemsAt w p l) (hlen : l.length ≤ 2147483647) (hk : SlE itemE w kv ks) (hkl : ks.length ≤ 2147483647) :
    Calls Try.prog 30 #[.agg #[sv, .int .i64 d, .bool nl], .slice p l.length cap, kv] w fun e w' => e = .returned (.bool true) ∧ Chg (fun _ _ => False) w w' := by
  have HM := Lib.hid (fun w1 (c : Chg (fun _ _ => False) w w1) => BDeleteHint_any sv d nl p cap l kv ks w1 (hs.chg c) hol hd (hl.chg c) hlen (hk.chg c) hkl)
  have HG := Lib.hid (fun w1 (c : Chg (fun _ _ => False) w w1) => specGDelete_any (ord := ord) sv d nl p cap l kv ks w1 (hs.chg c) hol (hl.chg c) hlen (hk.chg c) hkl)
  have e1 : delsF (ltM (ord := ord)) (growL l) ks = delsF (ord := ord) (ltR (rkL ord)) (treeL (ltR (rkL ord)) l) ks := rfl
  have e2 : delsL (ltM (ord := ord)) (growL l) ks = delsL (ord := ord) (ltR (rkL ord)) (treeL (ltR (rkL ord)) l) ks := rfl
  rw [e1, e2] at HM
  have hxl := delsF_len (ord := ord) (ltR (rkL ord)) (treeL (ltR (rkL ord)) l) ks
  have hyl := delsL_len (ord := ord) (ltR (rkL ord)) (treeL (ltR (rkL ord)) l) ks
  have hlen2 := treeL_len (ltR (rkL ord)) l
  generalize delsF (ord := ord) (ltR (rkL ord)) (treeL (ltR (rkL ord)) l) ks = U at HM HG hxl
  generalize delsL (ord := ord) (ltR (rkL ord)) (treeL (ltR (rkL ord)) l) ks = V at HM HG hyl
  have hU : U.length ≤ 2147483647 := by omega
  have hV : V.length ≤ 2147483647 := by omega
  obtain ⟨sa, sc, rfl⟩ : ∃ a c, sv = .slice a ord.length c := hs.form
  obtain ⟨a, kcap, rfl⟩ := hk.form
  clear hs hl hk e1 e2 hxl hyl hlen2
  go_enter Try.func30, Try.ntmps30
  go_wp2_with fail
  refine (HM.out _ ((Chg.refl _ _).alloc _)).mono ?_
  rintro e w1 ⟨v1, u1, rfl, s1, t1, hc1⟩
  have hb0 : w1.heap[w.heap.size]? = some (.cells #[.slice sa ord.length sc, .int .i64 d, .bool nl] 24 (0, 0)) := by rw [hc1.block (by simp) (fun _ h => h)]; exact ha_at _ _ rfl
  have m0 := cell_of_block hb0 0
  have m1 := cell_of_block hb0 1
  have m2 := cell_of_block hb0 2
  simp only [List.getElem?_toArray, List.getElem?_cons_zero, List.getElem?_cons_succ] at m0 m1 m2
  have hc01 := ((Chg.refl (fun _ _ => False) w).alloc (.cells #[.slice sa ord.length sc, .int .i64 d, .bool nl] 24)).trans hc1
  have HS1 := Lib.hid s1
  have HT1 := Lib.hid t1
  clear hb0 s1 t1
  go_wp2_with fail
  refine (HG.out _ hc01).mono ?_
  rintro e w2 ⟨v2, u2, rfl, s2, t2, hc2⟩
  have HS2 := Lib.hid s2
  have HT2 := Lib.hid t2
  clear s2 t2 m0 m1 m2
  go_wp2_with fail
  refine (equal_found _ _ _ _ (HS1.out.chg hc2) HS2.out (by omega)).mono ?_
  rintro e w3 ⟨rfl, hc3⟩
  go_wp2_with fail
  refine (equal_item _ _ _ _ (HT1.out.chg (hc2.trans hc3)) (HT2.out.chg hc3) (by omega)).mono ?_
  rintro e w4 ⟨rfl, hc4⟩
  go_wp2_with fail
  go_ret
  exact ⟨rfl, ((hc01.trans hc2).trans hc3).trans hc4⟩

set_option maxRecDepth 100000 in
theorem law_ExactBDeleteHint (sv : Value) (os : List Int) (d : Int) (nl : Bool) (p : Option Addr) (cap : Nat) (l : List (Int × Int)) (kv : Value) (ks : List (Int × Int)) (w : World) (hs : SlE intE w sv os) (hl : ItemsAt w p l) (hk : SlE itemE w kv ks) :
    Calls Try.prog 11 #[.agg #[sv, .int .i64 d, .bool nl], .slice p l.length cap, kv] w fun e w' => e = .returned (.bool true) ∧ Chg (fun _ _ => False) w w' := by
  obtain ⟨sa, sc, rfl⟩ : ∃ a c, sv = .slice a os.length c := hs.form
  obtain ⟨ka, kcap, rfl⟩ := hk.form
  have hz := fun w1 => zzFits1_any sa os.length sc d nl w1
  by_cases hol : os.length ≤ 2147483647
  rotate_left
  · rw [decide_eq_false hol] at hz
    go_enter Try.func11, Try.ntmps11
    go_wp2_with fail
    refine name_calls (fun w1 => Chg (fun _ _ => False) w w1) (((Chg.refl _ _).alloc _)) ?_
    intro w1 hc1
    refine (hz w1).mono ?_
    rintro e w2 ⟨rfl, hc2⟩
    go_wp2_with fail
    go_ret
    exact ⟨rfl, hc1.trans hc2⟩
  rw [decide_eq_true hol] at hz
  by_cases hlen : l.length ≤ 2147483647
  rotate_left
  · have hlen' : 2147483647 < l.length := by omega
    go_enter Try.func11, Try.ntmps11
    go_wp2_with fail
    refine name_calls (fun w1 => Chg (fun _ _ => False) w w1) (((Chg.refl _ _).alloc _)) ?_
    intro w1 hc1
    refine (hz w1).mono ?_
    rintro e w2 ⟨rfl, hc2⟩
    go_wp2_with fail
    go_ret
    exact ⟨rfl, hc1.trans hc2⟩
  by_cases hkl : ks.length ≤ 2147483647
  rotate_left
  · have hn : ¬ 2147483647 < l.length := by omega
    have hlen' : 2147483647 < ks.length := by omega
    go_enter Try.func11, Try.ntmps11
    go_wp2_with fail
    refine name_calls (fun w1 => Chg (fun _ _ => False) w w1) (((Chg.refl _ _).alloc _)) ?_
    intro w1 hc1
    refine (hz w1).mono ?_
    rintro e w2 ⟨rfl, hc2⟩
    go_wp2_with fail
    go_ret
    exact ⟨rfl, hc1.trans hc2⟩
  have hn : ¬ 2147483647 < l.length := by omega
  have hnk : ¬ 2147483647 < ks.length := by omega
  have HEX := Lib.hid (fun q q' w1 (hq : ItemsAt w1 q exL) (hq' : ItemsAt w1 q' exKL) => bDeleteHint_any (ord := []) (.slice none 0 0) 2 false q 7 exL (.slice q' exKL.length 3) exKL w1 ⟨none, 0, rfl, Nat.le_refl _, .inl rfl⟩ (by simp) (.inr ⟨by omega, by omega⟩) hq (by decide) (hq'.sl (by decide)) (by decide))
  have HG := Lib.hid (fun hd w1 (c : Chg (fun _ _ => False) w w1) => bDeleteHint_any (ord := os) (.slice sa os.length sc) d nl p cap l (.slice ka ks.length kcap) ks w1 (hs.chg c) hol hd (hl.chg c) hlen (hk.chg c) hkl)
  clear hs hl hk
  have q1 : exL.length = 7 := rfl
  have q2 : exKL.length = 3 := rfl
  go_enter Try.func11, Try.ntmps11
  go_wp2_with fail
  refine name_calls (fun w1 => Chg (fun _ _ => False) w w1 ∧ w1.heap[w.heap.size]? = some (.cells #[.slice sa os.length sc, .int .i64 d, .bool nl] 24 (0, 0))) ⟨((Chg.refl _ _).alloc _), ha_at _ _ rfl⟩ ?_
  rintro w1 ⟨hc1, hb0⟩
  have m0 := cell_of_block hb0 0
  have m1 := cell_of_block hb0 1
  have m2 := cell_of_block hb0 2
  simp only [List.getElem?_toArray, List.getElem?_cons_zero, List.getElem?_cons_succ] at m0 m1 m2
  clear hb0
  refine (hz w1).mono ?_
  rintro e w2 ⟨rfl, hc2⟩
  replace m0 := hc2.cell (fun h => h) m0
  replace m1 := hc2.cell (fun h => h) m1
  replace m2 := hc2.cell (fun h => h) m2
  go_wp2_with fail
  refine (exMake_any _).mono ?_
  rintro e w3 ⟨rfl, hc3⟩
  replace m0 := hc3.cell (fun h => h) m0
  replace m1 := hc3.cell (fun h => h) m1
  replace m2 := hc3.cell (fun h => h) m2
  go_wp2_with fail
  refine (exItems_any _).mono ?_
  rintro e w4 ⟨q, rfl, hq, hc4⟩
  replace m0 := hc4.cell (fun h => h) m0
  replace m1 := hc4.cell (fun h => h) m1
  replace m2 := hc4.cell (fun h => h) m2
  go_wp2_with fail
  refine (exKeys_any _).mono ?_
  rintro e w5 ⟨q', rfl, hq', hc5⟩
  replace m0 := hc5.cell (fun h => h) m0
  replace m1 := hc5.cell (fun h => h) m1
  replace m2 := hc5.cell (fun h => h) m2
  go_wp2_with fail
  refine (HEX.out q q' _ (hq.chg hc5) hq').mono ?_
  rintro e w6 ⟨rfl, hc6⟩
  replace m0 := hc6.cell (fun h => h) m0
  replace m1 := hc6.cell (fun h => h) m1
  replace m2 := hc6.cell (fun h => h) m2
  have hc04 := ((((hc1.trans hc2).trans hc3).trans hc4).trans hc5).trans hc6
  by_cases hd : FitD d
  · go_wp2_with fail
    refine (fits_fit d _ hd).mono ?_
    rintro e w' ⟨rfl, rfl⟩
    go_wp2_with fail
    refine (HG.out hd _ hc04).mono ?_
    rintro e w5 ⟨rfl, hc5⟩
    go_wp2_with fail
    go_ret
    exact ⟨rfl, hc04.trans hc5⟩
  · go_wp2_with fail
    refine (fits_not d _ hd).mono ?_
    rintro e w' ⟨rfl, rfl⟩
    go_wp2_with fail
    go_ret
    exact ⟨rfl, hc04⟩
end Go.Proofs.Ytcabnhpnkaielaa
