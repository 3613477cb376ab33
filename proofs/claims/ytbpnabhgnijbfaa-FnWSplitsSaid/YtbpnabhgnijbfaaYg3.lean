/- The law FnWSplits: a case. -/
import Derived.Test.YtbpnabhgnijbfaaYg
namespace Go.Proofs.Ytbpnabhgnijbfaa
set_option linter.unusedSimpArgs false
set_option linter.unusedVariables false
open Go.RowKit

set_option maxRecDepth 100000 in
set_option maxHeartbeats 20000000 in
theorem wsplits_c (d : Int) (v : Value) (l : List (ByteArray × Int)) (key : ByteArray) (w : World) (hl : SlE wordE w v l) (hkl : key.size ≤ 2147483647) (hd1 : 2 ≤ d) (hd2 : d ≤ 128) (hcase : ∃ y A B, (y.1.toList == key.toList) = true ∧ growL l = A ++ y :: B ∧ dwn ltM (key, 0) (growL l) = A ++ [y] ∧ upp ltM (key, 0) (growL l) = y :: B) :
    Calls Try.prog 5 #[.int .i64 d, v, .string key] w fun e w' => e = .returned (.bool true) ∧ Chg (fun _ _ => False) w w' := by
  have HZ := Lib.hid (zzFits2_any v l w hl)
  have HS := Lib.hid hl
  obtain ⟨a, cap, rfl⟩ := hl.form
  clear hl
  obtain ⟨i0, hi0, hz0, hz1, hz2⟩ := info_parts infoStr
  have hkn : ¬ (2147483647 : Int) < (key.size : Int) := by omega
  clear hkl
  go_enter Try.func5, Try.ntmps5
  go_wp2_with fail
  refine HZ.out.mono ?_
  rintro e w1 ⟨q, rfl, hq, hc1⟩
  cases q
  · go_wp2_with fail
    go_ret
    exact ⟨rfl, hc1⟩
  have hlen := hq rfl
  clear hq HZ
  have HF := Lib.hid (fun w => fit_yes d w hd1 hd2)
  have hgl := growL_take_len l l.length
  rw [List.take_length] at hgl
  have hul : (upp ltM (key, 0) (growL l)).length ≤ (growL l).length := upp_len ltM (key, 0) (growL l)
  have hdl := dwn_len ltM (key, 0) (growL l)
  have G1 := fun w1 (c : Chg (fun _ _ => False) w w1) => WDescend_any d (.slice a l.length cap) l key 0 w1 hd1 hd2 (HS.out.chg c) hlen
  have G2 := fun w1 (c : Chg (fun _ _ => False) w w1) => WAscend_any d (.slice a l.length cap) l key 0 w1 hd1 hd2 (HS.out.chg c) hlen
  have G3 := fun w1 (c : Chg (fun _ _ => False) w w1) => WKeys_any d (.slice a l.length cap) l w1 hd1 hd2 (HS.out.chg c) hlen
  simp only [firstN0] at G1 G2
  unfold OwnPost at G1 G2 G3
  have hdr : (dwn ltM (key, 0) (growL l)).reverse.length = (dwn ltM (key, 0) (growL l)).length := List.length_reverse
  have T1 := fun v w1 (hv : SlE wordE w1 v (dwn ltM (key, 0) (growL l)).reverse) => turned_any v _ w1 hv (by omega)
  simp only [List.reverse_reverse] at T1
  unfold OwnOutI at T1
  generalize growL l = L at *
  generalize upp ltM (key, 0) L = U at *
  generalize dwn ltM (key, 0) L = D at *
  have HP := Lib.hid hcase
  clear hcase
  replace G1 := Lib.hid G1
  replace G2 := Lib.hid G2
  replace G3 := Lib.hid G3
  replace T1 := Lib.hid T1
  have HLL2 := Lib.hid hgl
  have hU : U.length ≤ 2147483648 := by omega
  have hD : D.length ≤ 2147483648 := by omega
  have hLL : L.length ≤ 2147483647 := by omega
  clear hul hdl hgl hdr hd1 hd2
  go_wp2_with fail
  refine (HF.out _).mono ?_
  rintro e w' ⟨rfl, rfl⟩
  go_wp2_with fail
  refine (G1.out _ hc1).mono ?_
  rintro e w5 ⟨v5, rfl, how5, hc5⟩
  have ht := T1.out v5 w5 how5.sl
  obtain ⟨a5, c5, rfl⟩ := how5.sl.form
  rw [List.length_reverse] at ht
  have HT := Lib.hid ht
  clear how5 ht
  go_wp2_with fail
  refine HT.out.mono ?_
  rintro e w6 ⟨v6, rfl, how6, hc6⟩
  have hs6 := how6.sl
  obtain ⟨a6, c6, rfl⟩ := hs6.form
  clear how6 HT
  go_wp2_with fail
  refine (G2.out _ ((hc1.trans hc5).trans hc6)).mono ?_
  rintro e w7 ⟨v7, rfl, how7, hc7⟩
  have hs7 := how7.sl
  obtain ⟨a7, c7, rfl⟩ := hs7.form
  have hc07 := ((hc1.trans hc5).trans hc6).trans hc7
  have HD := Lib.hid (hs6.chg hc7)
  have HU := Lib.hid hs7
  clear hs6 hs7 how7 hc1 hc5 hc6 hc7 G1 G2 T1 HF
  obtain ⟨y, A, B, hye, hL, hDe, hUe⟩ := HP.out
  obtain ⟨b7, o7, ha7, g0, g1⟩ := HU.out.word (j := 0) (x := y) (by rw [hUe]; rfl)
  obtain ⟨b6, o6, ha6, h0, h1⟩ := HD.out.word (j := A.length) (x := y) (by rw [hDe]; simp)
  simp only [Nat.zero_mul, Nat.add_zero] at g0 g1
  subst ha7
  subst ha6
  have hul : U.length = B.length + 1 := by rw [hUe]; rfl
  have hdl : D.length = A.length + 1 := by rw [hDe]; simp
  have n1 : (0 : Int) < (U.length : Int) := by omega
  have n2 : ((D.length : Int) == 0) = false := beq_eq_false_iff_ne.2 (by omega)
  have s1 : IntKind.i64.wrap ((D.length : Int) - 1) = (A.length : Int) := (by rw [IntWalk.i64_in _ (by omega)]; omega)
  have i0' : (0 : Int) ≤ (A.length : Int) := by omega
  have i1' : (A.length : Int) < (D.length : Int) := by omega
  have i3 : (1 : Int) ≤ (U.length : Int) := by omega
  have i4 : 1 ≤ U.length := by omega
  have i5 : 0 < U.length := by omega
  have i6 : A.length < D.length := by omega
  have HE := Lib.hid (And.intro hL (And.intro hDe hUe))
  have HLN2 := Lib.hid (And.intro hul hdl)
  clear hL hDe hUe hul hdl
  go_wp2_with fail
  go_quiet (fail)
  refine name_prop (fun w8 => Chg (fun _ _ => False) w7 w8) ((Chg.refl _ _).drewN _) ?_
  intro w8 hc8
  have hc7 : U.length ≤ c7 := by
    obtain ⟨_, cap', e, h2, _⟩ := id HU.out
    injection e with e1 e2 e3
    omega
  have k1 : (1 : Int) ≤ (c7 : Int) := by omega
  have k2 : 1 ≤ c7 := by omega
  have hU8 : SlE wordE w7 (.slice (some ⟨b7, o7, none⟩) U.length c7) (y :: B) := (fun (X : List (ByteArray × Int)) (h : X = y :: B) (hh : SlE wordE w7 (.slice (some ⟨b7, o7, none⟩) U.length c7) X) => h ▸ hh) U HE.out.2.2 HU.out
  have heq : D ++ B = L := by rw [HE.out.1, HE.out.2.1]; simp
  have HEQ := Lib.hid heq
  have hbl : D.length + B.length ≤ 8589934592 := by have := HLN2.out.1; omega
  have HD7 := Lib.hid HD.out
  have HC7 := Lib.hid hc07
  clear heq g0 g1 h0 h1 hc07 HD HU
  replace hc07 := HC7.out.trans hc8
  have HD := Lib.hid (HD7.out.chg hc8)
  by_cases hcc : c7 = 1
  · subst hcc
    have e0 : U.length - 1 = 0 := by omega
    have ht := (hU8.chg hc8).tail0
    rw [e0] at ht
    have HB8 := Lib.hid ht
    clear ht hU8
    go_wp2_with fail
    have hcb := ((Chg.refl (fun _ _ => False) w8)).alloc (.cells #[.slice (some ⟨b6, o6, none⟩) D.length c6, .slice (some ⟨b7, o7, none⟩) 0 0] 22)
    have hct := concat_two w8.heap.size 2 (.slice (some ⟨b6, o6, none⟩) D.length c6) (.slice (some ⟨b7, o7, none⟩) 0 0) D (B) _ (by first | exact ha_at _ _ rfl | exact ha_at _ _ (by simp)) (HD.out.chg hcb) (HB8.out.chg hcb) (by exact hbl)
    rw [HEQ.out] at hct
    have HCT := Lib.hid hct
    clear hct
    go_wp2_with fail
    refine HCT.out.mono ?_
    rintro e w9 ⟨v9, rfl, how9, hc9⟩
    have hc09 := (hc07.trans hcb).trans hc9
    have HV9 := Lib.hid how9.sl
    obtain ⟨a9, c9, rfl⟩ := how9.sl.form
    have HC09 := Lib.hid hc09
    clear how9 hc9 hcb HCT hc09
    go_wp2_with fail
    go_loopw [9, 66] (fun kv iv wr => ∃ (j : Nat), j ≤ L.length ∧ iv = .int .i64 j ∧ OwnE strE wr kv ((L.map Prod.fst).take j) w9.heap.size ∧ Chg (fun _ _ => False) w9 wr) (fun _ iv _ => L.length - (intOf iv).toNat)
    case atStart => exact ⟨0, Nat.zero_le _, rfl, OwnE.nil _ _ _, Chg.refl _ _⟩
    case round =>
      obtain ⟨j, hj, rfl, how, hc⟩ := hrel
      have hsz := hc.size
      by_cases hlt : j < L.length
      · obtain ⟨x, hx⟩ : ∃ x, L[j]? = some x := ⟨_, List.getElem?_eq_getElem hlt⟩
        obtain ⟨b, o, rfl, g0, g1⟩ := (HV9.out.chg hc).word hx
        have ht : (L.map Prod.fst).take (j + 1) = (L.map Prod.fst).take j ++ [x.1] := by rw [List.take_add_one, List.getElem?_map, hx]; rfl
        have HT := Lib.hid ht
        clear hx ht
        have i0' : (0 : Int) ≤ (j : Int) := by omega
        have i1' : (j : Int) < (L.length : Int) := by omega
        have hc2 : Chg (fun _ _ => False) w9 ((wr.alloc (.cells #[.string x.1, .int .i64 x.2] 35)).alloc (.cells #[.string x.1] 9)) := (hc.alloc _).alloc _
        have how2 := how.keep (((Chg.refl (fun _ _ => False) wr).alloc (.cells #[.string x.1, .int .i64 x.2] 35)).alloc (.cells #[.string x.1] 9))
        have HOW := Lib.hid how2
        clear how how2
        go_wp2_with (refine wpList_append_E2 strE (by rfl) _ _ _ (by rfl) i0 _ 16 Try.underlying29 hi0 hz0 hz1 hz2 rfl _ (by rfl) _ w9.heap.size HOW.out hc2.size ⟨wr.heap.size + 1, 0, none⟩ 1 _ (by rfl) [x.1] rfl (by decide) ?_ ?_ ?_ ?_)
        · first | exact El.src1 strE (c := #[.string x.1]) (ha_at _ _ (by first | rfl | simp)) _ rfl | exact fun _ _ h => h
        · have : ((L.map Prod.fst).take j).length ≤ L.length := by simp; omega
          have := HLL2.out
          unfold maxLen; omega
        · have : ((L.map Prod.fst).take j).length ≤ L.length := by simp; omega
          have := HLL2.out
          omega
        intro v' w' h1 h2 _
        have hc3 : Chg (fun _ _ => False) w9 w' := hc2.trans' h2 (fun _ _ _ h => h) (fun b o hb h => by have := (HOW.out.own_lt h).1; omega)
        go_wp2
        go_roundw
        case rel => exact ⟨j + 1, by omega, by go_num, by rw [HT.out]; exact h1, hc3⟩
        case measure => simp [intOf]; omega
      · obtain rfl : j = L.length := by omega
        rw [List.take_of_length_le (by simp)] at how
        have HOW := Lib.hid how.sl
        obtain ⟨ka, kc, hkv⟩ := how.sl.form
        rw [List.length_map] at hkv
        subst hkv
        have HCC := Lib.hid (HC09.out.trans hc)
        clear how hc
        go_wp2_with fail
        refine (G3.out _ HCC.out).mono ?_
        rintro e w10 ⟨v10, rfl, how10, hc10⟩
        have HV10 := Lib.hid how10.sl
        clear how10
        go_wp2_with fail
        refine (equal_str _ _ _ _ (HOW.out.chg hc10) HV10.out (by have := HLL2.out; simp; omega)).mono ?_
        rintro e w11 ⟨rfl, hc11⟩
        go_wp2_with fail
        refine (aliveW_any _).mono ?_
        rintro e w12 ⟨rfl, hc12⟩
        go_wp2_with fail
        go_ret
        exact ⟨rfl, ((HCC.out.trans hc10).trans hc11).trans hc12⟩
  · have HB8 := Lib.hid (hU8.chg hc8).tail
    clear hU8
    go_wp2_with fail
    have hcb := ((Chg.refl (fun _ _ => False) w8)).alloc (.cells #[.slice (some ⟨b6, o6, none⟩) D.length c6, .slice (some ⟨b7, o7 + 2, none⟩) (U.length - 1) (c7 - 1)] 22)
    have hct := concat_two w8.heap.size 2 (.slice (some ⟨b6, o6, none⟩) D.length c6) (.slice (some ⟨b7, o7 + 2, none⟩) (U.length - 1) (c7 - 1)) D (B) _ (by first | exact ha_at _ _ rfl | exact ha_at _ _ (by simp)) (HD.out.chg hcb) (HB8.out.chg hcb) (by exact hbl)
    rw [HEQ.out] at hct
    have HCT := Lib.hid hct
    clear hct
    go_wp2_with fail
    refine HCT.out.mono ?_
    rintro e w9 ⟨v9, rfl, how9, hc9⟩
    have hc09 := (hc07.trans hcb).trans hc9
    have HV9 := Lib.hid how9.sl
    obtain ⟨a9, c9, rfl⟩ := how9.sl.form
    have HC09 := Lib.hid hc09
    clear how9 hc9 hcb HCT hc09
    go_wp2_with fail
    go_loopw [9, 66] (fun kv iv wr => ∃ (j : Nat), j ≤ L.length ∧ iv = .int .i64 j ∧ OwnE strE wr kv ((L.map Prod.fst).take j) w9.heap.size ∧ Chg (fun _ _ => False) w9 wr) (fun _ iv _ => L.length - (intOf iv).toNat)
    case atStart => exact ⟨0, Nat.zero_le _, rfl, OwnE.nil _ _ _, Chg.refl _ _⟩
    case round =>
      obtain ⟨j, hj, rfl, how, hc⟩ := hrel
      have hsz := hc.size
      by_cases hlt : j < L.length
      · obtain ⟨x, hx⟩ : ∃ x, L[j]? = some x := ⟨_, List.getElem?_eq_getElem hlt⟩
        obtain ⟨b, o, rfl, g0, g1⟩ := (HV9.out.chg hc).word hx
        have ht : (L.map Prod.fst).take (j + 1) = (L.map Prod.fst).take j ++ [x.1] := by rw [List.take_add_one, List.getElem?_map, hx]; rfl
        have HT := Lib.hid ht
        clear hx ht
        have i0' : (0 : Int) ≤ (j : Int) := by omega
        have i1' : (j : Int) < (L.length : Int) := by omega
        have hc2 : Chg (fun _ _ => False) w9 ((wr.alloc (.cells #[.string x.1, .int .i64 x.2] 35)).alloc (.cells #[.string x.1] 9)) := (hc.alloc _).alloc _
        have how2 := how.keep (((Chg.refl (fun _ _ => False) wr).alloc (.cells #[.string x.1, .int .i64 x.2] 35)).alloc (.cells #[.string x.1] 9))
        have HOW := Lib.hid how2
        clear how how2
        go_wp2_with (refine wpList_append_E2 strE (by rfl) _ _ _ (by rfl) i0 _ 16 Try.underlying29 hi0 hz0 hz1 hz2 rfl _ (by rfl) _ w9.heap.size HOW.out hc2.size ⟨wr.heap.size + 1, 0, none⟩ 1 _ (by rfl) [x.1] rfl (by decide) ?_ ?_ ?_ ?_)
        · first | exact El.src1 strE (c := #[.string x.1]) (ha_at _ _ (by first | rfl | simp)) _ rfl | exact fun _ _ h => h
        · have : ((L.map Prod.fst).take j).length ≤ L.length := by simp; omega
          have := HLL2.out
          unfold maxLen; omega
        · have : ((L.map Prod.fst).take j).length ≤ L.length := by simp; omega
          have := HLL2.out
          omega
        intro v' w' h1 h2 _
        have hc3 : Chg (fun _ _ => False) w9 w' := hc2.trans' h2 (fun _ _ _ h => h) (fun b o hb h => by have := (HOW.out.own_lt h).1; omega)
        go_wp2
        go_roundw
        case rel => exact ⟨j + 1, by omega, by go_num, by rw [HT.out]; exact h1, hc3⟩
        case measure => simp [intOf]; omega
      · obtain rfl : j = L.length := by omega
        rw [List.take_of_length_le (by simp)] at how
        have HOW := Lib.hid how.sl
        obtain ⟨ka, kc, hkv⟩ := how.sl.form
        rw [List.length_map] at hkv
        subst hkv
        have HCC := Lib.hid (HC09.out.trans hc)
        clear how hc
        go_wp2_with fail
        refine (G3.out _ HCC.out).mono ?_
        rintro e w10 ⟨v10, rfl, how10, hc10⟩
        have HV10 := Lib.hid how10.sl
        clear how10
        go_wp2_with fail
        refine (equal_str _ _ _ _ (HOW.out.chg hc10) HV10.out (by have := HLL2.out; simp; omega)).mono ?_
        rintro e w11 ⟨rfl, hc11⟩
        go_wp2_with fail
        refine (aliveW_any _).mono ?_
        rintro e w12 ⟨rfl, hc12⟩
        go_wp2_with fail
        go_ret
        exact ⟨rfl, ((HCC.out.trans hc10).trans hc11).trans hc12⟩

end Go.Proofs.Ytbpnabhgnijbfaa
