/- The law FnExactWDelete. -/
import Derived.BigQuiet
import Derived.Test.YtbpnabhgnijbfaaA9
import Derived.Test.YtbpnabhgnijbfaaYh
import Derived.Test.YtbpnabhgnijbfaaYi
namespace Go.Proofs.Ytbpnabhgnijbfaa
set_option linter.unusedSimpArgs false
set_option linter.unusedVariables false
open Go.RowKit

theorem fits_zero (w : World) : Calls Try.prog 13 #[.int .i64 0] w fun e w' => e = .returned (.bool true) ∧ w = w' := by
  go_enter Try.func13, Try.ntmps13
  go_wp2
  go_ret
  exact ⟨rfl, rfl⟩

theorem zzFits4_any (v : Value) (l : List ByteArray) (w : World) (hl : SlE strE w v l) :
    Calls Try.prog 11 #[v] w fun e w' => ∃ q, e = .returned (.bool q) ∧ (q = true → l.length ≤ 2147483647) ∧ Chg (fun _ _ => False) w w' := by
  obtain ⟨pp, cap, rfl⟩ := hl.form
  have HS := Lib.hid hl
  clear hl
  by_cases hlen : l.length ≤ 2147483647
  rotate_left
  · have hlen' : (2147483647 : Int) < (l.length : Int) := by omega
    clear hlen
    go_enter Try.func11, Try.ntmps11
    go_wp2
    go_ret
    exact ⟨false, rfl, fun h => (by cases h), Chg.refl _ _⟩
  have hlen' : ¬ (2147483647 : Int) < (l.length : Int) := by omega
  go_enter Try.func11, Try.ntmps11
  go_wp2
  go_loopw [10] (fun iv wr => ∃ (j : Nat), j ≤ l.length ∧ iv = .int .i64 j ∧ Chg (fun _ _ => False) w wr) (fun iv _ => l.length - (intOf iv).toNat)
  case atStart => exact ⟨0, Nat.zero_le _, rfl, Chg.refl _ _⟩
  case round =>
    obtain ⟨j, hj, rfl, hc⟩ := hrel
    by_cases hlt : j < l.length
    · obtain ⟨x, hx⟩ : ∃ x, l[j]? = some x := ⟨_, List.getElem?_eq_getElem hlt⟩
      obtain ⟨b, o, rfl, g0⟩ := (HS.out.chg hc).str hx
      have j0 : (0 : Int) ≤ (j : Int) := by omega
      have j1 : (j : Int) < (l.length : Int) := by omega
      have hc4 := hc.alloc (.cells #[.string x] 9)
      clear hx
      by_cases hs : x.size ≤ 2147483647
      · have h1 : ¬ (2147483647 : Int) < (x.size : Int) := by omega
        clear hs
        go_wp2
        go_roundw
        case rel => exact ⟨j + 1, by omega, by go_num, by first | exact hc4 | exact hc⟩
        case measure => simp [intOf]; omega
      · have h1 : (2147483647 : Int) < (x.size : Int) := by omega
        clear hs
        go_wp2
        go_ret
        exact ⟨false, rfl, fun h => (by cases h), by first | exact hc4 | exact hc⟩
    · obtain rfl : j = l.length := by omega
      go_wp2
      go_ret
      exact ⟨true, rfl, fun _ => hlen, hc⟩

theorem wDelete_any (d : Int) (v : Value) (l : List (ByteArray × Int)) (kv : Value) (ks : List ByteArray) (w : World) (hd1 : 2 ≤ d) (hd2 : d ≤ 128) (hl : SlE wordE w v l) (hk : SlE strE w kv ks) (hlen : l.length ≤ 2147483647) (hkl : ks.length ≤ 2147483647) :
    Calls Try.prog 12 #[.int .i64 d, v, kv] w fun e w' => e = .returned (.bool true) ∧ Chg (fun _ _ => False) w w' := by
  have HM := Lib.hid (WDelete_any d v l kv ks w hd1 hd2 hl hk hlen hkl)
  have HG := Lib.hid (fun w1 (c : Chg (fun _ _ => False) w w1) => specWDelete_any v l kv ks w1 (hl.chg c) (hk.chg c) hlen hkl)
  have h1 : (delsV (growL l) ks).length = ks.length := by unfold delsV; rw [List.length_map, delsO_len]
  have h2 : (delsB (growL l) ks).length = ks.length := by unfold delsB; rw [List.length_map, delsO_len]
  have hgl := growL_take_len l l.length
  rw [List.take_length] at hgl
  have h3 := delsW_len ks (growL l)
  generalize delsV (growL l) ks = A at HM HG h1
  generalize delsB (growL l) ks = B at HM HG h2
  generalize delsW (growL l) ks = C at HM HG h3
  obtain ⟨a, cap, rfl⟩ := hl.form
  obtain ⟨a3, cap3, rfl⟩ := hk.form
  have hA : A.length ≤ 2147483647 := by omega
  have hB : B.length ≤ 2147483647 := by omega
  have hC : C.length ≤ 2147483647 := by omega
  clear hl hk h1 h2 h3 hgl
  go_enter Try.func12, Try.ntmps12
  go_wp2_with fail
  refine HM.out.mono ?_
  rintro e w1 ⟨v1, u1, x1, rfl, s1, t1, y1, hc1⟩
  have HS1 := Lib.hid s1
  have HT1 := Lib.hid t1
  have HY1 := Lib.hid y1
  clear s1 t1 y1 HM
  go_wp2_with fail
  refine (HG.out _ hc1).mono ?_
  rintro e w2 ⟨v2, u2, x2, rfl, s2, t2, y2, hc2⟩
  have HS2 := Lib.hid s2
  have HT2 := Lib.hid t2
  have HY2 := Lib.hid y2
  clear s2 t2 y2 HG
  go_wp2_with fail
  refine (equal_int _ _ A _ (HS1.out.chg hc2) HS2.out (by omega)).mono ?_
  rintro e w3 ⟨rfl, hc3⟩
  go_wp2_with fail
  refine (equal_bool _ _ B _ (HT1.out.chg (hc2.trans hc3)) (HT2.out.chg hc3) (by omega)).mono ?_
  rintro e w4 ⟨rfl, hc4⟩
  go_wp2_with fail
  refine (equal_word _ _ C _ (HY1.out.chg ((hc2.trans hc3).trans hc4)) (HY2.out.chg (hc3.trans hc4)) (by omega)).mono ?_
  rintro e w5 ⟨rfl, hc5⟩
  go_wp2_with fail
  go_ret
  exact ⟨rfl, (((hc1.trans hc2).trans hc3).trans hc4).trans hc5⟩

set_option maxRecDepth 100000 in
theorem law_ExactWDelete (d : Int) (v : Value) (l : List (ByteArray × Int)) (kv : Value) (ks : List ByteArray) (w : World) (hl : SlE wordE w v l) (hk : SlE strE w kv ks) :
    Calls Try.prog 4 #[.int .i64 d, v, kv] w fun e w' => e = .returned (.bool true) ∧ Chg (fun _ _ => False) w w' := by
  have HZ := Lib.hid (zzFits2_any v l w hl)
  have HZ4 := Lib.hid (fun w1 (c : Chg (fun _ _ => False) w w1) => zzFits4_any kv ks w1 (hk.chg c))
  have HS := Lib.hid hl
  have HK := Lib.hid hk
  obtain ⟨a, cap, rfl⟩ := hl.form
  obtain ⟨a3, cap3, rfl⟩ := hk.form
  clear hl hk
  go_enter Try.func4, Try.ntmps4
  go_wp2_with fail
  refine HZ.out.mono ?_
  rintro e w0 ⟨q, rfl, hq, hc0⟩
  cases q
  · go_wp2_with fail
    go_ret
    exact ⟨rfl, hc0⟩
  have hlen := hq rfl
  clear hq HZ
  go_wp2_with fail
  refine (HZ4.out _ hc0).mono ?_
  rintro e w1 ⟨q, rfl, hq, hc01⟩
  have hc1 := hc0.trans hc01
  clear hc0 hc01
  cases q
  · go_wp2_with fail
    go_ret
    exact ⟨rfl, hc1⟩
  have hkl := hq rfl
  clear hq HZ4
  go_wp2_with fail
  refine (exWords_any _).mono ?_
  rintro e w2 ⟨v2, rfl, hv2, hc2⟩
  have hown : SlE strE (w2.alloc (.cells #[.string ⟨#[98]⟩, .string ⟨#[120]⟩] 9)) (.slice (some ⟨w2.heap.size, 0, none⟩) 2 2) [⟨#[98]⟩, ⟨#[120]⟩] := by
    refine ⟨_, _, rfl, Nat.le_refl _, .inr ⟨w2.heap.size, 0, rfl, fun j u hj => ?_⟩⟩
    rw [cell_of_block (ha_at _ _ rfl)]
    have e : flat strE.par [⟨#[98]⟩, ⟨#[120]⟩] = [.string ⟨#[98]⟩, .string ⟨#[120]⟩] := rfl
    rw [e] at hj
    rw [Nat.zero_add]
    simpa using hj
  have hca2 := (Chg.refl (fun _ _ => False) w2).alloc (.cells #[.string ⟨#[98]⟩, .string ⟨#[120]⟩] 9)
  have hex := wDelete_any 2 v2 exW _ _ _ (by decide) (by decide) (hv2.chg hca2) hown (by decide) (by decide)
  obtain ⟨b2, c2, rfl⟩ := hv2.form
  have HEX := Lib.hid hex
  clear hex hv2 hown
  go_wp2_with fail
  refine HEX.out.mono ?_
  rintro e w4 ⟨rfl, hc4⟩
  have hc04 := ((hc1.trans hc2).trans hca2).trans hc4
  by_cases hd : 2 ≤ d ∧ d ≤ 128
  · obtain ⟨hd1, hd2⟩ := hd
    have HG := Lib.hid (wDelete_any d _ l _ ks w4 hd1 hd2 (HS.out.chg hc04) (HK.out.chg hc04) hlen hkl)
    have HF := Lib.hid (fun w => fits_yes d w hd1 hd2)
    have hd0 : 0 < d := by omega
    clear hd1 hd2
    go_wp2_with fail
    refine (HF.out _).mono ?_
    rintro e w' ⟨rfl, rfl⟩
    go_wp2_with fail
    refine HG.out.mono ?_
    rintro e w5 ⟨rfl, hc5⟩
    go_wp2_with fail
    go_ret
    exact ⟨rfl, hc04.trans hc5⟩
  · by_cases hd0 : d = 0
    · have HF := Lib.hid fits_zero
      subst hd0
      clear hd
      go_wp2_with fail
      refine (HF.out _).mono ?_
      rintro e w' ⟨rfl, rfl⟩
      go_wp2_with fail
      go_ret
      exact ⟨rfl, hc04⟩
    · have HF := Lib.hid (fun w => fits_no d w hd0 (by omega))
      clear hd
      go_wp2_with fail
      refine (HF.out _).mono ?_
      rintro e w' ⟨rfl, rfl⟩
      go_wp2_with fail
      go_ret
      exact ⟨rfl, hc04⟩
end Go.Proofs.Ytbpnabhgnijbfaa
