/- height of a law; aliveB. -/
import Derived.Test.YtcabnhpnkaielaaCh
namespace Go.Proofs.Ytcabnhpnkaielaa
set_option linter.unusedSimpArgs false
set_option linter.unusedVariables false
open Go.RowKit

set_option maxRecDepth 100000 in
theorem height_true (d : Int) (q m : Nat) (w : World) (h1 : 2 ≤ d) (h2 : d ≤ 128) (hok : HgtOk (2 * d.toNat) q m) (hm : m ≤ 2147483647) :
    Calls Try.prog 26 #[.int .i64 d, .int .i64 q, .int .i64 m] w fun e w' => e = .returned (.bool true) ∧ w = w' := by
  obtain ⟨hz, h63, hlo, hhi⟩ := hok
  have HLO := Lib.hid hlo
  have HHI := Lib.hid hhi
  clear hlo hhi
  have d0 : (d == 0) = false := by simp; omega
  have a1 : ¬ (q : Int) < 0 := by omega
  have a2 : ¬ 63 < (q : Int) := by omega
  have q0 : (0 : Int) ≤ (q : Int) := by omega
  have m0 : (0 : Int) ≤ (m : Int) := by omega
  have m1 : (m : Int) ≤ 2147483647 := by omega
  obtain ⟨D, hD⟩ : ∃ D : Nat, d = (D : Int) := ⟨d.toNat, by omega⟩
  subst hD
  have hD2 : (D : Int).toNat = D := by simp
  rw [hD2] at HHI
  clear hD2
  have dl : (2 : Int) ≤ (D : Int) := h1
  have dh : (D : Int) ≤ 128 := h2
  have hqm : ((q : Int) == 0) = ((m : Int) == 0) := by
    by_cases h : q = 0
    · have := hz.1 h; subst h; subst this; rfl
    · have h3 : m ≠ 0 := fun e => h (hz.2 e)
      have e1 : ((q : Int) == 0) = false := by simp; omega
      have e2 : ((m : Int) == 0) = false := by simp; omega
      rw [e1, e2]
  clear h1 h2 hz
  cases hb : ((m : Int) == 0)
  all_goals
    rw [hb] at hqm
    go_enter Try.func26, Try.ntmps26
    go_wp2
    go_loop [7, 8, 25] (fun av bv jv => ∃ (j a b : Nat), jv = .int .i64 j ∧ av = .int .i64 a ∧ bv = .int .i64 b ∧ j ≤ q ∧ 1 ≤ a ∧ a ≤ 1099511627776 ∧ a ≤ 2 ^ j ∧ 1 ≤ b ∧ b ≤ 1099511627776 ∧ ((2 * D) ^ j ≤ b ∨ 1099511627776 ≤ b)) (fun _ _ jv => q - (intOf jv).toNat)
    case atStart => exact ⟨0, 1, 1, rfl, rfl, rfl, Nat.zero_le _, by omega, by omega, by simp, by omega, by omega, .inl (by simp)⟩
    case round =>
      obtain ⟨j, a, b, rfl, rfl, rfl, hj, ha1, ha2, ha3, hb1, hb2, hb3⟩ := hrel
      by_cases hlt : j < q
      · obtain ⟨P, hP⟩ : ∃ P : Nat, 2 * D * b = P := ⟨_, rfl⟩
        have hPi : 2 * (D : Int) * (b : Int) = (P : Int) := by rw [← hP]; simp
        have hPle : P ≤ 256 * 1099511627776 := by rw [← hP]; exact Nat.mul_le_mul (by omega) hb2
        have hP1 : 1 ≤ P := by
          rw [← hP]
          exact Nat.mul_pos (by omega) (by omega)
        have hpow : (2 * D) ^ (j + 1) ≤ P ∨ 1099511627776 ≤ P := by
          rcases hb3 with h | h
          · left
            rw [← hP, Nat.pow_succ, Nat.mul_comm]
            exact Nat.mul_le_mul_left _ h
          · right
            rw [← hP]
            have : 1 * 1099511627776 ≤ 2 * D * b := Nat.mul_le_mul (by omega) h
            omega
        have hp2 : 2 * a ≤ 2 ^ (j + 1) := by rw [Nat.pow_succ]; omega
        have HPOW := Lib.hid hpow
        have HP2 := Lib.hid hp2
        have p0 : (0 : Int) ≤ 2 * (D : Int) * (b : Int) := by omega
        have p1 : 2 * (D : Int) * (b : Int) ≤ 9223372036854775807 := by omega
        have HPI := Lib.hid hPi
        have HHP := Lib.hid hP
        have q2 : (0 : Int) ≤ (a : Int) := by omega
        have q3 : (a : Int) ≤ 1099511627776 := by omega
        have q4 : (0 : Int) ≤ (b : Int) := by omega
        have q5 : (b : Int) ≤ 1099511627776 := by omega
        clear hP hPi ha3 hb3 hpow hp2
        by_cases ta : 1099511627776 < 2 * (a : Int)
        · by_cases tb : 1099511627776 < 2 * (D : Int) * (b : Int)
          · have TB := Lib.hid (show _ from tb)
            go_wp2
            go_round
            case rel =>
              have := HPI.out; have := TB.out
              exact ⟨j + 1, 1099511627776, 1099511627776, by go_num, rfl, rfl, by omega, by omega, by omega, by have := HP2.out; omega, by omega, by omega, .inr (by omega)⟩
            case measure => simp [intOf]; omega
          · have TB := Lib.hid (show _ from tb)
            go_wp2
            go_round
            case rel =>
              have h1 := HPI.out; have h2 := TB.out
              exact ⟨j + 1, 1099511627776, P, by go_num, rfl, by rw [h1], by omega, by omega, by omega, by have := HP2.out; omega, hP1, by omega, HPOW.out⟩
            case measure => simp [intOf]; omega
        · by_cases tb : 1099511627776 < 2 * (D : Int) * (b : Int)
          · have TB := Lib.hid (show _ from tb)
            go_wp2
            go_round
            case rel =>
              have h1 := HPI.out; have h2 := TB.out
              exact ⟨j + 1, 2 * a, 1099511627776, by go_num, by go_num, rfl, by omega, by omega, by omega, HP2.out, by omega, by omega, .inr (by omega)⟩
            case measure => simp [intOf]; omega
          · have TB := Lib.hid (show _ from tb)
            go_wp2
            go_round
            case rel =>
              have h1 := HPI.out; have h2 := TB.out
              exact ⟨j + 1, 2 * a, P, by go_num, by go_num, by rw [h1], by omega, by omega, by omega, HP2.out, hP1, by omega, HPOW.out⟩
            case measure => simp [intOf]; omega
      · obtain rfl : j = q := by omega
        have q2 : (1 : Int) ≤ (a : Int) := by omega
        have q3 : (a : Int) ≤ 1099511627776 := by omega
        have q4 : (1 : Int) ≤ (b : Int) := by omega
        have q5 : (b : Int) ≤ 1099511627776 := by omega
        have t1 : (a : Int) - 1 ≤ (m : Int) := by have := HLO.out; omega
        have t2 : (m : Int) ≤ (b : Int) - 1 := by
          have h1 := HHI.out
          rcases hb3 with h | h
          · omega
          · omega
        clear ha3 hb3
        go_wp2
        go_ret
        exact ⟨rfl, rfl⟩

set_option maxRecDepth 100000 in
theorem height_zero (q m : Nat) (w : World) (hok : HgtOk 64 q m) (hm : m ≤ 2147483647) :
    Calls Try.prog 26 #[.int .i64 0, .int .i64 q, .int .i64 m] w fun e w' => e = .returned (.bool true) ∧ w = w' := by
  obtain ⟨hz, h63, hlo, hhi⟩ := hok
  have HLO := Lib.hid hlo
  have HHI := Lib.hid hhi
  clear hlo hhi
  have a1 : ¬ (q : Int) < 0 := by omega
  have a2 : ¬ 63 < (q : Int) := by omega
  have q0 : (0 : Int) ≤ (q : Int) := by omega
  have m0 : (0 : Int) ≤ (m : Int) := by omega
  have m1 : (m : Int) ≤ 2147483647 := by omega
  have hqm : ((q : Int) == 0) = ((m : Int) == 0) := by
    by_cases h : q = 0
    · have := hz.1 h; subst h; subst this; rfl
    · have h3 : m ≠ 0 := fun e => h (hz.2 e)
      have e1 : ((q : Int) == 0) = false := by simp; omega
      have e2 : ((m : Int) == 0) = false := by simp; omega
      rw [e1, e2]
  clear hz
  cases hb : ((m : Int) == 0)
  all_goals
    rw [hb] at hqm
    go_enter Try.func26, Try.ntmps26
    go_wp2
    go_loop [7, 8, 25] (fun av bv jv => ∃ (j a b : Nat), jv = .int .i64 j ∧ av = .int .i64 a ∧ bv = .int .i64 b ∧ j ≤ q ∧ 1 ≤ a ∧ a ≤ 1099511627776 ∧ a ≤ 2 ^ j ∧ 1 ≤ b ∧ b ≤ 1099511627776 ∧ (64 ^ j ≤ b ∨ 1099511627776 ≤ b)) (fun _ _ jv => q - (intOf jv).toNat)
    case atStart => exact ⟨0, 1, 1, rfl, rfl, rfl, Nat.zero_le _, by omega, by omega, by simp, by omega, by omega, .inl (by simp)⟩
    case round =>
      obtain ⟨j, a, b, rfl, rfl, rfl, hj, ha1, ha2, ha3, hb1, hb2, hb3⟩ := hrel
      by_cases hlt : j < q
      · obtain ⟨P, hP⟩ : ∃ P : Nat, 64 * b = P := ⟨_, rfl⟩
        have hPi : 64 * (b : Int) = (P : Int) := by rw [← hP]; simp
        have hPle : P ≤ 256 * 1099511627776 := by rw [← hP]; exact Nat.mul_le_mul (by omega) hb2
        have hP1 : 1 ≤ P := by
          rw [← hP]
          exact Nat.mul_pos (by omega) (by omega)
        have hpow : 64 ^ (j + 1) ≤ P ∨ 1099511627776 ≤ P := by
          rcases hb3 with h | h
          · left
            rw [← hP, Nat.pow_succ, Nat.mul_comm]
            exact Nat.mul_le_mul_left _ h
          · right
            rw [← hP]
            have : 1 * 1099511627776 ≤ 64 * b := Nat.mul_le_mul (by omega) h
            omega
        have hp2 : 2 * a ≤ 2 ^ (j + 1) := by rw [Nat.pow_succ]; omega
        have HPOW := Lib.hid hpow
        have HP2 := Lib.hid hp2
        have p0 : (0 : Int) ≤ 64 * (b : Int) := by omega
        have p1 : 64 * (b : Int) ≤ 9223372036854775807 := by omega
        have HPI := Lib.hid hPi
        have HHP := Lib.hid hP
        have q2 : (0 : Int) ≤ (a : Int) := by omega
        have q3 : (a : Int) ≤ 1099511627776 := by omega
        have q4 : (0 : Int) ≤ (b : Int) := by omega
        have q5 : (b : Int) ≤ 1099511627776 := by omega
        clear hP hPi ha3 hb3 hpow hp2
        by_cases ta : 1099511627776 < 2 * (a : Int)
        · by_cases tb : 1099511627776 < 64 * (b : Int)
          · have TB := Lib.hid (show _ from tb)
            go_wp2
            go_round
            case rel =>
              have := HPI.out; have := TB.out
              exact ⟨j + 1, 1099511627776, 1099511627776, by go_num, rfl, rfl, by omega, by omega, by omega, by have := HP2.out; omega, by omega, by omega, .inr (by omega)⟩
            case measure => simp [intOf]; omega
          · have TB := Lib.hid (show _ from tb)
            go_wp2
            go_round
            case rel =>
              have h1 := HPI.out; have h2 := TB.out
              exact ⟨j + 1, 1099511627776, P, by go_num, rfl, by rw [h1], by omega, by omega, by omega, by have := HP2.out; omega, hP1, by omega, HPOW.out⟩
            case measure => simp [intOf]; omega
        · by_cases tb : 1099511627776 < 64 * (b : Int)
          · have TB := Lib.hid (show _ from tb)
            go_wp2
            go_round
            case rel =>
              have h1 := HPI.out; have h2 := TB.out
              exact ⟨j + 1, 2 * a, 1099511627776, by go_num, by go_num, rfl, by omega, by omega, by omega, HP2.out, by omega, by omega, .inr (by omega)⟩
            case measure => simp [intOf]; omega
          · have TB := Lib.hid (show _ from tb)
            go_wp2
            go_round
            case rel =>
              have h1 := HPI.out; have h2 := TB.out
              exact ⟨j + 1, 2 * a, P, by go_num, by go_num, by rw [h1], by omega, by omega, by omega, HP2.out, hP1, by omega, HPOW.out⟩
            case measure => simp [intOf]; omega
      · obtain rfl : j = q := by omega
        have q2 : (1 : Int) ≤ (a : Int) := by omega
        have q3 : (a : Int) ≤ 1099511627776 := by omega
        have q4 : (1 : Int) ≤ (b : Int) := by omega
        have q5 : (b : Int) ≤ 1099511627776 := by omega
        have t1 : (a : Int) - 1 ≤ (m : Int) := by have := HLO.out; omega
        have t2 : (m : Int) ≤ (b : Int) - 1 := by
          have h1 := HHI.out
          rcases hb3 with h | h
          · omega
          · omega
        clear ha3 hb3
        go_wp2
        go_ret
        exact ⟨rfl, rfl⟩

theorem ItemsAt.take {w : World} {p : Option Addr} {l : List (Int × Int)} (h : ItemsAt w p l) (k : Nat) : ItemsAt w p (l.take k) := by
  rcases h with rfl | ⟨b, o, h1, h2⟩
  · exact .inl (by simp)
  · refine .inr ⟨b, o, h1, fun i x hx => h2 i x ?_⟩
    have hi := (List.getElem?_eq_some_iff.1 hx).1
    simp only [List.length_take] at hi
    rwa [List.getElem?_take_of_lt (by omega)] at hx

set_option maxRecDepth 100000 in
theorem aliveB_any (w : World) : Calls Try.prog 25 #[] w fun e w' => e = .returned (.bool true) ∧ Chg (fun _ _ => False) w w' := by
  have hlen : (growL (ord := []) (exL.take 3)).length = 3 := by decide
  have HLEN := Lib.hid hlen
  clear hlen
  go_enter Try.func25, Try.ntmps25
  go_wp2_with fail
  refine (exMake_any _).mono ?_
  rintro e w0 ⟨rfl, hc0⟩
  go_wp2_with fail
  refine (exItems_any _).mono ?_
  rintro e w1 ⟨q, rfl, hq, hc1⟩
  have q1 : exL.length = 7 := rfl
  have hk := BSet_any (ord := []) (.slice none 0 0) 2 false q 7 (exL.take 3) w1 ⟨none, 0, rfl, Nat.le_refl _, .inl rfl⟩ (by simp) (.inr ⟨by omega, by omega⟩) (hq.take 3) (by decide) (by decide)
  have e3 : (exL.take 3).length = 3 := rfl
  rw [e3] at hk
  have HK := Lib.hid hk
  clear hk e3
  go_wp2_with fail
  refine HK.out.mono ?_
  rintro e w2 ⟨v, u, rfl, hv, hu, hc2⟩
  obtain ⟨a, cap, rfl⟩ := hv.form
  obtain ⟨a2, cap2, rfl⟩ := hu.form
  rw [HLEN.out]
  clear hv hu
  go_wp2_with fail
  go_ret
  exact ⟨rfl, (hc0.trans hc1).trans hc2⟩
end Go.Proofs.Ytcabnhpnkaielaa
