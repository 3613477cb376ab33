/- Height, MHeight; the law's own function height; fit, aliveM. -/
import Derived.Test.YtkgcjgedpefhjaaHp
import Derived.Test.YtkgcjgedpefhjaaKm
import Derived.WalkLawsBesides
namespace Go.Proofs.Ytkgcjgedpefhjaa
open Go.RowKit

def HgtPost (b m : Nat) (w : World) (e : Ending) (w' : World) : Prop := ∃ q : Nat, e = .returned (.int .i64 q) ∧ HgtOk b q m ∧ Chg (fun _ _ => False) w w'

set_option maxRecDepth 100000 in
theorem Height_any {mn mx : Nat} {w : World} {F : Nat → Prop} {t : Nat} {l : List (Int × Int)} (hM : MapIn mn mx w F t l) (hmn : 1 ≤ mn) (hlen : l.length ≤ 2147483647) :
    Calls Try.prog 43 #[.pointer (some ⟨t, 0, none⟩)] w (HgtPost (mx + 1) l.length w) := by
  rcases hM with ⟨rfl, _, hB⟩ | ⟨H, h, T, hI, hB, rfl, h1⟩
  · have c2 : w.cell? ⟨t, 2, none⟩ = some (.pointer none) := hB.c2
    go_enter Try.func43, Try.ntmps43
    go_wp2
    go_ret
    exact ⟨0, rfl, ⟨by simp, by omega, by simp, by simp⟩, Chg.refl _ _⟩
  · have c2 : w.cell? ⟨t, 2, none⟩ = some (.pointer (some ⟨rid T, 0, none⟩)) := hB.c2
    have hok := hgt_ok hmn hI.sh h1 hlen
    have hq : h ≤ 63 := by have := hok.2.1; omega
    have HOK := Lib.hid hok
    clear hok
    go_enter Try.func43, Try.ntmps43
    go_wp2
    go_loopw [3, 4] (fun hv nv wr => ∃ h', ∃ T' : BT (Int × Int) h', ∃ q : Nat, hv = .int .i64 q ∧ q + h' = h ∧ nv = .pointer (some ⟨rid T', 0, none⟩) ∧ IsT H h' T' ∧ Sh mn mx h' T' ∧ 1 ≤ (its T').length ∧ Chg (fun _ _ => False) w wr) (fun _ nv _ => mOf H nv)
    case atStart => exact ⟨h, T, 0, rfl, by omega, rfl, hI.isT, hI.sh, h1, Chg.refl _ _⟩
    case round =>
      obtain ⟨h', T', q, rfl, hqh, rfl, hT, hs, hit, hc⟩ := hrel
      obtain ⟨l2, hn2⟩ := (hI.fam.chg hc (fun _ _ _ h => h)).node hT.root
      have q0 : (0 : Int) ≤ (q : Int) := by omega
      have q1 : (q : Int) ≤ 63 := by omega
      rcases h' with _ | h'
      · have n3 := hn2.c3n rfl
        go_wp2_with (go_at_call 70; refine (leaf_any _ none _ ?_).mono ?_; (focus go_simp); rintro e w' ⟨rfl, rfl⟩)
        go_ret
        obtain rfl : q = h := by omega
        exact ⟨q + 1, by go_num, HOK.out, hc⟩
      · obtain ⟨c, hc0, g1, g2, g3, g4⟩ := first_kid hs hit hmn
        have hcm : c ∈ T'.2.2 := List.mem_of_getElem? hc0
        have hk : (recOf (h' + 1) T').kids = some (T'.2.2.map fun c => some (rid c)) := rfl
        have n3 := hn2.c3s hk
        have nc := hn2.cc hk
        have k0 := hn2.kidc hk (j := 0) (o := some (rid c)) (by simp [hc0])
        have k0' : wr.cell? ⟨l2.cb, l2.co, none⟩ = some (.pointer (some ⟨rid c, 0, none⟩)) := k0
        rw [List.length_map] at nc
        have i1 : (0 : Int) < (T'.2.2.length : Int) := by have := (List.getElem?_eq_some_iff.1 hc0).1; omega
        have m1 := mOf_root hT
        have m2 := mOf_root (hT.kid hcm)
        clear k0
        go_wp2_with (go_at_call 70; refine (leaf_any _ (some ⟨l2.cc, 0, none⟩) _ ?_).mono ?_; (focus go_simp); rintro e w' ⟨rfl, rfl⟩)
        go_roundw
        case rel => exact ⟨h', c, q + 1, by go_num, by omega, rfl, hT.kid hcm, g2, g1, hc⟩
        case measure => rw [m1, m2]; exact g4

theorem MHeight_any (d : Int) (p : Option Addr) (cap : Nat) (l : List (Int × Int)) (w : World) (h1 : 2 ≤ d) (h2 : d ≤ 128) (hl : ItemsAt w p l) (hlen : l.length ≤ 2147483647) :
    Calls Try.prog 21 #[.int .i64 d, .slice p l.length cap] w (HgtPost (2 * d.toNat) (growL l).length w) := by
  have hgl := growL_take_len l l.length
  rw [List.take_length] at hgl
  have HGL := Lib.hid hgl
  clear hgl
  go_enter Try.func21, Try.ntmps21
  go_wp2_with fail
  refine (growMap_any d p cap l _ h1 h2 hl hlen).mono ?_
  rintro e w2 ⟨t, F, rfl, _, hM, hc2, hF2⟩
  go_wp2_with fail
  refine (Height_any hM (by omega) (by have := HGL.out; omega)).mono ?_
  rintro e w3 ⟨q, rfl, hok, hc3⟩
  go_wp2_with fail
  go_ret
  have e2 : 2 * d.toNat - 1 + 1 = 2 * d.toNat := by omega
  rw [e2] at hok
  exact ⟨q, rfl, hok, hc2.trans hc3⟩

set_option maxRecDepth 100000 in
theorem height_true (d : Int) (q m : Nat) (w : World) (h1 : 2 ≤ d) (h2 : d ≤ 128) (hok : HgtOk (2 * d.toNat) q m) (hm : m ≤ 2147483647) :
    Calls Try.prog 20 #[.int .i64 d, .int .i64 q, .int .i64 m] w fun e w' => e = .returned (.bool true) ∧ w = w' := by
  obtain ⟨hz, h63, hlo, hhi⟩ := hok
  have HLO := Lib.hid hlo
  have HHI := Lib.hid hhi
  clear hlo hhi
  have d0 : (d == 0) = false := by simp; omega
  have a1 : ¬ (q : Int) < 0 := by omega
  have a2 : ¬ 63 < (q : Int) := by omega
  have q0 : (0 : Int) ≤ (q : Int) := by omega
  have m0 : (0 : Int) ≤ (m : Int) := by omega
  have m1 : (m : Int) ≤ 2147483647 := by omega
  obtain ⟨D, hD⟩ : ∃ D : Nat, d = (D : Int) := ⟨d.toNat, by omega⟩
  subst hD
  have hD2 : (D : Int).toNat = D := by simp
  rw [hD2] at HHI
  clear hD2
  have dl : (2 : Int) ≤ (D : Int) := h1
  have dh : (D : Int) ≤ 128 := h2
  have hqm : ((q : Int) == 0) = ((m : Int) == 0) := by
    by_cases h : q = 0
    · have := hz.1 h; subst h; subst this; rfl
    · have h3 : m ≠ 0 := fun e => h (hz.2 e)
      have e1 : ((q : Int) == 0) = false := by simp; omega
      have e2 : ((m : Int) == 0) = false := by simp; omega
      rw [e1, e2]
  clear h1 h2 hz
  cases hb : ((m : Int) == 0)
  all_goals
    rw [hb] at hqm
    go_enter Try.func20, Try.ntmps20
    go_wp2
    go_loop [7, 8, 25] (fun av bv jv => ∃ (j a b : Nat), jv = .int .i64 j ∧ av = .int .i64 a ∧ bv = .int .i64 b ∧ j ≤ q ∧ 1 ≤ a ∧ a ≤ 1099511627776 ∧ a ≤ 2 ^ j ∧ 1 ≤ b ∧ b ≤ 1099511627776 ∧ ((2 * D) ^ j ≤ b ∨ 1099511627776 ≤ b)) (fun _ _ jv => q - (intOf jv).toNat)
    case atStart => exact ⟨0, 1, 1, rfl, rfl, rfl, Nat.zero_le _, by omega, by omega, by simp, by omega, by omega, .inl (by simp)⟩
    case round =>
      obtain ⟨j, a, b, rfl, rfl, rfl, hj, ha1, ha2, ha3, hb1, hb2, hb3⟩ := hrel
      by_cases hlt : j < q
      · obtain ⟨P, hP⟩ : ∃ P : Nat, 2 * D * b = P := ⟨_, rfl⟩
        have hPi : 2 * (D : Int) * (b : Int) = (P : Int) := by rw [← hP]; simp
        have hPle : P ≤ 256 * 1099511627776 := by rw [← hP]; exact Nat.mul_le_mul (by omega) hb2
        have hP1 : 1 ≤ P := by
          rw [← hP]
          exact Nat.mul_pos (by omega) (by omega)
        have hpow : (2 * D) ^ (j + 1) ≤ P ∨ 1099511627776 ≤ P := by
          rcases hb3 with h | h
          · left
            rw [← hP, Nat.pow_succ, Nat.mul_comm]
            exact Nat.mul_le_mul_left _ h
          · right
            rw [← hP]
            have : 1 * 1099511627776 ≤ 2 * D * b := Nat.mul_le_mul (by omega) h
            omega
        have hp2 : 2 * a ≤ 2 ^ (j + 1) := by rw [Nat.pow_succ]; omega
        have HPOW := Lib.hid hpow
        have HP2 := Lib.hid hp2
        have p0 : (0 : Int) ≤ 2 * (D : Int) * (b : Int) := by omega
        have p1 : 2 * (D : Int) * (b : Int) ≤ 9223372036854775807 := by omega
        have HPI := Lib.hid hPi
        have HHP := Lib.hid hP
        have q2 : (0 : Int) ≤ (a : Int) := by omega
        have q3 : (a : Int) ≤ 1099511627776 := by omega
        have q4 : (0 : Int) ≤ (b : Int) := by omega
        have q5 : (b : Int) ≤ 1099511627776 := by omega
        clear hP hPi ha3 hb3 hpow hp2
        by_cases ta : 1099511627776 < 2 * (a : Int)
        · by_cases tb : 1099511627776 < 2 * (D : Int) * (b : Int)
          · have TB := Lib.hid (show _ from tb)
            go_wp2
            go_round
            case rel =>
              have := HPI.out; have := TB.out
              exact ⟨j + 1, 1099511627776, 1099511627776, by go_num, rfl, rfl, by omega, by omega, by omega, by have := HP2.out; omega, by omega, by omega, .inr (by omega)⟩
            case measure => simp [intOf]; omega
          · have TB := Lib.hid (show _ from tb)
            go_wp2
            go_round
            case rel =>
              have h1 := HPI.out; have h2 := TB.out
              exact ⟨j + 1, 1099511627776, P, by go_num, rfl, by rw [h1], by omega, by omega, by omega, by have := HP2.out; omega, hP1, by omega, HPOW.out⟩
            case measure => simp [intOf]; omega
        · by_cases tb : 1099511627776 < 2 * (D : Int) * (b : Int)
          · have TB := Lib.hid (show _ from tb)
            go_wp2
            go_round
            case rel =>
              have h1 := HPI.out; have h2 := TB.out
              exact ⟨j + 1, 2 * a, 1099511627776, by go_num, by go_num, rfl, by omega, by omega, by omega, HP2.out, by omega, by omega, .inr (by omega)⟩
            case measure => simp [intOf]; omega
          · have TB := Lib.hid (show _ from tb)
            go_wp2
            go_round
            case rel =>
              have h1 := HPI.out; have h2 := TB.out
              exact ⟨j + 1, 2 * a, P, by go_num, by go_num, by rw [h1], by omega, by omega, by omega, HP2.out, hP1, by omega, HPOW.out⟩
            case measure => simp [intOf]; omega
      · obtain rfl : j = q := by omega
        have q2 : (1 : Int) ≤ (a : Int) := by omega
        have q3 : (a : Int) ≤ 1099511627776 := by omega
        have q4 : (1 : Int) ≤ (b : Int) := by omega
        have q5 : (b : Int) ≤ 1099511627776 := by omega
        have t1 : (a : Int) - 1 ≤ (m : Int) := by have := HLO.out; omega
        have t2 : (m : Int) ≤ (b : Int) - 1 := by
          have h1 := HHI.out
          rcases hb3 with h | h
          · omega
          · omega
        clear ha3 hb3
        go_wp2
        go_ret
        exact ⟨rfl, rfl⟩
end Go.Proofs.Ytkgcjgedpefhjaa
