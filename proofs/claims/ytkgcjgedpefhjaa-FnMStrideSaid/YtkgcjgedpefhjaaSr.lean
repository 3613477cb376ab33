/- FnMStride returns true, whatever the input. -/
import Derived.Test.YtkgcjgedpefhjaaSq
import Derived.Test.YtkgcjgedpefhjaaKw
namespace Go.Proofs.Ytkgcjgedpefhjaa
open Go.RowKit

set_option maxRecDepth 100000 in
theorem law_MStride (d : Int) (n s : Nat) (w : World) (hn : n ≤ 65535) (hs : s ≤ 65535) :
    Calls Try.prog 9 #[.int .i64 d, .int .u16 n, .int .u16 s] w fun e w' => e = .returned (.bool true) ∧ Chg (fun _ _ => False) w w' := by
  have n0 : (0 : Int) ≤ (n : Int) := by omega
  have s0 : (0 : Int) ≤ (s : Int) := by omega
  have n1 : (n : Int) ≤ 65535 := by omega
  have s1 : (s : Int) ≤ 65535 := by omega
  by_cases hd : 2 ≤ d ∧ d ≤ 128
  rotate_left
  · have hno : d < 2 ∨ 128 < d := by omega
    clear hd
    go_enter Try.func9, Try.ntmps9
    go_wp2_with fail
    refine (fit_no d _ hno).mono ?_
    rintro e w' ⟨rfl, rfl⟩
    go_wp2_with fail
    refine (aliveM_any _).mono ?_
    rintro e w1 ⟨rfl, hc1⟩
    go_wp2_with fail
    go_ret
    exact ⟨rfl, hc1⟩
  obtain ⟨d1, d2⟩ := hd
  have HF := Lib.hid (fun w => fit_yes d w d1 d2)
  by_cases h4 : 4000 < (n : Int)
  · clear d1 d2
    go_enter Try.func9, Try.ntmps9
    go_wp2_with fail
    refine (HF.out _).mono ?_
    rintro e w' ⟨rfl, rfl⟩
    go_wp2_with fail
    refine (aliveM_any _).mono ?_
    rintro e w1 ⟨rfl, hc1⟩
    go_wp2_with fail
    go_ret
    exact ⟨rfl, hc1⟩
  have hcp := fun w => coprime_any n s w hn hs
  by_cases hg : Nat.gcd n s = 1
  rotate_left
  · have e1 : (Nat.gcd n s == 1) = false := by simpa using hg
    rw [e1] at hcp
    have HC := Lib.hid hcp
    clear d1 d2 hg e1 hcp
    go_enter Try.func9, Try.ntmps9
    go_wp2_with fail
    refine (HF.out _).mono ?_
    rintro e w' ⟨rfl, rfl⟩
    go_wp2_with fail
    refine (HC.out _).mono ?_
    rintro e w0 ⟨rfl, hc0⟩
    go_wp2_with fail
    refine (aliveM_any _).mono ?_
    rintro e w1 ⟨rfl, hc1⟩
    go_wp2_with fail
    go_ret
    exact ⟨rfl, hc0.trans hc1⟩
  have e1 : (Nat.gcd n s == 1) = true := by simpa using hg
  rw [e1] at hcp
  have HC := Lib.hid hcp
  obtain ⟨hlen, hall⟩ := stride_tree hg
  have hst := fun w => stride_any n s w (by omega) hs
  have HST := Lib.hid hst
  have hkv := fun (p : Option Addr) (cap : Nat) (w : World) (hl : ItemsAt w p (strideL n s)) => MKeyValues_any d p cap (strideL n s) w d1 d2 hl (by simp [strideL]; omega)
  have el : (strideL n s).length = n := by simp [strideL]
  have eg : growL (strideL n s) = treeL (ltR id) (strideL n s) := rfl
  rw [el, eg] at hkv
  have HKV := Lib.hid hkv
  obtain ⟨G, hG⟩ : ∃ G, treeL (ltR id) (strideL n s) = G := ⟨_, rfl⟩
  rw [hG] at hlen
  have HALL := Lib.hid hall
  have HG := Lib.hid hG
  have HEL := Lib.hid el
  have HLEN := Lib.hid hlen
  clear d1 d2 hg e1 hcp hst hkv hall hG hlen el eg
  go_enter Try.func9, Try.ntmps9
  go_wp2_with fail
  refine (HF.out _).mono ?_
  rintro e w' ⟨rfl, rfl⟩
  go_wp2_with fail
  refine (HC.out _).mono ?_
  rintro e w0 ⟨rfl, hc0⟩
  go_wp2_with fail
  refine (HST.out _).mono ?_
  rintro e w2 ⟨v, rfl, how, hc2⟩
  obtain ⟨p, cap, rfl, hi, hcap⟩ := how.sl.itemsAt
  rw [HEL.out]
  go_wp2_with fail
  refine (HKV.out _ _ _ hi).mono ?_
  rintro e w3 ⟨v1, v2, rfl, ⟨o1, o2, _⟩, hc3⟩
  have hl1 : (G.map Prod.fst).length = n := by rw [List.length_map]; exact HLEN.out
  have hl2 : (G.map Prod.snd).length = n := by rw [List.length_map]; exact HLEN.out
  rw [HG.out] at o1 o2
  have hs1 := o1.sl
  have hs2 := o2.sl
  obtain ⟨a1, cap1, rfl⟩ := hs1.form
  obtain ⟨a2, cap2, rfl⟩ := hs2.form
  rw [hl1] at hs1
  rw [hl2] at hs2
  rw [hl1, hl2]
  have HI := Lib.hid (hi.chg hc3)
  have HI1 := Lib.hid hs1
  have HI2 := Lib.hid hs2
  have hc03 := (hc0.trans hc2).trans hc3
  clear hi hs1 hs2 o1 o2 how hl1 hl2 hcap
  go_wp2
  go_loopw [53] (fun iv wr => ∃ (i : Nat), i ≤ n ∧ iv = .int .i64 i ∧ Chg (fun _ _ => False) w3 wr) (fun iv _ => n - (intOf iv).toNat)
  case atStart => exact ⟨0, Nat.zero_le _, rfl, Chg.refl _ _⟩
  case round =>
    obtain ⟨i, hi, rfl, hc⟩ := hrel
    by_cases hlt : i < n
    · obtain ⟨j, g1, g2, g3⟩ := HALL.out i hlt
      rw [HG.out] at g1
      have h1 : (G.map Prod.fst)[i]? = some (i : Int) := by rw [List.getElem?_map, g1]; rfl
      have h2 : (G.map Prod.snd)[i]? = some (j : Int) := by rw [List.getElem?_map, g1]; rfl
      have h3 : (strideL n s)[j]? = some ((i : Int), (j : Int)) := by rw [← g3]; simp [strideL, g2]
      obtain ⟨b1, o1, e1, f1⟩ := (HI1.out.chg hc).int h1
      obtain ⟨b2, o2, e2, f2⟩ := (HI2.out.chg hc).int h2
      rcases HI.out.chg hc with hnil | ⟨b3, o3, e3, hrow⟩
      · rw [hnil] at h3; cases h3
      obtain ⟨f3, f4⟩ := hrow j _ h3
      subst e1 e2 e3
      have i0 : (0 : Int) ≤ (i : Int) := by omega
      have i1 : (i : Int) < (n : Int) := by omega
      have j0 : (0 : Int) ≤ (j : Int) := by omega
      have j1 : (j : Int) < (n : Int) := by omega
      clear h1 h2 h3 g1 g3 hrow
      go_wp2
      go_roundw
      case rel => exact ⟨i + 1, by omega, by go_num, hc⟩
      case measure => simp [intOf]; omega
    · obtain rfl : i = n := by omega
      go_wp2_with fail
      refine (aliveM_any _).mono ?_
      rintro e w4 ⟨rfl, hc4⟩
      go_wp2_with fail
      go_ret
      exact ⟨rfl, (hc03.trans hc).trans hc4⟩
end Go.Proofs.Ytkgcjgedpefhjaa
