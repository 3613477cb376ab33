/- fit, aliveM; FnMHeight returns true, whatever the input. -/
import Derived.Test.YtkgcjgedpefhjaaHt
namespace Go.Proofs.Ytkgcjgedpefhjaa
open Go.RowKit

theorem fit_yes (d : Int) (w : World) (h1 : 2 ≤ d) (h2 : d ≤ 128) : Calls Try.prog 18 #[.int .i64 d] w fun e w' => e = .returned (.bool true) ∧ w = w' := by
  have h0 : 0 < d := by omega
  go_enter Try.func18, Try.ntmps18
  go_wp2_with fail
  refine (fits_yes d _ h1 h2).mono ?_
  rintro e w' ⟨rfl, rfl⟩
  go_wp2_with fail
  go_ret
  exact ⟨rfl, rfl⟩

theorem fit_no (d : Int) (w : World) (h : d < 2 ∨ 128 < d) : Calls Try.prog 18 #[.int .i64 d] w fun e w' => e = .returned (.bool false) ∧ w = w' := by
  by_cases h0 : 0 < d
  · have hf := fun w => fits_no d w (by omega) h
    have HF := Lib.hid hf
    clear hf h
    go_enter Try.func18, Try.ntmps18
    go_wp2_with fail
    refine (HF.out _).mono ?_
    rintro e w' ⟨rfl, rfl⟩
    go_wp2_with fail
    go_ret
    exact ⟨rfl, rfl⟩
  · clear h
    go_enter Try.func18, Try.ntmps18
    go_wp2
    go_ret
    exact ⟨rfl, rfl⟩

theorem ItemsAt.take {w : World} {p : Option Addr} {l : List (Int × Int)} (h : ItemsAt w p l) (k : Nat) : ItemsAt w p (l.take k) := by
  rcases h with rfl | ⟨b, o, h1, h2⟩
  · exact .inl (by simp)
  · refine .inr ⟨b, o, h1, fun i x hx => h2 i x ?_⟩
    have hi := (List.getElem?_eq_some_iff.1 hx).1
    simp only [List.length_take] at hi
    rwa [List.getElem?_take_of_lt (by omega)] at hx

set_option maxRecDepth 100000 in
theorem aliveM_any (w : World) : Calls Try.prog 19 #[] w fun e w' => e = .returned (.bool true) ∧ Chg (fun _ _ => False) w w' := by
  have hlen : ((growL (exL.take 3)).map Prod.fst).length = 3 := by decide
  have HLEN := Lib.hid hlen
  clear hlen
  go_enter Try.func19, Try.ntmps19
  go_wp2_with fail
  refine (exItems_any _).mono ?_
  rintro e w1 ⟨q, rfl, hq, hc1⟩
  have q1 : exL.length = 7 := rfl
  have hk := MKeys_any 2 q 7 (exL.take 3) w1 (by decide) (by decide) (hq.take 3) (by decide)
  have e3 : (exL.take 3).length = 3 := rfl
  rw [e3] at hk
  have HK := Lib.hid hk
  clear hk e3
  go_wp2_with fail
  refine HK.out.mono ?_
  rintro e w2 ⟨v, rfl, how, hc2⟩
  obtain ⟨a, cap, rfl, _⟩ := how.sl
  rw [HLEN.out]
  go_wp2_with fail
  go_ret
  exact ⟨rfl, hc1.trans hc2⟩

set_option maxRecDepth 100000 in
theorem law_MHeight (d : Int) (p : Option Addr) (cap : Nat) (l : List (Int × Int)) (w : World) (hl : ItemsAt w p l) :
    Calls Try.prog 5 #[.int .i64 d, .slice p l.length cap] w fun e w' => e = .returned (.bool true) ∧ Chg (fun _ _ => False) w w' := by
  by_cases hlen : l.length ≤ 2147483647
  rotate_left
  · have hlen' : 2147483647 < l.length := by omega
    go_enter Try.func5, Try.ntmps5
    go_wp2
    go_ret
    exact ⟨rfl, Chg.refl _ _⟩
  have hn : ¬ 2147483647 < l.length := by omega
  by_cases hd : 2 ≤ d ∧ d ≤ 128
  rotate_left
  · have hno : d < 2 ∨ 128 < d := by omega
    clear hd hl
    go_enter Try.func5, Try.ntmps5
    go_wp2_with fail
    refine (fit_no d _ hno).mono ?_
    rintro e w' ⟨rfl, rfl⟩
    go_wp2_with fail
    refine (aliveM_any _).mono ?_
    rintro e w1 ⟨rfl, hc1⟩
    go_wp2_with fail
    go_ret
    exact ⟨rfl, hc1⟩
  · obtain ⟨d1, d2⟩ := hd
    have hM := MHeight_any d p cap l w d1 d2 hl hlen
    have hT := fun w1 (c : Chg (fun _ _ => False) w w1) => tree_any (.slice none 0 0) id p cap l w1 (rank_nil w1) (hl.chg c) hlen
    have e1 : growL l = treeL (ltR id) l := rfl
    rw [e1] at hM
    have hlen2 := treeL_len (ltR id) l
    have HM := Lib.hid hM
    have HT := Lib.hid hT
    clear hM hT hl e1
    go_enter Try.func5, Try.ntmps5
    go_wp2_with fail
    refine (fit_yes d _ d1 d2).mono ?_
    rintro e w' ⟨rfl, rfl⟩
    go_wp2_with fail
    refine HM.out.mono ?_
    rintro e w1 ⟨q, rfl, hok, hc1⟩
    have HOK := Lib.hid hok
    clear hok
    go_wp2_with fail
    refine (HT.out _ hc1).mono ?_
    rintro e w2 ⟨v2, rfl, hv2, hc2⟩
    obtain ⟨q2, cap2, rfl, hi, hcap⟩ := hv2.items
    go_wp2_with fail
    refine (height_true d q _ _ d1 d2 HOK.out (by omega)).mono ?_
    rintro e w' ⟨rfl, rfl⟩
    go_wp2_with fail
    refine (aliveM_any _).mono ?_
    rintro e w3 ⟨rfl, hc3⟩
    go_wp2_with fail
    go_ret
    exact ⟨rfl, (hc1.trans hc2).trans hc3⟩
end Go.Proofs.Ytkgcjgedpefhjaa
