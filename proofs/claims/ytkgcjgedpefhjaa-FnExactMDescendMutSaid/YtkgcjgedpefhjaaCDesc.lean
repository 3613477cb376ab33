/- For every degree, every list of items, every pivot and every bound the law FnExactMDescendMut returns true and leaves its arguments as they were. -/
import Derived.Test.YtkgcjgedpefhjaaRows
import Derived.Test.YtkgcjgedpefhjaaLift
import Derived.Test.YtkgcjgedpefhjaaDo
namespace Go.Proofs.Ytkgcjgedpefhjaa
open Go.ChangeShapes Go.WideShapes Go.ChangeAt Go.RowKit

set_option maxRecDepth 100000 in
theorem law_ExactMDescendMut (d : Int) (p : Option Addr) (cap : Nat) (l : List (Int × Int)) (key n : Int) (w : World) (hl : ItemsAt w p l) :
    Calls Try.prog 11 #[.int .i64 d, .slice p l.length cap, .int .i64 key, .int .i64 n] w fun e w' => e = .returned (.bool true) ∧ Chg (fun _ _ => False) w w' := by
  by_cases hlen : l.length ≤ 2147483647
  rotate_left
  · have hlen' : 2147483647 < l.length := by omega
    go_enter Try.func11, Try.ntmps11
    go_wp2
    go_ret
    exact ⟨rfl, Chg.refl _ _⟩
  have hn : ¬ 2147483647 < l.length := by omega
  have HL := Lib.hid hl
  clear hl
  have hM := fun w1 (c : Chg (fun _ _ => False) w w1) h1 h2 => mDescendMut_any d p cap l key n w1 h1 h2 (HL.out.chg c) hlen
  have HM := Lib.hid hM
  clear hM
  by_cases hd : 2 ≤ d ∧ d ≤ 128
  · obtain ⟨d1, d2⟩ := hd
    have d3 : 0 < d := by omega
    go_enter Try.func11, Try.ntmps11
    go_wp2_with fail
    refine (exItems_any _).mono ?_
    rintro e w1 ⟨q, rfl, hq, hc1⟩
    have q1 : exL.length = 7 := rfl
    go_wp2_with fail
    refine (mDescendMut_any 2 q 7 exL 4 2 _ (by decide) (by decide) hq (by decide)).mono ?_
    rintro e w2 ⟨rfl, hc2⟩
    go_wp2_with fail
    refine (fits_yes d _ d1 d2).mono ?_
    rintro e w' ⟨rfl, rfl⟩
    go_wp2_with fail
    refine (HM.out _ (hc1.trans hc2) d1 d2).mono ?_
    rintro e w3 ⟨rfl, hc3⟩
    go_wp2_with fail
    go_ret
    exact ⟨rfl, (hc1.trans hc2).trans hc3⟩
  by_cases h0 : d = 0
  · subst h0
    go_enter Try.func11, Try.ntmps11
    go_wp2_with fail
    refine (exItems_any _).mono ?_
    rintro e w1 ⟨q, rfl, hq, hc1⟩
    have q1 : exL.length = 7 := rfl
    go_wp2_with fail
    refine (mDescendMut_any 2 q 7 exL 4 2 _ (by decide) (by decide) hq (by decide)).mono ?_
    rintro e w2 ⟨rfl, hc2⟩
    go_wp2_with fail
    refine (fits_zero _).mono ?_
    rintro e w' ⟨rfl, rfl⟩
    go_wp2_with fail
    go_ret
    exact ⟨rfl, hc1.trans hc2⟩
  · have hno : d < 2 ∨ 128 < d := by omega
    clear hd
    go_enter Try.func11, Try.ntmps11
    go_wp2_with fail
    refine (exItems_any _).mono ?_
    rintro e w1 ⟨q, rfl, hq, hc1⟩
    have q1 : exL.length = 7 := rfl
    go_wp2_with fail
    refine (mDescendMut_any 2 q 7 exL 4 2 _ (by decide) (by decide) hq (by decide)).mono ?_
    rintro e w2 ⟨rfl, hc2⟩
    go_wp2_with fail
    refine (fits_no d _ h0 hno).mono ?_
    rintro e w' ⟨rfl, rfl⟩
    go_wp2_with fail
    go_ret
    exact ⟨rfl, hc1.trans hc2⟩
namespace fnExactMDescendMut
theorem own : ownKnob Try.prog.godebug = none := by kernel_rfl
theorem laid : laidOutB Try.prog = true := by kernel_rfl

set_option maxRecDepth 100000 in
theorem lifted (os : Os) (started : os.Started) (H : Type) (enc : TypeId × Value → H) :
    ReturnsInHanded {} Try.checked os 11 .any (Rows.fnExactMDescendMutSpec.pre6 enc Try.prog Try.f11 Rows.fnExactMDescendMutRow.domain false) (Rows.fnExactMDescendMutSpec.post enc Try.prog Try.f11 false true false false) := by
  refine returnsInHanded_of_change (C := Try.checked) own started (by kernel_rfl) Try.func11
    (ChangeSpec.witness6 (enc := enc) (C := Try.checked) false ⟨#[], #[.int .i64 0, .slice none 0 0, .int .i64 0, .int .i64 0], []⟩ 8 (by kernel_rfl) (by kernel_rfl) (by kernel_rfl) (by kernel_rfl)) ?_
  intro W base args ds gs before hval0 hW hcnd _
  have hval : ∀ (j : Nat) t v, Try.f11.params[j]? = some t → args[j]? = some v → Value.okWide Try.prog W .any base t v := hval0
  have hW' := hW
  obtain ⟨p, q, hA0, hV, rfl, hfz, hnd⟩ := hW
  have hA : DataW.TrodAll enc Try.prog W 0 (fun _ => true) true Try.f11.params.toList args.toList ds p := hA0
  rw [Try.params11] at hA hval
  obtain ⟨v0, v1, v2, v3, d0, d1, d2, d3, p0, p1, p2, p3, rfl, rfl, rfl, h0, h1, h2, h3⟩ := trodAll_four hA
  obtain ⟨rfl, rfl⟩ := trodVars_none hV
  obtain ⟨x, rfl, rfl, rfl, wx⟩ := open_int Try.underlying3 (hval 0 3 v0 rfl rfl) h0
  obtain ⟨a, l, cap, rfl, hl, _⟩ := open_items Try.underlying22 Try.underlying39 (by kernel_rfl) rfl rfl rfl rfl (by kernel_rfl) Try.underlying3 (hval 1 22 v1 rfl rfl) h1
  obtain ⟨key, rfl, rfl, rfl, wk⟩ := open_int Try.underlying3 (hval 2 3 v2 rfl rfl) h2
  obtain ⟨n, rfl, rfl, rfl, wn⟩ := open_int Try.underlying3 (hval 3 3 v3 rfl rfl) h3
  refine (law_ExactMDescendMut x a cap l key n W hl).mono fun e W' ⟨he, hc⟩ => ?_
  subst he
  exact ⟨_, rfl, law_post laid (by kernel_rfl) rfl Try.underlying4 hW' rfl rfl (hc.below (Nat.le_refl _) (fun _ _ _ h => h))⟩

theorem proved : Rows.FnExactMDescendMutSaid :=
  OpenClaim.holds_of_wide 11 Try.f11 rfl rfl rfl rfl rfl rfl rfl ⟨rfl, rfl, rfl, rfl, rfl⟩ rfl rfl rfl rfl rfl (by kernel_rfl) Try.func11 (by kernel_rfl)
    (of_decide_eq_true (by kernel_rfl)) (by unfold Func.isWrapper; first | (rw [if_pos (by decide +kernel)]; kernel_rfl) | (rw [if_neg (by decide +kernel)]; exact ⟨rfl, rfl⟩))
    (fun os started H enc _ => lifted os started H enc)
end fnExactMDescendMut
end Go.Proofs.Ytkgcjgedpefhjaa
