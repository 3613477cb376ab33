/- For every order, every degree and every list of items and every pivot the law FnGKeeps returns true and leaves its arguments as they were. -/
import Derived.Carry
import Derived.Test.YtnohimhihombmaaRows
import Derived.Test.YtnohimhihombmaaA11
import Derived.Test.YtnohimhihombmaaF2
namespace Go.Proofs.Ytnohimhihombmaa
set_option linter.unusedSimpArgs false
set_option linter.unusedVariables false
open Go.ChangeShapes Go.WideShapes Go.ChangeAt Go.RowKit

namespace fnGKeeps
theorem own : ownKnob Try.prog.godebug = none := by kernel_rfl
theorem laid : laidOutB Try.prog = true := by kernel_rfl

set_option maxRecDepth 100000 in
theorem lifted (os : Os) (started : os.Started) (H : Type) (enc : TypeId × Value → H) :
    ReturnsInHanded {} Try.checked os 3 .any (Rows.fnGKeepsSpec.pre6 enc Try.prog Try.f3 Rows.fnGKeepsRow.domain false) (Rows.fnGKeepsSpec.post enc Try.prog Try.f3 false true false false) := by
  refine returnsInHanded_of_change (C := Try.checked) own started (by kernel_rfl) Try.func3
    (ChangeSpec.witness6 (enc := enc) (C := Try.checked) false ⟨#[], #[.agg #[.slice none 0 0, .int .i64 0, .bool false], .slice none 0 0, .agg #[.int .i64 0, .int .i64 0]], []⟩ 8 (by kernel_rfl) (by kernel_rfl) (by kernel_rfl) (by kernel_rfl)) ?_
  intro W base args ds gs before hval0 hW hcnd _
  have hval : ∀ (j : Nat) t v, Try.f3.params[j]? = some t → args[j]? = some v → Value.okWide Try.prog W .any base t v := hval0
  have hW' := hW
  obtain ⟨p, q, hA0, hV, rfl, hfz, hnd⟩ := hW
  have hA : DataW.TrodAll enc Try.prog W 0 (fun _ => true) true Try.f3.params.toList args.toList ds p := hA0
  rw [Try.params3] at hA hval
  obtain ⟨v0, v1, v2, d0, d1, d2, p0, p1, p2, rfl, rfl, rfl, h0, h1, h2⟩ := trodAll_three hA
  obtain ⟨rfl, rfl⟩ := trodVars_none hV
  obtain ⟨sv, ord, dg, nl, rfl, hs⟩ := open_make (hval 0 24 v0 rfl rfl) h0
  obtain ⟨a, l, cap, rfl, hl, _⟩ := open_items Try.underlying25 Try.underlying27 (by kernel_rfl) rfl rfl rfl rfl (by kernel_rfl) Try.underlying3 (hval 1 25 v1 rfl rfl) h1
  obtain ⟨xx, rfl⟩ := open_item (hval 2 27 v2 rfl rfl) h2
  refine (law_GKeeps sv ord dg nl a cap l xx W hs hl).mono fun e W' ⟨he, hc⟩ => ?_
  subst he
  exact ⟨_, rfl, law_post laid (by kernel_rfl) rfl Try.underlying4 hW' rfl rfl (hc.below (Nat.le_refl _) (fun _ _ _ h => h))⟩

theorem proved : Rows.FnGKeepsSaid :=
  OpenClaim.holds_of_wide 3 Try.f3 rfl rfl rfl rfl rfl rfl rfl ⟨rfl, rfl, rfl, rfl, rfl⟩ rfl rfl rfl rfl rfl (by kernel_rfl) Try.func3 (by kernel_rfl)
    (of_decide_eq_true (by kernel_rfl)) (by unfold Func.isWrapper; first | (rw [if_pos (by decide +kernel)]; kernel_rfl) | (rw [if_neg (by decide +kernel)]; exact ⟨rfl, rfl⟩))
    (fun os started H enc _ => lifted os started H enc)
end fnGKeeps
end Go.Proofs.Ytnohimhihombmaa
