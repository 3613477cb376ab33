/- For every order, every degree and every list of items, every pivot or none and every number the law FnExactBAscendHint returns true and leaves its arguments as they were. -/
import Derived.Carry
import Derived.Test.YtcabnhpnkaielaaRows
import Derived.Test.YtcabnhpnkaielaaA9
import Derived.Test.YtcabnhpnkaielaaCp
namespace Go.Proofs.Ytcabnhpnkaielaa
set_option linter.unusedSimpArgs false
set_option linter.unusedVariables false
open Go.ChangeShapes Go.WideShapes Go.ChangeAt Go.RowKit

section
open Go.ChangeShapes
variable {H : Type} {enc : TypeId × Value → H} {P : Program} {w : World} {base : Nat} {spare : Nat → Bool} {held : Bool}
theorem trodAll_five {t t' t'' t3 t4 : TypeId} {args : Array Value} {ds : List (DataW H)} {ps : List MemPlace} (h : DataW.TrodAll enc P w base spare held [t, t', t'', t3, t4] args.toList ds ps) :
    ∃ v v' v'' v3 v4 d d' d'' d3 d4 p p' p'' p3 p4, args = #[v, v', v'', v3, v4] ∧ ds = [d, d', d'', d3, d4] ∧ ps = p ++ p' ++ p'' ++ p3 ++ p4 ∧ DataW.Trod enc P w base spare held t v d p ∧ DataW.Trod enc P w base spare held t' v' d' p' ∧ DataW.Trod enc P w base spare held t'' v'' d'' p'' ∧ DataW.Trod enc P w base spare held t3 v3 d3 p3 ∧ DataW.Trod enc P w base spare held t4 v4 d4 p4 := by
  obtain ⟨v, vs, d, ds', p, q, hargs, rfl, rfl, hd, hrest⟩ := trodAll_cons h
  obtain ⟨v', vs', d', ds'', p', q', rfl, rfl, rfl, hd', hrest'⟩ := trodAll_cons hrest
  obtain ⟨v'', vs'', d'', ds''', p'', q'', rfl, rfl, rfl, hd'', hrest''⟩ := trodAll_cons hrest'
  obtain ⟨v3, vs3, d3, ds3, p3, q3, rfl, rfl, rfl, hd3, hrest3⟩ := trodAll_cons hrest''
  obtain ⟨v4, vs4, d4, ds4, p4, q4, rfl, rfl, rfl, hd4, hrest4⟩ := trodAll_cons hrest3
  obtain ⟨rfl, rfl, rfl⟩ := trodAll_nil hrest4
  exact ⟨v, v', v'', v3, v4, d, d', d'', d3, d4, p, p', p'', p3, p4, by cases args; simp_all, rfl, by simp, hd, hd', hd'', hd3, hd4⟩
end

namespace fnExactBAscendHint
theorem own : ownKnob Try.prog.godebug = none := by kernel_rfl
theorem laid : laidOutB Try.prog = true := by kernel_rfl

set_option maxRecDepth 100000 in
theorem lifted (os : Os) (started : os.Started) (H : Type) (enc : TypeId × Value → H) :
    ReturnsInHanded {} Try.checked os 7 .any (Rows.fnExactBAscendHintSpec.pre6 enc Try.prog Try.f7 Rows.fnExactBAscendHintRow.domain false) (Rows.fnExactBAscendHintSpec.post enc Try.prog Try.f7 false true false false) := by
  refine returnsInHanded_of_change (C := Try.checked) own started (by kernel_rfl) Try.func7
    (ChangeSpec.witness6 (enc := enc) (C := Try.checked) false ⟨#[], #[.agg #[.slice none 0 0, .int .i64 0, .bool false], .slice none 0 0, .bool false, .agg #[.int .i64 0, .int .i64 0], .int .i64 0], []⟩ 8 (by kernel_rfl) (by kernel_rfl) (by kernel_rfl) (by kernel_rfl)) ?_
  intro W base args ds gs before hval0 hW hcnd _
  have hval : ∀ (j : Nat) t v, Try.f7.params[j]? = some t → args[j]? = some v → Value.okWide Try.prog W .any base t v := hval0
  have hW' := hW
  obtain ⟨p, q, hA0, hV, rfl, hfz, hnd⟩ := hW
  have hA : DataW.TrodAll enc Try.prog W 0 (fun _ => true) true Try.f7.params.toList args.toList ds p := hA0
  rw [Try.params7] at hA hval
  obtain ⟨v0, v1, v2, v3, v4, d0, d1, d2, d3, d4, p0, p1, p2, p3, p4, rfl, rfl, rfl, h0, h1, h2, h3, h4⟩ := trodAll_five hA
  obtain ⟨rfl, rfl⟩ := trodVars_none hV
  obtain ⟨sv, ord, dg, nl, rfl, hs⟩ := open_make (hval 0 24 v0 rfl rfl) h0
  obtain ⟨a, l, cap, rfl, hl, _⟩ := open_items Try.underlying31 Try.underlying26 (by kernel_rfl) rfl rfl rfl rfl (by kernel_rfl) Try.underlying3 (hval 1 31 v1 rfl rfl) h1
  obtain ⟨bb, rfl, rfl, rfl⟩ := open_bool Try.underlying4 (hval 2 4 v2 rfl rfl) h2
  obtain ⟨xx, rfl⟩ := open_item (hval 3 26 v3 rfl rfl) h3
  obtain ⟨nn, rfl, rfl, rfl, _⟩ := open_int Try.underlying3 (hval 4 3 v4 rfl rfl) h4
  refine (law_ExactBAscendHint sv ord dg nl a cap l bb xx nn W hs hl).mono fun e W' ⟨he, hc⟩ => ?_
  subst he
  exact ⟨_, rfl, law_post laid (by kernel_rfl) rfl Try.underlying4 hW' rfl rfl (hc.below (Nat.le_refl _) (fun _ _ _ h => h))⟩

theorem proved : Rows.FnExactBAscendHintSaid :=
  OpenClaim.holds_of_wide 7 Try.f7 rfl rfl rfl rfl rfl rfl rfl ⟨rfl, rfl, rfl, rfl, rfl⟩ rfl rfl rfl rfl rfl (by kernel_rfl) Try.func7 (by kernel_rfl)
    (of_decide_eq_true (by kernel_rfl)) (by unfold Func.isWrapper; first | (rw [if_pos (by decide +kernel)]; kernel_rfl) | (rw [if_neg (by decide +kernel)]; exact ⟨rfl, rfl⟩))
    (fun os started H enc _ => lifted os started H enc)
end fnExactBAscendHint
end Go.Proofs.Ytcabnhpnkaielaa
