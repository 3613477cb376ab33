/- For every degree, every number and every step the law FnMStride returns true. -/
import Derived.Test.YtkgcjgedpefhjaaRows
import Derived.Test.YtkgcjgedpefhjaaLift
import Derived.Test.YtkgcjgedpefhjaaSr
namespace Go.Proofs.Ytkgcjgedpefhjaa
open Go.ChangeShapes Go.WideShapes Go.ChangeAt Go.RowKit

theorem wf16 {n : Int} (h : (Lit.int .u16 n).wf = true) : ∃ m : Nat, n = (m : Int) ∧ m ≤ 65535 := by
  simp only [Lit.wf, Bool.and_eq_true, decide_eq_true_eq] at h
  have h2 : 0 ≤ n ∧ n ≤ 65535 := h
  exact ⟨n.toNat, by omega, by omega⟩

namespace fnMStride
theorem own : ownKnob Try.prog.godebug = none := by kernel_rfl
theorem laid : laidOutB Try.prog = true := by kernel_rfl

set_option maxRecDepth 100000 in
theorem lifted (os : Os) (started : os.Started) (H : Type) (enc : TypeId × Value → H) :
    ReturnsInHanded {} Try.checked os 9 .any (Rows.fnMStrideSpec.pre6 enc Try.prog Try.f9 Rows.fnMStrideRow.domain false) (Rows.fnMStrideSpec.post enc Try.prog Try.f9 false true false false) := by
  refine returnsInHanded_of_change (C := Try.checked) own started (by kernel_rfl) Try.func9
    (ChangeSpec.witness6 (enc := enc) (C := Try.checked) false ⟨#[], #[.int .i64 0, .int .u16 0, .int .u16 0], []⟩ 8 (by kernel_rfl) (by kernel_rfl) (by kernel_rfl) (by kernel_rfl)) ?_
  intro W base args ds gs before hval0 hW hcnd _
  have hval : ∀ (j : Nat) t v, Try.f9.params[j]? = some t → args[j]? = some v → Value.okWide Try.prog W .any base t v := hval0
  have hW' := hW
  obtain ⟨p, q, hA0, hV, rfl, hfz, hnd⟩ := hW
  have hA : DataW.TrodAll enc Try.prog W 0 (fun _ => true) true Try.f9.params.toList args.toList ds p := hA0
  rw [Try.params9] at hA hval
  obtain ⟨v0, v1, v2, d0, d1, d2, p0, p1, p2, rfl, rfl, rfl, h0, h1, h2⟩ := trodAll_three hA
  obtain ⟨rfl, rfl⟩ := trodVars_none hV
  obtain ⟨x, rfl, rfl, rfl, wx⟩ := open_int Try.underlying3 (hval 0 3 v0 rfl rfl) h0
  obtain ⟨n, rfl, rfl, rfl, wn⟩ := open_int Try.underlying33 (hval 1 33 v1 rfl rfl) h1
  obtain ⟨s, rfl, rfl, rfl, ws⟩ := open_int Try.underlying33 (hval 2 33 v2 rfl rfl) h2
  obtain ⟨n, rfl, hn⟩ := wf16 wn
  obtain ⟨s, rfl, hs⟩ := wf16 ws
  refine (law_MStride x n s W hn hs).mono fun e W' ⟨he, hc⟩ => ?_
  subst he
  exact ⟨_, rfl, law_post laid (by kernel_rfl) rfl Try.underlying4 hW' rfl rfl (hc.below (Nat.le_refl _) (fun _ _ _ h => h))⟩

theorem proved : Rows.FnMStrideSaid :=
  OpenClaim.holds_of_wide 9 Try.f9 rfl rfl rfl rfl rfl rfl rfl ⟨rfl, rfl, rfl, rfl, rfl⟩ rfl rfl rfl rfl rfl (by kernel_rfl) Try.func9 (by kernel_rfl)
    (of_decide_eq_true (by kernel_rfl)) (by unfold Func.isWrapper; first | (rw [if_pos (by decide +kernel)]; kernel_rfl) | (rw [if_neg (by decide +kernel)]; exact ⟨rfl, rfl⟩))
    (fun os started H enc _ => lifted os started H enc)
end fnMStride
end Go.Proofs.Ytkgcjgedpefhjaa
