/- Walks down a tree along one edge: the measure, what a family says of a node, the last child. -/
import Derived.Test.YtilcapfokmpaoaaA10
namespace Go.Proofs.Ytilcapfokmpaoaa
set_option linter.unusedSimpArgs false
set_option linter.unusedVariables false
open Go.RowKit

theorem its_head {α : Type} {h : Nat} {T : BT α h} {mn mx : Nat} (hs : Sh mn mx h T) (h1 : 1 ≤ (its T).length) : 1 ≤ (toL h T).length := Nat.le_trans h1 (its_sub hs).length_le

theorem last_kid {α : Type} {h : Nat} {T : BT α (h + 1)} {mn mx : Nat} (hs : Sh mn mx (h + 1) T) (h1 : 1 ≤ T.2.1.length) (hmn : 1 ≤ mn) :
    ∃ c, T.2.2[T.2.2.length - 1]? = some c ∧ 1 ≤ (its c).length ∧ Sh mn mx h c ∧ (toL h c).getLast? = (toL (h + 1) T).getLast? ∧ (toL h c).length < (toL (h + 1) T).length := by
  have hl := hs.2.1
  obtain ⟨c, hc⟩ : ∃ c, T.2.2[T.2.2.length - 1]? = some c := ⟨_, List.getElem?_eq_getElem (by omega)⟩
  obtain ⟨g1, g2⟩ := hs.2.2 c (List.mem_of_getElem? hc)
  have g3 : 1 ≤ (toL h c).length := its_head g2 (by omega)
  have e1 : T.2.2.length - 1 = T.2.1.length := by omega
  have e2 : toL (h + 1) T = pre T.2.1 ((T.2.2.map (toL h)).take T.2.1.length) ++ toL h c := by
    rw [toL_at hs hc, e1, List.drop_length, List.take_length]
    simp [post]
  refine ⟨c, hc, by omega, g2, ?_, ?_⟩
  · rw [e2, List.getLast?_append]
    cases e : (toL h c).getLast? with
    | none => rw [List.getLast?_eq_none_iff] at e; rw [e] at g3; simp at g3
    | some a => rfl
  · rw [e2, List.length_append]
    have : 1 ≤ (pre T.2.1 ((T.2.2.map (toL h)).take T.2.1.length)).length := by
      match h2 : T.2.1, h3 : T.2.2 with
      | x :: xs, a :: ts => simp [pre]; omega
      | [], _ => rw [h2] at h1; simp at h1
      | x :: xs, [] => rw [h2, h3] at hl; simp at hl
    omega

def mOf {α : Type} (H : Nat → Option (NodeR α)) (v : Value) : Nat := match v with
  | .pointer (some a) => (cntOf H a.block).toNat
  | _ => 0

theorem mOf_root {α : Type} {H : Nat → Option (NodeR α)} {h : Nat} {T : BT α h} (hT : IsT H h T) : mOf H (.pointer (some ⟨rid T, 0, none⟩)) = (toL h T).length := by
  show (cntOf H (rid T)).toNat = _
  unfold cntOf
  rw [hT.root]
  simp [recOf_cnt]

theorem Fam.node {α : Type} {p : Par α} {w : World} {F : Nat → Prop} {H : Nat → Option (NodeR α)} (h : Fam p w F H) {n : Nat} {r : NodeR α} (hn : H n = some r) : ∃ l, NodeAt p w n r l := by
  obtain ⟨l, h1, _⟩ := h.work hn
  exact ⟨l, h1⟩

theorem Fam.nodeB {α : Type} {p : Par α} {w : World} {F : Nat → Prop} {H : Nat → Option (NodeR α)} (h : Fam p w F H) {n : Nat} {r : NodeR α} (hn : H n = some r) : ∃ l, NodeAt p w n r l ∧ ∀ b, Blk n r l b → F b := by
  obtain ⟨l, h1, h2, _⟩ := h.work hn
  exact ⟨l, h1, h2⟩
end Go.Proofs.Ytilcapfokmpaoaa
