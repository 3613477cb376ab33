/- Slices in blocks apart. -/
import Derived.Test.YtjggkpmlffhjgaaA9
import Derived.Test.YtjggkpmlffhjgaaSu
namespace Go.Proofs.Ytjggkpmlffhjgaa
set_option linter.unusedSimpArgs false
set_option linter.unusedVariables false
open Go.RowKit

theorem SlE.chgOwn {α : Type} {p : El α} {w w' : World} {v : Value} {xs : List α} {A : Nat → Nat → Prop} (h : SlE p w v xs) (c : Chg A w w') (hA : ∀ b o, v.ownBlock = some b → ¬ A b o) : SlE p w' v xs := by
  obtain ⟨a, cap, rfl, h2, h3⟩ := h
  refine ⟨a, cap, rfl, h2, ?_⟩
  rcases h3 with h3 | ⟨b, o, rfl, h4⟩
  · exact .inl h3
  · exact .inr ⟨b, o, rfl, fun j u hj => c.cell (hA b _ rfl) (h4 j u hj)⟩

theorem RowI.own {w : World} {v : Value} {l : List (Int × Int)} {base : Nat} (h : RowI w v l base) : ∀ b, v.ownBlock = some b → base ≤ b ∧ b < w.heap.size := by
  obtain ⟨b, o, cap, rfl, h2, h3, h4⟩ := h
  intro b' hb
  have e : b = b' := Option.some.inj hb
  subst e
  exact ⟨h3, h4.lt⟩

theorem RowI.sl {w : World} {v : Value} {l : List (Int × Int)} {base : Nat} (h : RowI w v l base) : SlE itemE w v l := by
  obtain ⟨p, cap, rfl, hi⟩ := h.items
  obtain ⟨b, o, cap', e, h2, _⟩ := h
  injection e with e1 e2 e3
  exact hi.sl (by omega)

end Go.Proofs.Ytjggkpmlffhjgaa
