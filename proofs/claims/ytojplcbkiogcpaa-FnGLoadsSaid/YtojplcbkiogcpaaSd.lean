/- spec: Put. -/
import Derived.Test.YtojplcbkiogcpaaSc
namespace Go.Proofs.Ytojplcbkiogcpaa
set_option linter.unusedSimpArgs false
set_option linter.unusedVariables false
open Go.RowKit

def flatI (l : List (Int × Int)) : List Value := l.flatMap fun x => [.int .i64 x.1, .int .i64 x.2]

theorem flatI_len : ∀ l : List (Int × Int), (flatI l).length = l.length * 2
  | [] => rfl
  | x :: l => by simp only [flatI, List.flatMap_cons, List.length_append, List.length_cons, List.length_nil]; have := flatI_len l; simp only [flatI] at this; omega

theorem flatI_app (a b : List (Int × Int)) : flatI (a ++ b) = flatI a ++ flatI b := by simp [flatI]

theorem flatI_get : ∀ (l : List (Int × Int)) (j : Nat) (u : Value), (flatI l)[j]? = some u → ∃ x, l[j / 2]? = some x ∧ ((j % 2 = 0 ∧ u = .int .i64 x.1) ∨ (j % 2 = 1 ∧ u = .int .i64 x.2))
  | [], j, u, h => by simp [flatI] at h
  | x :: l, 0, u, h => by simp [flatI] at h; exact ⟨x, by simp, .inl ⟨rfl, h.symm⟩⟩
  | x :: l, 1, u, h => by simp [flatI] at h; exact ⟨x, by simp, .inr ⟨rfl, h.symm⟩⟩
  | x :: l, j + 2, u, h => by
    have h' : (flatI l)[j]? = some u := by simpa [flatI] using h
    obtain ⟨y, h1, h2⟩ := flatI_get l j u h'
    refine ⟨y, ?_, ?_⟩
    · rw [show (j + 2) / 2 = j / 2 + 1 by omega]; simpa using h1
    · rw [show (j + 2) % 2 = j % 2 by omega]; exact h2

theorem flatI_one (l : List (Int × Int)) : ∀ u ∈ flatI l, u.oneCell' = true := by
  intro u hu
  obtain ⟨x, _, h⟩ := List.mem_flatMap.1 hu
  simp at h
  rcases h with rfl | rfl <;> rfl

/-- A part of the items as a row's cells. -/
theorem ItemsAt.src {w : World} {b o : Nat} {l : List (Int × Int)} (h : ∀ i x, l[i]? = some x → w.cell? ⟨b, o + i * 2, none⟩ = some (.int .i64 x.1) ∧ w.cell? ⟨b, o + i * 2 + 1, none⟩ = some (.int .i64 x.2)) (s : Nat) (n : Nat) :
    ∀ j u, (flatI ((l.drop s).take n))[j]? = some u → w.cell? ((⟨b, o + s * 2, none⟩ : Addr).add j) = some u := by
  intro j u hj
  rw [add_none]
  obtain ⟨x, h1, h2⟩ := flatI_get _ j u hj
  have h3 : l[s + j / 2]? = some x := by
    have hlt := (List.getElem?_eq_some_iff.1 h1).1
    simp only [List.length_take, List.length_drop] at hlt
    rw [List.getElem?_take_of_lt (by omega), List.getElem?_drop] at h1
    exact h1
  obtain ⟨g1, g2⟩ := h _ x h3
  rcases h2 with ⟨h2, rfl⟩ | ⟨h2, rfl⟩
  · rw [show o + s * 2 + j = o + (s + j / 2) * 2 by omega]; exact g1
  · rw [show o + s * 2 + j = o + (s + j / 2) * 2 + 1 by omega]; exact g2

theorem infoItem : (Try.prog.info? 26).map (fun i => (i.zero, i.size, i.bytes)) = some (some (.agg #[.int .i64 0, .int .i64 0]), 2, 16) := by kernel_rfl

/-- A new row that holds the items. -/
def RowI (w : World) (v : Value) (l : List (Int × Int)) (base : Nat) : Prop := ∃ b o cap, v = .slice (some ⟨b, o, none⟩) l.length cap ∧ l.length ≤ cap ∧ base ≤ b ∧ RowAt w 26 b o (cap * 2) (flatI l)

theorem RowI.items {w : World} {v : Value} {l : List (Int × Int)} {base : Nat} (h : RowI w v l base) : ∃ p cap, v = .slice p l.length cap ∧ ItemsAt w p l := by
  obtain ⟨b, o, cap, rfl, _, _, hr⟩ := h
  refine ⟨_, cap, rfl, .inr ⟨b, o, rfl, fun i x hx => ?_⟩⟩
  have hs : ∀ (l : List (Int × Int)) (i : Nat) (x : Int × Int), l[i]? = some x → (flatI l)[i * 2]? = some (.int .i64 x.1) ∧ (flatI l)[i * 2 + 1]? = some (.int .i64 x.2) := by
    intro l
    induction l with
    | nil => intro i x h; simp at h
    | cons y l ih =>
      intro i x h
      cases i with
      | zero => obtain rfl : y = x := by simpa using h
                simp [flatI]
      | succ i =>
        obtain ⟨h1, h2⟩ := ih i x (by simpa using h)
        rw [show (i + 1) * 2 = i * 2 + 2 by omega]
        simp only [flatI] at h1 h2 ⊢
        simp [h1, h2]
  obtain ⟨g1, g2⟩ := hs l i x hx
  exact ⟨hr.cell g1, by have := hr.cell g2; rw [Nat.add_assoc]; exact this⟩
end Go.Proofs.Ytojplcbkiogcpaa
