/- A region that draws its order, taken by a script: reading operations anywhere, acting ones where they alone act; what is held is kept by each. No program in sight. -/
import Derived.Test.YtojplcbkiogcpaaRegc
namespace Go.Proofs.Ytojplcbkiogcpaa
set_option linter.unusedSimpArgs false
set_option linter.unusedVariables false

section
variable {P : Program} {ops : Array Oper} {Q : Exit → Act → World → Prop} {md : Region.Mode} {S : World → Prop}

/-- A script: (i, true): i reads; (i, false): i acts, alone. -/
def scriptB (md : Region.Mode) (ops : Array Oper) (n : Nat) : List (Nat × Bool) → Array Bool → Bool
  | [], listed => decide (Region.ready md ops listed = [])
  | (i, true) :: r, listed => decide (i < n) && Region.free md ops listed i && (Region.ready md ops listed).contains i && scriptB md ops n r (listed.setIfInBounds i true)
  | (i, false) :: r, listed => decide (Region.ready md ops listed = [i]) && (decide (i < n) || r.all fun p => !p.2 && decide (n ≤ p.1)) && scriptB md ops n r (listed.setIfInBounds i true)

def wpScript (P : Program) (ops : Array Oper) (Q : Exit → Act → World → Prop) (S : World → Prop) (n : Nat) : List (Nat × Bool) → Act → World → Prop
  | [], a, w => Q .normal a w
  | (i, true) :: r, a, w => ∃ o v, ops[i]? = some o ∧ YieldsIf P ops S o v a ∧ wpScript P ops Q S n r (a.put o.dst v) w
  | (i, false) :: r, a, w => ∃ o, ops[i]? = some o ∧ ((Region.wanted o (yielded ops a.tmps) = true ∧ o.wp P a w (fun a' w' => (i < n → S w') ∧ wpScript P ops Q S n r a' w') Q) ∨ (Region.wanted o (yielded ops a.tmps) = false ∧ wpScript P ops Q S n r (a.put o.dst undef) w))

theorem wpHT_script (n : Nat) (hp : phaseB md ops n = true) (hsel : Region.noSelect ops = true) (hQ : ∀ c a d v w, Q (.panic c) (Act.put a d v) w → Q (.panic c) a w) :
    ∀ (sc : List (Nat × Bool)) (listed : Array Bool) (a : Act) (w : World), scriptB md ops n sc listed = true → (S w ∨ (sc.all fun p => !p.2 && decide (n ≤ p.1)) = true) → wpScript P ops Q S n sc a w → wpHT P md ops Q S n sc.length listed a w
  | [], listed, a, w, hB, _, h => ⟨by simpa [scriptB] using hB, h⟩
  | (i, true) :: r, listed, a, w, hB, hS, ⟨o, v, ho, hy, h⟩ => by
    simp only [scriptB, Bool.and_eq_true, decide_eq_true_eq] at hB
    obtain ⟨⟨⟨h1, h2⟩, h3⟩, h4⟩ := hB
    have hS' : S w := by
      rcases hS with hS | hS
      · exact hS
      · simp at hS
    exact wpHT_first hp h1 ho (Region.noSelect_spec hsel) hQ r.length listed a w (Region.free_spec ho h2) (by simpa using h3) hy hS' (wpHT_script n hp hsel hQ r _ _ w h4 (.inl hS') h)
  | (i, false) :: r, listed, a, w, hB, hS, ⟨o, ho, h⟩ => by
    simp only [scriptB, Bool.and_eq_true, decide_eq_true_eq, Bool.or_eq_true] at hB
    refine ⟨fun h0 => (by rw [h0] at hB; cases hB.1.1), fun j hj => ?_⟩
    rw [hB.1.1] at hj
    obtain rfl : j = i := by simpa using hj
    have hS2 : ∀ w' : World, (j < n → S w') → S w' ∨ (r.all fun p => !p.2 && decide (n ≤ p.1)) = true := fun w' g => hB.1.2.imp g id
    have hS3 : j < n → S w := by
      intro hj
      rcases hS with hS | hS
      · exact hS
      · simp at hS; omega
    unfold wpOp
    rcases h with ⟨hg, h⟩ | ⟨hg, h⟩
    · simp only [ho, hg, if_true]
      exact .inl (Oper.wp_mono (fun a' w' h' => ⟨h'.1, wpHT_script n hp hsel hQ r _ a' w' hB.2 (hS2 w' h'.1) h'.2⟩) h)
    · simp only [ho, hg, Bool.false_eq_true, if_false]
      exact ⟨hS3, wpHT_script n hp hsel hQ r _ _ w hB.2 (hS2 w hS3) h⟩

/-- THE REGION by a script. -/
theorem wp_region_script {id : Nat} {a : Act} {w : World} {l : List Oper} (S : World → Prop) (n : Nat) (sc : List (Nat × Bool)) (hm : P.follows .mixedOrders = true)
    (hB : (phaseB .any l.toArray n && Region.noSelect l.toArray && decide (sc.length = l.length) && scriptB .any l.toArray n sc (Array.replicate l.length false)) = true)
    (hQ0 : ∀ c a d v w, Q (.panic c) (Act.put a (some d) v) w → Q (.panic c) a w) (hS : S w.drew) (h : wpScript P l.toArray Q S n sc a w.drew) : (Code.region id l.toArray true).wp P Q a w := by
  simp only [Bool.and_eq_true, decide_eq_true_eq] at hB
  obtain ⟨⟨⟨hp, h1⟩, h2⟩, h3⟩ := hB
  have hQ : ∀ c a d v w, Q (.panic c) (Act.put a d v) w → Q (.panic c) a w := by
    intro c a d v w h
    cases d with
    | none => exact h
    | some d => exact hQ0 c a d v w h
  refine wp_region_any hm (wpAny_of_HT (S := S) (n := n) _ _ _ _ ?_)
  have := wpHT_script (md := .any) n hp h1 hQ sc (Array.replicate l.length false) a w.drew h3 (.inl hS) h
  rw [h2] at this
  simpa using this

theorem script_nil {n : Nat} {ops : Array Oper} {a : Act} {w : World} (h : Q .normal a w) : wpScript P ops Q S n [] a w := h
theorem script_soft {n : Nat} {l : List Oper} {i : Nat} {r : List (Nat × Bool)} {a : Act} {w : World} {o : Oper} (ho : l[i]? = some o) (v : Value) (hg : Region.wanted o (yielded l.toArray a.tmps) = true) (h : ∀ w, S w → (execOp a.eval o).run P w = .ok (.value v) w) (h2 : wpScript P l.toArray Q S n r (a.put o.dst v) w) : wpScript P l.toArray Q S n ((i, true) :: r) a w :=
  ⟨o, v, by simpa using ho, .inl ⟨hg, h⟩, h2⟩
theorem script_skip {n : Nat} {l : List Oper} {i : Nat} {r : List (Nat × Bool)} {a : Act} {w : World} {o : Oper} (ho : l[i]? = some o) (hg : Region.wanted o (yielded l.toArray a.tmps) = false) (h2 : wpScript P l.toArray Q S n r (a.put o.dst undef) w) : wpScript P l.toArray Q S n ((i, true) :: r) a w :=
  ⟨o, undef, by simpa using ho, .inr ⟨hg, rfl⟩, h2⟩
theorem script_hard {n : Nat} {l : List Oper} {i : Nat} {r : List (Nat × Bool)} {a : Act} {w : World} {o : Oper} (ho : l[i]? = some o) (hg : Region.wanted o (yielded l.toArray a.tmps) = true) (h : ∀ K : Act → World → Prop, (∀ a' w', (i < n → S w') → wpScript P l.toArray Q S n r a' w' → K a' w') → o.wp P a w K Q) : wpScript P l.toArray Q S n ((i, false) :: r) a w :=
  ⟨o, by simpa using ho, .inl ⟨hg, h _ fun _ _ h1 h2 => ⟨h1, h2⟩⟩⟩
theorem script_hard_skip {n : Nat} {l : List Oper} {i : Nat} {r : List (Nat × Bool)} {a : Act} {w : World} {o : Oper} (ho : l[i]? = some o) (hg : Region.wanted o (yielded l.toArray a.tmps) = false) (h2 : wpScript P l.toArray Q S n r (a.put o.dst undef) w) : wpScript P l.toArray Q S n ((i, false) :: r) a w :=
  ⟨o, by simpa using ho, .inr ⟨hg, h2⟩⟩
end
end Go.Proofs.Ytojplcbkiogcpaa
