/- A region that draws its order, by a tree of scripts: where two operations may act next, each way is taken. No program in sight. -/
import Derived.Test.YtojplcbkiogcpaaRegf
namespace Go.Proofs.Ytojplcbkiogcpaa
set_option linter.unusedSimpArgs false
set_option linter.unusedVariables false

/-- soft i: i reads; hard i: i acts, alone; fork i j: i or j acts next. -/
inductive Scr where
  | nil : Scr
  | soft : Nat → Scr → Scr
  | hard : Nat → Scr → Scr
  | fork : Nat → Nat → Scr → Scr → Scr

section
variable {P : Program} {ops : Array Oper} {Q : Exit → Act → World → Prop} {md : Region.Mode} {S : World → Prop}

def Scr.len : Scr → Nat
  | .nil => 0
  | .soft _ r => r.len + 1
  | .hard _ r => r.len + 1
  | .fork _ _ r _ => r.len + 1

def scrB (md : Region.Mode) (ops : Array Oper) : Scr → Array Bool → Bool
  | .nil, listed => decide (Region.ready md ops listed = [])
  | .soft i r, listed => decide (i < ops.size) && Region.free md ops listed i && (Region.ready md ops listed).contains i && scrB md ops r (listed.setIfInBounds i true)
  | .hard i r, listed => decide (Region.ready md ops listed = [i]) && scrB md ops r (listed.setIfInBounds i true)
  | .fork i j r s, listed => decide (Region.ready md ops listed = [i, j]) && decide (r.len = s.len) && scrB md ops r (listed.setIfInBounds i true) && scrB md ops s (listed.setIfInBounds j true)

def wpScr (P : Program) (ops : Array Oper) (Q : Exit → Act → World → Prop) (S : World → Prop) : Scr → Act → World → Prop
  | .nil, a, w => Q .normal a w
  | .soft i r, a, w => ∃ o v, ops[i]? = some o ∧ YieldsIf P ops S o v a ∧ wpScr P ops Q S r (a.put o.dst v) w
  | .hard i r, a, w => ∃ o, ops[i]? = some o ∧ ((Region.wanted o (yielded ops a.tmps) = true ∧ o.wp P a w (fun a' w' => S w' ∧ wpScr P ops Q S r a' w') Q) ∨ (Region.wanted o (yielded ops a.tmps) = false ∧ wpScr P ops Q S r (a.put o.dst undef) w))
  | .fork i j r s, a, w => ∃ o p, ops[i]? = some o ∧ ops[j]? = some p ∧ o.guard = none ∧ p.guard = none ∧ o.wp P a w (fun a' w' => S w' ∧ wpScr P ops Q S r a' w') Q ∧ p.wp P a w (fun a' w' => S w' ∧ wpScr P ops Q S s a' w') Q

theorem wpHT_scr (hp : phaseB md ops ops.size = true) (hsel : Region.noSelect ops = true) (hQ : ∀ c a d v w, Q (.panic c) (Act.put a d v) w → Q (.panic c) a w) :
    ∀ (sc : Scr) (listed : Array Bool) (a : Act) (w : World), scrB md ops sc listed = true → S w → wpScr P ops Q S sc a w → wpHT P md ops Q S ops.size sc.len listed a w
  | .nil, listed, a, w, hB, _, h => ⟨by simpa [scrB] using hB, h⟩
  | .soft i r, listed, a, w, hB, hS, ⟨o, v, ho, hy, h⟩ => by
    simp only [scrB, Bool.and_eq_true, decide_eq_true_eq] at hB
    obtain ⟨⟨⟨h1, h2⟩, h3⟩, h4⟩ := hB
    exact wpHT_first hp h1 ho (Region.noSelect_spec hsel) hQ r.len listed a w (Region.free_spec ho h2) (by simpa using h3) hy hS (wpHT_scr hp hsel hQ r _ _ w h4 hS h)
  | .hard i r, listed, a, w, hB, hS, ⟨o, ho, h⟩ => by
    simp only [scrB, Bool.and_eq_true, decide_eq_true_eq] at hB
    refine ⟨fun h0 => (by rw [h0] at hB; cases hB.1), fun j hj => ?_⟩
    rw [hB.1] at hj
    obtain rfl : j = i := by simpa using hj
    unfold wpOp
    rcases h with ⟨hg, h⟩ | ⟨hg, h⟩
    · simp only [ho, hg, if_true]
      exact .inl (Oper.wp_mono (fun a' w' h' => ⟨fun _ => h'.1, wpHT_scr hp hsel hQ r _ a' w' hB.2 h'.1 h'.2⟩) h)
    · simp only [ho, hg, Bool.false_eq_true, if_false]
      exact ⟨fun _ => hS, wpHT_scr hp hsel hQ r _ _ w hB.2 hS h⟩
  | .fork i j r s, listed, a, w, hB, hS, ⟨o, p, ho, hpj, hgo, hgp, g1, g2⟩ => by
    simp only [scrB, Bool.and_eq_true, decide_eq_true_eq] at hB
    obtain ⟨⟨⟨h1, h2⟩, h3⟩, h4⟩ := hB
    refine ⟨fun h0 => (by rw [h0] at h1; cases h1), fun q hq => ?_⟩
    rw [h1] at hq
    simp only [List.mem_cons, List.not_mem_nil, or_false] at hq
    rcases hq with rfl | rfl
    · unfold wpOp
      simp only [ho, Region.wanted, hgo, if_true]
      exact .inl (Oper.wp_mono (fun a' w' h' => ⟨fun _ => h'.1, wpHT_scr hp hsel hQ r _ a' w' h3 h'.1 h'.2⟩) g1)
    · unfold wpOp
      simp only [hpj, Region.wanted, hgp, if_true]
      exact .inl (Oper.wp_mono (fun a' w' h' => ⟨fun _ => h'.1, by rw [h2]; exact wpHT_scr hp hsel hQ s _ a' w' h4 h'.1 h'.2⟩) g2)

/-- THE REGION by a tree of scripts; what is held is kept by each operation that acts. -/
theorem wp_region_scr {id : Nat} {a : Act} {w : World} {l : List Oper} (S : World → Prop) (sc : Scr) (hm : P.follows .mixedOrders = true)
    (hB : (Region.noSelect l.toArray && decide (sc.len = l.length) && scrB .any l.toArray sc (Array.replicate l.length false)) = true)
    (hQ0 : ∀ c a d v w, Q (.panic c) (Act.put a (some d) v) w → Q (.panic c) a w) (hS : S w.drew) (h : wpScr P l.toArray Q S sc a w.drew) : (Code.region id l.toArray true).wp P Q a w := by
  simp only [Bool.and_eq_true, decide_eq_true_eq] at hB
  obtain ⟨⟨h1, h2⟩, h3⟩ := hB
  have hQ : ∀ c a d v w, Q (.panic c) (Act.put a d v) w → Q (.panic c) a w := by
    intro c a d v w h
    cases d with
    | none => exact h
    | some d => exact hQ0 c a d v w h
  have hp : phaseB .any l.toArray l.toArray.size = true := by
    unfold phaseB
    refine List.all_eq_true.2 fun t ht => ?_
    have ht2 := List.mem_range.1 ht
    simp only [List.size_toArray] at ht2
    simp [ht2]
  refine wp_region_any hm (wpAny_of_HT (S := S) (n := l.toArray.size) _ _ _ _ ?_)
  have := wpHT_scr (md := .any) hp h1 hQ sc (Array.replicate l.length false) a w.drew h3 hS h
  rw [h2] at this
  simpa using this

theorem scr_nil {a : Act} {w : World} (h : Q .normal a w) : wpScr P ops Q S .nil a w := h
theorem scr_soft {l : List Oper} {i : Nat} {r : Scr} {a : Act} {w : World} {o : Oper} (ho : l[i]? = some o) (v : Value) (hg : Region.wanted o (yielded l.toArray a.tmps) = true) (h : ∀ w, S w → (execOp a.eval o).run P w = .ok (.value v) w) (h2 : wpScr P l.toArray Q S r (a.put o.dst v) w) : wpScr P l.toArray Q S (.soft i r) a w :=
  ⟨o, v, by simpa using ho, .inl ⟨hg, h⟩, h2⟩
theorem scr_skip {l : List Oper} {i : Nat} {r : Scr} {a : Act} {w : World} {o : Oper} (ho : l[i]? = some o) (hg : Region.wanted o (yielded l.toArray a.tmps) = false) (h2 : wpScr P l.toArray Q S r (a.put o.dst undef) w) : wpScr P l.toArray Q S (.soft i r) a w :=
  ⟨o, undef, by simpa using ho, .inr ⟨hg, rfl⟩, h2⟩
theorem scr_hard {l : List Oper} {i : Nat} {r : Scr} {a : Act} {w : World} {o : Oper} (ho : l[i]? = some o) (hg : Region.wanted o (yielded l.toArray a.tmps) = true) (h : ∀ K : Act → World → Prop, (∀ a' w', S w' → wpScr P l.toArray Q S r a' w' → K a' w') → o.wp P a w K Q) : wpScr P l.toArray Q S (.hard i r) a w :=
  ⟨o, by simpa using ho, .inl ⟨hg, h _ fun _ _ h1 h2 => ⟨h1, h2⟩⟩⟩
theorem scr_hard_skip {l : List Oper} {i : Nat} {r : Scr} {a : Act} {w : World} {o : Oper} (ho : l[i]? = some o) (hg : Region.wanted o (yielded l.toArray a.tmps) = false) (h2 : wpScr P l.toArray Q S r (a.put o.dst undef) w) : wpScr P l.toArray Q S (.hard i r) a w :=
  ⟨o, by simpa using ho, .inr ⟨hg, h2⟩⟩
theorem scr_fork {l : List Oper} {i j : Nat} {r s : Scr} {a : Act} {w : World} {o p : Oper} (ho : l[i]? = some o) (hp : l[j]? = some p) (go : o.guard = none) (gp : p.guard = none)
    (h1 : ∀ K : Act → World → Prop, (∀ a' w', S w' → wpScr P l.toArray Q S r a' w' → K a' w') → o.wp P a w K Q) (h2 : ∀ K : Act → World → Prop, (∀ a' w', S w' → wpScr P l.toArray Q S s a' w' → K a' w') → p.wp P a w K Q) : wpScr P l.toArray Q S (.fork i j r s) a w :=
  ⟨o, p, by simpa using ho, by simpa using hp, go, gp, h1 _ fun _ _ h1 h2 => ⟨h1, h2⟩, h2 _ fun _ _ h1 h2 => ⟨h1, h2⟩⟩
end
end Go.Proofs.Ytojplcbkiogcpaa
