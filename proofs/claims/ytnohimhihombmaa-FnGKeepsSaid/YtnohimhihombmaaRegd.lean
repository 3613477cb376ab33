/- A region that draws its order, in which two operations act in either order. No program in sight. -/
import Derived.Test.YtnohimhihombmaaA2
namespace Go.Proofs.Ytnohimhihombmaa
set_option linter.unusedSimpArgs false
set_option linter.unusedVariables false

section
variable {P : Program} {ops : Array Oper} {Q : Exit → Act → World → Prop} {md : Region.Mode} {S : World → Prop} {n : Nat}

theorem wpHT_hards_two {l : List Oper} (hops : ops = l.toArray) (hn : n ≤ l.length) {i j : Nat} {r1 r2 : List Nat} {oi oj : Oper} {hs1 hs2 : List Oper} {listed : Array Bool} {a : Act} {w : World} (hi : ops[i]? = some oi) (hj : ops[j]? = some oj)
    (h1 : (r1.map fun i => ops[i]?) = hs1.map some) (h2 : (r2.map fun i => ops[i]?) = hs2.map some) (hr : Region.ready md ops listed = [i, j]) (hgi : oi.guard = none) (hgj : oj.guard = none)
    (hB1 : hardsB md ops n r1 (listed.setIfInBounds i true) = true) (hB2 : hardsB md ops n r2 (listed.setIfInBounds j true) = true) (hl : r1.length = r2.length)
    (g1 : wpHards P ops Q S (l.drop n) (oi :: hs1) a w) (g2 : wpHards P ops Q S (l.drop n) (oj :: hs2) a w) : wpHT P md ops Q S n (l.length - n + r1.length + 1) listed a w := by
  refine ⟨fun h0 => (by rw [h0] at hr; cases hr), fun q hq => ?_⟩
  rw [hr] at hq
  simp only [List.mem_cons, List.not_mem_nil, or_false] at hq
  rcases hq with rfl | rfl
  · unfold wpOp
    simp only [hi, Region.wanted, hgi, if_true]
    exact .inl (Oper.wp_mono (fun a' w' h' => ⟨fun _ => h'.1, wpHT_hards hops hn r1 hs1 _ a' w' h1 hB1 h'.2⟩) g1)
  · unfold wpOp
    simp only [hj, Region.wanted, hgj, if_true]
    exact .inl (Oper.wp_mono (fun a' w' h' => ⟨fun _ => h'.1, by rw [hl]; exact wpHT_hards hops hn r2 hs2 _ a' w' h2 hB2 h'.2⟩) g2)

theorem wp_region_two {id : Nat} {a : Act} {w : World} {l : List Oper} (S : World → Prop) (n : Nat) (softs : List Nat) (i j : Nat) (r1 r2 : List Nat) (oi oj : Oper) (hm : P.follows .mixedOrders = true)
    (hB : (phaseB .any l.toArray n && Region.noSelect l.toArray && decide (n ≤ l.length) && decide (softs.length + (r1.length + 1) = n) && decide (r1.length = r2.length) && softsB .any l.toArray n softs (Array.replicate l.length false) &&
      decide (Region.ready .any l.toArray (marked softs (Array.replicate l.length false)) = [i, j]) && oi.guard.isNone && oj.guard.isNone && hardsB .any l.toArray n r1 ((marked softs (Array.replicate l.length false)).setIfInBounds i true) &&
      hardsB .any l.toArray n r2 ((marked softs (Array.replicate l.length false)).setIfInBounds j true)) = true)
    (hQ0 : ∀ c a d v w, Q (.panic c) (Act.put a (some d) v) w → Q (.panic c) a w) (hs : (softs.map fun i => l.toArray[i]?) = (pickOps l softs).map some) (hi : l[i]? = some oi) (hj : l[j]? = some oj)
    (hh1 : (r1.map fun i => l.toArray[i]?) = (pickOps l r1).map some) (hh2 : (r2.map fun i => l.toArray[i]?) = (pickOps l r2).map some)
    (hS : S w.drew) (h : wpSoft P l.toArray S (fun a' => wpHards P l.toArray Q S (l.drop n) (oi :: pickOps l r1) a' w.drew ∧ wpHards P l.toArray Q S (l.drop n) (oj :: pickOps l r2) a' w.drew) (pickOps l softs) a) : (Code.region id l.toArray true).wp P Q a w := by
  simp only [Bool.and_eq_true, decide_eq_true_eq] at hB
  obtain ⟨⟨⟨⟨⟨⟨⟨⟨⟨⟨h1, h2⟩, h3⟩, h4⟩, h4'⟩, h5⟩, h6⟩, h7⟩, h8⟩, h9⟩, h10⟩ := hB
  have hQ : ∀ c a d v w, Q (.panic c) (Act.put a d v) w → Q (.panic c) a w := by
    intro c a d v w h
    cases d with
    | none => exact h
    | some d => exact hQ0 c a d v w h
  refine wp_region_any hm (wpAny_of_HT (S := S) (n := n) _ _ _ _ ?_)
  have hmono : ∀ (L L' : Act → Prop), (∀ a, L a → L' a) → ∀ (sl : List Oper) (a : Act), wpSoft P l.toArray S L sl a → wpSoft P l.toArray S L' sl a := by
    intro L L' hL sl
    induction sl with
    | nil => intro a h; exact hL a h
    | cons o sl ih => rintro a ⟨v, hy, h⟩; exact ⟨v, hy, ih _ h⟩
  have := wpHT_softs (P := P) (Q := Q) (S := S) (md := .any) (ops := l.toArray) h1 h2 hQ softs (pickOps l softs) (l.length - n + r1.length + 1) (Array.replicate l.length false) a w.drew hs h5 hS
    (hmono _ _ (fun a' ha => wpHT_hards_two rfl h3 (by simpa using hi) (by simpa using hj) hh1 hh2 h6 (by simpa using h7) (by simpa using h8) h9 h10 h4' ha.1 ha.2) (pickOps l softs) a h)
  rw [show l.length - n + r1.length + 1 + softs.length = l.toArray.size by simp; omega] at this
  simpa using this
end
end Go.Proofs.Ytnohimhihombmaa
