/- A region that draws its order and holds one call that acts: all that reads is taken first, then the call, then the rest by a script. No program in sight. -/
import Derived.Test.YtojplcbkiogcpaaRege
namespace Go.Proofs.Ytojplcbkiogcpaa
set_option linter.unusedSimpArgs false
set_option linter.unusedVariables false

section
variable {P : Program} {Q : Exit → Act → World → Prop}

/-- THE REGION: the reading operations 'softs' first, then the call n, then the rest by a script; what of the rest acts, acts alone. -/
theorem wp_region_callt {id : Nat} {a : Act} {w : World} {l : List Oper} (S : World → Prop) (n : Nat) (softs : List Nat) (oc : Oper) (sc : List (Nat × Bool)) (hm : P.follows .mixedOrders = true)
    (hB : (Region.sinkB .any l.toArray n && chain2B .any l.toArray n && Region.noSelect l.toArray && decide (n < l.length) && decide (softs.length = n) && decide (n + 1 + sc.length = l.length) && softsB .any l.toArray n softs (Array.replicate l.length false) &&
      decide (Region.ready .any l.toArray (marked softs (Array.replicate l.length false)) = [n]) && oc.guard.isNone && scriptB .any l.toArray l.length sc ((marked softs (Array.replicate l.length false)).setIfInBounds n true) &&
      (List.range n).all fun i => ((marked softs (Array.replicate l.length false)).setIfInBounds n true).getD i false) = true)
    (hQ0 : ∀ c a d v w, Q (.panic c) (Act.put a (some d) v) w → Q (.panic c) a w) (hs : (softs.map fun i => l.toArray[i]?) = (pickOps l softs).map some) (hh0 : l[n]? = some oc)
    (hS : S w.drew) (h : wpSoft P l.toArray S (fun a' => oc.wp P a' w.drew (fun a2 w2 => wpScript P l.toArray Q (fun _ => True) l.length sc a2 w2) Q) (pickOps l softs) a) : (Code.region id l.toArray true).wp P Q a w := by
  simp only [Bool.and_eq_true, decide_eq_true_eq] at hB
  obtain ⟨⟨⟨⟨⟨⟨⟨⟨⟨⟨h1, h2⟩, h3⟩, h4⟩, h5⟩, h6⟩, h7⟩, h8⟩, h9⟩, h10⟩, h12⟩ := hB
  have hQ : ∀ c a d v w, Q (.panic c) (Act.put a d v) w → Q (.panic c) a w := by
    intro c a d v w h
    cases d with
    | none => exact h
    | some d => exact hQ0 c a d v w h
  have hh : l.toArray[n]? = some oc := by simpa using hh0
  have hg : oc.guard = none := by simpa using h9
  have hn : n < l.toArray.size := by simpa using h4
  refine wp_region_any hm (wpAny_of_HT (S := S) (n := n) _ _ _ _ ?_)
  have hmono : ∀ (S : World → Prop) (L L' : Act → Prop), (∀ a, L a → L' a) → ∀ (sl : List Oper) (a : Act), wpSoft P l.toArray S L sl a → wpSoft P l.toArray S L' sl a := by
    intro S L L' hL sl
    induction sl with
    | nil => intro a h; exact hL a h
    | cons o sl ih => rintro a ⟨v, hy, h⟩; exact ⟨v, hy, ih _ h⟩
  have hrest : ∀ a w, wpScript P l.toArray Q (fun _ => True) l.length sc a w →
      wpHT P .any l.toArray Q (fun _ => True) l.length (0 + sc.length) ((marked softs (Array.replicate l.length false)).setIfInBounds n true) a w := by
    intro a w hw
    have hp : phaseB .any l.toArray l.length = true := by
      unfold phaseB
      refine List.all_eq_true.2 fun t ht => ?_
      have := List.mem_range.1 ht
      simp only [List.size_toArray] at this
      simp [this]
    have := wpHT_script (P := P) (Q := Q) (S := fun _ => True) (md := .any) (ops := l.toArray) l.length hp h3 hQ sc _ a w h10 (.inl trivial) hw
    rwa [Nat.zero_add]
  have hcall : ∀ a w, oc.wp P a w (fun a2 w2 => wpScript P l.toArray Q (fun _ => True) l.length sc a2 w2) Q →
      wpHT P .any l.toArray Q S n (0 + sc.length + 1) (marked softs (Array.replicate l.length false)) a w := by
    intro a w hw
    refine ⟨fun h0 => (by rw [h0] at h8; cases h8), fun j hj => ?_⟩
    rw [h8] at hj
    obtain rfl : j = n := by simpa using hj
    unfold wpOp
    simp only [hh, Region.wanted, hg, if_true]
    refine .inl (Oper.wp_mono (fun a' w' h' => ⟨fun hx => absurd hx (by omega), ?_⟩) hw)
    exact wpHT_over _ _ _ _ (fun i hi => by simpa using List.all_eq_true.1 h12 i (List.mem_range.2 hi)) (hrest a' w' h')
  have inv : HeadInv .any l.toArray n (Array.replicate l.length false) := by
    refine ⟨by simp, fun j oj _ hl => ?_, fun t _ ht => ?_⟩
    · rw [getD_replicate_false] at hl; cases hl
    · simp only [List.size_toArray] at ht
      simp [ht]
  have := wpHT_softsC (P := P) (Q := Q) (S := S) (md := .any) (ops := l.toArray) h1 h2 hn h3 hQ softs (pickOps l softs) (0 + sc.length + 1) (Array.replicate l.length false) a w.drew inv hs h7 hS
    (hmono _ _ _ (fun a' ha => hcall a' w.drew ha) (pickOps l softs) a h)
  rw [show 0 + sc.length + 1 + softs.length = l.toArray.size by simp; omega] at this
  simpa using this
end
end Go.Proofs.Ytojplcbkiogcpaa
