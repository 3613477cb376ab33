/- A region that draws its order, in which a few operations act (an alloc, an append) before all is stored: the reading ones are taken first, the acting ones come in their forced order, the store last. No program in sight. -/
import Derived.WalkKit
import Derived.OrdersHeld
import Derived.StillTail
namespace Go.Proofs.Ytojplcbkiogcpaa
set_option linter.unusedSimpArgs false
set_option linter.unusedVariables false

section
variable {P : Program} {ops : Array Oper} {Q : Exit → Act → World → Prop} {md : Region.Mode} {S : World → Prop} {n : Nat}

/-- Whatever order is picked from here on; S holds behind each of the first n operations. -/
def wpHT (P : Program) (md : Region.Mode) (ops : Array Oper) (Q : Exit → Act → World → Prop) (S : World → Prop) (n : Nat) : Nat → Array Bool → Act → World → Prop
  | 0, listed, a, w => Region.ready md ops listed = [] ∧ Q .normal a w
  | f + 1, listed, a, w =>
    (Region.ready md ops listed = [] → Q .normal a w) ∧ ∀ i ∈ Region.ready md ops listed, wpOp P ops Q i (fun a' w' => (i < n → S w') ∧ wpHT P md ops Q S n f (listed.setIfInBounds i true) a' w') a w

theorem wpAny_of_HT : ∀ (f : Nat) (listed : Array Bool) (a : Act) (w : World), wpHT P md ops Q S n f listed a w → wpAny P md ops Q f listed a w
  | 0, _, _, _, h => h
  | f + 1, _, _, _, h => ⟨h.1, fun i hi => wpOp_mono (fun a' w' h' => wpAny_of_HT f _ a' w' h'.2) (h.2 i hi)⟩

/-- All from n on wait for each before n. -/
def phaseB (md : Region.Mode) (ops : Array Oper) (n : Nat) : Bool :=
  (List.range ops.size).all fun t => decide (t < n) || (List.range n).all fun i => Region.waitsFor md ops t i

theorem phase_lt {listed : Array Bool} {i j : Nat} (hp : phaseB md ops n = true) (hi : i < n) (hun : listed.getD i true = false) (hj : j ∈ Region.ready md ops listed) : j < n := by
  obtain ⟨_, oj, hoj, hall⟩ := mem_ready.1 hj
  have hjs : j < ops.size := (Array.getElem?_eq_some_iff.1 hoj).1
  have h1 := List.all_eq_true.1 hp j (List.mem_range.2 hjs)
  simp only [Bool.or_eq_true, decide_eq_true_eq] at h1
  rcases h1 with h1 | h1
  · exact h1
  · have h2 := List.all_eq_true.1 h1 i (List.mem_range.2 hi)
    obtain ⟨o', ho', e, he, hb, hon⟩ := Region.waitsFor_spec h2
    obtain rfl : o' = oj := Option.some.inj (ho'.symm.trans hoj)
    have h3 := hall e he hb
    rw [hon, getD_both hun] at h3
    cases h3

theorem wpHT_first {i : Nat} {oi : Oper} {v : Value} (hp : phaseB md ops n = true) (hin : i < n) (hi : ops[i]? = some oi) (hsel : ∀ (j : Nat) (o : Oper) cs b, ops[j]? = some o → o.op ≠ .select cs b)
    (hQ : ∀ c a d v w, Q (.panic c) (Act.put a d v) w → Q (.panic c) a w) :
    ∀ (f : Nat) (listed : Array Bool) (a : Act) (w : World),
      (∀ j oj, ops[j]? = some oj → j ≠ i → listed.getD j true = false → (∀ e ∈ oj.after, Region.binds md e = true → e.on ≠ i) → oi.apart ops oj = true) →
      i ∈ Region.ready md ops listed → YieldsIf P ops S oi v a → S w →
      wpHT P md ops Q S n f (listed.setIfInBounds i true) (a.put oi.dst v) w → wpHT P md ops Q S n (f + 1) listed a w := by
  intro f
  induction f with
  | zero =>
    intro listed a w _ hr hy hS H
    refine ⟨fun h => (by rw [h] at hr; cases hr), fun j hj => ?_⟩
    by_cases hji : j = i
    · subst hji; exact hy.wpOp hi hS ⟨fun _ => hS, H⟩
    · have := ready_mono hj hji
      rw [H.1] at this
      cases this
  | succ f ih =>
    intro listed a w hfree hr hy hS H
    have hun := (mem_ready.1 hr).1
    refine ⟨fun h => (by rw [h] at hr; cases hr), fun j hj => ?_⟩
    have hjn := phase_lt hp hin hun hj
    by_cases hji : j = i
    · subst hji; exact hy.wpOp hi hS ⟨fun _ => hS, H⟩
    · have h1 := H.2 j (ready_mono hj hji)
      obtain ⟨hjun, oj, hoj, hall⟩ := mem_ready.1 hj
      have hnot : ∀ e ∈ oj.after, Region.binds md e = true → e.on ≠ i := fun e he hb heq => by
        have h3 := hall e he hb
        rw [heq, getD_both hun] at h3
        cases h3
      have h2 := wpOp_putIf hoj (hfree j oj hoj hji hjun hnot) (fun cs b => hsel i oi cs b hi) (fun cs b => hsel j oj cs b hoj) (fun c a w => hQ c a _ _ w) hy h1
      refine wpOp_mono (fun a' w' h3 => ⟨h3.2.1, ih (listed.setIfInBounds j true) a' w' ?_ (ready_mono hr (Ne.symm hji)) h3.1 (h3.2.1 hjn) ?_⟩) h2
      · intro q oq hq hqi hqun hno
        refine hfree q oq hq hqi ?_ hno
        by_cases hjq : j = q
        · subst hjq; exact hjun
        · rw [getD_set_ne true hjq] at hqun; exact hqun
      · rw [Array.setIfInBounds_comm _ _ hji]
        exact h3.2.2

/-- The reading operations, one behind the other: each yields one value in every world that meets S. -/
def wpSoft (P : Program) (ops : Array Oper) (S : World → Prop) (L : Act → Prop) : List Oper → Act → Prop
  | [], a => L a
  | o :: l, a => ∃ v, YieldsIf P ops S o v a ∧ wpSoft P ops S L l (a.put o.dst v)

theorem wpSoft_step {L : Act → Prop} {o : Oper} {l : List Oper} {a : Act} (v : Value) (hg : o.guard = none) (h : ∀ w, S w → (execOp a.eval o).run P w = .ok (.value v) w) (h2 : wpSoft P ops S L l (a.put o.dst v)) : wpSoft P ops S L (o :: l) a :=
  ⟨v, .inl ⟨by simp [Region.wanted, hg], h⟩, h2⟩

theorem wpSoft_nil {L : Act → Prop} {a : Act} (h : L a) : wpSoft P ops S L [] a := h

def softsB (md : Region.Mode) (ops : Array Oper) (n : Nat) : List Nat → Array Bool → Bool
  | [], _ => true
  | i :: r, listed => decide (i < n) && Region.free md ops listed i && (Region.ready md ops listed).contains i && softsB md ops n r (listed.setIfInBounds i true)

def marked : List Nat → Array Bool → Array Bool
  | [], listed => listed
  | i :: r, listed => marked r (listed.setIfInBounds i true)

theorem wpHT_softs (hp : phaseB md ops n = true) (hsel : Region.noSelect ops = true) (hQ : ∀ c a d v w, Q (.panic c) (Act.put a d v) w → Q (.panic c) a w) :
    ∀ (softs : List Nat) (sops : List Oper) (f : Nat) (listed : Array Bool) (a : Act) (w : World), (softs.map fun i => ops[i]?) = sops.map some → softsB md ops n softs listed = true → S w →
      wpSoft P ops S (fun a' => wpHT P md ops Q S n f (marked softs listed) a' w) sops a → wpHT P md ops Q S n (f + softs.length) listed a w
  | [], [], f, listed, a, w, _, _, _, h => h
  | [], _ :: _, _, _, _, _, he, _, _, _ => by simp at he
  | _ :: _, [], _, _, _, _, he, _, _, _ => by simp at he
  | i :: softs, o :: sops, f, listed, a, w, he, hB, hS, ⟨v, hy, h⟩ => by
    simp only [List.map_cons, List.cons.injEq] at he
    simp only [softsB, Bool.and_eq_true, decide_eq_true_eq] at hB
    obtain ⟨⟨⟨h1, h2⟩, h3⟩, h4⟩ := hB
    exact wpHT_first hp h1 he.1 (Region.noSelect_spec hsel) hQ (f + softs.length) listed a w (Region.free_spec he.1 h2) (by simpa using h3) hy hS
      (wpHT_softs hp hsel hQ softs sops f _ _ w he.2 h4 hS h)

/-- The acting operations in their forced order, S anew behind each; then the rest of the region. -/
def wpHards (P : Program) (ops : Array Oper) (Q : Exit → Act → World → Prop) (S : World → Prop) (tail : List Oper) : List Oper → Act → World → Prop
  | [], a, w => wpList P ops Q tail a w
  | o :: l, a, w => o.wp P a w (fun a' w' => S w' ∧ wpHards P ops Q S tail l a' w') Q

theorem wpHards_step {tail l : List Oper} {o : Oper} {a : Act} {w : World} (h : ∀ K : Act → World → Prop, (∀ a' w', S w' → wpHards P ops Q S tail l a' w' → K a' w') → o.wp P a w K Q) : wpHards P ops Q S tail (o :: l) a w :=
  h _ fun _ _ h1 h2 => ⟨h1, h2⟩

def hardsB (md : Region.Mode) (ops : Array Oper) (n : Nat) : List Nat → Array Bool → Bool
  | [], listed => Region.seqB md ops (ops.size - n) n listed
  | i :: r, listed => decide (Region.ready md ops listed = [i]) && ((ops[i]?).any fun o => o.guard.isNone) && hardsB md ops n r (listed.setIfInBounds i true)

theorem wpHT_tail {tail : List Oper} : ∀ (l : List Oper) (k : Nat) (listed : Array Bool) (a : Act) (w : World), (∀ j, l[j]? = ops[k + j]?) → n ≤ k →
    Region.seqB md ops l.length k listed = true → wpList P ops Q l a w → wpHT P md ops Q S n l.length listed a w
  | [], _, _, _, _, _, _, hB, h => ⟨by simpa [Region.seqB] using hB, h⟩
  | o :: l, k, listed, a, w, hl, hk, hB, h => by
    have h0 : ops[k]? = some o := by simpa using (hl 0).symm
    simp only [List.length_cons, Region.seqB, Bool.and_eq_true, decide_eq_true_eq] at hB
    refine ⟨fun h1 => (by rw [hB.1] at h1; cases h1), fun i hi => ?_⟩
    rw [hB.1] at hi
    obtain rfl : i = k := by simpa using hi
    have hw : wpOp P ops Q i (wpList P ops Q l) a w := by unfold wpOp; simp only [h0]; exact h
    exact wpOp_mono (fun a' w' h' => ⟨fun hx => absurd hx (by omega), wpHT_tail (tail := tail) l (i + 1) _ a' w' (fun j => by have := hl (j + 1); simpa [Nat.add_assoc, Nat.add_comm 1 j] using this) (by omega) hB.2 h'⟩) hw

theorem wpHT_hards {l : List Oper} (hops : ops = l.toArray) (hn : n ≤ l.length) : ∀ (hards : List Nat) (hs : List Oper) (listed : Array Bool) (a : Act) (w : World), (hards.map fun i => ops[i]?) = hs.map some → hardsB md ops n hards listed = true →
    wpHards P ops Q S (l.drop n) hs a w → wpHT P md ops Q S n (l.length - n + hards.length) listed a w
  | [], [], listed, a, w, _, hB, h => by
    have hlen : (l.drop n).length = l.length - n := by simp
    have := wpHT_tail (tail := []) (S := S) (P := P) (Q := Q) (md := md) (n := n) (ops := ops) (l.drop n) n listed a w (fun j => by rw [hops]; simp) (Nat.le_refl _) (by rw [hlen]; subst hops; simpa [hardsB] using hB) h
    rw [hlen] at this
    exact this
  | [], _ :: _, _, _, _, he, _, _ => by simp at he
  | _ :: _, [], _, _, _, he, _, _ => by simp at he
  | i :: hards, o :: hs, listed, a, w, he, hB, h => by
    simp only [List.map_cons, List.cons.injEq] at he
    simp only [hardsB, Bool.and_eq_true, decide_eq_true_eq] at hB
    obtain ⟨⟨h1, h2⟩, h3⟩ := hB
    rw [he.1] at h2
    refine ⟨fun h0 => (by rw [h0] at h1; cases h1), fun j hj => ?_⟩
    rw [h1] at hj
    obtain rfl : j = i := by simpa using hj
    have hg : o.guard = none := by simpa using h2
    unfold wpOp
    simp only [he.1, Region.wanted, hg, if_true]
    exact .inl (Oper.wp_mono (fun a' w' h' => ⟨fun _ => h'.1, wpHT_hards hops hn hards hs _ a' w' he.2 h3 h'.2⟩) h)

def pickOps (l : List Oper) (is : List Nat) : List Oper := is.filterMap fun i => l[i]?

/-- THE REGION: the reading operations 'softs' first, then 'hards', then all from n on. -/
theorem wp_region_soft {id : Nat} {a : Act} {w : World} {l : List Oper} (S : World → Prop) (n : Nat) (softs hards : List Nat) (hm : P.follows .mixedOrders = true)
    (hB : (phaseB .any l.toArray n && Region.noSelect l.toArray && decide (n ≤ l.length) && decide (softs.length + hards.length = n) && softsB .any l.toArray n softs (Array.replicate l.length false) && hardsB .any l.toArray n hards (marked softs (Array.replicate l.length false))) = true)
    (hQ0 : ∀ c a d v w, Q (.panic c) (Act.put a (some d) v) w → Q (.panic c) a w) (hs : (softs.map fun i => l.toArray[i]?) = (pickOps l softs).map some) (hh : (hards.map fun i => l.toArray[i]?) = (pickOps l hards).map some)
    (hS : S w.drew) (h : wpSoft P l.toArray S (fun a' => wpHards P l.toArray Q S (l.drop n) (pickOps l hards) a' w.drew) (pickOps l softs) a) : (Code.region id l.toArray true).wp P Q a w := by
  simp only [Bool.and_eq_true, decide_eq_true_eq] at hB
  obtain ⟨⟨⟨⟨⟨h1, h2⟩, h3⟩, h4⟩, h5⟩, h6⟩ := hB
  have hQ : ∀ c a d v w, Q (.panic c) (Act.put a d v) w → Q (.panic c) a w := by
    intro c a d v w h
    cases d with
    | none => exact h
    | some d => exact hQ0 c a d v w h
  refine wp_region_any hm (wpAny_of_HT (S := S) (n := n) _ _ _ _ ?_)
  have hmono : ∀ (L L' : Act → Prop), (∀ a, L a → L' a) → ∀ (sl : List Oper) (a : Act), wpSoft P l.toArray S L sl a → wpSoft P l.toArray S L' sl a := by
    intro L L' hL sl
    induction sl with
    | nil => intro a h; exact hL a h
    | cons o sl ih => rintro a ⟨v, hy, h⟩; exact ⟨v, hy, ih _ h⟩
  have := wpHT_softs (P := P) (Q := Q) (S := S) (md := .any) (ops := l.toArray) h1 h2 hQ softs (pickOps l softs) (l.length - n + hards.length) (Array.replicate l.length false) a w.drew hs h5 hS
    (hmono _ _ (fun a' ha => wpHT_hards rfl h3 hards (pickOps l hards) _ a' w.drew hh h6 ha) (pickOps l softs) a h)
  rw [show l.length - n + hards.length + softs.length = l.toArray.size by simp; omega] at this
  simpa using this

end
end Go.Proofs.Ytojplcbkiogcpaa
