/- A region that draws its order and holds one call that acts: all that reads is taken first, then the call, then what reads its results, in any order. No program in sight. -/
import Derived.Test.YtojplcbkiogcpaaReg
namespace Go.Proofs.Ytojplcbkiogcpaa
set_option linter.unusedSimpArgs false
set_option linter.unusedVariables false

section
variable {P : Program} {ops : Array Oper} {Q : Exit → Act → World → Prop} {md : Region.Mode} {S : World → Prop} {n : Nat}

/-- Each operation behind n waits for one from n on. -/
def chain2B (md : Region.Mode) (ops : Array Oper) (n : Nat) : Bool :=
  (List.range ops.size).all fun t => decide (t ≤ n) || (List.range t).any fun s => decide (n ≤ s) && Region.waitsFor md ops t s

theorem tail_waits2 {listed : Array Bool} (hs : Region.sinkB md ops n = true) (hc : chain2B md ops n = true) (hn : n < ops.size) (inv : HeadInv md ops n listed) :
    ∀ (d i : Nat), n - i = d → i < n → listed.getD i true = false → ∀ t, n ≤ t → t ∉ Region.ready md ops listed := by
  intro d
  induction d using Nat.strongRecOn with
  | _ d ih =>
    intro i hd hi hun t ht hr
    obtain ⟨_, ot, hot, hall⟩ := mem_ready.1 hr
    have htlt : t < ops.size := (Array.getElem?_eq_some_iff.1 hot).1
    by_cases htn : t = n
    · subst htn
      have h1 := List.all_eq_true.1 hs i (List.mem_range.2 hi)
      obtain ⟨j, hj, hj2⟩ := List.any_eq_true.1 h1
      simp only [Bool.and_eq_true, decide_eq_true_eq] at hj2
      obtain ⟨oj, hoj, e, he, hb, hon⟩ := Region.waitsFor_spec hj2.2
      have hjle : j ≤ t := by have := List.mem_range.1 hj; omega
      by_cases hjt : j = t
      · subst hjt
        have : oj = ot := Option.some.inj (hoj.symm.trans hot)
        subst this
        have h2 := hall e he hb
        rw [hon, getD_both hun] at h2
        cases h2
      · cases hl : listed.getD j false with
        | true =>
          have h2 := inv.closed j oj hoj hl e he hb
          rw [hon, getD_both hun] at h2
          cases h2
        | false =>
          have hjs : j < listed.size := by rw [inv.size]; omega
          exact ih (t - j) (by omega) j rfl (by omega) (getD_in hjs hl) t (Nat.le_refl _) hr
    · have h1 := List.all_eq_true.1 hc t (List.mem_range.2 htlt)
      simp only [Bool.or_eq_true, decide_eq_true_eq] at h1
      rcases h1 with h1 | h1
      · omega
      · obtain ⟨s, hs1, hs2⟩ := List.any_eq_true.1 h1
        simp only [Bool.and_eq_true, decide_eq_true_eq] at hs2
        obtain ⟨o', ho', e, he, hb, hon⟩ := Region.waitsFor_spec hs2.2
        have : o' = ot := Option.some.inj (ho'.symm.trans hot)
        subst this
        have h2 := hall e he hb
        have := List.mem_range.1 hs1
        rw [hon, getD_both (inv.tail s hs2.1 (by omega))] at h2
        cases h2

theorem wpHT_firstC {i : Nat} {oi : Oper} {v : Value} (hs : Region.sinkB md ops n = true) (hc : chain2B md ops n = true) (hn : n < ops.size) (hin : i < n) (hi : ops[i]? = some oi) (hsel : ∀ (j : Nat) (o : Oper) cs b, ops[j]? = some o → o.op ≠ .select cs b)
    (hQ : ∀ c a d v w, Q (.panic c) (Act.put a d v) w → Q (.panic c) a w) :
    ∀ (f : Nat) (listed : Array Bool) (a : Act) (w : World), HeadInv md ops n listed →
      (∀ j oj, ops[j]? = some oj → j ≠ i → listed.getD j true = false → (∀ e ∈ oj.after, Region.binds md e = true → e.on ≠ i) → oi.apart ops oj = true) →
      i ∈ Region.ready md ops listed → YieldsIf P ops S oi v a → S w →
      wpHT P md ops Q S n f (listed.setIfInBounds i true) (a.put oi.dst v) w → wpHT P md ops Q S n (f + 1) listed a w := by
  intro f
  induction f with
  | zero =>
    intro listed a w _ _ hr hy hS H
    refine ⟨fun h => (by rw [h] at hr; cases hr), fun j hj => ?_⟩
    by_cases hji : j = i
    · subst hji; exact hy.wpOp hi hS ⟨fun _ => hS, H⟩
    · have := ready_mono hj hji
      rw [H.1] at this
      cases this
  | succ f ih =>
    intro listed a w inv hfree hr hy hS H
    have hun := (mem_ready.1 hr).1
    refine ⟨fun h => (by rw [h] at hr; cases hr), fun j hj => ?_⟩
    have hjn : j < n := by
      rcases Nat.lt_or_ge j n with h | h
      · exact h
      · exact absurd hj (tail_waits2 hs hc hn inv _ i rfl hin hun j h)
    by_cases hji : j = i
    · subst hji; exact hy.wpOp hi hS ⟨fun _ => hS, H⟩
    · have h1 := H.2 j (ready_mono hj hji)
      obtain ⟨hjun, oj, hoj, hall⟩ := mem_ready.1 hj
      have hnot : ∀ e ∈ oj.after, Region.binds md e = true → e.on ≠ i := fun e he hb heq => by
        have h3 := hall e he hb
        rw [heq, getD_both hun] at h3
        cases h3
      have h2 := wpOp_putIf hoj (hfree j oj hoj hji hjun hnot) (fun cs b => hsel i oi cs b hi) (fun cs b => hsel j oj cs b hoj) (fun c a w => hQ c a _ _ w) hy h1
      refine wpOp_mono (fun a' w' h3 => ⟨h3.2.1, ih (listed.setIfInBounds j true) a' w' (inv.set hj hjn) ?_ (ready_mono hr (Ne.symm hji)) h3.1 (h3.2.1 hjn) ?_⟩) h2
      · intro q oq hq hqi hqun hno
        refine hfree q oq hq hqi ?_ hno
        by_cases hjq : j = q
        · subst hjq; exact hjun
        · rw [getD_set_ne true hjq] at hqun; exact hqun
      · rw [Array.setIfInBounds_comm _ _ hji]
        exact h3.2.2

theorem wpHT_softsC (hs : Region.sinkB md ops n = true) (hc : chain2B md ops n = true) (hn : n < ops.size) (hsel : Region.noSelect ops = true) (hQ : ∀ c a d v w, Q (.panic c) (Act.put a d v) w → Q (.panic c) a w) :
    ∀ (softs : List Nat) (sops : List Oper) (f : Nat) (listed : Array Bool) (a : Act) (w : World), HeadInv md ops n listed → (softs.map fun i => ops[i]?) = sops.map some → softsB md ops n softs listed = true → S w →
      wpSoft P ops S (fun a' => wpHT P md ops Q S n f (marked softs listed) a' w) sops a → wpHT P md ops Q S n (f + softs.length) listed a w
  | [], [], f, listed, a, w, _, _, _, _, h => h
  | [], _ :: _, _, _, _, _, _, he, _, _, _ => by simp at he
  | _ :: _, [], _, _, _, _, _, he, _, _, _ => by simp at he
  | i :: softs, o :: sops, f, listed, a, w, inv, he, hB, hS, ⟨v, hy, h⟩ => by
    simp only [List.map_cons, List.cons.injEq] at he
    simp only [softsB, Bool.and_eq_true, decide_eq_true_eq] at hB
    obtain ⟨⟨⟨h1, h2⟩, h3⟩, h4⟩ := hB
    exact wpHT_firstC hs hc hn h1 he.1 (Region.noSelect_spec hsel) hQ (f + softs.length) listed a w inv (Region.free_spec he.1 h2) (by simpa using h3) hy hS
      (wpHT_softsC hs hc hn hsel hQ softs sops f _ _ w (inv.set (by simpa using h3) h1) he.2 h4 hS h)

/-- All ahead of n is done: nothing is asked any more. -/
theorem wpHT_over {S' : World → Prop} {n' : Nat} : ∀ (f : Nat) (listed : Array Bool) (a : Act) (w : World), (∀ i, i < n → listed.getD i false = true) → wpHT P md ops Q S' n' f listed a w → wpHT P md ops Q S n f listed a w
  | 0, _, _, _, _, h => h
  | f + 1, listed, a, w, hl, h => by
    refine ⟨h.1, fun j hj => ?_⟩
    have hjun := (mem_ready.1 hj).1
    have hjn : n ≤ j := by
      rcases Nat.lt_or_ge j n with c | c
      · have := hl j c
        rw [getD_both hjun] at this; cases this
      · exact c
    refine wpOp_mono (fun a' w' h3 => ⟨fun c => absurd c (by omega), wpHT_over f _ a' w' (fun i hi => ?_) h3.2⟩) (h.2 j hj)
    rw [getD_set_ne false (by omega)]
    exact hl i hi

/-- THE REGION: the reading operations 'softs' first, then the call n, then the rest, which read no memory. -/
theorem wp_region_call {id : Nat} {a : Act} {w : World} {l : List Oper} (S : World → Prop) (n : Nat) (softs : List Nat) (oc : Oper) (rest : List Nat) (hm : P.follows .mixedOrders = true)
    (hB : (Region.sinkB .any l.toArray n && chain2B .any l.toArray n && Region.noSelect l.toArray && decide (n < l.length) && decide (softs.length = n) && decide (n + 1 + rest.length = l.length) && softsB .any l.toArray n softs (Array.replicate l.length false) &&
      decide (Region.ready .any l.toArray (marked softs (Array.replicate l.length false)) = [n]) && oc.guard.isNone && softsB .any l.toArray l.length rest ((marked softs (Array.replicate l.length false)).setIfInBounds n true) &&
      decide (Region.ready .any l.toArray (marked rest ((marked softs (Array.replicate l.length false)).setIfInBounds n true)) = []) &&
      (List.range n).all fun i => ((marked softs (Array.replicate l.length false)).setIfInBounds n true).getD i false) = true)
    (hQ0 : ∀ c a d v w, Q (.panic c) (Act.put a (some d) v) w → Q (.panic c) a w) (hs : (softs.map fun i => l.toArray[i]?) = (pickOps l softs).map some) (hh0 : l[n]? = some oc)
    (hr : (rest.map fun i => l.toArray[i]?) = (pickOps l rest).map some)
    (hS : S w.drew) (h : wpSoft P l.toArray S (fun a' => oc.wp P a' w.drew (fun a2 w2 => wpSoft P l.toArray (fun _ => True) (fun a3 => Q .normal a3 w2) (pickOps l rest) a2) Q) (pickOps l softs) a) : (Code.region id l.toArray true).wp P Q a w := by
  simp only [Bool.and_eq_true, decide_eq_true_eq] at hB
  obtain ⟨⟨⟨⟨⟨⟨⟨⟨⟨⟨⟨h1, h2⟩, h3⟩, h4⟩, h5⟩, h6⟩, h7⟩, h8⟩, h9⟩, h10⟩, h11⟩, h12⟩ := hB
  have hQ : ∀ c a d v w, Q (.panic c) (Act.put a d v) w → Q (.panic c) a w := by
    intro c a d v w h
    cases d with
    | none => exact h
    | some d => exact hQ0 c a d v w h
  have hh : l.toArray[n]? = some oc := by simpa using hh0
  have hg : oc.guard = none := by simpa using h9
  have hn : n < l.toArray.size := by simpa using h4
  refine wp_region_any hm (wpAny_of_HT (S := S) (n := n) _ _ _ _ ?_)
  have hmono : ∀ (S : World → Prop) (L L' : Act → Prop), (∀ a, L a → L' a) → ∀ (sl : List Oper) (a : Act), wpSoft P l.toArray S L sl a → wpSoft P l.toArray S L' sl a := by
    intro S L L' hL sl
    induction sl with
    | nil => intro a h; exact hL a h
    | cons o sl ih => rintro a ⟨v, hy, h⟩; exact ⟨v, hy, ih _ h⟩
  have hrest : ∀ a w, wpSoft P l.toArray (fun _ => True) (fun a3 => Q .normal a3 w) (pickOps l rest) a →
      wpHT P .any l.toArray Q (fun _ => True) l.length (0 + rest.length) ((marked softs (Array.replicate l.length false)).setIfInBounds n true) a w := by
    intro a w hw
    have hp : phaseB .any l.toArray l.length = true := by
      unfold phaseB
      refine List.all_eq_true.2 fun t ht => ?_
      have := List.mem_range.1 ht
      simp only [List.size_toArray] at this
      simp [this]
    exact wpHT_softs (P := P) (Q := Q) (S := fun _ => True) (md := .any) (ops := l.toArray) hp h3 hQ rest (pickOps l rest) 0 _ a w hr h10 trivial (hmono _ _ _ (fun a' ha => ⟨h11, ha⟩) _ _ hw)
  have hcall : ∀ a w, oc.wp P a w (fun a2 w2 => wpSoft P l.toArray (fun _ => True) (fun a3 => Q .normal a3 w2) (pickOps l rest) a2) Q →
      wpHT P .any l.toArray Q S n (0 + rest.length + 1) (marked softs (Array.replicate l.length false)) a w := by
    intro a w hw
    refine ⟨fun h0 => (by rw [h0] at h8; cases h8), fun j hj => ?_⟩
    rw [h8] at hj
    obtain rfl : j = n := by simpa using hj
    unfold wpOp
    simp only [hh, Region.wanted, hg, if_true]
    refine .inl (Oper.wp_mono (fun a' w' h' => ⟨fun hx => absurd hx (by omega), ?_⟩) hw)
    exact wpHT_over _ _ _ _ (fun i hi => by simpa using List.all_eq_true.1 h12 i (List.mem_range.2 hi)) (hrest a' w' h')
  have inv : HeadInv .any l.toArray n (Array.replicate l.length false) := by
    refine ⟨by simp, fun j oj _ hl => ?_, fun t _ ht => ?_⟩
    · rw [getD_replicate_false] at hl; cases hl
    · simp only [List.size_toArray] at ht
      simp [ht]
  have := wpHT_softsC (P := P) (Q := Q) (S := S) (md := .any) (ops := l.toArray) h1 h2 hn h3 hQ softs (pickOps l softs) (0 + rest.length + 1) (Array.replicate l.length false) a w.drew inv hs h7 hS
    (hmono _ _ _ (fun a' ha => hcall a' w.drew ha) (pickOps l softs) a h)
  rw [show 0 + rest.length + 1 + softs.length = l.toArray.size by simp; omega] at this
  simpa using this

theorem wpSoft_guard {L : Act → Prop} {o : Oper} {l : List Oper} {a : Act} (v : Value) (hg : Region.wanted o (yielded ops a.tmps) = true) (h : ∀ w, S w → (execOp a.eval o).run P w = .ok (.value v) w) (h2 : wpSoft P ops S L l (a.put o.dst v)) : wpSoft P ops S L (o :: l) a :=
  ⟨v, .inl ⟨hg, h⟩, h2⟩

theorem wpSoft_skip {L : Act → Prop} {o : Oper} {l : List Oper} {a : Act} (hg : Region.wanted o (yielded ops a.tmps) = false) (h2 : wpSoft P ops S L l (a.put o.dst undef)) : wpSoft P ops S L (o :: l) a :=
  ⟨undef, .inr ⟨hg, rfl⟩, h2⟩

/-- THE REGION, where operations bear guards: the reading operations 'softs' first, then the call n (if it is wanted), then the rest. -/
theorem wp_region_callg {id : Nat} {a : Act} {w : World} {l : List Oper} (S : World → Prop) (n : Nat) (softs : List Nat) (oc : Oper) (rest : List Nat) (hm : P.follows .mixedOrders = true)
    (hB : (Region.sinkB .any l.toArray n && chain2B .any l.toArray n && Region.noSelect l.toArray && decide (n < l.length) && decide (softs.length = n) && decide (n + 1 + rest.length = l.length) && softsB .any l.toArray n softs (Array.replicate l.length false) &&
      decide (Region.ready .any l.toArray (marked softs (Array.replicate l.length false)) = [n]) && softsB .any l.toArray l.length rest ((marked softs (Array.replicate l.length false)).setIfInBounds n true) &&
      decide (Region.ready .any l.toArray (marked rest ((marked softs (Array.replicate l.length false)).setIfInBounds n true)) = []) &&
      (List.range n).all fun i => ((marked softs (Array.replicate l.length false)).setIfInBounds n true).getD i false) = true)
    (hQ0 : ∀ c a d v w, Q (.panic c) (Act.put a (some d) v) w → Q (.panic c) a w) (hs : (softs.map fun i => l.toArray[i]?) = (pickOps l softs).map some) (hh0 : l[n]? = some oc)
    (hr : (rest.map fun i => l.toArray[i]?) = (pickOps l rest).map some)
    (hS : S w.drew) (h : wpSoft P l.toArray S (fun a' =>
      (Region.wanted oc (yielded l.toArray a'.tmps) = true ∧ oc.wp P a' w.drew (fun a2 w2 => wpSoft P l.toArray (fun _ => True) (fun a3 => Q .normal a3 w2) (pickOps l rest) a2) Q) ∨
      (Region.wanted oc (yielded l.toArray a'.tmps) = false ∧ wpSoft P l.toArray (fun _ => True) (fun a3 => Q .normal a3 w.drew) (pickOps l rest) (a'.put oc.dst undef))) (pickOps l softs) a) : (Code.region id l.toArray true).wp P Q a w := by
  simp only [Bool.and_eq_true, decide_eq_true_eq] at hB
  obtain ⟨⟨⟨⟨⟨⟨⟨⟨⟨⟨h1, h2⟩, h3⟩, h4⟩, h5⟩, h6⟩, h7⟩, h8⟩, h10⟩, h11⟩, h12⟩ := hB
  have hQ : ∀ c a d v w, Q (.panic c) (Act.put a d v) w → Q (.panic c) a w := by
    intro c a d v w h
    cases d with
    | none => exact h
    | some d => exact hQ0 c a d v w h
  have hh : l.toArray[n]? = some oc := by simpa using hh0
  have hn : n < l.toArray.size := by simpa using h4
  refine wp_region_any hm (wpAny_of_HT (S := S) (n := n) _ _ _ _ ?_)
  have hmono : ∀ (S : World → Prop) (L L' : Act → Prop), (∀ a, L a → L' a) → ∀ (sl : List Oper) (a : Act), wpSoft P l.toArray S L sl a → wpSoft P l.toArray S L' sl a := by
    intro S L L' hL sl
    induction sl with
    | nil => intro a h; exact hL a h
    | cons o sl ih => rintro a ⟨v, hy, h⟩; exact ⟨v, hy, ih _ h⟩
  have hrest : ∀ a w, wpSoft P l.toArray (fun _ => True) (fun a3 => Q .normal a3 w) (pickOps l rest) a →
      wpHT P .any l.toArray Q (fun _ => True) l.length (0 + rest.length) ((marked softs (Array.replicate l.length false)).setIfInBounds n true) a w := by
    intro a w hw
    have hp : phaseB .any l.toArray l.length = true := by
      unfold phaseB
      refine List.all_eq_true.2 fun t ht => ?_
      have := List.mem_range.1 ht
      simp only [List.size_toArray] at this
      simp [this]
    exact wpHT_softs (P := P) (Q := Q) (S := fun _ => True) (md := .any) (ops := l.toArray) hp h3 hQ rest (pickOps l rest) 0 _ a w hr h10 trivial (hmono _ _ _ (fun a' ha => ⟨h11, ha⟩) _ _ hw)
  have hover : ∀ a w, wpSoft P l.toArray (fun _ => True) (fun a3 => Q .normal a3 w) (pickOps l rest) a → wpHT P .any l.toArray Q S n (0 + rest.length) ((marked softs (Array.replicate l.length false)).setIfInBounds n true) a w :=
    fun a w hw => wpHT_over _ _ _ _ (fun i hi => by simpa using List.all_eq_true.1 h12 i (List.mem_range.2 hi)) (hrest a w hw)
  have hcall : ∀ a w, ((Region.wanted oc (yielded l.toArray a.tmps) = true ∧ oc.wp P a w (fun a2 w2 => wpSoft P l.toArray (fun _ => True) (fun a3 => Q .normal a3 w2) (pickOps l rest) a2) Q) ∨
      (Region.wanted oc (yielded l.toArray a.tmps) = false ∧ wpSoft P l.toArray (fun _ => True) (fun a3 => Q .normal a3 w) (pickOps l rest) (a.put oc.dst undef))) →
      wpHT P .any l.toArray Q S n (0 + rest.length + 1) (marked softs (Array.replicate l.length false)) a w := by
    intro a w hw
    refine ⟨fun h0 => (by rw [h0] at h8; cases h8), fun j hj => ?_⟩
    rw [h8] at hj
    obtain rfl : j = n := by simpa using hj
    unfold wpOp
    rcases hw with ⟨hg, hw⟩ | ⟨hg, hw⟩
    · simp only [hh, hg, if_true]
      exact .inl (Oper.wp_mono (fun a' w' h' => ⟨fun hx => absurd hx (by omega), hover a' w' h'⟩) hw)
    · simp only [hh, hg, Bool.false_eq_true, if_false]
      exact ⟨fun hx => absurd hx (by omega), hover _ w hw⟩
  have inv : HeadInv .any l.toArray n (Array.replicate l.length false) := by
    refine ⟨by simp, fun j oj _ hl => ?_, fun t _ ht => ?_⟩
    · rw [getD_replicate_false] at hl; cases hl
    · simp only [List.size_toArray] at ht
      simp [ht]
  have := wpHT_softsC (P := P) (Q := Q) (S := S) (md := .any) (ops := l.toArray) h1 h2 hn h3 hQ softs (pickOps l softs) (0 + rest.length + 1) (Array.replicate l.length false) a w.drew inv hs h7 hS
    (hmono _ _ _ (fun a' ha => hcall a' w.drew ha) (pickOps l softs) a h)
  rw [show 0 + rest.length + 1 + softs.length = l.toArray.size by simp; omega] at this
  simpa using this

/-- THE REGION, where the call keeps S: the reading operations 'softs' first, then the call nc (if it is wanted), then the rest. -/
theorem wp_region_keepg {id : Nat} {a : Act} {w : World} {l : List Oper} (S : World → Prop) (nc : Nat) (softs : List Nat) (oc : Oper) (rest : List Nat) (hm : P.follows .mixedOrders = true)
    (hB : (Region.noSelect l.toArray && decide (softs.length + 1 + rest.length = l.length) && softsB .any l.toArray l.length softs (Array.replicate l.length false) &&
      decide (Region.ready .any l.toArray (marked softs (Array.replicate l.length false)) = [nc]) && softsB .any l.toArray l.length rest ((marked softs (Array.replicate l.length false)).setIfInBounds nc true) &&
      decide (Region.ready .any l.toArray (marked rest ((marked softs (Array.replicate l.length false)).setIfInBounds nc true)) = [])) = true)
    (hQ0 : ∀ c a d v w, Q (.panic c) (Act.put a (some d) v) w → Q (.panic c) a w) (hs : (softs.map fun i => l.toArray[i]?) = (pickOps l softs).map some) (hh0 : l[nc]? = some oc)
    (hr : (rest.map fun i => l.toArray[i]?) = (pickOps l rest).map some)
    (hS : S w.drew) (h : wpSoft P l.toArray S (fun a' =>
      (Region.wanted oc (yielded l.toArray a'.tmps) = true ∧ oc.wp P a' w.drew (fun a2 w2 => S w2 ∧ wpSoft P l.toArray S (fun a3 => Q .normal a3 w2) (pickOps l rest) a2) Q) ∨
      (Region.wanted oc (yielded l.toArray a'.tmps) = false ∧ wpSoft P l.toArray S (fun a3 => Q .normal a3 w.drew) (pickOps l rest) (a'.put oc.dst undef))) (pickOps l softs) a) : (Code.region id l.toArray true).wp P Q a w := by
  simp only [Bool.and_eq_true, decide_eq_true_eq] at hB
  obtain ⟨⟨⟨⟨⟨h3, h6⟩, h7⟩, h8⟩, h10⟩, h11⟩ := hB
  have hQ : ∀ c a d v w, Q (.panic c) (Act.put a d v) w → Q (.panic c) a w := by
    intro c a d v w h
    cases d with
    | none => exact h
    | some d => exact hQ0 c a d v w h
  have hh : l.toArray[nc]? = some oc := by simpa using hh0
  have hp : phaseB .any l.toArray l.length = true := by
    unfold phaseB
    refine List.all_eq_true.2 fun t ht => ?_
    have := List.mem_range.1 ht
    simp only [List.size_toArray] at this
    simp [this]
  refine wp_region_any hm (wpAny_of_HT (S := S) (n := l.length) _ _ _ _ ?_)
  have hmono : ∀ (S : World → Prop) (L L' : Act → Prop), (∀ a, L a → L' a) → ∀ (sl : List Oper) (a : Act), wpSoft P l.toArray S L sl a → wpSoft P l.toArray S L' sl a := by
    intro S L L' hL sl
    induction sl with
    | nil => intro a h; exact hL a h
    | cons o sl ih => rintro a ⟨v, hy, h⟩; exact ⟨v, hy, ih _ h⟩
  have hrest : ∀ a w, S w → wpSoft P l.toArray S (fun a3 => Q .normal a3 w) (pickOps l rest) a →
      wpHT P .any l.toArray Q S l.length (0 + rest.length) ((marked softs (Array.replicate l.length false)).setIfInBounds nc true) a w := by
    intro a w hSw hw
    exact wpHT_softs (P := P) (Q := Q) (S := S) (md := .any) (ops := l.toArray) hp h3 hQ rest (pickOps l rest) 0 _ a w hr h10 hSw (hmono _ _ _ (fun a' ha => ⟨h11, ha⟩) _ _ hw)
  have hcall : ∀ a, ((Region.wanted oc (yielded l.toArray a.tmps) = true ∧ oc.wp P a w.drew (fun a2 w2 => S w2 ∧ wpSoft P l.toArray S (fun a3 => Q .normal a3 w2) (pickOps l rest) a2) Q) ∨
      (Region.wanted oc (yielded l.toArray a.tmps) = false ∧ wpSoft P l.toArray S (fun a3 => Q .normal a3 w.drew) (pickOps l rest) (a.put oc.dst undef))) →
      wpHT P .any l.toArray Q S l.length (0 + rest.length + 1) (marked softs (Array.replicate l.length false)) a w.drew := by
    intro a hw
    refine ⟨fun h0 => (by rw [h0] at h8; cases h8), fun j hj => ?_⟩
    rw [h8] at hj
    obtain rfl : j = nc := by simpa using hj
    unfold wpOp
    rcases hw with ⟨hg, hw⟩ | ⟨hg, hw⟩
    · simp only [hh, hg, if_true]
      exact .inl (Oper.wp_mono (fun a' w' h' => ⟨fun _ => h'.1, hrest a' w' h'.1 h'.2⟩) hw)
    · simp only [hh, hg, Bool.false_eq_true, if_false]
      exact ⟨fun _ => hS, hrest _ _ hS hw⟩
  have := wpHT_softs (P := P) (Q := Q) (S := S) (md := .any) (ops := l.toArray) hp h3 hQ softs (pickOps l softs) (0 + rest.length + 1) (Array.replicate l.length false) a w.drew hs h7 hS
    (hmono _ _ _ (fun a' ha => hcall a' ha) (pickOps l softs) a h)
  rw [show 0 + rest.length + 1 + softs.length = l.toArray.size by simp; omega] at this
  simpa using this

theorem wp_hide {o : Oper} {a : Act} {w : World} {K0 : Act → World → Prop} (h : ∀ K : Act → World → Prop, (∀ a w, K0 a w → K a w) → o.wp P a w K Q) : o.wp P a w K0 Q := h _ (fun _ _ h => h)

end
end Go.Proofs.Ytojplcbkiogcpaa
