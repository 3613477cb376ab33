/- A region that draws its order, in which all that reads comes ahead of one operation that acts, but for a few that read no memory: these are taken first. No program in sight. -/
import Derived.Test.YtjggkpmlffhjgaaA2
namespace Go.Proofs.Ytjggkpmlffhjgaa
set_option linter.unusedSimpArgs false
set_option linter.unusedVariables false

section
variable {P : Program} {ops : Array Oper} {Q : Exit → Act → World → Prop} {md : Region.Mode} {S : World → Prop} {n : Nat}

/-- Each ahead of n, but those of pure, is waited for by one behind it, up to n. -/
def sinkPB (md : Region.Mode) (ops : Array Oper) (n : Nat) (pure : List Nat) : Bool :=
  (List.range n).all fun i => pure.contains i || (List.range (n + 1)).any fun j => decide (i < j) && Region.waitsFor md ops j i

theorem tail_waitsP {pure : List Nat} {listed : Array Bool} (hs : sinkPB md ops n pure = true) (hc : chain2B md ops n = true) (hn : n < ops.size) (hpl : ∀ i ∈ pure, listed.getD i true = true) (inv : HeadInv md ops n listed) :
    ∀ (d i : Nat), n - i = d → i < n → listed.getD i true = false → ∀ t, n ≤ t → t ∉ Region.ready md ops listed := by
  intro d
  induction d using Nat.strongRecOn with
  | _ d ih =>
    intro i hd hi hun t ht hr
    obtain ⟨_, ot, hot, hall⟩ := mem_ready.1 hr
    have htlt : t < ops.size := (Array.getElem?_eq_some_iff.1 hot).1
    by_cases htn : t = n
    · subst htn
      have h1 := List.all_eq_true.1 hs i (List.mem_range.2 hi)
      simp only [Bool.or_eq_true] at h1
      rcases h1 with h1 | h1
      · have := hpl i (by simpa using h1)
        rw [hun] at this; cases this
      obtain ⟨j, hj, hj2⟩ := List.any_eq_true.1 h1
      simp only [Bool.and_eq_true, decide_eq_true_eq] at hj2
      obtain ⟨oj, hoj, e, he, hb, hon⟩ := Region.waitsFor_spec hj2.2
      have hjle : j ≤ t := by have := List.mem_range.1 hj; omega
      by_cases hjt : j = t
      · subst hjt
        have : oj = ot := Option.some.inj (hoj.symm.trans hot)
        subst this
        have h2 := hall e he hb
        rw [hon, getD_both hun] at h2
        cases h2
      · cases hl : listed.getD j false with
        | true =>
          have h2 := inv.closed j oj hoj hl e he hb
          rw [hon, getD_both hun] at h2
          cases h2
        | false =>
          have hjs : j < listed.size := by rw [inv.size]; omega
          exact ih (t - j) (by omega) j rfl (by omega) (getD_in hjs hl) t (Nat.le_refl _) hr
    · have h1 := List.all_eq_true.1 hc t (List.mem_range.2 htlt)
      simp only [Bool.or_eq_true, decide_eq_true_eq] at h1
      rcases h1 with h1 | h1
      · omega
      · obtain ⟨s, hs1, hs2⟩ := List.any_eq_true.1 h1
        simp only [Bool.and_eq_true, decide_eq_true_eq] at hs2
        obtain ⟨o', ho', e, he, hb, hon⟩ := Region.waitsFor_spec hs2.2
        have : o' = ot := Option.some.inj (ho'.symm.trans hot)
        subst this
        have h2 := hall e he hb
        have := List.mem_range.1 hs1
        rw [hon, getD_both (inv.tail s hs2.1 (by omega))] at h2
        cases h2

theorem getD_set_tt {listed : Array Bool} {i q : Nat} (h : listed.getD q true = true) : (listed.setIfInBounds i true).getD q true = true := by
  by_cases hq : i = q
  · subst hq
    by_cases hi : i < listed.size
    · simp [hi]
    · simp [hi]
  · rw [getD_set_ne true hq]; exact h

theorem wpHT_firstP {pure : List Nat} {i : Nat} {oi : Oper} {v : Value} (hs : sinkPB md ops n pure = true) (hc : chain2B md ops n = true) (hn : n < ops.size) (hin : i < n) (hi : ops[i]? = some oi) (hsel : ∀ (j : Nat) (o : Oper) cs b, ops[j]? = some o → o.op ≠ .select cs b)
    (hQ : ∀ c a d v w, Q (.panic c) (Act.put a d v) w → Q (.panic c) a w) :
    ∀ (f : Nat) (listed : Array Bool) (a : Act) (w : World), (∀ i ∈ pure, listed.getD i true = true) → HeadInv md ops n listed →
      (∀ j oj, ops[j]? = some oj → j ≠ i → listed.getD j true = false → (∀ e ∈ oj.after, Region.binds md e = true → e.on ≠ i) → oi.apart ops oj = true) →
      i ∈ Region.ready md ops listed → YieldsIf P ops S oi v a → S w →
      wpHT P md ops Q S n f (listed.setIfInBounds i true) (a.put oi.dst v) w → wpHT P md ops Q S n (f + 1) listed a w := by
  intro f
  induction f with
  | zero =>
    intro listed a w _ _ _ hr hy hS H
    refine ⟨fun h => (by rw [h] at hr; cases hr), fun j hj => ?_⟩
    by_cases hji : j = i
    · subst hji; exact hy.wpOp hi hS ⟨fun _ => hS, H⟩
    · have := ready_mono hj hji
      rw [H.1] at this
      cases this
  | succ f ih =>
    intro listed a w hpl inv hfree hr hy hS H
    have hun := (mem_ready.1 hr).1
    refine ⟨fun h => (by rw [h] at hr; cases hr), fun j hj => ?_⟩
    have hjn : j < n := by
      rcases Nat.lt_or_ge j n with h | h
      · exact h
      · exact absurd hj (tail_waitsP hs hc hn hpl inv _ i rfl hin hun j h)
    by_cases hji : j = i
    · subst hji; exact hy.wpOp hi hS ⟨fun _ => hS, H⟩
    · have h1 := H.2 j (ready_mono hj hji)
      obtain ⟨hjun, oj, hoj, hall⟩ := mem_ready.1 hj
      have hnot : ∀ e ∈ oj.after, Region.binds md e = true → e.on ≠ i := fun e he hb heq => by
        have h3 := hall e he hb
        rw [heq, getD_both hun] at h3
        cases h3
      have h2 := wpOp_putIf hoj (hfree j oj hoj hji hjun hnot) (fun cs b => hsel i oi cs b hi) (fun cs b => hsel j oj cs b hoj) (fun c a w => hQ c a _ _ w) hy h1
      refine wpOp_mono (fun a' w' h3 => ⟨h3.2.1, ih (listed.setIfInBounds j true) a' w' (fun q hq => getD_set_tt (hpl q hq)) (inv.set hj hjn) ?_ (ready_mono hr (Ne.symm hji)) h3.1 (h3.2.1 hjn) ?_⟩) h2
      · intro q oq hq hqi hqun hno
        refine hfree q oq hq hqi ?_ hno
        by_cases hjq : j = q
        · subst hjq; exact hjun
        · rw [getD_set_ne true hjq] at hqun; exact hqun
      · rw [Array.setIfInBounds_comm _ _ hji]
        exact h3.2.2

theorem wpHT_softsP {pure : List Nat} (hs : sinkPB md ops n pure = true) (hc : chain2B md ops n = true) (hn : n < ops.size) (hsel : Region.noSelect ops = true) (hQ : ∀ c a d v w, Q (.panic c) (Act.put a d v) w → Q (.panic c) a w) :
    ∀ (softs : List Nat) (sops : List Oper) (f : Nat) (listed : Array Bool) (a : Act) (w : World), (∀ i ∈ pure, listed.getD i true = true) → HeadInv md ops n listed → (softs.map fun i => ops[i]?) = sops.map some → softsB md ops n softs listed = true → S w →
      wpSoft P ops S (fun a' => wpHT P md ops Q S n f (marked softs listed) a' w) sops a → wpHT P md ops Q S n (f + softs.length) listed a w
  | [], [], f, listed, a, w, _, _, _, _, _, h => h
  | [], _ :: _, _, _, _, _, _, _, he, _, _, _ => by simp at he
  | _ :: _, [], _, _, _, _, _, _, he, _, _, _ => by simp at he
  | i :: softs, o :: sops, f, listed, a, w, hpl, inv, he, hB, hS, ⟨v, hy, h⟩ => by
    simp only [List.map_cons, List.cons.injEq] at he
    simp only [softsB, Bool.and_eq_true, decide_eq_true_eq] at hB
    obtain ⟨⟨⟨h1, h2⟩, h3⟩, h4⟩ := hB
    exact wpHT_firstP hs hc hn h1 he.1 (Region.noSelect_spec hsel) hQ (f + softs.length) listed a w hpl inv (Region.free_spec he.1 h2) (by simpa using h3) hy hS
      (wpHT_softsP hs hc hn hsel hQ softs sops f _ _ w (fun q hq => getD_set_tt (hpl q hq)) (inv.set (by simpa using h3) h1) he.2 h4 hS h)

/-- What is asked behind the first n may be left away. -/
theorem wpHT_loose : ∀ (f : Nat) (listed : Array Bool) (a : Act) (w : World), wpHT P md ops Q S n f listed a w → wpHT P md ops Q (fun _ => True) ops.size f listed a w
  | 0, _, _, _, h => h
  | f + 1, _, _, _, h => ⟨h.1, fun j hj => wpOp_mono (fun a' w' h3 => ⟨fun _ => trivial, wpHT_loose f _ a' w' h3.2⟩) (h.2 j hj)⟩

theorem inv_marked : ∀ (softs : List Nat) (listed : Array Bool), HeadInv md ops n listed → softsB md ops n softs listed = true → HeadInv md ops n (marked softs listed)
  | [], _, inv, _ => inv
  | i :: softs, listed, inv, hB => by
    simp only [softsB, Bool.and_eq_true, decide_eq_true_eq] at hB
    obtain ⟨⟨⟨h1, h2⟩, h3⟩, h4⟩ := hB
    exact inv_marked softs _ (inv.set (by simpa using h3) h1) h4

/-- THE REGION: those of pure first (they read no memory), then the reading operations 'softs', then the operation n, then the rest by a script. -/
theorem wp_region_callp {id : Nat} {a : Act} {w : World} {l : List Oper} (S : World → Prop) (n : Nat) (pure softs : List Nat) (oc : Oper) (sc : List (Nat × Bool)) (hm : P.follows .mixedOrders = true)
    (hB : (sinkPB .any l.toArray n pure && chain2B .any l.toArray n && Region.noSelect l.toArray && decide (n < l.length) && decide (pure.length + softs.length = n) && decide (n + 1 + sc.length = l.length) && softsB .any l.toArray n pure (Array.replicate l.length false) && softsB .any l.toArray n softs (marked pure (Array.replicate l.length false)) &&
      softsB .any l.toArray l.length pure (Array.replicate l.length false) && decide (Region.ready .any l.toArray (marked softs (marked pure (Array.replicate l.length false))) = [n]) && oc.guard.isNone && scriptB .any l.toArray l.length sc ((marked softs (marked pure (Array.replicate l.length false))).setIfInBounds n true) &&
      (List.range n).all (fun i => ((marked softs (marked pure (Array.replicate l.length false))).setIfInBounds n true).getD i false) && pure.all fun i => (marked pure (Array.replicate l.length false)).getD i false) = true)
    (hQ0 : ∀ c a d v w, Q (.panic c) (Act.put a (some d) v) w → Q (.panic c) a w) (hp : (pure.map fun i => l.toArray[i]?) = (pickOps l pure).map some) (hs : (softs.map fun i => l.toArray[i]?) = (pickOps l softs).map some) (hh0 : l[n]? = some oc)
    (hS : S w.drew) (h : wpSoft P l.toArray (fun _ => True) (fun a0 => wpSoft P l.toArray S (fun a' => oc.wp P a' w.drew (fun a2 w2 => wpScript P l.toArray Q (fun _ => True) l.length sc a2 w2) Q) (pickOps l softs) a0) (pickOps l pure) a) : (Code.region id l.toArray true).wp P Q a w := by
  simp only [Bool.and_eq_true, decide_eq_true_eq] at hB
  obtain ⟨⟨⟨⟨⟨⟨⟨⟨⟨⟨⟨⟨⟨h1, h2⟩, h3⟩, h4⟩, h5⟩, h6⟩, h7a⟩, h7⟩, h7b⟩, h8⟩, h9⟩, h10⟩, h12⟩, h13⟩ := hB
  have hQ : ∀ c a d v w, Q (.panic c) (Act.put a d v) w → Q (.panic c) a w := by
    intro c a d v w h
    cases d with
    | none => exact h
    | some d => exact hQ0 c a d v w h
  have hh : l.toArray[n]? = some oc := by simpa using hh0
  have hg : oc.guard = none := by simpa using h9
  have hn : n < l.toArray.size := by simpa using h4
  have hp0 : phaseB .any l.toArray l.toArray.size = true := by
    unfold phaseB
    refine List.all_eq_true.2 fun t ht => ?_
    have ht2 := List.mem_range.1 ht
    simp only [List.size_toArray] at ht2
    simp [ht2]
  refine wp_region_any hm (wpAny_of_HT (S := fun _ => True) (n := l.toArray.size) _ _ _ _ ?_)
  have hmono : ∀ (S : World → Prop) (L L' : Act → Prop), (∀ a, L a → L' a) → ∀ (sl : List Oper) (a : Act), wpSoft P l.toArray S L sl a → wpSoft P l.toArray S L' sl a := by
    intro S L L' hL sl
    induction sl with
    | nil => intro a h; exact hL a h
    | cons o sl ih => rintro a ⟨v, hy, h⟩; exact ⟨v, hy, ih _ h⟩
  have hrest : ∀ a w, wpScript P l.toArray Q (fun _ => True) l.length sc a w →
      wpHT P .any l.toArray Q (fun _ => True) l.length (0 + sc.length) ((marked softs (marked pure (Array.replicate l.length false))).setIfInBounds n true) a w := by
    intro a w hw
    have := wpHT_script (P := P) (Q := Q) (S := fun _ => True) (md := .any) (ops := l.toArray) l.length (by simpa using hp0) h3 hQ sc _ a w h10 (.inl trivial) hw
    rwa [Nat.zero_add]
  have hcall : ∀ a w, oc.wp P a w (fun a2 w2 => wpScript P l.toArray Q (fun _ => True) l.length sc a2 w2) Q →
      wpHT P .any l.toArray Q S n (0 + sc.length + 1) (marked softs (marked pure (Array.replicate l.length false))) a w := by
    intro a w hw
    refine ⟨fun h0 => (by rw [h0] at h8; cases h8), fun j hj => ?_⟩
    rw [h8] at hj
    obtain rfl : j = n := by simpa using hj
    unfold wpOp
    simp only [hh, Region.wanted, hg, if_true]
    refine .inl (Oper.wp_mono (fun a' w' h' => ⟨fun hx => absurd hx (by omega), ?_⟩) hw)
    exact wpHT_over _ _ _ _ (fun i hi => by simpa using List.all_eq_true.1 h12 i (List.mem_range.2 hi)) (hrest a' w' h')
  have inv0 : HeadInv .any l.toArray n (Array.replicate l.length false) := by
    refine ⟨by simp, fun j oj _ hl => ?_, fun t _ ht => ?_⟩
    · rw [getD_replicate_false] at hl; cases hl
    · simp only [List.size_toArray] at ht
      simp [ht]
  have inv := inv_marked pure _ inv0 h7a
  have hpl : ∀ i ∈ pure, (marked pure (Array.replicate l.length false)).getD i true = true := by
    intro i hi
    have h2 := List.all_eq_true.1 h13 i hi
    cases h3 : (marked pure (Array.replicate l.length false)).getD i true with
    | true => rfl
    | false => rw [getD_both h3] at h2; cases h2
  have hmain : ∀ a0, wpSoft P l.toArray S (fun a' => oc.wp P a' w.drew (fun a2 w2 => wpScript P l.toArray Q (fun _ => True) l.length sc a2 w2) Q) (pickOps l softs) a0 →
      wpHT P .any l.toArray Q (fun _ => True) l.toArray.size (0 + sc.length + 1 + softs.length) (marked pure (Array.replicate l.length false)) a0 w.drew := by
    intro a0 h0
    refine wpHT_loose (S := S) (n := n) _ _ _ _ ?_
    exact wpHT_softsP (P := P) (Q := Q) (S := S) (md := .any) (ops := l.toArray) h1 h2 hn h3 hQ softs (pickOps l softs) (0 + sc.length + 1) _ a0 w.drew hpl inv hs h7 hS
      (hmono _ _ _ (fun a' ha => hcall a' w.drew ha) (pickOps l softs) a0 h0)
  have := wpHT_softs (P := P) (Q := Q) (S := fun _ => True) (md := .any) (ops := l.toArray) hp0 h3 hQ pure (pickOps l pure) (0 + sc.length + 1 + softs.length) (Array.replicate l.length false) a w.drew hp (by simpa using h7b) trivial
    (hmono _ _ _ (fun a' ha => hmain a' ha) (pickOps l pure) a h)
  rw [show 0 + sc.length + 1 + softs.length + pure.length = l.toArray.size by simp; omega] at this
  simpa using this
end
end Go.Proofs.Ytjggkpmlffhjgaa
