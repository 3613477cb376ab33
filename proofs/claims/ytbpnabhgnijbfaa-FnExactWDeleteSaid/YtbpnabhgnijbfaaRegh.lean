/- A region that draws its order and holds a call, and an alloc that no one waits for: all that reads is taken first; the alloc may come whenever. No program in sight. -/
import Derived.Test.YtbpnabhgnijbfaaA2
namespace Go.Proofs.Ytbpnabhgnijbfaa
set_option linter.unusedSimpArgs false
set_option linter.unusedVariables false

section
variable {P : Program} {ops : Array Oper} {Q : Exit → Act → World → Prop} {md : Region.Mode} {S : World → Prop} {n b : Nat}

/-- Each operation behind n, but b, waits for one from n on that is not b. -/
def chain3B (md : Region.Mode) (ops : Array Oper) (n b : Nat) : Bool :=
  (List.range ops.size).all fun t => decide (t ≤ n) || decide (t = b) || (List.range t).any fun s => decide (n ≤ s) && decide (s ≠ b) && Region.waitsFor md ops t s

structure HeadInv3 (md : Region.Mode) (ops : Array Oper) (n b : Nat) (listed : Array Bool) : Prop where
  size : listed.size = ops.size
  closed : ∀ j oj, ops[j]? = some oj → listed.getD j false = true → ∀ e ∈ oj.after, Region.binds md e = true → listed.getD e.on false = true
  tail : ∀ t, n ≤ t → t ≠ b → t < ops.size → listed.getD t true = false

theorem HeadInv3.set {i : Nat} {listed : Array Bool} (inv : HeadInv3 md ops n b listed) (hi : i ∈ Region.ready md ops listed) (hin : i < n ∨ i = b) : HeadInv3 md ops n b (listed.setIfInBounds i true) := by
  obtain ⟨_, oi, hoi, hall⟩ := mem_ready.1 hi
  refine ⟨by simp [inv.size], fun j oj hj hl e he hb => ?_, fun t ht htb ht' => by rw [getD_set_ne true (by omega)]; exact inv.tail t ht htb ht'⟩
  by_cases hij : i = j
  · subst hij
    have : oj = oi := Option.some.inj (hj.symm.trans hoi)
    subst this
    exact getD_set_true (hall e he hb)
  · rw [getD_set_ne false hij] at hl
    exact getD_set_true (inv.closed j oj hj hl e he hb)

theorem tail_waits3 {listed : Array Bool} (hnb : n < b) (hs : Region.sinkB md ops n = true) (hc : chain3B md ops n b = true) (hn : n < ops.size) (inv : HeadInv3 md ops n b listed) :
    ∀ (d i : Nat), n - i = d → i < n → listed.getD i true = false → ∀ t, n ≤ t → t ≠ b → t ∉ Region.ready md ops listed := by
  intro d
  induction d using Nat.strongRecOn with
  | _ d ih =>
    intro i hd hi hun t ht htb hr
    obtain ⟨_, ot, hot, hall⟩ := mem_ready.1 hr
    have htlt : t < ops.size := (Array.getElem?_eq_some_iff.1 hot).1
    by_cases htn : t = n
    · subst htn
      have h1 := List.all_eq_true.1 hs i (List.mem_range.2 hi)
      obtain ⟨j, hj, hj2⟩ := List.any_eq_true.1 h1
      simp only [Bool.and_eq_true, decide_eq_true_eq] at hj2
      obtain ⟨oj, hoj, e, he, hb, hon⟩ := Region.waitsFor_spec hj2.2
      have hjle : j ≤ t := by have := List.mem_range.1 hj; omega
      by_cases hjt : j = t
      · subst hjt
        have : oj = ot := Option.some.inj (hoj.symm.trans hot)
        subst this
        have h2 := hall e he hb
        rw [hon, getD_both hun] at h2
        cases h2
      · cases hl : listed.getD j false with
        | true =>
          have h2 := inv.closed j oj hoj hl e he hb
          rw [hon, getD_both hun] at h2
          cases h2
        | false =>
          have hjs : j < listed.size := by rw [inv.size]; omega
          exact ih (t - j) (by omega) j rfl (by omega) (getD_in hjs hl) t (Nat.le_refl _) htb hr
    · have h1 := List.all_eq_true.1 hc t (List.mem_range.2 htlt)
      simp only [Bool.or_eq_true, decide_eq_true_eq] at h1
      rcases h1 with (h1 | h1) | h1
      · omega
      · exact htb h1
      · obtain ⟨s, hs1, hs2⟩ := List.any_eq_true.1 h1
        simp only [Bool.and_eq_true, decide_eq_true_eq] at hs2
        obtain ⟨o', ho', e, he, hb, hon⟩ := Region.waitsFor_spec hs2.2
        have : o' = ot := Option.some.inj (ho'.symm.trans hot)
        subst this
        have h2 := hall e he hb
        have := List.mem_range.1 hs1
        rw [hon, getD_both (inv.tail s hs2.1.1 hs2.1.2 (by omega))] at h2
        cases h2

theorem wpHT_first3 {i : Nat} {oi : Oper} {v : Value} (hnb : n < b) (hs : Region.sinkB md ops n = true) (hc : chain3B md ops n b = true) (hn : n < ops.size) (hin : i < n) (hi : ops[i]? = some oi) (hsel : ∀ (j : Nat) (o : Oper) cs b, ops[j]? = some o → o.op ≠ .select cs b)
    (hQ : ∀ c a d v w, Q (.panic c) (Act.put a d v) w → Q (.panic c) a w) (hkeep : ∀ a w K, S w → wpOp P ops Q b K a w → wpOp P ops Q b (fun a' w' => S w' ∧ K a' w') a w) :
    ∀ (f : Nat) (listed : Array Bool) (a : Act) (w : World), HeadInv3 md ops n b listed →
      (∀ j oj, ops[j]? = some oj → j ≠ i → listed.getD j true = false → (∀ e ∈ oj.after, Region.binds md e = true → e.on ≠ i) → oi.apart ops oj = true) →
      i ∈ Region.ready md ops listed → YieldsIf P ops S oi v a → S w →
      wpHT P md ops Q S n f (listed.setIfInBounds i true) (a.put oi.dst v) w → wpHT P md ops Q S n (f + 1) listed a w := by
  intro f
  induction f with
  | zero =>
    intro listed a w _ _ hr hy hS H
    refine ⟨fun h => (by rw [h] at hr; cases hr), fun j hj => ?_⟩
    by_cases hji : j = i
    · subst hji; exact hy.wpOp hi hS ⟨fun _ => hS, H⟩
    · have := ready_mono hj hji
      rw [H.1] at this
      cases this
  | succ f ih =>
    intro listed a w inv hfree hr hy hS H
    have hun := (mem_ready.1 hr).1
    refine ⟨fun h => (by rw [h] at hr; cases hr), fun j hj => ?_⟩
    have hjn : j < n ∨ j = b := by
      rcases Nat.lt_or_ge j n with h | h
      · exact .inl h
      · by_cases hjb : j = b
        · exact .inr hjb
        · exact absurd hj (tail_waits3 hnb hs hc hn inv _ i rfl hin hun j h hjb)
    by_cases hji : j = i
    · subst hji; exact hy.wpOp hi hS ⟨fun _ => hS, H⟩
    · have h0 := H.2 j (ready_mono hj hji)
      have h1 : wpOp P ops Q j (fun a' w' => S w' ∧ wpHT P md ops Q S n f ((listed.setIfInBounds i true).setIfInBounds j true) a' w') (a.put oi.dst v) w := by
        rcases hjn with hjn | rfl
        · exact wpOp_mono (fun a' w' h => ⟨h.1 hjn, h.2⟩) h0
        · exact wpOp_mono (fun a' w' h => ⟨h.1, h.2.2⟩) (hkeep _ _ _ hS h0)
      obtain ⟨hjun, oj, hoj, hall⟩ := mem_ready.1 hj
      have hnot : ∀ e ∈ oj.after, Region.binds md e = true → e.on ≠ i := fun e he hb heq => by
        have h3 := hall e he hb
        rw [heq, getD_both hun] at h3
        cases h3
      have h2 := wpOp_putIf hoj (hfree j oj hoj hji hjun hnot) (fun cs b => hsel i oi cs b hi) (fun cs b => hsel j oj cs b hoj) (fun c a w => hQ c a _ _ w) hy h1
      refine wpOp_mono (fun a' w' h3 => ⟨fun _ => h3.2.1, ih (listed.setIfInBounds j true) a' w' (inv.set hj hjn) ?_ (ready_mono hr (Ne.symm hji)) h3.1 h3.2.1 ?_⟩) h2
      · intro q oq hq hqi hqun hno
        refine hfree q oq hq hqi ?_ hno
        by_cases hjq : j = q
        · subst hjq; exact hjun
        · rw [getD_set_ne true hjq] at hqun; exact hqun
      · rw [Array.setIfInBounds_comm _ _ hji]
        exact h3.2.2

theorem wpHT_softs3 (hnb : n < b) (hs : Region.sinkB md ops n = true) (hc : chain3B md ops n b = true) (hn : n < ops.size) (hsel : Region.noSelect ops = true) (hQ : ∀ c a d v w, Q (.panic c) (Act.put a d v) w → Q (.panic c) a w) (hkeep : ∀ a w K, S w → wpOp P ops Q b K a w → wpOp P ops Q b (fun a' w' => S w' ∧ K a' w') a w) :
    ∀ (softs : List Nat) (sops : List Oper) (f : Nat) (listed : Array Bool) (a : Act) (w : World), HeadInv3 md ops n b listed → (softs.map fun i => ops[i]?) = sops.map some → softsB md ops n softs listed = true → S w →
      wpSoft P ops S (fun a' => wpHT P md ops Q S n f (marked softs listed) a' w) sops a → wpHT P md ops Q S n (f + softs.length) listed a w
  | [], [], f, listed, a, w, _, _, _, _, h => h
  | [], _ :: _, _, _, _, _, _, he, _, _, _ => by simp at he
  | _ :: _, [], _, _, _, _, _, he, _, _, _ => by simp at he
  | i :: softs, o :: sops, f, listed, a, w, inv, he, hB, hS, ⟨v, hy, h⟩ => by
    simp only [List.map_cons, List.cons.injEq] at he
    simp only [softsB, Bool.and_eq_true, decide_eq_true_eq] at hB
    obtain ⟨⟨⟨h1, h2⟩, h3⟩, h4⟩ := hB
    exact wpHT_first3 hnb hs hc hn h1 he.1 (Region.noSelect_spec hsel) hQ hkeep (f + softs.length) listed a w inv (Region.free_spec he.1 h2) (by simpa using h3) hy hS
      (wpHT_softs3 hnb hs hc hn hsel hQ hkeep softs sops f _ _ w (inv.set (by simpa using h3) (.inl h1)) he.2 h4 hS h)

/-- What an alloc does. -/
theorem wp_alloc_iff {o : Oper} {a : Act} {w : World} {K : Act → World → Prop} {T : TypeId} (ho : o.op = .alloc T) {z : Value} (hz : (P.info? T).map (·.zero) = some (some z)) :
    o.wp P a w K Q ↔ K (a.put o.dst (.pointer (some ⟨w.heap.size, 0, none⟩))) (w.alloc (.cells z.cells T)) := by
  obtain ⟨i, hi, hz⟩ : ∃ i, P.info? T = some i ∧ i.zero = some z := by
    cases h : P.info? T with
    | none => rw [h] at hz; cases hz
    | some i => rw [h] at hz; exact ⟨i, rfl, by simpa using hz⟩
  unfold Oper.wp execOp
  simp [ho, Instr.alloc, zeroValue, typeInfo, hi, hz, newVar, newRow, Oper.upon]

/-- THE REGION: the reading operations 'softs' first; then the call n and the alloc b in either order, and the rest. -/
theorem wp_region_callb {id : Nat} {a : Act} {w : World} {l : List Oper} (S : World → Prop) (n b : Nat) (softs : List Nat) (sc : Scr) {ob : Oper} {T : TypeId} {z : Value} (hm : P.follows .mixedOrders = true)
    (hB : (decide (n < b) && Region.sinkB .any l.toArray n && chain3B .any l.toArray n b && Region.noSelect l.toArray && decide (n < l.length) && decide (softs.length = n) && decide (softs.length + sc.len = l.length) && softsB .any l.toArray n softs (Array.replicate l.length false) &&
      scrB .any l.toArray sc (marked softs (Array.replicate l.length false)) && (List.range n).all fun i => (marked softs (Array.replicate l.length false)).getD i false) = true)
    (hQ0 : ∀ c a d v w, Q (.panic c) (Act.put a (some d) v) w → Q (.panic c) a w) (hs : (softs.map fun i => l.toArray[i]?) = (pickOps l softs).map some) (hb0 : l[b]? = some ob) (hb1 : ob.op = .alloc T) (hb2 : ob.guard = none) (hz : (P.info? T).map (·.zero) = some (some z))
    (hSa : ∀ w o, S w → S (w.alloc o)) (hS : S w.drew) (h : wpSoft P l.toArray S (fun a' => wpScr P l.toArray Q (fun _ => True) sc a' w.drew) (pickOps l softs) a) : (Code.region id l.toArray true).wp P Q a w := by
  simp only [Bool.and_eq_true, decide_eq_true_eq] at hB
  obtain ⟨⟨⟨⟨⟨⟨⟨⟨⟨h0, h1⟩, h2⟩, h3⟩, h4⟩, h5⟩, h6⟩, h7⟩, h8⟩, h12⟩ := hB
  have hQ : ∀ c a d v w, Q (.panic c) (Act.put a d v) w → Q (.panic c) a w := by
    intro c a d v w h
    cases d with
    | none => exact h
    | some d => exact hQ0 c a d v w h
  have hh : l.toArray[b]? = some ob := by simpa using hb0
  have hn : n < l.toArray.size := by simpa using h4
  refine wp_region_any hm (wpAny_of_HT (S := S) (n := n) _ _ _ _ ?_)
  have hmono : ∀ (S : World → Prop) (L L' : Act → Prop), (∀ a, L a → L' a) → ∀ (sl : List Oper) (a : Act), wpSoft P l.toArray S L sl a → wpSoft P l.toArray S L' sl a := by
    intro S L L' hL sl
    induction sl with
    | nil => intro a h; exact hL a h
    | cons o sl ih => rintro a ⟨v, hy, h⟩; exact ⟨v, hy, ih _ h⟩
  have hp : phaseB .any l.toArray l.toArray.size = true := by
    unfold phaseB
    refine List.all_eq_true.2 fun t ht => ?_
    have ht2 := List.mem_range.1 ht
    simp only [List.size_toArray] at ht2
    simp [ht2]
  have hrest : ∀ a, wpScr P l.toArray Q (fun _ => True) sc a w.drew → wpHT P .any l.toArray Q S n sc.len (marked softs (Array.replicate l.length false)) a w.drew := by
    intro a hw
    exact wpHT_over _ _ _ _ (fun i hi => by simpa using List.all_eq_true.1 h12 i (List.mem_range.2 hi)) (wpHT_scr hp h3 hQ sc _ a w.drew h8 trivial hw)
  have hkeep : ∀ a w K, S w → wpOp P l.toArray Q b K a w → wpOp P l.toArray Q b (fun a' w' => S w' ∧ K a' w') a w := by
    intro a w K hSw hop
    unfold wpOp at hop ⊢
    simp only [hh, Region.wanted, hb2, if_true] at hop ⊢
    rcases hop with hop | hop
    · exact .inl ((wp_alloc_iff hb1 hz).2 ⟨hSa _ _ hSw, (wp_alloc_iff hb1 hz).1 hop⟩)
    · exact .inr hop
  have inv : HeadInv3 .any l.toArray n b (Array.replicate l.length false) := by
    refine ⟨by simp, fun j oj _ hl => ?_, fun t _ _ ht => ?_⟩
    · rw [getD_replicate_false] at hl; cases hl
    · simp only [List.size_toArray] at ht
      simp [ht]
  have := wpHT_softs3 (P := P) (Q := Q) (S := S) (md := .any) (ops := l.toArray) h0 h1 h2 hn h3 hQ hkeep softs (pickOps l softs) sc.len (Array.replicate l.length false) a w.drew inv hs h7 hS
    (hmono _ _ _ (fun a' ha => hrest a' ha) (pickOps l softs) a h)
  rw [show sc.len + softs.length = l.toArray.size by simp; omega] at this
  simpa using this
end
end Go.Proofs.Ytbpnabhgnijbfaa
