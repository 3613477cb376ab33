/- For every order, every degree, every list of items and every pivot the law FnGParts returns true and leaves its arguments as they were. -/
import Derived.Lib.AppendZeros
import Derived.Carry
import Derived.Test.YtojplcbkiogcpaaRows
import Derived.Test.YtojplcbkiogcpaaA2
import Derived.Test.YtojplcbkiogcpaaA9
import Derived.Test.YtojplcbkiogcpaaA10
import Derived.Test.YtojplcbkiogcpaaA11
import Derived.Test.YtojplcbkiogcpaaA12
import Derived.Test.YtojplcbkiogcpaaYasc
namespace Go.Proofs.Ytojplcbkiogcpaa
set_option linter.unusedSimpArgs false
set_option linter.unusedVariables false

section
variable {P : Program} {ops : Array Oper} {Q : Exit → Act → World → Prop} {md : Region.Mode} {S : World → Prop} {n : Nat}

/-- Each ahead of n, but those of pure, is waited for by one behind it, up to n. -/
def sinkPB (md : Region.Mode) (ops : Array Oper) (n : Nat) (pure : List Nat) : Bool :=
  (List.range n).all fun i => pure.contains i || (List.range (n + 1)).any fun j => decide (i < j) && Region.waitsFor md ops j i

theorem tail_waitsP {pure : List Nat} {listed : Array Bool} (hs : sinkPB md ops n pure = true) (hc : chain2B md ops n = true) (hn : n < ops.size) (hpl : ∀ i ∈ pure, listed.getD i true = true) (inv : HeadInv md ops n listed) :
    ∀ (d i : Nat), n - i = d → i < n → listed.getD i true = false → ∀ t, n ≤ t → t ∉ Region.ready md ops listed := by
  intro d
  induction d using Nat.strongRecOn with
  | _ d ih =>
    intro i hd hi hun t ht hr
    obtain ⟨_, ot, hot, hall⟩ := mem_ready.1 hr
    have htlt : t < ops.size := (Array.getElem?_eq_some_iff.1 hot).1
    by_cases htn : t = n
    · subst htn
      have h1 := List.all_eq_true.1 hs i (List.mem_range.2 hi)
      simp only [Bool.or_eq_true] at h1
      rcases h1 with h1 | h1
      · have := hpl i (by simpa using h1)
        rw [hun] at this; cases this
      obtain ⟨j, hj, hj2⟩ := List.any_eq_true.1 h1
      simp only [Bool.and_eq_true, decide_eq_true_eq] at hj2
      obtain ⟨oj, hoj, e, he, hb, hon⟩ := Region.waitsFor_spec hj2.2
      have hjle : j ≤ t := by have := List.mem_range.1 hj; omega
      by_cases hjt : j = t
      · subst hjt
        have : oj = ot := Option.some.inj (hoj.symm.trans hot)
        subst this
        have h2 := hall e he hb
        rw [hon, getD_both hun] at h2
        cases h2
      · cases hl : listed.getD j false with
        | true =>
          have h2 := inv.closed j oj hoj hl e he hb
          rw [hon, getD_both hun] at h2
          cases h2
        | false =>
          have hjs : j < listed.size := by rw [inv.size]; omega
          exact ih (t - j) (by omega) j rfl (by omega) (getD_in hjs hl) t (Nat.le_refl _) hr
    · have h1 := List.all_eq_true.1 hc t (List.mem_range.2 htlt)
      simp only [Bool.or_eq_true, decide_eq_true_eq] at h1
      rcases h1 with h1 | h1
      · omega
      · obtain ⟨s, hs1, hs2⟩ := List.any_eq_true.1 h1
        simp only [Bool.and_eq_true, decide_eq_true_eq] at hs2
        obtain ⟨o', ho', e, he, hb, hon⟩ := Region.waitsFor_spec hs2.2
        have : o' = ot := Option.some.inj (ho'.symm.trans hot)
        subst this
        have h2 := hall e he hb
        have := List.mem_range.1 hs1
        rw [hon, getD_both (inv.tail s hs2.1 (by omega))] at h2
        cases h2

theorem getD_set_tt {listed : Array Bool} {i q : Nat} (h : listed.getD q true = true) : (listed.setIfInBounds i true).getD q true = true := by
  by_cases hq : i = q
  · subst hq
    by_cases hi : i < listed.size
    · simp [hi]
    · simp [hi]
  · rw [getD_set_ne true hq]; exact h

theorem wpHT_firstP {pure : List Nat} {i : Nat} {oi : Oper} {v : Value} (hs : sinkPB md ops n pure = true) (hc : chain2B md ops n = true) (hn : n < ops.size) (hin : i < n) (hi : ops[i]? = some oi) (hsel : ∀ (j : Nat) (o : Oper) cs b, ops[j]? = some o → o.op ≠ .select cs b)
    (hQ : ∀ c a d v w, Q (.panic c) (Act.put a d v) w → Q (.panic c) a w) :
    ∀ (f : Nat) (listed : Array Bool) (a : Act) (w : World), (∀ i ∈ pure, listed.getD i true = true) → HeadInv md ops n listed →
      (∀ j oj, ops[j]? = some oj → j ≠ i → listed.getD j true = false → (∀ e ∈ oj.after, Region.binds md e = true → e.on ≠ i) → oi.apart ops oj = true) →
      i ∈ Region.ready md ops listed → YieldsIf P ops S oi v a → S w →
      wpHT P md ops Q S n f (listed.setIfInBounds i true) (a.put oi.dst v) w → wpHT P md ops Q S n (f + 1) listed a w := by
  intro f
  induction f with
  | zero =>
    intro listed a w _ _ _ hr hy hS H
    refine ⟨fun h => (by rw [h] at hr; cases hr), fun j hj => ?_⟩
    by_cases hji : j = i
    · subst hji; exact hy.wpOp hi hS ⟨fun _ => hS, H⟩
    · have := ready_mono hj hji
      rw [H.1] at this
      cases this
  | succ f ih =>
    intro listed a w hpl inv hfree hr hy hS H
    have hun := (mem_ready.1 hr).1
    refine ⟨fun h => (by rw [h] at hr; cases hr), fun j hj => ?_⟩
    have hjn : j < n := by
      rcases Nat.lt_or_ge j n with h | h
      · exact h
      · exact absurd hj (tail_waitsP hs hc hn hpl inv _ i rfl hin hun j h)
    by_cases hji : j = i
    · subst hji; exact hy.wpOp hi hS ⟨fun _ => hS, H⟩
    · have h1 := H.2 j (ready_mono hj hji)
      obtain ⟨hjun, oj, hoj, hall⟩ := mem_ready.1 hj
      have hnot : ∀ e ∈ oj.after, Region.binds md e = true → e.on ≠ i := fun e he hb heq => by
        have h3 := hall e he hb
        rw [heq, getD_both hun] at h3
        cases h3
      have h2 := wpOp_putIf hoj (hfree j oj hoj hji hjun hnot) (fun cs b => hsel i oi cs b hi) (fun cs b => hsel j oj cs b hoj) (fun c a w => hQ c a _ _ w) hy h1
      refine wpOp_mono (fun a' w' h3 => ⟨h3.2.1, ih (listed.setIfInBounds j true) a' w' (fun q hq => getD_set_tt (hpl q hq)) (inv.set hj hjn) ?_ (ready_mono hr (Ne.symm hji)) h3.1 (h3.2.1 hjn) ?_⟩) h2
      · intro q oq hq hqi hqun hno
        refine hfree q oq hq hqi ?_ hno
        by_cases hjq : j = q
        · subst hjq; exact hjun
        · rw [getD_set_ne true hjq] at hqun; exact hqun
      · rw [Array.setIfInBounds_comm _ _ hji]
        exact h3.2.2

theorem wpHT_softsP {pure : List Nat} (hs : sinkPB md ops n pure = true) (hc : chain2B md ops n = true) (hn : n < ops.size) (hsel : Region.noSelect ops = true) (hQ : ∀ c a d v w, Q (.panic c) (Act.put a d v) w → Q (.panic c) a w) :
    ∀ (softs : List Nat) (sops : List Oper) (f : Nat) (listed : Array Bool) (a : Act) (w : World), (∀ i ∈ pure, listed.getD i true = true) → HeadInv md ops n listed → (softs.map fun i => ops[i]?) = sops.map some → softsB md ops n softs listed = true → S w →
      wpSoft P ops S (fun a' => wpHT P md ops Q S n f (marked softs listed) a' w) sops a → wpHT P md ops Q S n (f + softs.length) listed a w
  | [], [], f, listed, a, w, _, _, _, _, _, h => h
  | [], _ :: _, _, _, _, _, _, _, he, _, _, _ => by simp at he
  | _ :: _, [], _, _, _, _, _, _, he, _, _, _ => by simp at he
  | i :: softs, o :: sops, f, listed, a, w, hpl, inv, he, hB, hS, ⟨v, hy, h⟩ => by
    simp only [List.map_cons, List.cons.injEq] at he
    simp only [softsB, Bool.and_eq_true, decide_eq_true_eq] at hB
    obtain ⟨⟨⟨h1, h2⟩, h3⟩, h4⟩ := hB
    exact wpHT_firstP hs hc hn h1 he.1 (Region.noSelect_spec hsel) hQ (f + softs.length) listed a w hpl inv (Region.free_spec he.1 h2) (by simpa using h3) hy hS
      (wpHT_softsP hs hc hn hsel hQ softs sops f _ _ w (fun q hq => getD_set_tt (hpl q hq)) (inv.set (by simpa using h3) h1) he.2 h4 hS h)

/-- What is asked behind the first n may be left away. -/
theorem wpHT_loose : ∀ (f : Nat) (listed : Array Bool) (a : Act) (w : World), wpHT P md ops Q S n f listed a w → wpHT P md ops Q (fun _ => True) ops.size f listed a w
  | 0, _, _, _, h => h
  | f + 1, _, _, _, h => ⟨h.1, fun j hj => wpOp_mono (fun a' w' h3 => ⟨fun _ => trivial, wpHT_loose f _ a' w' h3.2⟩) (h.2 j hj)⟩

theorem inv_marked : ∀ (softs : List Nat) (listed : Array Bool), HeadInv md ops n listed → softsB md ops n softs listed = true → HeadInv md ops n (marked softs listed)
  | [], _, inv, _ => inv
  | i :: softs, listed, inv, hB => by
    simp only [softsB, Bool.and_eq_true, decide_eq_true_eq] at hB
    obtain ⟨⟨⟨h1, h2⟩, h3⟩, h4⟩ := hB
    exact inv_marked softs _ (inv.set (by simpa using h3) h1) h4

/-- THE REGION: those of pure first (they read no memory), then the reading operations 'softs', then the operation n, then the rest by a script. -/
theorem wp_region_callp {id : Nat} {a : Act} {w : World} {l : List Oper} (S : World → Prop) (n : Nat) (pure softs : List Nat) (oc : Oper) (sc : List (Nat × Bool)) (hm : P.follows .mixedOrders = true)
    (hB : (sinkPB .any l.toArray n pure && chain2B .any l.toArray n && Region.noSelect l.toArray && decide (n < l.length) && decide (pure.length + softs.length = n) && decide (n + 1 + sc.length = l.length) && softsB .any l.toArray n pure (Array.replicate l.length false) && softsB .any l.toArray n softs (marked pure (Array.replicate l.length false)) &&
      softsB .any l.toArray l.length pure (Array.replicate l.length false) && decide (Region.ready .any l.toArray (marked softs (marked pure (Array.replicate l.length false))) = [n]) && oc.guard.isNone && scriptB .any l.toArray l.length sc ((marked softs (marked pure (Array.replicate l.length false))).setIfInBounds n true) &&
      (List.range n).all (fun i => ((marked softs (marked pure (Array.replicate l.length false))).setIfInBounds n true).getD i false) && pure.all fun i => (marked pure (Array.replicate l.length false)).getD i false) = true)
    (hQ0 : ∀ c a d v w, Q (.panic c) (Act.put a (some d) v) w → Q (.panic c) a w) (hp : (pure.map fun i => l.toArray[i]?) = (pickOps l pure).map some) (hs : (softs.map fun i => l.toArray[i]?) = (pickOps l softs).map some) (hh0 : l[n]? = some oc)
    (hS : S w.drew) (h : wpSoft P l.toArray (fun _ => True) (fun a0 => wpSoft P l.toArray S (fun a' => oc.wp P a' w.drew (fun a2 w2 => wpScript P l.toArray Q (fun _ => True) l.length sc a2 w2) Q) (pickOps l softs) a0) (pickOps l pure) a) : (Code.region id l.toArray true).wp P Q a w := by
  simp only [Bool.and_eq_true, decide_eq_true_eq] at hB
  obtain ⟨⟨⟨⟨⟨⟨⟨⟨⟨⟨⟨⟨⟨h1, h2⟩, h3⟩, h4⟩, h5⟩, h6⟩, h7a⟩, h7⟩, h7b⟩, h8⟩, h9⟩, h10⟩, h12⟩, h13⟩ := hB
  have hQ : ∀ c a d v w, Q (.panic c) (Act.put a d v) w → Q (.panic c) a w := by
    intro c a d v w h
    cases d with
    | none => exact h
    | some d => exact hQ0 c a d v w h
  have hh : l.toArray[n]? = some oc := by simpa using hh0
  have hg : oc.guard = none := by simpa using h9
  have hn : n < l.toArray.size := by simpa using h4
  have hp0 : phaseB .any l.toArray l.toArray.size = true := by
    unfold phaseB
    refine List.all_eq_true.2 fun t ht => ?_
    have ht2 := List.mem_range.1 ht
    simp only [List.size_toArray] at ht2
    simp [ht2]
  refine wp_region_any hm (wpAny_of_HT (S := fun _ => True) (n := l.toArray.size) _ _ _ _ ?_)
  have hmono : ∀ (S : World → Prop) (L L' : Act → Prop), (∀ a, L a → L' a) → ∀ (sl : List Oper) (a : Act), wpSoft P l.toArray S L sl a → wpSoft P l.toArray S L' sl a := by
    intro S L L' hL sl
    induction sl with
    | nil => intro a h; exact hL a h
    | cons o sl ih => rintro a ⟨v, hy, h⟩; exact ⟨v, hy, ih _ h⟩
  have hrest : ∀ a w, wpScript P l.toArray Q (fun _ => True) l.length sc a w →
      wpHT P .any l.toArray Q (fun _ => True) l.length (0 + sc.length) ((marked softs (marked pure (Array.replicate l.length false))).setIfInBounds n true) a w := by
    intro a w hw
    have := wpHT_script (P := P) (Q := Q) (S := fun _ => True) (md := .any) (ops := l.toArray) l.length (by simpa using hp0) h3 hQ sc _ a w h10 (.inl trivial) hw
    rwa [Nat.zero_add]
  have hcall : ∀ a w, oc.wp P a w (fun a2 w2 => wpScript P l.toArray Q (fun _ => True) l.length sc a2 w2) Q →
      wpHT P .any l.toArray Q S n (0 + sc.length + 1) (marked softs (marked pure (Array.replicate l.length false))) a w := by
    intro a w hw
    refine ⟨fun h0 => (by rw [h0] at h8; cases h8), fun j hj => ?_⟩
    rw [h8] at hj
    obtain rfl : j = n := by simpa using hj
    unfold wpOp
    simp only [hh, Region.wanted, hg, if_true]
    refine .inl (Oper.wp_mono (fun a' w' h' => ⟨fun hx => absurd hx (by omega), ?_⟩) hw)
    exact wpHT_over _ _ _ _ (fun i hi => by simpa using List.all_eq_true.1 h12 i (List.mem_range.2 hi)) (hrest a' w' h')
  have inv0 : HeadInv .any l.toArray n (Array.replicate l.length false) := by
    refine ⟨by simp, fun j oj _ hl => ?_, fun t _ ht => ?_⟩
    · rw [getD_replicate_false] at hl; cases hl
    · simp only [List.size_toArray] at ht
      simp [ht]
  have inv := inv_marked pure _ inv0 h7a
  have hpl : ∀ i ∈ pure, (marked pure (Array.replicate l.length false)).getD i true = true := by
    intro i hi
    have h2 := List.all_eq_true.1 h13 i hi
    cases h3 : (marked pure (Array.replicate l.length false)).getD i true with
    | true => rfl
    | false => rw [getD_both h3] at h2; cases h2
  have hmain : ∀ a0, wpSoft P l.toArray S (fun a' => oc.wp P a' w.drew (fun a2 w2 => wpScript P l.toArray Q (fun _ => True) l.length sc a2 w2) Q) (pickOps l softs) a0 →
      wpHT P .any l.toArray Q (fun _ => True) l.toArray.size (0 + sc.length + 1 + softs.length) (marked pure (Array.replicate l.length false)) a0 w.drew := by
    intro a0 h0
    refine wpHT_loose (S := S) (n := n) _ _ _ _ ?_
    exact wpHT_softsP (P := P) (Q := Q) (S := S) (md := .any) (ops := l.toArray) h1 h2 hn h3 hQ softs (pickOps l softs) (0 + sc.length + 1) _ a0 w.drew hpl inv hs h7 hS
      (hmono _ _ _ (fun a' ha => hcall a' w.drew ha) (pickOps l softs) a0 h0)
  have := wpHT_softs (P := P) (Q := Q) (S := fun _ => True) (md := .any) (ops := l.toArray) hp0 h3 hQ pure (pickOps l pure) (0 + sc.length + 1 + softs.length) (Array.replicate l.length false) a w.drew hp (by simpa using h7b) trivial
    (hmono _ _ _ (fun a' ha => hmain a' ha) (pickOps l pure) a h)
  rw [show 0 + sc.length + 1 + softs.length + pure.length = l.toArray.size by simp; omega] at this
  simpa using this
end
end Go.Proofs.Ytojplcbkiogcpaa

namespace Go.Proofs.Ytojplcbkiogcpaa
set_option linter.unusedSimpArgs false
set_option linter.unusedVariables false
open Go.RowKit

def OwnOutI (l : List (Int × Int)) (w : World) (e : Ending) (w' : World) : Prop := ∃ v, e = .returned v ∧ OutI w' v l w.heap.size ∧ Chg (fun _ _ => False) w w'

set_option maxRecDepth 100000 in
theorem cloneI_any (v : Value) (l : List (Int × Int)) (w : World) (hs : SlE itemE w v l) (hlen : l.length ≤ 4294967296) :
    Calls Try.prog 74 #[v] w (OwnOutI l w) := by
  obtain ⟨a, cap, rfl, hcap, hc⟩ := hs
  have qS : ∀ (w : World) (a : Option Addr) (n c : Nat), (binOp .eql 31 (.slice a n c) (.slice none 0 0)).run Try.prog w = .ok (.bool a.isNone) w := fun w a n c => Lib.run_eql_slice_nil w _ _ _ _ _ _ _ Try.underlying31
  rcases a with _ | ad
  · have h0 : l = [] := by
      rcases hc with h | ⟨b, o, h, _⟩
      · exact h
      · cases h
    have hl0 : l.length = 0 := by rw [h0]; rfl
    rw [hl0]
    have H0 := Lib.hid h0
    clear hc h0 hl0 hcap
    go_enter Try.func74, Try.ntmps74
    go_wp2
    go_ret
    exact ⟨_, rfl, .inl ⟨H0.out, rfl⟩, Chg.refl _ _⟩
  · have hsrc : (∃ ad', some ad = some ad' ∧ ∀ j u, (flatI l)[j]? = some u → w.cell? (ad'.add j) = some u) ∨ (l.length = 0 ∧ flatI l = []) := by
      rcases hc with h | ⟨b, o, h, hcell⟩
      · exact .inr ⟨by rw [h]; rfl, by rw [h]; rfl⟩
      · refine .inl ⟨ad, rfl, fun j u hj => ?_⟩
        obtain rfl := Option.some.inj h
        rw [add_none]
        exact hcell j u (by rw [flatI_flat]; exact hj)
    have HS := Lib.hid hsrc
    obtain ⟨n, hn⟩ : ∃ n, l.length = n := ⟨_, rfl⟩
    have HN := Lib.hid hn
    rw [hn] at hlen ⊢
    clear hc hsrc hn
    obtain ⟨i0, hi0, hz0, hz1, hz2⟩ := info_parts infoItem
    go_enter Try.func74, Try.ntmps74
    have hca : Chg (fun _ _ => False) w (w.alloc (.cells #[] 26)) := (Chg.refl _ _).alloc _
    go_wp2_with (refine wpList_append_opt (by rfl) _ _ _ (by rfl) 26 i0 _ 2 16 Try.underlying31 hi0 hz0 hz1 hz2 rfl w.heap.size 0 0 0 (by rfl) [] ?_ rfl (Nat.le_refl _) (some ad) n _ (by rfl) (flatI l) ?_ ?_ (flatI_one _) ?_ ?_ ?_)
    · exact RowAt.of_block (c := #[]) (ha_at _ _ rfl) _ _ (by simp) (by simp) (by simp)
    · rw [flatI_len, HN.out]
    · rcases HS.out with ⟨ad', h1, h2⟩ | ⟨h1, h2⟩
      · exact .inl ⟨ad', h1, fun j u hj => hca.cell (fun h => h) (h2 j u hj)⟩
      · exact .inr ⟨by rw [← HN.out]; exact h1, h2⟩
    · unfold maxLen; omega
    · omega
    intro b' o' cap' w' happ
    have hrow := happ.row
    rw [List.nil_append] at hrow
    have hroom := happ.room
    have hpl : w.heap.size ≤ b' := by
      rcases happ.place with h | h
      · have := h.1; omega
      · have h2 := h.1; simp at h2; omega
    have hcc : Chg (fun _ _ => False) w w' := hca.trans' happ.chg (fun _ _ _ h => h) (fun b o hb h => by have := h.1; omega)
    have FIN := Lib.hid (show OwnOutI l w (.returned (.slice (some ⟨b', o', none⟩) n cap')) w' from ⟨_, rfl, .inr ⟨b', o', cap', by rw [HN.out], by rw [HN.out]; omega, hpl, hrow⟩, hcc⟩)
    clear happ hrow hpl hcc hroom
    go_wp2
    go_ret
    exact FIN.out

/-- A list in a row of its own. -/
def RowB (w : World) (b o cap : Nat) (l : List (Int × Int)) : Prop := l.length ≤ cap ∧ RowAt w 26 b o (cap * 2) (flatI l)

theorem RowB.cell {w : World} {b o cap : Nat} {l : List (Int × Int)} (h : RowB w b o cap l) {j : Nat} {x : Int × Int} (hj : l[j]? = some x) : w.cell? ⟨b, o + j * 2, none⟩ = some (.int .i64 x.1) ∧ w.cell? ⟨b, o + j * 2 + 1, none⟩ = some (.int .i64 x.2) := by
  have e1 : (flatI l)[j * 2 + 0]? = some (.int .i64 x.1) := by rw [← flatI_flat]; exact flat_get itemE.par hj (q := 0) rfl
  have e2 : (flatI l)[j * 2 + 1]? = some (.int .i64 x.2) := by rw [← flatI_flat]; exact flat_get itemE.par hj (q := 1) rfl
  exact ⟨h.2.cell e1, by have := h.2.cell e2; rw [← Nat.add_assoc] at this; exact this⟩

theorem RowB.fz {w : World} {b o cap : Nat} {l : List (Int × Int)} (h : RowB w b o cap l) (q : Nat) : w.frozen? ⟨b, q, none⟩ = false := h.2.frozen q

theorem RowB.set {w : World} {b o cap : Nat} {l : List (Int × Int)} (h : RowB w b o cap l) (i : Nat) (x : Int × Int) (hi : i < l.length) :
    RowB ((w.setCell ⟨b, o + i * 2, none⟩ (.int .i64 x.1)).setCell ⟨b, o + i * 2 + 1, none⟩ (.int .i64 x.2)) b o cap (l.set i x) := by
  obtain ⟨h0, hr⟩ := h
  have hr2 := hr
  obtain ⟨_, c, h1, h2, _⟩ := hr2
  have hp := hr.putCells (i * 2) [.int .i64 x.1, .int .i64 x.2] (by rw [flatI_len]; omega) (by simp; omega)
  have e := flat_splice itemE.par l i x hi
  rw [flatI_flat, flatI_flat] at e
  have e' : (flatI l).take (i * 2) ++ [.int .i64 x.1, .int .i64 x.2] ++ (flatI l).drop (i * 2 + ([.int .i64 x.1, .int .i64 x.2] : List Value).length) = flatI (l.set i x) := e
  rw [e'] at hp
  refine ⟨by rw [List.length_set]; exact h0, ?_⟩
  rw [putCells_two h1 (by omega)]
  exact hp

theorem RowB.drew {w : World} {b o cap : Nat} {l : List (Int × Int)} (h : RowB w b o cap l) : RowB w.drew b o cap l := ⟨h.1, h.2.drew⟩

set_option maxRecDepth 100000 in
set_option maxHeartbeats 1000000 in
theorem reverse_row (b o cap : Nat) (l : List (Int × Int)) (w : World) (h : RowB w b o cap l) (hlen : l.length ≤ 4294967296) :
    Calls Try.prog 75 #[.slice (some ⟨b, o, none⟩) l.length cap] w fun e w' => e = .returned (.tuple #[]) ∧ RowB w' b o cap l.reverse ∧ Chg (fun b' _ => b' = b) w w' := by
  obtain ⟨n, hn⟩ : ∃ n, l.length = n := ⟨_, rfl⟩
  have HN := Lib.hid hn
  have H := Lib.hid h
  rw [hn] at hlen ⊢
  have s0 : IntKind.i64.wrap ((n : Int) - 1) = (n : Int) - 1 := IntWalk.i64_in _ (by omega)
  clear hn h
  go_enter Try.func75, Try.ntmps75
  go_wp2_with fail
  go_loopw [2, 3] (fun iv jv wr => ∃ (i : Nat) (z : Int) (L : List (Int × Int)), iv = .int .i64 i ∧ jv = .int .i64 z ∧ z = (n : Int) - 1 - i ∧ i ≤ n ∧ L.length = n ∧ RowB wr b o cap L ∧ (∀ q, q < n → L[q]? = if q < i ∨ n ≤ q + i then l[n - 1 - q]? else l[q]?) ∧ Chg (fun b' _ => b' = b) w wr) (fun iv _ _ => n - (intOf iv).toNat)
  case atStart => exact ⟨0, (n : Int) - 1, l, rfl, rfl, by omega, Nat.zero_le _, HN.out, H.out, (fun q hq => by rw [if_neg (by omega)]), Chg.refl _ _⟩
  case round =>
    obtain ⟨i, z, L, rfl, rfl, hz, hin, hL, hrow, hq, hc⟩ := hrel
    by_cases hlt : 2 * i + 1 < n
    · obtain ⟨j, hj⟩ : ∃ j : Nat, j = n - 1 - i := ⟨_, rfl⟩
      obtain rfl : z = (j : Int) := by omega
      obtain ⟨x, hx⟩ : ∃ x, L[i]? = some x := ⟨_, List.getElem?_eq_getElem (by omega)⟩
      obtain ⟨y, hy⟩ : ∃ y, L[j]? = some y := ⟨_, List.getElem?_eq_getElem (by omega)⟩
      have hij : (i : Int) < (j : Int) := by omega
      have i0 : (0 : Int) ≤ (i : Int) := by omega
      have i1 : (i : Int) < (n : Int) := by omega
      have j0 : (0 : Int) ≤ (j : Int) := by omega
      have j1 : (j : Int) < (n : Int) := by omega
      obtain ⟨x0, x1⟩ := hrow.cell hx
      obtain ⟨y0, y1⟩ := hrow.cell hy
      have HX := Lib.hid hx
      have HY := Lib.hid hy
      have HQ := Lib.hid hq
      have HR := Lib.hid hrow
      have HC := Lib.hid hc
      have HJ := Lib.hid hj
      have HL := Lib.hid hL
      have fz := hrow.fz
      clear hx hy hq hrow hc hj hz hL
      go_wp2_with fail
      refine wp_region_callp (fun w' => w'.cell? ⟨b, o + i * 2, none⟩ = some (.int .i64 x.1) ∧ w'.cell? ⟨b, o + i * 2 + 1, none⟩ = some (.int .i64 x.2) ∧ w'.cell? ⟨b, o + j * 2, none⟩ = some (.int .i64 y.1) ∧ w'.cell? ⟨b, o + j * 2 + 1, none⟩ = some (.int .i64 y.2))
        13 [2, 3] [0, 1, 4, 5, 6, 7, 8, 9, 10, 11, 12] _ [(14, true), (15, false)] (by kernel_rfl) (by kernel_rfl) (fun _ _ _ _ _ h => h) rfl rfl rfl ⟨x0, x1, y0, y1⟩ ?_
      simp only [pickOps, List.filterMap_cons, List.filterMap_nil, List.getElem?_cons_zero, List.getElem?_cons_succ]
      refine wpSoft_step ?_ rfl ?_ ?_
      rotate_left
      · intro w' hS
        try obtain ⟨a1⟩ := hS
        go_simp
        try with_reducible rfl
      simp only [Act.put, List.setIfInBounds_toArray, List.set_cons_zero, List.set_cons_succ]
      refine wpSoft_step ?_ rfl ?_ ?_
      rotate_left
      · intro w' hS
        try obtain ⟨a1⟩ := hS
        go_simp
        try with_reducible rfl
      simp only [Act.put, List.setIfInBounds_toArray, List.set_cons_zero, List.set_cons_succ]
      refine wpSoft_nil ?_
      refine wpSoft_step ?_ rfl ?_ ?_
      rotate_left
      · intro w' hS
        try obtain ⟨a1, a2, a3, a4⟩ := hS
        go_simp
        try with_reducible rfl
      simp only [Act.put, List.setIfInBounds_toArray, List.set_cons_zero, List.set_cons_succ]
      refine wpSoft_step ?_ rfl ?_ ?_
      rotate_left
      · intro w' hS
        try obtain ⟨a1, a2, a3, a4⟩ := hS
        go_simp
        try with_reducible rfl
      simp only [Act.put, List.setIfInBounds_toArray, List.set_cons_zero, List.set_cons_succ]
      refine wpSoft_step ?_ rfl ?_ ?_
      rotate_left
      · intro w' hS
        try obtain ⟨a1, a2, a3, a4⟩ := hS
        go_simp
        try with_reducible rfl
      simp only [Act.put, List.setIfInBounds_toArray, List.set_cons_zero, List.set_cons_succ]
      refine wpSoft_step ?_ rfl ?_ ?_
      rotate_left
      · intro w' hS
        try obtain ⟨a1, a2, a3, a4⟩ := hS
        go_simp
        try with_reducible rfl
      simp only [Act.put, List.setIfInBounds_toArray, List.set_cons_zero, List.set_cons_succ]
      refine wpSoft_step ?_ rfl ?_ ?_
      rotate_left
      · intro w' hS
        try obtain ⟨a1, a2, a3, a4⟩ := hS
        go_simp
        try with_reducible rfl
      simp only [Act.put, List.setIfInBounds_toArray, List.set_cons_zero, List.set_cons_succ]
      refine wpSoft_step ?_ rfl ?_ ?_
      rotate_left
      · intro w' hS
        try obtain ⟨a1, a2, a3, a4⟩ := hS
        go_simp
        try with_reducible rfl
      simp only [Act.put, List.setIfInBounds_toArray, List.set_cons_zero, List.set_cons_succ]
      refine wpSoft_step ?_ rfl ?_ ?_
      rotate_left
      · intro w' hS
        try obtain ⟨a1, a2, a3, a4⟩ := hS
        go_simp
        try with_reducible rfl
      simp only [Act.put, List.setIfInBounds_toArray, List.set_cons_zero, List.set_cons_succ]
      refine wpSoft_step ?_ rfl ?_ ?_
      rotate_left
      · intro w' hS
        try obtain ⟨a1, a2, a3, a4⟩ := hS
        go_simp
        try with_reducible rfl
      simp only [Act.put, List.setIfInBounds_toArray, List.set_cons_zero, List.set_cons_succ]
      refine wpSoft_step ?_ rfl ?_ ?_
      rotate_left
      · intro w' hS
        try obtain ⟨a1, a2, a3, a4⟩ := hS
        go_simp
        try with_reducible rfl
      simp only [Act.put, List.setIfInBounds_toArray, List.set_cons_zero, List.set_cons_succ]
      refine wpSoft_step ?_ rfl ?_ ?_
      rotate_left
      · intro w' hS
        try obtain ⟨a1, a2, a3, a4⟩ := hS
        go_simp
        try with_reducible rfl
      simp only [Act.put, List.setIfInBounds_toArray, List.set_cons_zero, List.set_cons_succ]
      refine wpSoft_step ?_ rfl ?_ ?_
      rotate_left
      · intro w' hS
        try obtain ⟨a1, a2, a3, a4⟩ := hS
        go_simp
        try with_reducible rfl
      simp only [Act.put, List.setIfInBounds_toArray, List.set_cons_zero, List.set_cons_succ]
      refine wpSoft_nil ?_
      have hxl : i < L.length := (List.getElem?_eq_some_iff.1 HX.out).1
      have r1 := HR.out.drew.set i y hxl
      have r2 := r1.set j x (by rw [List.length_set]; exact (List.getElem?_eq_some_iff.1 HY.out).1)
      have n0 : ¬ (i : Int) = (j : Int) := by omega
      have R2 := Lib.hid r2
      obtain ⟨v0, v1⟩ := r1.cell (j := j) (x := y) (by rw [List.getElem?_set_ne (by omega)]; exact HY.out)
      clear r1 r2
      refine wp_hide (fun K hK => ?_)
      go_simp
      refine hK _ _ ?_
      clear hK K
      refine script_soft (by rfl) ?_ (by simp [Region.wanted, yielded]) ?_ ?_
      rotate_left
      · intro w' hS
        try obtain ⟨a1⟩ := hS
        go_simp
        try with_reducible rfl
      simp only [Act.put, List.setIfInBounds_toArray, List.set_cons_zero, List.set_cons_succ]
      refine script_hard (by rfl) (by simp [Region.wanted, yielded]) (fun K hK => ?_)
      go_simp
      refine hK _ _ (fun _ => trivial) ?_
      clear hK K
      refine script_nil ?_
      have s1 : IntKind.i64.wrap ((i : Int) + 1) = ((i + 1 : Nat) : Int) := (by rw [IntWalk.i64_in _ (by omega)]; omega)
      have s2 : IntKind.i64.wrap ((j : Int) - 1) = (j : Int) - 1 := IntWalk.i64_in _ (by omega)
      refine name_prop (fun w2 => RowB w2 b o cap ((L.set i y).set j x) ∧ Chg (fun b' _ => b' = b) w w2) ⟨R2.out, ?_⟩ ?_
      · refine HC.out.trans ?_
        repeat (first | refine Chg.setCell ?_ (.inl rfl) _ | refine Chg.drew ?_ | exact Chg.refl _ _)
      clear x0 x1 y0 y1 v0 v1 R2
      rintro w2 ⟨r2, hc2⟩
      have R2 := Lib.hid r2
      clear r2
      go_wp2_with fail
      go_roundw
      case rel =>
        have hj := HJ.out
        refine ⟨i + 1, (j : Int) - 1, _, rfl, rfl, by omega, by omega, by rw [List.length_set, List.length_set]; exact HL.out, R2.out, fun q hqn => ?_, hc2⟩
        have hq := HQ.out
        have hl := HL.out
        have hxi := hq i (by omega)
        have hyj := hq j (by omega)
        rw [if_neg (by omega), HX.out] at hxi
        rw [if_neg (by omega), HY.out] at hyj
        by_cases e1 : q = j
        · subst e1
          rw [if_pos (by omega), List.getElem?_set_self (by rw [List.length_set]; omega), show n - 1 - q = i by omega]
          exact hxi
        · rw [List.getElem?_set_ne (Ne.symm e1)]
          by_cases e2 : q = i
          · subst e2
            rw [if_pos (by omega), List.getElem?_set_self (by omega), show n - 1 - q = j by omega]
            exact hyj
          · rw [List.getElem?_set_ne (Ne.symm e2), hq q hqn]
            by_cases e3 : q < i ∨ n ≤ q + i
            · rw [if_pos e3, if_pos (by omega)]
            · rw [if_neg e3, if_neg (by omega)]
      case measure => simp [intOf]; omega
    · have hij : ¬ (i : Int) < z := by omega
      have hfin : L = l.reverse := by
        refine List.ext_getElem? fun q => ?_
        by_cases hqn : q < n
        · rw [hq q hqn, List.getElem?_reverse (by rw [HN.out]; exact hqn), HN.out]
          by_cases e3 : q < i ∨ n ≤ q + i
          · rw [if_pos e3]
          · rw [if_neg e3, show n - 1 - q = q by omega]
        · rw [List.getElem?_eq_none_iff.2 (by omega), List.getElem?_eq_none_iff.2 (by rw [List.length_reverse, HN.out]; omega)]
      have HF := Lib.hid hfin
      have HR := Lib.hid hrow
      clear hfin hrow hq hz hL
      go_wp2_with fail
      go_end0
      exact ⟨rfl, by rw [← HF.out]; exact HR.out, hc⟩

theorem OutI.reverse_any (v : Value) (l : List (Int × Int)) (base : Nat) (w : World) (h : OutI w v l base) (hlen : l.length ≤ 4294967296) :
    Calls Try.prog 75 #[v] w fun e w' => e = .returned (.tuple #[]) ∧ OutI w' v l.reverse base ∧ Chg (fun b' _ => v.ownBlock = some b') w w' := by
  rcases h with ⟨rfl, rfl⟩ | ⟨b, o, cap, rfl, h2, h3, h4⟩
  · go_enter Try.func75, Try.ntmps75
    go_wp2_with fail
    go_loopw [2, 3] (fun iv jv wr => iv = .int .i64 0 ∧ jv = .int .i64 (-1) ∧ Chg (fun _ _ => False) w wr) (fun _ _ _ => 0)
    case atStart => exact ⟨rfl, rfl, Chg.refl _ _⟩
    case round =>
      obtain ⟨rfl, rfl, hc⟩ := hrel
      go_wp2_with fail
      go_end0
      exact ⟨rfl, .inl ⟨rfl, rfl⟩, hc.mono (fun _ _ _ h => h.elim)⟩
  · refine (reverse_row b o cap l w ⟨h2, h4⟩ hlen).mono ?_
    rintro e w' ⟨rfl, h5, h6⟩
    exact ⟨rfl, .inr ⟨b, o, cap, by rw [List.length_reverse], h5.1, h3, h5.2⟩, h6.mono (fun b' _ _ e => by rw [e]; rfl)⟩

theorem OutI.own {w : World} {v : Value} {l : List (Int × Int)} {base : Nat} (h : OutI w v l base) : ∀ b, v.ownBlock = some b → base ≤ b ∧ b < w.heap.size := by
  rcases h with ⟨_, rfl⟩ | ⟨b, o, cap, rfl, h2, h3, h4⟩
  · intro b hb; cases hb
  · intro b' hb
    have e : b = b' := Option.some.inj hb
    subst e
    exact ⟨h3, h4.lt⟩

theorem OutI.sl {w : World} {v : Value} {l : List (Int × Int)} {base : Nat} (h : OutI w v l base) : SlE itemE w v l := by
  obtain ⟨p, cap, rfl, hi, hcap⟩ := h.items
  exact hi.sl hcap

theorem OutI.form {w : World} {v : Value} {l : List (Int × Int)} {base : Nat} (h : OutI w v l base) : ∃ a cap, v = .slice a l.length cap := by
  obtain ⟨p, cap, rfl, _, _⟩ := h.items
  exact ⟨p, cap, rfl⟩

theorem turned_any (v : Value) (l : List (Int × Int)) (w : World) (hs : SlE itemE w v l) (hlen : l.length ≤ 4294967296) :
    Calls Try.prog 45 #[v] w (OwnOutI l.reverse w) := by
  have HC := Lib.hid (cloneI_any v l w hs hlen)
  obtain ⟨a, cap, rfl⟩ := hs.form
  clear hs
  go_enter Try.func45, Try.ntmps45
  go_wp2_with fail
  refine HC.out.mono ?_
  rintro e w1 ⟨v1, rfl, h1, hc1⟩
  have HR := Lib.hid (OutI.reverse_any v1 l w.heap.size w1 h1 hlen)
  have hown := h1.own
  obtain ⟨a1, cap1, rfl⟩ := h1.form
  clear h1
  go_wp2_with fail
  refine HR.out.mono ?_
  rintro e w2 ⟨rfl, h2, hc2⟩
  have H2 := Lib.hid h2
  clear h2
  go_wp2_with fail
  go_ret
  exact ⟨_, rfl, H2.out, hc1.trans' hc2 (fun _ _ _ h => h) (fun b o hb e => by have := (hown b e).1; omega)⟩
end Go.Proofs.Ytojplcbkiogcpaa

namespace Go.Proofs.Ytojplcbkiogcpaa
set_option linter.unusedSimpArgs false
set_option linter.unusedVariables false
open Go.RowKit

section
variable {P : Program} {α : Type}

theorem run_append_zero (w : World) (t ty e : TypeId) (i : TypeInfo) (ht : P.underlying t = some (.slice e)) (hi : P.info? e = some i) (a b : Option Addr) (n cap c : Nat) (hn : n ≤ cap) :
    (Builtin.append_ #[t, t] ty #[.slice a n cap, .slice b 0 c]).run P w = .ok (.slice a n cap) w := by
  cases b with
  | none => cases a <;> simp [Builtin.append_, run_underlying ht, sizeOf, typeInfo, hi, Builtin.lenOf, Builtin.firstCells, hn, storeCells]
  | some b =>
    have hf := run_firstCells_some (P := P) w i.size 0 b 0 c [] (by simp) (by simp)
    cases a <;> simp [Builtin.append_, run_underlying ht, sizeOf, typeInfo, hi, Builtin.lenOf, hn, storeCells, hf]

theorem wpList_append_zero {ops : Array Oper} {rest : List Oper} {o' : Oper} {ac : Act} {w : World} {Q : Exit → Act → World → Prop} (hgd : o'.guard = none) (s x : Operand) (t : TypeId)
    (ho : o'.op = .call { callee := .builtin .append, args := #[s, x], argTypes := #[t, t] }) (e : TypeId) (i : TypeInfo) (ht : P.underlying t = some (.slice e)) (hi : P.info? e = some i)
    (a b : Option Addr) (n cap c : Nat) (hs : ac.eval s = .slice a n cap) (hx : ac.eval x = .slice b 0 c) (hn : n ≤ cap)
    (h : wpList P ops Q rest (ac.put o'.dst (.slice a n cap)) w) : wpList P ops Q (o' :: rest) ac w := by
  refine wpList_plain hgd fun K hK => ?_
  have hr := run_append_zero (P := P) w t o'.type e i ht hi a b n cap c hn
  unfold Oper.wp execOp
  simp only [ho, resolve, invoke, builtin, Sem.run_bind, Sem.run_pure, Result.andThen_ok, List.map_toArray, List.map_cons, List.map_nil, hs, hx, hr]
  exact hK _ _ h

theorem wpList_append_run {ops : Array Oper} {rest : List Oper} {o' : Oper} {ac : Act} {w : World} {Q : Exit → Act → World → Prop} (hgd : o'.guard = none) (s x : Operand) (t tn : TypeId)
    (ho : o'.op = .call { callee := .builtin .append, args := #[s, x], argTypes := #[t, tn] }) (vs vx : Value) (hs : ac.eval s = vs) (hx : ac.eval x = vx) (v' : Value) (w' : World)
    (hr : (Builtin.append_ #[t, tn] o'.type #[vs, vx]).run P w = .ok v' w') (h : wpList P ops Q rest (ac.put o'.dst v') w') : wpList P ops Q (o' :: rest) ac w := by
  refine wpList_plain hgd fun K hK => ?_
  unfold Oper.wp execOp
  simp only [ho, resolve, invoke, builtin, Sem.run_bind, Sem.run_pure, Result.andThen_ok, List.map_toArray, List.map_cons, List.map_nil, hs, hx, hr]
  exact hK _ _ h
end

/-- append of a whole list to a list of the call's own. -/
theorem own_append (w : World) (v : Value) (xs : List (Int × Int)) (base : Nat) (how : OwnE itemE w v xs base) (hbase : base ≤ w.heap.size) (x : Value) (ys : List (Int × Int)) (hx : SlE itemE w x ys) (h63 : xs.length + ys.length ≤ 8589934592) (ty : TypeId) :
    ∃ v' w', (Builtin.append_ #[31, 31] ty #[v, x]).run Try.prog w = .ok v' w' ∧ OwnE itemE w' v' (xs ++ ys) base ∧ Chg (fun b _ => v.ownBlock = some b) w w' := by
  obtain ⟨i0, hi0, hz0, hz1, hz2⟩ := info_parts infoItem
  obtain ⟨a, cap, rfl, hcap, hc⟩ := hx
  by_cases h0 : ys.length = 0
  · have hnil : ys = [] := List.eq_nil_of_length_eq_zero h0
    rw [h0, hnil, List.append_nil]
    rcases how with ⟨rfl, rfl⟩ | ⟨b, o, c2, rfl, h2, h3, h4⟩
    · exact ⟨_, _, run_append_zero w _ _ _ i0 Try.underlying31 hi0 none a 0 0 cap (Nat.le_refl _), .inl ⟨rfl, rfl⟩, Chg.refl _ _⟩
    · exact ⟨_, _, run_append_zero w _ _ _ i0 Try.underlying31 hi0 _ a _ _ cap h2, .inr ⟨b, o, c2, rfl, h2, h3, h4⟩, Chg.refl _ _⟩
  · rcases hc with h | ⟨b, o, rfl, hcell⟩
    · rw [h] at h0; exact absurd rfl h0
    · obtain ⟨v', w', hr, h2, h3, _, _⟩ := run_append_E2 (P := Try.prog) itemE w 31 ty i0 _ 16 Try.underlying31 hi0 hz0 hz1 hz2 rfl v xs base how hbase ⟨b, o, none⟩ ys.length cap ys rfl (by omega)
        (fun j u hj => by rw [add_none]; exact hcell j u hj) (by unfold maxLen; omega) (by omega)
      exact ⟨v', w', hr, h2, h3⟩

set_option maxRecDepth 100000 in
theorem grow_nil (n : Nat) (w : World) (hn : n ≤ 8589934592) :
    Calls Try.prog 77 #[.slice none 0 0, .int .i64 n] w fun e w' => ∃ v, e = .returned v ∧ OwnE itemE w' v [] w.heap.size ∧ Chg (fun _ _ => False) w w' := by
  obtain ⟨i0, hi0, hz0, hz1, hz2⟩ := info_parts infoItem
  have s1 : IntKind.i64.wrap (n : Int) = (n : Int) := IntWalk.i64_in _ (by omega)
  have n0 : ¬ ((n : Int) < 0) := by omega
  by_cases h0 : n = 0
  · subst h0
    go_enter Try.func77, Try.ntmps77
    go_wp2_with fail
    go_ret
    exact ⟨_, rfl, .inl ⟨rfl, rfl⟩, Chg.refl _ _⟩
  · have hgt : (0 : Int) < (n : Int) := by omega
    go_enter Try.func77, Try.ntmps77
    have hcg := grownCap_ge w n 0 26
    have hcm : grownCap w n 0 26 ≤ maxLen := grownCap_le_maxLen w n 0 26 (by unfold maxLen; omega)
    have hrun := Lib.run_append_nil_zeros (P := Try.prog) w 31 3 31 26 i0 _ .i64 .i64 Try.underlying31 Try.underlying3 hi0 hz0 n (by omega) (by rw [hz1]; decide) (by omega) (by rw [hz2]; omega)
    unfold maxLen at hcm
    generalize grownCap w n 0 26 = cp at hcg hcm hrun
    have HRUN := Lib.hid hrun
    have c0 : (0 : Int) ≤ (n : Int) := by omega
    have c1 : ¬ cp = 0 := by omega
    clear hrun
    go_wp2_with (refine wpList_append_run (by rfl) _ _ _ _ (by rfl) (.slice none 0 0) (.int .i64 n) (by rfl) (by rfl) _ _ HRUN.out ?_)
    refine name_prop (fun w2 => RowAt w2 26 w.heap.size 0 (cp * 2) [] ∧ Chg (fun _ _ => False) w w2) ⟨?_, ?_⟩ ?_
    · refine RowAt.of_block (by first | exact heap_alloc_new w.drew _ | (rw [hd_drew]; exact ha_at _ _ rfl)) _ _ (by simp) ?_ (by simp)
      have e : (Value.agg #[Value.int IntKind.i64 0, Value.int IntKind.i64 0]).cells.size = 2 := rfl
      simp only [Array.size_append, size_zeroCells, e]
      show 0 + cp * 2 ≤ n * 2 + (cp - n) * 2
      omega
    · repeat (first | refine Chg.drew ?_ | refine Chg.alloc ?_ _ | exact Chg.refl _ _)
    rintro w2 ⟨hrow, hc⟩
    go_ret
    exact ⟨_, rfl, .inr ⟨w.heap.size, 0, cp, rfl, Nat.zero_le _, Nat.le_refl _, hrow⟩, hc⟩

set_option maxRecDepth 100000 in
set_option maxHeartbeats 1000000 in
theorem concat_two (bq cq : Nat) (v1 v2 : Value) (l1 l2 : List (Int × Int)) (w : World) (hq : w.heap[bq]? = some (.cells #[v1, v2] 31 (0, 0))) (h1 : SlE itemE w v1 l1) (h2 : SlE itemE w v2 l2) (hl : l1.length + l2.length ≤ 8589934592) :
    Calls Try.prog 47 #[.slice (some ⟨bq, 0, none⟩) 2 cq] w fun e w' => ∃ v, e = .returned v ∧ OwnE itemE w' v (l1 ++ l2) w.heap.size ∧ Chg (fun _ _ => False) w w' := by
  have H1 := Lib.hid h1
  have H2 := Lib.hid h2
  obtain ⟨a1, c1, rfl⟩ := h1.form
  obtain ⟨a2, c2, rfl⟩ := h2.form
  have q0 := cell_of_block hq 0
  have q1 := cell_of_block hq 1
  simp only [List.getElem?_toArray, List.getElem?_cons_zero, List.getElem?_cons_succ] at q0 q1
  have HQ := Lib.hid hq
  clear hq h1 h2
  go_enter Try.func47, Try.ntmps47
  go_wp2_with fail
  go_loopw [3, 11] (fun sv iv wr => ∃ (j s : Nat), sv = .int .i64 s ∧ iv = .int .i64 j ∧ ((j = 0 ∧ s = 0) ∨ (j = 1 ∧ s = l1.length) ∨ (j = 2 ∧ s = l1.length + l2.length)) ∧ Chg (fun _ _ => False) w wr) (fun _ iv _ => 2 - (intOf iv).toNat)
  case atStart => exact ⟨0, 0, rfl, rfl, .inl ⟨rfl, rfl⟩, Chg.refl _ _⟩
  case round =>
    obtain ⟨j, s, rfl, rfl, hj, hcw⟩ := hrel
    replace q0 := hcw.cell (fun h => h) q0
    replace q1 := hcw.cell (fun h => h) q1
    rcases hj with ⟨rfl, rfl⟩ | ⟨rfl, rfl⟩ | ⟨rfl, rfl⟩
    · have s1 : IntKind.i64.wrap (l1.length : Int) = (l1.length : Int) := IntWalk.i64_in _ (by omega)
      have s2 : ¬ (l1.length : Int) < 0 := by omega
      go_wp2_with fail
      go_roundw
      case rel => exact ⟨1, l1.length, rfl, rfl, .inr (.inl ⟨rfl, rfl⟩), hcw⟩
      case measure => simp [intOf]
    · have s1 : IntKind.i64.wrap ((l1.length : Int) + (l2.length : Int)) = ((l1.length + l2.length : Nat) : Int) := (by rw [IntWalk.i64_in _ (by omega)]; omega)
      have s2 : ¬ ((l1.length + l2.length : Nat) : Int) < 0 := by omega
      go_wp2_with fail
      go_roundw
      case rel => exact ⟨2, l1.length + l2.length, rfl, rfl, .inr (.inr ⟨rfl, rfl⟩), hcw⟩
      case measure => simp [intOf]
    · have hg := grow_nil (l1.length + l2.length) wr hl
      rw [Int.natCast_add] at hg
      have HG := Lib.hid hg
      clear hg
      go_wp2_with fail
      refine HG.out.mono ?_
      rintro e w1 ⟨v0, rfl, hv0', hc1'⟩
      have hv0 := hv0'.mono hcw.size
      have hc1 := hcw.trans hc1'
      clear q0 q1 hv0' hc1' hcw
      go_wp2_with fail
      go_loopw [6, 27] (fun sv iv wr => ∃ (j : Nat) (L : List (Int × Int)), iv = .int .i64 j ∧ OwnE itemE wr sv L w.heap.size ∧ ((j = 0 ∧ L = []) ∨ (j = 1 ∧ L = l1) ∨ (j = 2 ∧ L = l1 ++ l2)) ∧ Chg (fun _ _ => False) w wr) (fun _ iv _ => 2 - (intOf iv).toNat)
      case atStart => exact ⟨0, [], rfl, hv0, .inl ⟨rfl, rfl⟩, hc1⟩
      case round =>
        obtain ⟨j, L, rfl, how, hj, hc⟩ := hrel
        rcases hj with ⟨rfl, rfl⟩ | ⟨rfl, hL⟩ | ⟨rfl, rfl⟩
        · have hq2 : wr.heap[bq]? = some (.cells #[.slice a1 l1.length c1, .slice a2 l2.length c2] 31 (0, 0)) := by rw [hc.block (heap_lt HQ.out) (fun _ h => h)]; exact HQ.out
          have q0 := cell_of_block hq2 0
          have q1 := cell_of_block hq2 1
          simp only [List.getElem?_toArray, List.getElem?_cons_zero, List.getElem?_cons_succ] at q0 q1
          obtain ⟨v', w', hr, h2, h3⟩ := own_append wr u6 [] w.heap.size how hc.size (.slice a1 l1.length c1) l1 (H1.out.chg hc) (by first | omega | (simp; omega)) 31
          have HR := Lib.hid hr
          have H22 := Lib.hid h2
          have hc3 : Chg (fun _ _ => False) w w' := hc.trans' h3 (fun _ _ _ h => h) (fun b o hb e => by have := (how.own_lt e).1; omega)
          clear hq2 hr h2 h3 how hc
          go_wp2_with (refine wpList_append_run (by rfl) _ _ _ _ (by rfl) u6 (.slice a1 l1.length c1) (by rfl) (by rfl) _ _ HR.out ?_)
          go_roundw
          case rel => exact ⟨1, _, rfl, H22.out, .inr (.inl ⟨rfl, rfl⟩), hc3⟩
          case measure => simp [intOf]
        · have hL' := hL.symm
          subst hL'
          have hq2 : wr.heap[bq]? = some (.cells #[.slice a1 l1.length c1, .slice a2 l2.length c2] 31 (0, 0)) := by rw [hc.block (heap_lt HQ.out) (fun _ h => h)]; exact HQ.out
          have q0 := cell_of_block hq2 0
          have q1 := cell_of_block hq2 1
          simp only [List.getElem?_toArray, List.getElem?_cons_zero, List.getElem?_cons_succ] at q0 q1
          obtain ⟨v', w', hr, h2, h3⟩ := own_append wr u6 _ w.heap.size how hc.size (.slice a2 l2.length c2) l2 (H2.out.chg hc) (by first | omega | (simp; omega)) 31
          have HR := Lib.hid hr
          have H22 := Lib.hid h2
          have hc3 : Chg (fun _ _ => False) w w' := hc.trans' h3 (fun _ _ _ h => h) (fun b o hb e => by have := (how.own_lt e).1; omega)
          clear hq2 hr h2 h3 how hc
          go_wp2_with (refine wpList_append_run (by rfl) _ _ _ _ (by rfl) u6 (.slice a2 l2.length c2) (by rfl) (by rfl) _ _ HR.out ?_)
          go_roundw
          case rel => exact ⟨2, _, rfl, H22.out, .inr (.inr ⟨rfl, rfl⟩), hc3⟩
          case measure => simp [intOf]
        · go_wp2_with fail
          go_ret
          exact ⟨_, rfl, how, hc⟩
end Go.Proofs.Ytojplcbkiogcpaa

namespace Go.Proofs.Ytojplcbkiogcpaa
set_option linter.unusedSimpArgs false
set_option linter.unusedVariables false
open Go.RowKit

theorem growL_srt {ord : List Int} (l : List (It ord)) : Srt ltM (growL l) := by
  unfold growL
  have key : ∀ (l acc : List (It ord)), Srt ltM acc → Srt ltM (l.foldl (fun acc x => insL ltM x acc) acc) := by
    intro l
    induction l with
    | nil => intro acc h; exact h
    | cons x l ih => intro acc h; exact ih _ (insL_srt swoM x h)
  exact key l [] List.Pairwise.nil

theorem parts_of {ord : List Int} (L : List (It ord)) (x : It ord) (hs : Srt ltM L) :
    (fndL ltM x L = none ∧ dwn ltM x L ++ upp ltM x L = L) ∨ ∃ y A B, fndL ltM x L = some y ∧ L = A ++ y :: B ∧ dwn ltM x L = A ++ [y] ∧ upp ltM x L = y :: B := by
  rcases pos_or_hit swoM (x := x) hs with ⟨i, hp⟩ | ⟨i, y, hy⟩
  · refine .inl ⟨(pos_gap swoM (xs := L) hp).2, ?_⟩
    rw [dwn_leaf_pos hp, upp_leaf_pos hp, List.take_append_drop]
  · have e := split_at hy.at_
    have hA : ∀ a ∈ L.take i, ltM a x = true := fun a ha => by
      obtain ⟨j, hj, e⟩ := mem_take_get ha
      exact hy.left j a hj e
    refine .inr ⟨y, L.take i, L.drop (i + 1), ?_, e, ?_, ?_⟩
    · conv => lhs; rw [e]
      exact fndL_hit hA hy.n1 hy.n2
    · rw [dwn_leaf_hit hs hy, List.take_add_one, hy.at_]; rfl
    · rw [upp_leaf_hit hs hy, drop_cons hy.at_]

theorem firstN0 {α : Type} (l : List α) : firstN 0 l = l := by simp [firstN]

theorem slOne {w : World} {b : Nat} {x : Int × Int} (h : w.heap[b]? = some (.cells #[.int .i64 x.1, .int .i64 x.2] 26 (0, 0))) : SlE itemE w (.slice (some ⟨b, 0, none⟩) 1 1) [x] := by
  refine ⟨some ⟨b, 0, none⟩, 1, rfl, Nat.le_refl _, .inr ⟨b, 0, rfl, fun j u hj => ?_⟩⟩
  have := El.src1 itemE h x rfl j u hj
  rw [add_none] at this
  exact this

theorem SlE.tail {w : World} {b o n c : Nat} {y : Int × Int} {B : List (Int × Int)} (h : SlE itemE w (.slice (some ⟨b, o, none⟩) n c) (y :: B)) : SlE itemE w (.slice (some ⟨b, o + 2, none⟩) (n - 1) (c - 1)) B := by
  obtain ⟨a, cap, e, h2, h3⟩ := h
  injection e with e1 e2 e3
  subst e1
  subst e3
  rw [List.length_cons] at h2 e2
  refine ⟨some ⟨b, o + 2, none⟩, c - 1, by rw [e2, Nat.add_sub_cancel], by omega, .inr ⟨b, o + 2, rfl, fun j u hj => ?_⟩⟩
  rcases h3 with h3 | ⟨b', o', e4, h4⟩
  · cases h3
  · obtain ⟨rfl, rfl⟩ : b = b' ∧ o = o' := by simpa using e4
    have hd := flat_drop itemE.par (y :: B) 1
    have hd' : (flat itemE.par (y :: B)).drop 2 = flat itemE.par B := hd
    rw [← hd', List.getElem?_drop] at hj
    have := h4 (2 + j) u hj
    rw [Nat.add_assoc]; exact this

theorem SlE.tail0 {w : World} {b o n : Nat} {y : Int × Int} {B : List (Int × Int)} (h : SlE itemE w (.slice (some ⟨b, o, none⟩) n 1) (y :: B)) : SlE itemE w (.slice (some ⟨b, o, none⟩) (n - 1) 0) B := by
  obtain ⟨a, cap, e, h2, h3⟩ := h
  injection e with e1 e2 e3
  subst e3
  rw [List.length_cons] at h2 e2
  have hb : B.length = 0 := by omega
  refine ⟨some ⟨b, o, none⟩, 0, by rw [e2, Nat.add_sub_cancel], by omega, .inl (List.eq_nil_of_length_eq_zero hb)⟩

set_option maxRecDepth 100000 in
set_option maxHeartbeats 1000000 in
theorem law_GParts (sv : Value) (os : List Int) (d : Int) (nl : Bool) (p : Option Addr) (cap : Nat) (l : List (Int × Int)) (x : Int × Int)  (w : World) (hs : SlE intE w sv os) (hl : ItemsAt w p l) :
    Calls Try.prog 14 #[.agg #[sv, .int .i64 d, .bool nl], .slice p l.length cap, .agg #[.int .i64 x.1, .int .i64 x.2]] w fun e w' => e = .returned (.bool true) ∧ Chg (fun _ _ => False) w w' := by
  obtain ⟨sa, sc, rfl⟩ : ∃ a c, sv = .slice a os.length c := hs.form
  have hz := fun w1 => zzFits1_any sa os.length sc d nl w1
  by_cases hol : os.length ≤ 2147483647
  rotate_left
  · rw [decide_eq_false hol] at hz
    go_enter Try.func14, Try.ntmps14
    go_wp2_with fail
    refine name_calls (fun w1 => Chg (fun _ _ => False) w w1) ((((Chg.refl _ _).alloc _).alloc _)) ?_
    intro w1 hc1
    refine (hz w1).mono ?_
    rintro e w2 ⟨rfl, hc2⟩
    go_wp2_with fail
    go_ret
    exact ⟨rfl, hc1.trans hc2⟩
  rw [decide_eq_true hol] at hz
  by_cases hlen : l.length ≤ 2147483647
  rotate_left
  · have hlen' : 2147483647 < l.length := by omega
    go_enter Try.func14, Try.ntmps14
    go_wp2_with fail
    refine name_calls (fun w1 => Chg (fun _ _ => False) w w1) ((((Chg.refl _ _).alloc _).alloc _)) ?_
    intro w1 hc1
    refine (hz w1).mono ?_
    rintro e w2 ⟨rfl, hc2⟩
    go_wp2_with fail
    go_ret
    exact ⟨rfl, hc1.trans hc2⟩
  have hn : ¬ 2147483647 < l.length := by omega
  have HS := Lib.hid hs
  have HL := Lib.hid hl
  have HOL := Lib.hid hol
  have HLN := Lib.hid hlen
  clear hs hl
  go_enter Try.func14, Try.ntmps14
  go_wp2_with fail
  refine name_calls (fun w1 => Chg (fun _ _ => False) w w1 ∧ w1.heap[w.heap.size]? = some (.cells #[.slice sa os.length sc, .int .i64 d, .bool nl] 24 (0, 0)) ∧ w1.heap[w.heap.size + 1]? = some (.cells #[.int .i64 x.1, .int .i64 x.2] 26 (0, 0))) ⟨(((Chg.refl _ _).alloc _).alloc _), ?_, ?_⟩ ?_
  · rw [ha_lt _ _ (by simp; try omega)]; exact ha_at _ _ rfl
  · exact ha_at _ _ (by simp)
  rintro w1 ⟨hc1, hb0, hb1⟩
  have q0 := cell_of_block hb1 0
  have q1 := cell_of_block hb1 1
  have m0 := cell_of_block hb0 0
  have m1 := cell_of_block hb0 1
  have m2 := cell_of_block hb0 2
  simp only [List.getElem?_toArray, List.getElem?_cons_zero, List.getElem?_cons_succ] at m0 m1 m2 q0 q1
  clear hb0 hb1
  refine (hz w1).mono ?_
  rintro e w2 ⟨rfl, hc2⟩
  replace m0 := hc2.cell (fun h => h) m0
  replace m1 := hc2.cell (fun h => h) m1
  replace m2 := hc2.cell (fun h => h) m2
  replace q0 := hc2.cell (fun h => h) q0
  replace q1 := hc2.cell (fun h => h) q1
  go_wp2_with fail
  by_cases hd : FitD d
  rotate_left
  · refine (lawFits_no sa _ sc d nl _ hd).mono ?_
    rintro e w3 ⟨rfl, hc3⟩
    go_wp2_with fail
    refine (alive_any _).mono ?_
    rintro e w4 ⟨rfl, hc4⟩
    go_wp2_with fail
    go_ret
    exact ⟨rfl, ((hc1.trans hc2).trans hc3).trans hc4⟩
  refine (lawFits_yes sa _ sc d nl _ hd).mono ?_
  rintro e w3 ⟨rfl, hc3⟩
  replace m0 := hc3.cell (fun h => h) m0
  replace m1 := hc3.cell (fun h => h) m1
  replace m2 := hc3.cell (fun h => h) m2
  replace q0 := hc3.cell (fun h => h) q0
  replace q1 := hc3.cell (fun h => h) q1
  have hc03 := (hc1.trans hc2).trans hc3
  clear hz hc1 hc2 hc3
  have hgl := growL_take_len (ord := os) l l.length
  rw [List.take_length] at hgl
  have hul := upp_len (ord := os) ltM x (growL l)
  have hdl := dwn_len (ord := os) ltM x (growL l)
  have hsr := growL_srt (ord := os) l
  have hpt := parts_of (ord := os) (growL l) x hsr
  have G1 := fun w1 (c : Chg (fun _ _ => False) w w1) => GDescend_any (ord := os) (.slice sa os.length sc) d nl p cap l x 0 w1 (HS.out.chg c) HOL.out hd (HL.out.chg c) HLN.out
  have G2 := fun w1 (c : Chg (fun _ _ => False) w w1) => GAscend_any (ord := os) (.slice sa os.length sc) d nl p cap l x 0 w1 (HS.out.chg c) HOL.out hd (HL.out.chg c) HLN.out
  have G3 := fun w1 (c : Chg (fun _ _ => False) w w1) b (hb : w1.heap[b]? = some (.cells #[.int .i64 x.1, .int .i64 x.2] 26 (0, 0))) => GGet_any (ord := os) (.slice sa os.length sc) d nl p cap l (.slice (some ⟨b, 0, none⟩) 1 1) [x] w1 (HS.out.chg c) HOL.out hd (HL.out.chg c) HLN.out (slOne hb) (by simp)
  have G4 := fun w1 (c : Chg (fun _ _ => False) w w1) => GItems_any (ord := os) (.slice sa os.length sc) d nl p cap l w1 (HS.out.chg c) HOL.out hd (HL.out.chg c) HLN.out
  simp only [firstN0, List.map_cons, List.map_nil] at G1 G2 G3
  unfold OwnPostI at G1 G2 G4
  unfold OwnPostF at G3
  have hdr : (dwn (ord := os) ltM x (growL l)).reverse.length = (dwn (ord := os) ltM x (growL l)).length := List.length_reverse
  have T1 := fun v w1 (hv : SlE itemE w1 v (dwn (ord := os) ltM x (growL l)).reverse) => turned_any v _ w1 hv (by omega)
  simp only [List.reverse_reverse] at T1
  unfold OwnOutI at T1
  generalize growL (ord := os) l = L at *
  generalize upp (ord := os) ltM x L = U at *
  generalize dwn (ord := os) ltM x L = D at *
  generalize fndL (ltM (ord := os)) x L = O at *
  have HP := Lib.hid hpt
  replace G1 := Lib.hid G1
  replace G2 := Lib.hid G2
  replace G3 := Lib.hid G3
  replace G4 := Lib.hid G4
  replace T1 := Lib.hid T1
  have HLL2 := Lib.hid hgl
  have hU : U.length ≤ 2147483648 := by omega
  have hD : D.length ≤ 2147483648 := by omega
  clear hul hdl hgl hsr hpt hdr
  go_wp2_with fail
  refine wp_region_scr (fun w' => w'.cell? ⟨w.heap.size, 0, none⟩ = some (.slice sa os.length sc) ∧ w'.cell? ⟨w.heap.size, 1, none⟩ = some (.int .i64 d) ∧ w'.cell? ⟨w.heap.size, 2, none⟩ = some (.bool nl) ∧ w'.cell? ⟨w.heap.size + 1, 0, none⟩ = some (.int .i64 x.1) ∧ w'.cell? ⟨w.heap.size + 1, 1, none⟩ = some (.int .i64 x.2)) (.soft 0 (.soft 1 (.soft 2 (.soft 5 (.soft 6 (.soft 7 (.hard 3 (.hard 4 (.hard 8 (.soft 9 (.soft 10 .nil))))))))))) (by kernel_rfl) (by kernel_rfl) (fun _ _ _ _ _ h => h) ⟨m0, m1, m2, q0, q1⟩ ?_
  repeat
    first
    | (refine scr_soft (by rfl) ?_ ?_ ?_ ?_
       rotate_left
       · simp [Region.wanted, yielded]; done
       · intro w' hS
         try obtain ⟨a1, a2, a3, a4, a5⟩ := hS
         go_simp
         try with_reducible rfl
       simp only [Act.put, List.setIfInBounds_toArray, List.set_cons_zero, List.set_cons_succ])
    | (refine scr_skip (by rfl) ?_ ?_
       · simp [Region.wanted, yielded]; done
       simp only [Act.put, List.setIfInBounds_toArray, List.set_cons_zero, List.set_cons_succ])
  refine scr_hard (by rfl) (by simp [Region.wanted, yielded]) (fun K hK => ?_)
  go_simp
  refine (G1.out _ hc03.drew).mono ?_
  rintro e w5 ⟨v5, rfl, how5, hc5⟩
  replace m0 := hc5.cell (fun h => h) m0
  replace m1 := hc5.cell (fun h => h) m1
  replace m2 := hc5.cell (fun h => h) m2
  replace q0 := hc5.cell (fun h => h) q0
  replace q1 := hc5.cell (fun h => h) q1
  refine hK _ _ ⟨m0, m1, m2, q0, q1⟩ ?_
  clear hK K
  repeat
    first
    | (refine scr_soft (by rfl) ?_ ?_ ?_ ?_
       rotate_left
       · simp [Region.wanted, yielded]; done
       · intro w' hS
         try obtain ⟨a1, a2, a3, a4, a5⟩ := hS
         go_simp
         try with_reducible rfl
       simp only [Act.put, List.setIfInBounds_toArray, List.set_cons_zero, List.set_cons_succ])
    | (refine scr_skip (by rfl) ?_ ?_
       · simp [Region.wanted, yielded]; done
       simp only [Act.put, List.setIfInBounds_toArray, List.set_cons_zero, List.set_cons_succ])
  refine scr_hard (by rfl) (by simp [Region.wanted, yielded]) (fun K hK => ?_)
  go_simp
  refine (T1.out _ _ how5.sl).mono ?_
  rintro e w6 ⟨v6, rfl, how6, hc6⟩
  replace m0 := hc6.cell (fun h => h) m0
  replace m1 := hc6.cell (fun h => h) m1
  replace m2 := hc6.cell (fun h => h) m2
  replace q0 := hc6.cell (fun h => h) q0
  replace q1 := hc6.cell (fun h => h) q1
  refine hK _ _ ⟨m0, m1, m2, q0, q1⟩ ?_
  clear hK K
  repeat
    first
    | (refine scr_soft (by rfl) ?_ ?_ ?_ ?_
       rotate_left
       · simp [Region.wanted, yielded]; done
       · intro w' hS
         try obtain ⟨a1, a2, a3, a4, a5⟩ := hS
         go_simp
         try with_reducible rfl
       simp only [Act.put, List.setIfInBounds_toArray, List.set_cons_zero, List.set_cons_succ])
    | (refine scr_skip (by rfl) ?_ ?_
       · simp [Region.wanted, yielded]; done
       simp only [Act.put, List.setIfInBounds_toArray, List.set_cons_zero, List.set_cons_succ])
  refine scr_hard (by rfl) (by simp [Region.wanted, yielded]) (fun K hK => ?_)
  go_simp
  refine (G2.out _ ((hc03.drew.trans hc5).trans hc6)).mono ?_
  rintro e w7 ⟨v7, rfl, how7, hc7⟩
  replace m0 := hc7.cell (fun h => h) m0
  replace m1 := hc7.cell (fun h => h) m1
  replace m2 := hc7.cell (fun h => h) m2
  replace q0 := hc7.cell (fun h => h) q0
  replace q1 := hc7.cell (fun h => h) q1
  refine hK _ _ ⟨m0, m1, m2, q0, q1⟩ ?_
  clear hK K
  repeat
    first
    | (refine scr_soft (by rfl) ?_ ?_ ?_ ?_
       rotate_left
       · simp [Region.wanted, yielded]; done
       · intro w' hS
         try obtain ⟨a1, a2, a3, a4, a5⟩ := hS
         go_simp
         try with_reducible rfl
       simp only [Act.put, List.setIfInBounds_toArray, List.set_cons_zero, List.set_cons_succ])
    | (refine scr_skip (by rfl) ?_ ?_
       · simp [Region.wanted, yielded]; done
       simp only [Act.put, List.setIfInBounds_toArray, List.set_cons_zero, List.set_cons_succ])
  refine scr_nil ?_
  have hc07 := ((hc03.drew.trans hc5).trans hc6).trans hc7
  have hs6 := how6.sl.chg hc7
  have hs7 := how7.sl
  obtain ⟨a6, c6, rfl⟩ := hs6.form
  obtain ⟨a7, c7, rfl⟩ := hs7.form
  have HD := Lib.hid hs6
  have HU := Lib.hid hs7
  clear how5 how6 how7 hs6 hs7 hc5 hc6 hc7
  go_wp2_with fail
  have hca := (Chg.refl (fun _ _ => False) w7).alloc (.cells #[.int .i64 x.1, .int .i64 x.2] 26)
  refine (G3.out _ (hc07.trans hca) w7.heap.size (ha_at _ _ rfl)).mono ?_
  rintro e w8 ⟨v8, rfl, how8, hc8'⟩
  have hc8 := hca.trans hc8'
  replace m0 := hc8.cell (fun h => h) m0
  replace m1 := hc8.cell (fun h => h) m1
  replace m2 := hc8.cell (fun h => h) m2
  replace q0 := hc8.cell (fun h => h) q0
  replace q1 := hc8.cell (fun h => h) q1
  obtain ⟨a8, c8, rfl⟩ := how8.sl.form
  obtain ⟨b8, o8, fk, fv, fq, rfl, f0, f1, f2, hfl⟩ := how8.sl.found (j := 0) (x := O) rfl
  simp only [Nat.zero_mul, Nat.add_zero] at f0 f1 f2
  have hc08 := hc07.trans hc8
  have HD8 := Lib.hid (HD.out.chg hc8)
  have HU8 := Lib.hid (HU.out.chg hc8)
  clear how8 hc8' hca HD HU
  rcases HP.out with ⟨ho, hl⟩ | ⟨y, A, B, ho, hL, hDe, hUe⟩
  · subst ho
    obtain ⟨rfl, rfl, rfl⟩ : fk = 0 ∧ fv = 0 ∧ fq = false := by
      have e : ([.int .i64 0, .int .i64 0, .bool false] : List Value) = [.int .i64 fk, .int .i64 fv, .bool fq] := hfl
      simp at e
      exact ⟨e.1.symm, e.2.1.symm, e.2.2⟩
    have HLL := Lib.hid hl
    clear hl hfl
    go_wp2_with fail
    refine wp_region_scr (fun w' => w'.cell? ⟨w.heap.size, 0, none⟩ = some (.slice sa os.length sc) ∧ w'.cell? ⟨w.heap.size, 1, none⟩ = some (.int .i64 d) ∧ w'.cell? ⟨w.heap.size, 2, none⟩ = some (.bool nl) ∧ w'.cell? ⟨w.heap.size + 1, 0, none⟩ = some (.int .i64 x.1) ∧ w'.cell? ⟨w.heap.size + 1, 1, none⟩ = some (.int .i64 x.2)) (.soft 0 (.soft 1 (.soft 4 (.soft 5 (.hard 2 (.hard 3 (.hard 6 (.hard 7 (.soft 8 (.hard 9 (.soft 10 (.soft 11 .nil)))))))))))) (by kernel_rfl) (by kernel_rfl) (fun _ _ _ _ _ h => h) ⟨m0, m1, m2, q0, q1⟩ ?_
    repeat
      first
      | (refine scr_soft (by rfl) ?_ ?_ ?_ ?_
         rotate_left
         · simp [Region.wanted, yielded]; done
         · intro w' hS
           try obtain ⟨a1, a2, a3, a4, a5⟩ := hS
           go_simp
           try with_reducible rfl
         simp only [Act.put, List.setIfInBounds_toArray, List.set_cons_zero, List.set_cons_succ])
      | (refine scr_skip (by rfl) ?_ ?_
         · simp [Region.wanted, yielded]; done
         simp only [Act.put, List.setIfInBounds_toArray, List.set_cons_zero, List.set_cons_succ])
    refine scr_hard (by rfl) (by simp [Region.wanted, yielded]) (fun K hK => ?_)
    go_simp
    have hcb := ((Chg.refl (fun _ _ => False) w8).drew).alloc (.cells #[.slice a6 D.length c6, .slice a7 U.length c7] 31)
    replace m0 := hcb.cell (fun h => h) m0
    replace m1 := hcb.cell (fun h => h) m1
    replace m2 := hcb.cell (fun h => h) m2
    replace q0 := hcb.cell (fun h => h) q0
    replace q1 := hcb.cell (fun h => h) q1
    refine hK _ _ ⟨m0, m1, m2, q0, q1⟩ ?_
    clear hK K
    repeat
      first
      | (refine scr_soft (by rfl) ?_ ?_ ?_ ?_
         rotate_left
         · simp [Region.wanted, yielded]; done
         · intro w' hS
           try obtain ⟨a1, a2, a3, a4, a5⟩ := hS
           go_simp
           try with_reducible rfl
         simp only [Act.put, List.setIfInBounds_toArray, List.set_cons_zero, List.set_cons_succ])
      | (refine scr_skip (by rfl) ?_ ?_
         · simp [Region.wanted, yielded]; done
         simp only [Act.put, List.setIfInBounds_toArray, List.set_cons_zero, List.set_cons_succ])
    refine scr_hard (by rfl) (by simp [Region.wanted, yielded]) (fun K hK => ?_)
    go_simp
    have hct := concat_two w8.heap.size 2 (.slice a6 D.length c6) (.slice a7 U.length c7) D (U) _ (by first | exact ha_at _ _ rfl | exact ha_at _ _ (by simp)) (HD8.out.chg hcb) (HU8.out.chg hcb) (by omega)
    refine hct.mono ?_
    rintro e w9 ⟨v9, rfl, how9, hc9⟩
    rw [HLL.out] at how9
    replace m0 := hc9.cell (fun h => h) m0
    replace m1 := hc9.cell (fun h => h) m1
    replace m2 := hc9.cell (fun h => h) m2
    replace q0 := hc9.cell (fun h => h) q0
    replace q1 := hc9.cell (fun h => h) q1
    refine hK _ _ ⟨m0, m1, m2, q0, q1⟩ ?_
    clear hK K hct
    repeat
      first
      | (refine scr_soft (by rfl) ?_ ?_ ?_ ?_
         rotate_left
         · simp [Region.wanted, yielded]; done
         · intro w' hS
           try obtain ⟨a1, a2, a3, a4, a5⟩ := hS
           go_simp
           try with_reducible rfl
         simp only [Act.put, List.setIfInBounds_toArray, List.set_cons_zero, List.set_cons_succ])
      | (refine scr_skip (by rfl) ?_ ?_
         · simp [Region.wanted, yielded]; done
         simp only [Act.put, List.setIfInBounds_toArray, List.set_cons_zero, List.set_cons_succ])
    have hc89 := hcb.trans hc9
    refine scr_hard (by rfl) (by simp [Region.wanted, yielded]) (fun K hK => ?_)
    go_simp
    refine (G4.out _ (hc08.trans hc89)).mono ?_
    rintro e w10 ⟨v10, rfl, how10, hc10⟩
    replace m0 := hc10.cell (fun h => h) m0
    replace m1 := hc10.cell (fun h => h) m1
    replace m2 := hc10.cell (fun h => h) m2
    replace q0 := hc10.cell (fun h => h) q0
    replace q1 := hc10.cell (fun h => h) q1
    refine hK _ _ ⟨m0, m1, m2, q0, q1⟩ ?_
    clear hK K
    repeat
      first
      | (refine scr_soft (by rfl) ?_ ?_ ?_ ?_
         rotate_left
         · simp [Region.wanted, yielded]; done
         · intro w' hS
           try obtain ⟨a1, a2, a3, a4, a5⟩ := hS
           go_simp
           try with_reducible rfl
         simp only [Act.put, List.setIfInBounds_toArray, List.set_cons_zero, List.set_cons_succ])
      | (refine scr_skip (by rfl) ?_ ?_
         · simp [Region.wanted, yielded]; done
         simp only [Act.put, List.setIfInBounds_toArray, List.set_cons_zero, List.set_cons_succ])
    refine scr_hard (by rfl) (by simp [Region.wanted, yielded]) (fun K hK => ?_)
    go_simp
    refine (equal_item _ _ _ _ (how9.sl.chg hc10) how10.sl (by have := HLL2.out; omega)).mono ?_
    rintro e w11 ⟨rfl, hc11⟩
    replace m0 := hc11.cell (fun h => h) m0
    replace m1 := hc11.cell (fun h => h) m1
    replace m2 := hc11.cell (fun h => h) m2
    replace q0 := hc11.cell (fun h => h) q0
    replace q1 := hc11.cell (fun h => h) q1
    refine hK _ _ ⟨m0, m1, m2, q0, q1⟩ ?_
    clear hK K
    repeat
      first
      | (refine scr_soft (by rfl) ?_ ?_ ?_ ?_
         rotate_left
         · simp [Region.wanted, yielded]; done
         · intro w' hS
           try obtain ⟨a1, a2, a3, a4, a5⟩ := hS
           go_simp
           try with_reducible rfl
         simp only [Act.put, List.setIfInBounds_toArray, List.set_cons_zero, List.set_cons_succ])
      | (refine scr_skip (by rfl) ?_ ?_
         · simp [Region.wanted, yielded]; done
         simp only [Act.put, List.setIfInBounds_toArray, List.set_cons_zero, List.set_cons_succ])
    refine scr_hard (by rfl) (by simp [Region.wanted, yielded]) (fun K hK => ?_)
    go_simp
    refine (alive_any _).mono ?_
    rintro e w12 ⟨rfl, hc12⟩
    replace m0 := hc12.cell (fun h => h) m0
    replace m1 := hc12.cell (fun h => h) m1
    replace m2 := hc12.cell (fun h => h) m2
    replace q0 := hc12.cell (fun h => h) q0
    replace q1 := hc12.cell (fun h => h) q1
    refine hK _ _ ⟨m0, m1, m2, q0, q1⟩ ?_
    clear hK K
    repeat
      first
      | (refine scr_soft (by rfl) ?_ ?_ ?_ ?_
         rotate_left
         · simp [Region.wanted, yielded]; done
         · intro w' hS
           try obtain ⟨a1, a2, a3, a4, a5⟩ := hS
           go_simp
           try with_reducible rfl
         simp only [Act.put, List.setIfInBounds_toArray, List.set_cons_zero, List.set_cons_succ])
      | (refine scr_skip (by rfl) ?_ ?_
         · simp [Region.wanted, yielded]; done
         simp only [Act.put, List.setIfInBounds_toArray, List.set_cons_zero, List.set_cons_succ])
    refine scr_nil ?_
    go_wp2_with fail
    go_ret
    exact ⟨rfl, ((((hc08.trans hc89).trans hc10).trans hc11).trans hc12)⟩
  · subst ho
    obtain ⟨rfl, rfl, rfl⟩ : fk = y.1 ∧ fv = y.2 ∧ fq = true := by
      have e : ([.int .i64 y.1, .int .i64 y.2, .bool true] : List Value) = [.int .i64 fk, .int .i64 fv, .bool fq] := hfl
      simp at e
      exact ⟨e.1.symm, e.2.1.symm, e.2.2⟩
    obtain ⟨b7, o7, ha7, g0, g1⟩ := HU8.out.item (j := 0) (x := y) (by rw [hUe]; rfl)
    obtain ⟨b6, o6, ha6, h0, h1⟩ := HD8.out.item (j := A.length) (x := y) (by rw [hDe]; simp)
    simp only [Nat.zero_mul, Nat.add_zero] at g0 g1
    subst ha7
    subst ha6
    have hul : U.length = B.length + 1 := by rw [hUe]; rfl
    have hdl : D.length = A.length + 1 := by rw [hDe]; simp
    have n1 : ((U.length : Int) == 0) = false := beq_eq_false_iff_ne.2 (by omega)
    have n2 : ((D.length : Int) == 0) = false := beq_eq_false_iff_ne.2 (by omega)
    have s1 : IntKind.i64.wrap ((D.length : Int) - 1) = (A.length : Int) := (by rw [IntWalk.i64_in _ (by omega)]; omega)
    have i0 : (0 : Int) ≤ (A.length : Int) := by omega
    have i1 : (A.length : Int) < (D.length : Int) := by omega
    have i2 : (0 : Int) < (U.length : Int) := by omega
    have i3 : (1 : Int) ≤ (U.length : Int) := by omega
    have i4 : 1 ≤ U.length := by omega
    have i5 : 0 < U.length := by omega
    have i6 : A.length < D.length := by omega
    have HE := Lib.hid (And.intro hL (And.intro hDe hUe))
    have HLN2 := Lib.hid (And.intro hul hdl)
    clear hfl hL hDe hUe hul hdl
    go_wp2_with fail
    refine wp_region_scr (fun w' => w'.cell? ⟨b7, o7, none⟩ = some (.int .i64 y.1) ∧ w'.cell? ⟨b7, o7 + 1, none⟩ = some (.int .i64 y.2) ∧ w'.cell? ⟨b6, o6 + A.length * 2, none⟩ = some (.int .i64 y.1) ∧ w'.cell? ⟨b6, o6 + A.length * 2 + 1, none⟩ = some (.int .i64 y.2) ∧ w'.cell? ⟨b8, o8, none⟩ = some (.int .i64 y.1) ∧ w'.cell? ⟨b8, o8 + 1, none⟩ = some (.int .i64 y.2)) (.soft 0 (.soft 1 (.soft 2 (.soft 3 (.soft 4 (.soft 5 (.soft 6 (.soft 7 (.soft 8 (.soft 9 (.soft 10 (.soft 11 (.soft 12 (.soft 13 (.soft 14 (.soft 15 (.soft 16 (.soft 17 (.soft 18 (.soft 19 (.soft 20 (.soft 21 (.soft 22 (.soft 23 (.soft 24 (.soft 25 (.soft 26 (.soft 27 (.soft 28 (.soft 29 (.soft 30 (.soft 31 (.soft 32 (.soft 33 (.soft 34 (.soft 35 .nil)))))))))))))))))))))))))))))))))))) (by kernel_rfl) (by kernel_rfl) (fun _ _ _ _ _ h => h) ⟨g0, g1, h0, h1, f0, f1⟩ ?_
    repeat
      first
      | (refine scr_soft (by rfl) ?_ ?_ ?_ ?_
         rotate_left
         · simp [Region.wanted, yielded]; done
         · intro w' hS
           try obtain ⟨a1, a2, a3, a4, a5, a6⟩ := hS
           go_simp
           try with_reducible rfl
         simp only [Act.put, List.setIfInBounds_toArray, List.set_cons_zero, List.set_cons_succ])
      | (refine scr_skip (by rfl) ?_ ?_
         · simp [Region.wanted, yielded]; done
         simp only [Act.put, List.setIfInBounds_toArray, List.set_cons_zero, List.set_cons_succ])
    refine scr_nil ?_
    have hc7 : U.length ≤ c7 := by
      obtain ⟨_, cap', e, h2, _⟩ := id HU8.out
      injection e with e1 e2 e3
      omega
    have k1 : (1 : Int) ≤ (c7 : Int) := by omega
    have k2 : 1 ≤ c7 := by omega
    have hU8 : SlE itemE w8 (.slice (some ⟨b7, o7, none⟩) U.length c7) (y :: B) := (fun (X : List (Int × Int)) (h : X = y :: B) (hh : SlE itemE w8 (.slice (some ⟨b7, o7, none⟩) U.length c7) X) => h ▸ hh) U HE.out.2.2 HU8.out
    have heq : D ++ B = L := by rw [HE.out.1, HE.out.2.1]; simp
    have HEQ := Lib.hid heq
    have hbl : D.length + B.length ≤ 8589934592 := by have := HLN2.out.1; omega
    clear heq g0 g1 h0 h1 f0 f1
    by_cases hcc : c7 = 1
    · subst hcc
      have e0 : U.length - 1 = 0 := by omega
      have ht := hU8.tail0
      rw [e0] at ht
      have HB8 := Lib.hid ht
      clear ht
      clear hU8
      go_wp2_with fail
      refine wp_region_scr (fun w' => w'.cell? ⟨w.heap.size, 0, none⟩ = some (.slice sa os.length sc) ∧ w'.cell? ⟨w.heap.size, 1, none⟩ = some (.int .i64 d) ∧ w'.cell? ⟨w.heap.size, 2, none⟩ = some (.bool nl) ∧ w'.cell? ⟨w.heap.size + 1, 0, none⟩ = some (.int .i64 x.1) ∧ w'.cell? ⟨w.heap.size + 1, 1, none⟩ = some (.int .i64 x.2)) (.soft 0 (.soft 1 (.soft 4 (.soft 5 (.hard 2 (.hard 3 (.hard 6 (.hard 7 (.soft 8 (.hard 9 (.soft 10 (.soft 11 .nil)))))))))))) (by kernel_rfl) (by kernel_rfl) (fun _ _ _ _ _ h => h) ⟨m0, m1, m2, q0, q1⟩ ?_
      repeat
        first
        | (refine scr_soft (by rfl) ?_ ?_ ?_ ?_
           rotate_left
           · simp [Region.wanted, yielded]; done
           · intro w' hS
             try obtain ⟨a1, a2, a3, a4, a5⟩ := hS
             go_simp
             try with_reducible rfl
           simp only [Act.put, List.setIfInBounds_toArray, List.set_cons_zero, List.set_cons_succ])
        | (refine scr_skip (by rfl) ?_ ?_
           · simp [Region.wanted, yielded]; done
           simp only [Act.put, List.setIfInBounds_toArray, List.set_cons_zero, List.set_cons_succ])
      refine scr_hard (by rfl) (by simp [Region.wanted, yielded]) (fun K hK => ?_)
      go_simp
      have hcb := ((Chg.refl (fun _ _ => False) w8).drew.drew).alloc (.cells #[.slice (some ⟨b6, o6, none⟩) D.length c6, .slice (some ⟨b7, o7, none⟩) 0 0] 31)
      replace m0 := hcb.cell (fun h => h) m0
      replace m1 := hcb.cell (fun h => h) m1
      replace m2 := hcb.cell (fun h => h) m2
      replace q0 := hcb.cell (fun h => h) q0
      replace q1 := hcb.cell (fun h => h) q1
      refine hK _ _ ⟨m0, m1, m2, q0, q1⟩ ?_
      clear hK K
      repeat
        first
        | (refine scr_soft (by rfl) ?_ ?_ ?_ ?_
           rotate_left
           · simp [Region.wanted, yielded]; done
           · intro w' hS
             try obtain ⟨a1, a2, a3, a4, a5⟩ := hS
             go_simp
             try with_reducible rfl
           simp only [Act.put, List.setIfInBounds_toArray, List.set_cons_zero, List.set_cons_succ])
        | (refine scr_skip (by rfl) ?_ ?_
           · simp [Region.wanted, yielded]; done
           simp only [Act.put, List.setIfInBounds_toArray, List.set_cons_zero, List.set_cons_succ])
      refine scr_hard (by rfl) (by simp [Region.wanted, yielded]) (fun K hK => ?_)
      go_simp
      have hct := concat_two w8.heap.size 2 (.slice (some ⟨b6, o6, none⟩) D.length c6) (.slice (some ⟨b7, o7, none⟩) 0 0) D (B) _ (by first | exact ha_at _ _ rfl | exact ha_at _ _ (by simp)) (HD8.out.chg hcb) (HB8.out.chg hcb) (by exact hbl)
      refine hct.mono ?_
      rintro e w9 ⟨v9, rfl, how9, hc9⟩
      rw [HEQ.out] at how9
      replace m0 := hc9.cell (fun h => h) m0
      replace m1 := hc9.cell (fun h => h) m1
      replace m2 := hc9.cell (fun h => h) m2
      replace q0 := hc9.cell (fun h => h) q0
      replace q1 := hc9.cell (fun h => h) q1
      refine hK _ _ ⟨m0, m1, m2, q0, q1⟩ ?_
      clear hK K hct
      repeat
        first
        | (refine scr_soft (by rfl) ?_ ?_ ?_ ?_
           rotate_left
           · simp [Region.wanted, yielded]; done
           · intro w' hS
             try obtain ⟨a1, a2, a3, a4, a5⟩ := hS
             go_simp
             try with_reducible rfl
           simp only [Act.put, List.setIfInBounds_toArray, List.set_cons_zero, List.set_cons_succ])
        | (refine scr_skip (by rfl) ?_ ?_
           · simp [Region.wanted, yielded]; done
           simp only [Act.put, List.setIfInBounds_toArray, List.set_cons_zero, List.set_cons_succ])
      have hc89 := hcb.trans hc9
      refine scr_hard (by rfl) (by simp [Region.wanted, yielded]) (fun K hK => ?_)
      go_simp
      refine (G4.out _ (hc08.trans hc89)).mono ?_
      rintro e w10 ⟨v10, rfl, how10, hc10⟩
      replace m0 := hc10.cell (fun h => h) m0
      replace m1 := hc10.cell (fun h => h) m1
      replace m2 := hc10.cell (fun h => h) m2
      replace q0 := hc10.cell (fun h => h) q0
      replace q1 := hc10.cell (fun h => h) q1
      refine hK _ _ ⟨m0, m1, m2, q0, q1⟩ ?_
      clear hK K
      repeat
        first
        | (refine scr_soft (by rfl) ?_ ?_ ?_ ?_
           rotate_left
           · simp [Region.wanted, yielded]; done
           · intro w' hS
             try obtain ⟨a1, a2, a3, a4, a5⟩ := hS
             go_simp
             try with_reducible rfl
           simp only [Act.put, List.setIfInBounds_toArray, List.set_cons_zero, List.set_cons_succ])
        | (refine scr_skip (by rfl) ?_ ?_
           · simp [Region.wanted, yielded]; done
           simp only [Act.put, List.setIfInBounds_toArray, List.set_cons_zero, List.set_cons_succ])
      refine scr_hard (by rfl) (by simp [Region.wanted, yielded]) (fun K hK => ?_)
      go_simp
      refine (equal_item _ _ _ _ (how9.sl.chg hc10) how10.sl (by have := HLL2.out; omega)).mono ?_
      rintro e w11 ⟨rfl, hc11⟩
      replace m0 := hc11.cell (fun h => h) m0
      replace m1 := hc11.cell (fun h => h) m1
      replace m2 := hc11.cell (fun h => h) m2
      replace q0 := hc11.cell (fun h => h) q0
      replace q1 := hc11.cell (fun h => h) q1
      refine hK _ _ ⟨m0, m1, m2, q0, q1⟩ ?_
      clear hK K
      repeat
        first
        | (refine scr_soft (by rfl) ?_ ?_ ?_ ?_
           rotate_left
           · simp [Region.wanted, yielded]; done
           · intro w' hS
             try obtain ⟨a1, a2, a3, a4, a5⟩ := hS
             go_simp
             try with_reducible rfl
           simp only [Act.put, List.setIfInBounds_toArray, List.set_cons_zero, List.set_cons_succ])
        | (refine scr_skip (by rfl) ?_ ?_
           · simp [Region.wanted, yielded]; done
           simp only [Act.put, List.setIfInBounds_toArray, List.set_cons_zero, List.set_cons_succ])
      refine scr_hard (by rfl) (by simp [Region.wanted, yielded]) (fun K hK => ?_)
      go_simp
      refine (alive_any _).mono ?_
      rintro e w12 ⟨rfl, hc12⟩
      replace m0 := hc12.cell (fun h => h) m0
      replace m1 := hc12.cell (fun h => h) m1
      replace m2 := hc12.cell (fun h => h) m2
      replace q0 := hc12.cell (fun h => h) q0
      replace q1 := hc12.cell (fun h => h) q1
      refine hK _ _ ⟨m0, m1, m2, q0, q1⟩ ?_
      clear hK K
      repeat
        first
        | (refine scr_soft (by rfl) ?_ ?_ ?_ ?_
           rotate_left
           · simp [Region.wanted, yielded]; done
           · intro w' hS
             try obtain ⟨a1, a2, a3, a4, a5⟩ := hS
             go_simp
             try with_reducible rfl
           simp only [Act.put, List.setIfInBounds_toArray, List.set_cons_zero, List.set_cons_succ])
        | (refine scr_skip (by rfl) ?_ ?_
           · simp [Region.wanted, yielded]; done
           simp only [Act.put, List.setIfInBounds_toArray, List.set_cons_zero, List.set_cons_succ])
      refine scr_nil ?_
      go_wp2_with fail
      go_ret
      exact ⟨rfl, ((((hc08.trans hc89).trans hc10).trans hc11).trans hc12)⟩
    · have HB8 := Lib.hid hU8.tail
      clear hU8
      go_wp2_with fail
      refine wp_region_scr (fun w' => w'.cell? ⟨w.heap.size, 0, none⟩ = some (.slice sa os.length sc) ∧ w'.cell? ⟨w.heap.size, 1, none⟩ = some (.int .i64 d) ∧ w'.cell? ⟨w.heap.size, 2, none⟩ = some (.bool nl) ∧ w'.cell? ⟨w.heap.size + 1, 0, none⟩ = some (.int .i64 x.1) ∧ w'.cell? ⟨w.heap.size + 1, 1, none⟩ = some (.int .i64 x.2)) (.soft 0 (.soft 1 (.soft 4 (.soft 5 (.hard 2 (.hard 3 (.hard 6 (.hard 7 (.soft 8 (.hard 9 (.soft 10 (.soft 11 .nil)))))))))))) (by kernel_rfl) (by kernel_rfl) (fun _ _ _ _ _ h => h) ⟨m0, m1, m2, q0, q1⟩ ?_
      repeat
        first
        | (refine scr_soft (by rfl) ?_ ?_ ?_ ?_
           rotate_left
           · simp [Region.wanted, yielded]; done
           · intro w' hS
             try obtain ⟨a1, a2, a3, a4, a5⟩ := hS
             go_simp
             try with_reducible rfl
           simp only [Act.put, List.setIfInBounds_toArray, List.set_cons_zero, List.set_cons_succ])
        | (refine scr_skip (by rfl) ?_ ?_
           · simp [Region.wanted, yielded]; done
           simp only [Act.put, List.setIfInBounds_toArray, List.set_cons_zero, List.set_cons_succ])
      refine scr_hard (by rfl) (by simp [Region.wanted, yielded]) (fun K hK => ?_)
      go_simp
      have hcb := ((Chg.refl (fun _ _ => False) w8).drew.drew).alloc (.cells #[.slice (some ⟨b6, o6, none⟩) D.length c6, .slice (some ⟨b7, o7 + 2, none⟩) (U.length - 1) (c7 - 1)] 31)
      replace m0 := hcb.cell (fun h => h) m0
      replace m1 := hcb.cell (fun h => h) m1
      replace m2 := hcb.cell (fun h => h) m2
      replace q0 := hcb.cell (fun h => h) q0
      replace q1 := hcb.cell (fun h => h) q1
      refine hK _ _ ⟨m0, m1, m2, q0, q1⟩ ?_
      clear hK K
      repeat
        first
        | (refine scr_soft (by rfl) ?_ ?_ ?_ ?_
           rotate_left
           · simp [Region.wanted, yielded]; done
           · intro w' hS
             try obtain ⟨a1, a2, a3, a4, a5⟩ := hS
             go_simp
             try with_reducible rfl
           simp only [Act.put, List.setIfInBounds_toArray, List.set_cons_zero, List.set_cons_succ])
        | (refine scr_skip (by rfl) ?_ ?_
           · simp [Region.wanted, yielded]; done
           simp only [Act.put, List.setIfInBounds_toArray, List.set_cons_zero, List.set_cons_succ])
      refine scr_hard (by rfl) (by simp [Region.wanted, yielded]) (fun K hK => ?_)
      go_simp
      have hct := concat_two w8.heap.size 2 (.slice (some ⟨b6, o6, none⟩) D.length c6) (.slice (some ⟨b7, o7 + 2, none⟩) (U.length - 1) (c7 - 1)) D (B) _ (by first | exact ha_at _ _ rfl | exact ha_at _ _ (by simp)) (HD8.out.chg hcb) (HB8.out.chg hcb) (by exact hbl)
      refine hct.mono ?_
      rintro e w9 ⟨v9, rfl, how9, hc9⟩
      rw [HEQ.out] at how9
      replace m0 := hc9.cell (fun h => h) m0
      replace m1 := hc9.cell (fun h => h) m1
      replace m2 := hc9.cell (fun h => h) m2
      replace q0 := hc9.cell (fun h => h) q0
      replace q1 := hc9.cell (fun h => h) q1
      refine hK _ _ ⟨m0, m1, m2, q0, q1⟩ ?_
      clear hK K hct
      repeat
        first
        | (refine scr_soft (by rfl) ?_ ?_ ?_ ?_
           rotate_left
           · simp [Region.wanted, yielded]; done
           · intro w' hS
             try obtain ⟨a1, a2, a3, a4, a5⟩ := hS
             go_simp
             try with_reducible rfl
           simp only [Act.put, List.setIfInBounds_toArray, List.set_cons_zero, List.set_cons_succ])
        | (refine scr_skip (by rfl) ?_ ?_
           · simp [Region.wanted, yielded]; done
           simp only [Act.put, List.setIfInBounds_toArray, List.set_cons_zero, List.set_cons_succ])
      have hc89 := hcb.trans hc9
      refine scr_hard (by rfl) (by simp [Region.wanted, yielded]) (fun K hK => ?_)
      go_simp
      refine (G4.out _ (hc08.trans hc89)).mono ?_
      rintro e w10 ⟨v10, rfl, how10, hc10⟩
      replace m0 := hc10.cell (fun h => h) m0
      replace m1 := hc10.cell (fun h => h) m1
      replace m2 := hc10.cell (fun h => h) m2
      replace q0 := hc10.cell (fun h => h) q0
      replace q1 := hc10.cell (fun h => h) q1
      refine hK _ _ ⟨m0, m1, m2, q0, q1⟩ ?_
      clear hK K
      repeat
        first
        | (refine scr_soft (by rfl) ?_ ?_ ?_ ?_
           rotate_left
           · simp [Region.wanted, yielded]; done
           · intro w' hS
             try obtain ⟨a1, a2, a3, a4, a5⟩ := hS
             go_simp
             try with_reducible rfl
           simp only [Act.put, List.setIfInBounds_toArray, List.set_cons_zero, List.set_cons_succ])
        | (refine scr_skip (by rfl) ?_ ?_
           · simp [Region.wanted, yielded]; done
           simp only [Act.put, List.setIfInBounds_toArray, List.set_cons_zero, List.set_cons_succ])
      refine scr_hard (by rfl) (by simp [Region.wanted, yielded]) (fun K hK => ?_)
      go_simp
      refine (equal_item _ _ _ _ (how9.sl.chg hc10) how10.sl (by have := HLL2.out; omega)).mono ?_
      rintro e w11 ⟨rfl, hc11⟩
      replace m0 := hc11.cell (fun h => h) m0
      replace m1 := hc11.cell (fun h => h) m1
      replace m2 := hc11.cell (fun h => h) m2
      replace q0 := hc11.cell (fun h => h) q0
      replace q1 := hc11.cell (fun h => h) q1
      refine hK _ _ ⟨m0, m1, m2, q0, q1⟩ ?_
      clear hK K
      repeat
        first
        | (refine scr_soft (by rfl) ?_ ?_ ?_ ?_
           rotate_left
           · simp [Region.wanted, yielded]; done
           · intro w' hS
             try obtain ⟨a1, a2, a3, a4, a5⟩ := hS
             go_simp
             try with_reducible rfl
           simp only [Act.put, List.setIfInBounds_toArray, List.set_cons_zero, List.set_cons_succ])
        | (refine scr_skip (by rfl) ?_ ?_
           · simp [Region.wanted, yielded]; done
           simp only [Act.put, List.setIfInBounds_toArray, List.set_cons_zero, List.set_cons_succ])
      refine scr_hard (by rfl) (by simp [Region.wanted, yielded]) (fun K hK => ?_)
      go_simp
      refine (alive_any _).mono ?_
      rintro e w12 ⟨rfl, hc12⟩
      replace m0 := hc12.cell (fun h => h) m0
      replace m1 := hc12.cell (fun h => h) m1
      replace m2 := hc12.cell (fun h => h) m2
      replace q0 := hc12.cell (fun h => h) q0
      replace q1 := hc12.cell (fun h => h) q1
      refine hK _ _ ⟨m0, m1, m2, q0, q1⟩ ?_
      clear hK K
      repeat
        first
        | (refine scr_soft (by rfl) ?_ ?_ ?_ ?_
           rotate_left
           · simp [Region.wanted, yielded]; done
           · intro w' hS
             try obtain ⟨a1, a2, a3, a4, a5⟩ := hS
             go_simp
             try with_reducible rfl
           simp only [Act.put, List.setIfInBounds_toArray, List.set_cons_zero, List.set_cons_succ])
        | (refine scr_skip (by rfl) ?_ ?_
           · simp [Region.wanted, yielded]; done
           simp only [Act.put, List.setIfInBounds_toArray, List.set_cons_zero, List.set_cons_succ])
      refine scr_nil ?_
      go_wp2_with fail
      go_ret
      exact ⟨rfl, ((((hc08.trans hc89).trans hc10).trans hc11).trans hc12)⟩
end Go.Proofs.Ytojplcbkiogcpaa

namespace Go.Proofs.Ytojplcbkiogcpaa
set_option linter.unusedSimpArgs false
set_option linter.unusedVariables false
open Go.ChangeShapes Go.WideShapes Go.ChangeAt Go.RowKit

namespace fnGParts
theorem own : ownKnob Try.prog.godebug = none := by kernel_rfl
theorem laid : laidOutB Try.prog = true := by kernel_rfl

set_option maxRecDepth 100000 in
theorem lifted (os : Os) (started : os.Started) (H : Type) (enc : TypeId × Value → H) :
    ReturnsInHanded {} Try.checked os 14 .any (Rows.fnGPartsSpec.pre6 enc Try.prog Try.f14 Rows.fnGPartsRow.domain false) (Rows.fnGPartsSpec.post enc Try.prog Try.f14 false true false false) := by
  refine returnsInHanded_of_change (C := Try.checked) own started (by kernel_rfl) Try.func14
    (ChangeSpec.witness6 (enc := enc) (C := Try.checked) false ⟨#[], #[.agg #[.slice none 0 0, .int .i64 0, .bool false], .slice none 0 0, .agg #[.int .i64 0, .int .i64 0]], []⟩ 8 (by kernel_rfl) (by kernel_rfl) (by kernel_rfl) (by kernel_rfl)) ?_
  intro W base args ds gs before hval0 hW hcnd _
  have hval : ∀ (j : Nat) t v, Try.f14.params[j]? = some t → args[j]? = some v → Value.okWide Try.prog W .any base t v := hval0
  have hW' := hW
  obtain ⟨p, q, hA0, hV, rfl, hfz, hnd⟩ := hW
  have hA : DataW.TrodAll enc Try.prog W 0 (fun _ => true) true Try.f14.params.toList args.toList ds p := hA0
  rw [Try.params14] at hA hval
  obtain ⟨v0, v1, v2, d0, d1, d2, p0, p1, p2, rfl, rfl, rfl, h0, h1, h2⟩ := trodAll_three hA
  obtain ⟨rfl, rfl⟩ := trodVars_none hV
  obtain ⟨sv, ord, dg, nl, rfl, hs⟩ := open_make (hval 0 24 v0 rfl rfl) h0
  obtain ⟨a, l, cap, rfl, hl, _⟩ := open_items Try.underlying31 Try.underlying26 (by kernel_rfl) rfl rfl rfl rfl (by kernel_rfl) Try.underlying3 (hval 1 31 v1 rfl rfl) h1
  obtain ⟨xx, rfl⟩ := open_item (hval 2 26 v2 rfl rfl) h2
  refine (law_GParts sv ord dg nl a cap l xx W hs hl).mono fun e W' ⟨he, hc⟩ => ?_
  subst he
  exact ⟨_, rfl, law_post laid (by kernel_rfl) rfl Try.underlying4 hW' rfl rfl (hc.below (Nat.le_refl _) (fun _ _ _ h => h))⟩

theorem proved : Rows.FnGPartsSaid :=
  OpenClaim.holds_of_wide 14 Try.f14 rfl rfl rfl rfl rfl rfl rfl ⟨rfl, rfl, rfl, rfl, rfl⟩ rfl rfl rfl rfl rfl (by kernel_rfl) Try.func14 (by kernel_rfl)
    (of_decide_eq_true (by kernel_rfl)) (by unfold Func.isWrapper; first | (rw [if_pos (by decide +kernel)]; kernel_rfl) | (rw [if_neg (by decide +kernel)]; exact ⟨rfl, rfl⟩))
    (fun os started H enc _ => lifted os started H enc)
end fnGParts
end Go.Proofs.Ytojplcbkiogcpaa
