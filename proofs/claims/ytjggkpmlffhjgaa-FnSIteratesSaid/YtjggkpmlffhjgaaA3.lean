/- Addresses of fields that have no cells. -/
import Derived.WalkLawsBesides
import Derived.RegionTactic
import Derived.ChangeAlike
import Derived.Deep.QuietTactic
import Derived.BigQuiet
import Derived.BigRegion
import Derived.StillTailTactics
import Derived.Deep.RegionHeld3
import Derived.Test.YtjggkpmlffhjgaaRows
import Derived.Test.YtjggkpmlffhjgaaA1
namespace Go.Proofs.Ytjggkpmlffhjgaa
set_option linter.unusedSimpArgs false
set_option linter.unusedVariables false
open Go.RowKit

theorem leaf_any (n : Nat) (p : Option Addr) (w : World) (h : w.cell? ⟨n, 3, none⟩ = some (.pointer p)) :
    Calls Try.prog 162 #[.pointer (some ⟨n, 0, none⟩)] w fun e w' => e = .returned (.bool (p.isNone)) ∧ w = w' := by
  rcases p with _ | a
  · go_enter Try.func162, Try.ntmps162
    go_wp2
    go_ret
    exact ⟨rfl, rfl⟩
  · go_enter Try.func162, Try.ntmps162
    go_wp2
    go_ret
    exact ⟨rfl, rfl⟩

set_option maxHeartbeats 400000 in
theorem isoLoad_any (t n : Nat) (k : Int) (ad : Addr) (b : Bool) (w : World) (hp : w.cell? ad = some (.pointer (some ⟨n, 0, none⟩)))
    (hn : w.cell? ⟨n, 0, none⟩ = some (.int .u64 k)) (ht : w.cell? ⟨t, 0, none⟩ = some (.int .u64 k)) :
    Calls Try.prog 161 #[.pointer (some ⟨t, 0, none⟩), .pointer (some ad), .bool b] w fun e w' => e = .returned (.pointer (some ⟨n, 0, none⟩)) ∧ ∃ m, w' = w.drewN m := by
  cases b
  · go_enter Try.func161, Try.ntmps161
    go_wp2
    go_quiet (fail)
    go_wp2
    go_ret
    exact ⟨rfl, _, rfl⟩
  · go_enter Try.func161, Try.ntmps161
    go_wp2
    go_quiet (fail)
    go_wp2
    go_ret
    exact ⟨rfl, _, rfl⟩

theorem newNode_leaf (t : Nat) (k : Int) (w : World) (ht : w.cell? ⟨t, 0, none⟩ = some (.int .u64 k)) :
    Calls Try.prog 173 #[.pointer (some ⟨t, 0, none⟩), .bool true] w fun e w' => e = .returned (.pointer (some ⟨w.heap.size, 0, none⟩)) ∧
      w' = w.alloc (.cells #[.int .u64 k, .int .i64 0, .slice none 0 0, .pointer none] 211) := by
  have hlt := World.block_lt_of_cell? w _ ht
  go_enter Try.func173, Try.ntmps173
  go_wp2
  go_ret
  exact ⟨rfl, rfl⟩

theorem newNode_branch (t : Nat) (k : Int) (w : World) (ht : w.cell? ⟨t, 0, none⟩ = some (.int .u64 k)) :
    Calls Try.prog 173 #[.pointer (some ⟨t, 0, none⟩), .bool false] w fun e w' => e = .returned (.pointer (some ⟨w.heap.size, 0, none⟩)) ∧
      w' = (w.alloc (.cells #[.int .u64 k, .int .i64 0, .slice none 0 0, .pointer (some ⟨w.heap.size + 1, 0, none⟩)] 211)).alloc (.cells #[.slice none 0 0] 214) := by
  have hlt := World.block_lt_of_cell? w _ ht
  go_enter Try.func173, Try.ntmps173
  go_wp2
  go_ret
  exact ⟨rfl, rfl⟩

theorem setCell_twice (w : World) (a : Addr) (u v : Value) : (w.setCell a u).setCell a v = w.setCell a v := by
  unfold World.setCell
  congr 1
  apply Array.ext_getElem?
  intro i
  simp only [Array.getElem?_modify]
  by_cases hi : a.block = i
  · simp only [hi, if_true]
    cases hq : w.heap[i]? with
    | none => rfl
    | some q =>
      cases q with
      | cells c T fr => by_cases hs : a.spot.isSome = true <;> simp [hs]
      | _ => rfl
  · simp only [hi, if_false]

/-- The sum of the first m counts. -/
def sumTo (cs : Nat → Int) : Nat → Int
  | 0 => 0
  | m + 1 => sumTo cs m + cs m

theorem sumTo_nonneg (cs : Nat → Int) (K : Nat) (h : ∀ j, j < K → 0 ≤ cs j) : ∀ m, m ≤ K → 0 ≤ sumTo cs m := by
  intro m
  induction m with
  | zero => intro _; simp [sumTo]
  | succ m ih => intro hm; have := ih (by omega); have := h m (by omega); simp only [sumTo]; omega

theorem sumTo_le (cs : Nat → Int) (K : Nat) (h : ∀ j, j < K → 0 ≤ cs j) : ∀ m, m ≤ K → sumTo cs m ≤ sumTo cs K := by
  induction K with
  | zero => intro m hm; obtain rfl : m = 0 := by omega
            exact Int.le_refl _
  | succ K ih =>
    intro m hm
    rcases Nat.lt_or_ge K m with h1 | h1
    · obtain rfl : m = K + 1 := by omega
      exact Int.le_refl _
    · have := ih (fun j hj => h j (by omega)) m h1
      have := h K (by omega)
      simp only [sumTo]; omega

set_option maxHeartbeats 400000 in
theorem updateCount_leaf (n ib io len cap : Nat) (c0 : Int) (w : World) (h1 : w.cell? ⟨n, 1, none⟩ = some (.int .i64 c0)) (hf : w.frozen? ⟨n, 1, none⟩ = false)
    (h2 : w.cell? ⟨n, 2, none⟩ = some (.slice (some ⟨ib, io, none⟩) len cap)) (h3 : w.cell? ⟨n, 3, none⟩ = some (.pointer none)) :
    Calls Try.prog 176 #[.pointer (some ⟨n, 0, none⟩)] w fun e w' => e = .returned (.tuple #[]) ∧ w' = w.setCell ⟨n, 1, none⟩ (.int .i64 len) := by
  go_enter Try.func176, Try.ntmps176
  go_wp2_with (go_at_call 162; refine (leaf_any _ none _ ?_).mono ?_; (focus go_simp); rintro e w' ⟨rfl, rfl⟩)
  go_end0
  exact ⟨rfl, rfl⟩

set_option maxRecDepth 100000 in
set_option maxHeartbeats 1000000 in
theorem updateCount_branch (n ib io len cap cc cb co K ck : Nat) (c0 : Int) (kid : Nat → Nat) (cs : Nat → Int) (w : World) (h1 : w.cell? ⟨n, 1, none⟩ = some (.int .i64 c0)) (hf : w.frozen? ⟨n, 1, none⟩ = false)
    (h2 : w.cell? ⟨n, 2, none⟩ = some (.slice (some ⟨ib, io, none⟩) len cap)) (h3 : w.cell? ⟨n, 3, none⟩ = some (.pointer (some ⟨cc, 0, none⟩)))
    (hc : w.cell? ⟨cc, 0, none⟩ = some (.slice (some ⟨cb, co, none⟩) K ck)) (hccn : cc ≠ n) (hcbn : cb ≠ n)
    (hk : ∀ j, j < K → w.cell? ⟨cb, co + j, none⟩ = some (.pointer (some ⟨kid j, 0, none⟩)) ∧ kid j ≠ n ∧ w.cell? ⟨kid j, 1, none⟩ = some (.int .i64 (cs j)) ∧ 0 ≤ cs j)
    (hK : K ≤ 1000000) (hb : (len : Int) + sumTo cs K ≤ 1000000000000000) :
    Calls Try.prog 176 #[.pointer (some ⟨n, 0, none⟩)] w fun e w' => e = .returned (.tuple #[]) ∧ ∃ m, w' = (w.setCell ⟨n, 1, none⟩ (.int .i64 (len + sumTo cs K))).drewN m := by
  have Hk := Lib.hid hk; clear hk
  have hmono : ∀ m, m ≤ K → 0 ≤ sumTo cs m := sumTo_nonneg cs K fun j hj => (Hk.out j hj).2.2.2
  have hmono2 : ∀ m, m ≤ K → sumTo cs m ≤ sumTo cs K := sumTo_le cs K fun j hj => (Hk.out j hj).2.2.2
  have Hm := Lib.hid hmono; clear hmono
  have Hm2 := Lib.hid hmono2; clear hmono2
  go_enter Try.func176, Try.ntmps176
  go_wp2_with (go_at_call 162; refine (leaf_any _ (some ⟨cc, 0, none⟩) _ ?_).mono ?_; (focus go_simp); rintro e w' ⟨rfl, rfl⟩)
  go_loopw [2] (fun i wr => ∃ (j m : Nat), j ≤ K ∧ i = .int .i64 j ∧ Hid (wr = (w.setCell ⟨n, 1, none⟩ (.int .i64 (len + sumTo cs j))).drewN m)) (fun i _ => K - (intOf i).toNat)
  case atStart => exact ⟨0, 0, Nat.zero_le _, rfl, Lib.hid (by simp [sumTo]; rfl)⟩
  case round =>
    obtain ⟨j, m, hj, rfl, hw⟩ := hrel
    have hs : ∀ a, ¬ (a = ⟨n, 1, none⟩) → wr.cell? a = w.cell? a := fun a ha => by rw [hw.out]; exact World.cell?_setCell_other w _ _ _ (Ne.symm ha)
    have r1 : wr.cell? ⟨n, 1, none⟩ = some (.int .i64 (len + sumTo cs j)) := by rw [hw.out]; exact World.cell?_setCell_same w _ _ h1
    have r3 : wr.cell? ⟨n, 3, none⟩ = some (.pointer (some ⟨cc, 0, none⟩)) := by rw [hs _ (by simp)]; exact h3
    have rc : wr.cell? ⟨cc, 0, none⟩ = some (.slice (some ⟨cb, co, none⟩) K ck) := by rw [hs _ (by simp)]; exact hc
    have rf : wr.frozen? ⟨n, 1, none⟩ = false := by rw [hw.out]; simpa using hf
    have Hs := Lib.hid hs; clear hs
    by_cases hlt : j < K
    · obtain ⟨g1, g2, g3, g4⟩ := Hk.out j hlt
      have g5 := Hm.out j (by omega)
      have g6 := Hm2.out (j + 1) (by omega)
      have g7 : sumTo cs (j + 1) = sumTo cs j + cs j := rfl
      have r5 : wr.cell? ⟨cb, co + j, none⟩ = some (.pointer (some ⟨kid j, 0, none⟩)) := by rw [Hs.out _ (by simp [hcbn])]; exact g1
      have r6 : wr.cell? ⟨kid j, 1, none⟩ = some (.int .i64 (cs j)) := by rw [Hs.out _ (by simp [g2])]; exact g3
      rw [g7] at g6
      have G7 := Lib.hid g7
      clear g7
      have i0 : (0 : Int) ≤ (j : Int) := by omega
      have i1 : (j : Int) < (K : Int) := by omega
      go_wp2
      go_still_tail 17, (by kernel_rfl)
      go_wp2
      go_roundw
      case rel =>
        refine ⟨j + 1, m + 1, by omega, by go_num, Lib.hid ?_⟩
        rw [hw.out, G7.out, ← Int.add_assoc]
        exact congrArg (fun x => World.drewN x (m + 1)) (setCell_twice w ⟨n, 1, none⟩ _ _)
      case measure => simp [intOf]; omega
    · obtain rfl : j = K := by omega
      go_wp2
      go_end0
      exact ⟨rfl, m, hw.out⟩
/-- The sum of the counts of a list of nodes. -/
def ksum (cf : Nat → Int) (ks : List Nat) : Int := (ks.map cf).sum

theorem ksum_nil (cf : Nat → Int) : ksum cf [] = 0 := rfl
theorem ksum_cons (cf : Nat → Int) (c : Nat) (ks : List Nat) : ksum cf (c :: ks) = cf c + ksum cf ks := by simp [ksum]
theorem ksum_append (cf : Nat → Int) (ks ls : List Nat) : ksum cf (ks ++ ls) = ksum cf ks + ksum cf ls := by simp [ksum]

theorem ksum_nonneg (cf : Nat → Int) : ∀ ks : List Nat, (∀ c ∈ ks, 0 ≤ cf c) → 0 ≤ ksum cf ks
  | [], _ => Int.le_refl _
  | c :: ks, h => by
    have := ksum_nonneg cf ks (fun x hx => h x (List.mem_cons_of_mem _ hx))
    have := h c (List.mem_cons_self)
    rw [ksum_cons]; omega

theorem ksum_split (cf : Nat → Int) (ks : List Nat) (h : ∀ c ∈ ks, 0 ≤ cf c) (i : Nat) : 0 ≤ ksum cf (ks.take i) ∧ 0 ≤ ksum cf (ks.drop i) ∧ ksum cf (ks.take i) + ksum cf (ks.drop i) = ksum cf ks :=
  ⟨ksum_nonneg cf _ fun c hc => h c (List.mem_of_mem_take hc), ksum_nonneg cf _ fun c hc => h c (List.mem_of_mem_drop hc), by rw [← ksum_append, List.take_append_drop]⟩

theorem sumTo_shift (cs : Nat → Int) : ∀ m, sumTo cs (m + 1) = cs 0 + sumTo (fun j => cs (j + 1)) m
  | 0 => by simp [sumTo]
  | m + 1 => by rw [sumTo, sumTo_shift cs m, sumTo]; omega

theorem sumTo_ksum (cf : Nat → Int) : ∀ ks : List Nat, sumTo (fun j => cf (ks.getD j 0)) ks.length = ksum cf ks
  | [] => rfl
  | c :: ks => by rw [List.length_cons, sumTo_shift, ksum_cons, ← sumTo_ksum cf ks]; rfl

end Go.Proofs.Ytjggkpmlffhjgaa

namespace Go.Proofs.Ytjggkpmlffhjgaa
set_option linter.unusedSimpArgs false
set_option linter.unusedVariables false
open Go.RowKit

/-- The world gets a name; of it only R is known. -/
theorem name_world {P : Program} {c : Code} {Q : Exit → Act → World → Prop} {a : Act} {w : World} (R : World → Prop) (hR : R w) (h : ∀ w1, R w1 → c.wp P Q a w1) : c.wp P Q a w := h w hR

theorem name_prop {Q : World → Prop} {w : World} (R : World → Prop) (hR : R w) (h : ∀ w1, R w1 → Q w1) : Q w := h w hR

theorem name_calls {P : Program} {f : FuncId} {args : Array Value} {Q : Ending → World → Prop} {w : World} (R : World → Prop) (hR : R w) (h : ∀ w1, R w1 → Calls P f args w1 Q) : Calls P f args w Q := h w hR

def encM (x : Int × Int) : List Value := [.int .i64 x.1]

def aggM (x : Int × Int) : Value := .agg #[.int .i64 x.1]

def parM (k : Int) : Par (Int × Int) where
  es := 1
  enc := encM
  TN := 211
  TI := 107
  TS := 214
  TP := 137
  k := k
  epos := by omega
  elen := fun _ => rfl
  eone := by intro x v hv; simp [encM] at hv; subst hv; rfl

section
variable {α : Type} {p : Par α} {w : World} {n : Nat} {r : NodeR α} {l : Lay}

theorem cell_of_block {b : Nat} {c : Array Value} {T : TypeId} {fr : Nat × Nat} (h : w.heap[b]? = some (.cells c T fr)) (o : Nat) : w.cell? ⟨b, o, none⟩ = c[o]? := by
  simp [World.cell?, h]
theorem frozen_of_block {b : Nat} {c : Array Value} {T : TypeId} (h : w.heap[b]? = some (.cells c T (0, 0))) (o : Nat) : w.frozen? ⟨b, o, none⟩ = false := by
  simp [World.frozen?, h]

theorem NodeAt.c0 (h : NodeAt p w n r l) : w.cell? ⟨n, 0, none⟩ = some (.int .u64 p.k) := by rw [cell_of_block h.hd]; rfl
theorem NodeAt.c1 (h : NodeAt p w n r l) : w.cell? ⟨n, 1, none⟩ = some (.int .i64 r.cnt) := by rw [cell_of_block h.hd]; rfl
theorem NodeAt.c2 (h : NodeAt p w n r l) : w.cell? ⟨n, 2, none⟩ = some (.slice (some ⟨l.ib, l.io, none⟩) r.items.length l.ic) := by rw [cell_of_block h.hd]; rfl
theorem NodeAt.c3 (h : NodeAt p w n r l) : w.cell? ⟨n, 3, none⟩ = some (.pointer (r.kids.map fun _ => ⟨l.cc, 0, none⟩)) := by rw [cell_of_block h.hd]; rfl
theorem NodeAt.c3n (h : NodeAt p w n r l) (hk : r.kids = none) : w.cell? ⟨n, 3, none⟩ = some (.pointer none) := by rw [h.c3, hk]; rfl
theorem NodeAt.c3s (h : NodeAt p w n r l) {ks : List (Option Nat)} (hk : r.kids = some ks) : w.cell? ⟨n, 3, none⟩ = some (.pointer (some ⟨l.cc, 0, none⟩)) := by rw [h.c3, hk]; rfl
theorem NodeAt.fz (h : NodeAt p w n r l) (o : Nat) : w.frozen? ⟨n, o, none⟩ = false := frozen_of_block h.hd o
theorem NodeAt.ifz (h : NodeAt p w n r l) (o : Nat) : w.frozen? ⟨l.ib, o, none⟩ = false := h.row.frozen o
theorem NodeAt.item (h : NodeAt p w n r l) {j : Nat} {x : α} (hj : r.items[j]? = some x) (q : Nat) {v : Value} (hq : (p.enc x)[q]? = some v) : w.cell? ⟨l.ib, l.io + (j * p.es + q), none⟩ = some v :=
  h.row.cell (flat_get p hj hq)
theorem NodeAt.cc (h : NodeAt p w n r l) {ks : List (Option Nat)} (hk : r.kids = some ks) : w.cell? ⟨l.cc, 0, none⟩ = some (.slice (some ⟨l.cb, l.co, none⟩) ks.length l.ck) := by rw [cell_of_block (h.kid ks hk).1]; rfl
theorem NodeAt.ccz (h : NodeAt p w n r l) {ks : List (Option Nat)} (hk : r.kids = some ks) (o : Nat) : w.frozen? ⟨l.cc, o, none⟩ = false := frozen_of_block (h.kid ks hk).1 o
theorem NodeAt.kidc (h : NodeAt p w n r l) {ks : List (Option Nat)} (hk : r.kids = some ks) {j : Nat} {o : Option Nat} (hj : ks[j]? = some o) : w.cell? ⟨l.cb, l.co + j, none⟩ = some (kidV o) :=
  (h.kid ks hk).2.cell (by simp [hj])
theorem NodeAt.kidz (h : NodeAt p w n r l) {ks : List (Option Nat)} (hk : r.kids = some ks) (o : Nat) : w.frozen? ⟨l.cb, o, none⟩ = false := (h.kid ks hk).2.frozen o
end

theorem NodeAt.mval {k : Int} {w : World} {n : Nat} {r : NodeR (Int × Int)} {l : Lay} (h : NodeAt (parM k) w n r l) {j : Nat} {x : Int × Int} (hj : r.items[j]? = some x) : w.cell? ⟨l.ib, l.io + j, none⟩ = some (.int .i64 x.1) :=
  by have := h.item hj 0 rfl; simpa [parM] using this
theorem NodeAt.mkey {k : Int} {w : World} {n : Nat} {r : NodeR (Int × Int)} {l : Lay} (h : NodeAt (parM k) w n r l) {j : Nat} {x : Int × Int} (hj : r.items[j]? = some x) : w.cell? ⟨l.ib, l.io + j, none⟩ = some (.int .i64 x.1) :=
  by have := h.item hj 0 rfl; simpa [parM] using this

end Go.Proofs.Ytjggkpmlffhjgaa

namespace Go.Proofs.Ytjggkpmlffhjgaa
set_option linter.unusedSimpArgs false
set_option linter.unusedVariables false
open Go.RowKit

/-- What a walk knows of the map's own struct: the isoid, the limits, the zero pair; nothing there is frozen. -/
structure MapAt (k : Int) (mn mx : Nat) (w : World) (t : Nat) : Prop where
  c0 : w.cell? ⟨t, 0, none⟩ = some (.int .u64 k)
  c4 : w.cell? ⟨t, 4, none⟩ = some (.int .i64 0)
  c5 : w.cell? ⟨t, 4, none⟩ = some (.int .i64 0)
  c6 : w.cell? ⟨t, 5, none⟩ = some (.int .i64 mn)
  c7 : w.cell? ⟨t, 6, none⟩ = some (.int .i64 mx)
  blk : ∃ c, w.heap[t]? = some (.cells c 141 (0, 0))

/-- The blocks that are the map's own. -/
def MOwn (k : Int) (t b : Nat) : Prop := b = t

theorem MOwn.self {k : Int} {t : Nat} : MOwn k t t := rfl

theorem MapAt.lt {k : Int} {mn mx t b : Nat} {w : World} (h : MapAt k mn mx w t) (hb : MOwn k t b) : b < w.heap.size := by
  obtain rfl : b = t := hb; exact World.block_lt_of_cell? w _ h.c0

theorem MapAt.chg {A : Nat → Nat → Prop} {k : Int} {mn mx t : Nat} {w w' : World} (h : MapAt k mn mx w t) (c : Chg A w w') (hA : ∀ b o, MOwn k t b → ¬ A b o) : MapAt k mn mx w' t :=
  ⟨c.cell (hA t 0 MOwn.self) h.c0, c.cell (hA t 4 MOwn.self) h.c4, c.cell (hA t 4 MOwn.self) h.c5, c.cell (hA t 5 MOwn.self) h.c6, c.cell (hA t 6 MOwn.self) h.c7, by obtain ⟨c1, h1⟩ := h.blk; obtain ⟨c2, h2, _⟩ := c.cells _ _ _ _ h1; exact ⟨c2, h2⟩⟩

/-- The node n of the record r has been parted at place i: the first part stays n, the second one is the new node m. kl: the children, cf: their counts. -/
def SplitPost (k : Int) (w : World) (n : Nat) (r : NodeR (Int × Int)) (l : Lay) (i : Nat) (cf : Nat → Int) (kl : List Nat) (e : Ending) (w' : World) : Prop :=
  ∃ m x l1 l2, e = .returned (.tuple #[.pointer (some ⟨m, 0, none⟩), .agg #[.int .i64 x.1]]) ∧ r.items[i]? = some x ∧ w.heap.size ≤ m ∧
    Chg (Ext (parM k) n r l) w w' ∧
    NodeAt (parM k) w' n ⟨i + ksum cf (kl.take (i + 1)), r.items.take i, r.kids.map (·.take (i + 1))⟩ l1 ∧
    NodeAt (parM k) w' m ⟨((r.items.length - (i + 1) : Nat) : Int) + ksum cf (kl.drop (i + 1)), r.items.drop (i + 1), r.kids.map (·.drop (i + 1))⟩ l2 ∧
    l1.ib = l.ib ∧ l1.io = l.io ∧ l1.ic = i ∧ l2.ib = l.ib ∧ l2.io = l.io + (i + 1) ∧ l2.ic = l.ic - (i + 1) ∧
    (r.kids ≠ none → l1.cc = l.cc ∧ l1.cb = l.cb ∧ l1.co = l.co ∧ l1.ck = i + 1 ∧ w.heap.size ≤ l2.cc ∧ l2.cb = l.cb ∧ l2.co = l.co + (i + 1) ∧ l2.ck = l.ck - (i + 1))

set_option maxRecDepth 100000 in
set_option maxHeartbeats 1000000 in
theorem nodeSplit_leaf (k : Int) (mn mx t n : Nat) (r : NodeR (Int × Int)) (l : Lay) (w : World) (ht : MapAt k mn mx w t) (hn : NodeAt (parM k) w n r l) (hk : r.kids = none) (hlen : r.items.length = mx) (hmx : mx ≤ 1000) (hm3 : 3 ≤ mx) (cf : Nat → Int) :
    Calls Try.prog 175 #[.pointer (some ⟨t, 0, none⟩), .pointer (some ⟨n, 0, none⟩)] w (SplitPost k w n r l (mx / 2) cf []) := by
  obtain ⟨i, hi⟩ : ∃ i : Nat, mx / 2 = i := ⟨_, rfl⟩
  rw [hi]
  have hI : (mx : Int) / 2 = (i : Int) := by omega
  have Hi := Lib.hid hi
  have hilt : i < mx := by omega
  have hi1 : 1 ≤ i := by omega
  clear hi
  obtain ⟨x, hx⟩ : ∃ x, r.items[i]? = some x := ⟨_, List.getElem?_eq_getElem (by omega)⟩
  have t0 := ht.c0
  have t6 := ht.c7
  have n2 := hn.c2
  have n3 := hn.c3n hk
  have iv := hn.mval hx
  have ik := hn.mkey hx
  have hcap := hn.len
  rw [hlen] at n2
  have ibl := hn.row.lt
  have nlt := World.block_lt_of_cell? w _ n2
  have tlt := World.block_lt_of_cell? w _ t0
  go_enter Try.func175, Try.ntmps175
  go_wp2_with (first | (go_at_call 162; refine (leaf_any _ none _ ?_).mono ?_; (focus go_simp); rintro e w' ⟨rfl, rfl⟩) | (go_at_call 173; refine (newNode_leaf _ k _ ?_).mono ?_; (focus go_simp); rintro e w' ⟨rfl, rfl⟩))
  refine (updateCount_leaf _ l.ib (l.io + (i + 1)) (mx - (i + 1)) (l.ic - (i + 1)) 0 _ ?_ ?_ ?_ ?_).mono ?_
  · go_simp
  · go_simp
  · go_simp
  · go_simp
  rintro e w' ⟨rfl, rfl⟩
  go_wp2_with fail
  refine name_world (fun w1 => Chg (fun _ _ => False) w w1 ∧ w1.heap[w.heap.size]? = some (.cells #[.int .i64 x.1] 107 (0, 0)) ∧
    w1.heap[w.heap.size + 1]? = some (.cells #[.int .u64 k, .int .i64 ((mx - (i + 1) : Nat) : Int), .slice (some ⟨l.ib, l.io + (i + 1), none⟩) (mx - (i + 1)) (l.ic - (i + 1)), .pointer none] 211 (0, 0)))
    ⟨((Chg.refl _ w).alloc _).alloc _, by rw [ha_lt _ _ (by simp)]; exact ha_at _ _ rfl, ha_at _ _ (by simp)⟩ ?_
  rintro w1 ⟨hc1, hb1, hb2⟩
  have HB1 := Lib.hid hb1
  have HB2 := Lib.hid hb2
  clear hb1 hb2
  have ht1 := ht.chg hc1 (by simp)
  have hn1 := hn.chg hc1 (by simp)
  have n21 := hn1.c2
  rw [hlen] at n21
  have iv1 := hn1.mval hx
  have ik1 := hn1.mkey hx
  have e4 := ht1.c4
  have e5 := ht1.c5
  have fz0 := hn1.ifz (l.io + i)
  have fz1 := hn1.ifz (l.io + i)
  have fzn := hn1.fz 2
  have fzn1 := hn1.fz 1
  have n31 := hn1.c3n hk
  have n11 := hn1.c1
  have hibn := hn1.d1
  have j0 : (0 : Int) ≤ (i : Int) := by omega
  have j1 : (i : Int) < (mx : Int) := by omega
  clear t0 t6 n2 n3 iv ik hm3
  go_still_tail 10, (by kernel_rfl)
  go_wp2_with (first | (go_at_call 162; refine (leaf_any _ none _ ?_).mono ?_; (focus go_simp); rintro e w' ⟨rfl, rfl⟩))
  refine (updateCount_leaf _ l.ib l.io (i) (i) r.cnt _ ?_ ?_ ?_ ?_).mono ?_
  · go_simp
  · go_simp
  · go_simp
  · go_simp
  rintro e w' ⟨rfl, rfl⟩
  go_wp2_with fail
  refine name_world (fun w2 => Chg (fun b o => b = n ∨ (b = l.ib ∧ l.io + i ≤ o ∧ o < l.io + (i + 1))) w1 w2 ∧
      w2.heap[n]? = some (.cells #[.int .u64 k, .int .i64 ((i : Nat) : Int), .slice (some ⟨l.ib, l.io, none⟩) (i) (i), .pointer none] 211 (0, 0))) ⟨?_, ?_⟩ ?_
  · repeat (first | refine Chg.drew ?_ | refine Chg.setCell ?_ (.inl ?_) _ | exact Chg.refl _ _)
    all_goals (simp; try omega)
  · have hd := hn1.hd
    unfold hdCells at hd
    rw [hk, hlen] at hd
    rw [hd_drew, hs_same (c := #[.int .u64 k, .int .i64 r.cnt, .slice (some ⟨l.ib, l.io, none⟩) (i) (i), .pointer none]) (T := 211) (fr := (0, 0))]
    · rfl
    · rw [hs_same (c := #[.int .u64 k, .int .i64 r.cnt, .slice (some ⟨l.ib, l.io, none⟩) mx l.ic, .pointer none]) (T := 211) (fr := (0, 0))]
      · rfl
      · repeat rw [hs_ne _ (Ne.symm hibn)]
        exact hd
  rintro w2 ⟨hc2, hd2⟩
  have hc2' := hc2
  have hszw := hc1.size
  have HD2 := Lib.hid hd2
  clear hd2
  have hb2 : w2.heap[w.heap.size]? = some (.cells #[.int .i64 x.1] 107 (0, 0)) := by
    rw [hc2.block (heap_lt HB1.out) (by intro o; simp; omega)]; exact HB1.out
  have q0 := cell_of_block hb2 0
  have q1 := cell_of_block hb2 0
  have q2 := frozen_of_block hb2 0
  have q3 := frozen_of_block hb2 1
  simp only [List.getElem?_toArray, List.getElem?_cons_zero, List.getElem?_cons_succ] at q0 q1
  have HQ := Lib.hid hb2
  clear hb2 n21 iv1 ik1 e4 e5 fz0 fz1 fzn fzn1 n31 n11
  go_region
  go_wp2
  refine bodyPost_ret (v := .tuple #[.pointer (some ⟨w.heap.size + 1, 0, none⟩), .agg #[.int .i64 x.1]]) (by simp [results, Try.results175, go_sem, q0, q1]) rfl ?_
  generalize hw3 : World.drew _ = w3
  have hc3 : Chg (fun b _ => b = w.heap.size) w2 w3 := by
    rw [← hw3]
    repeat (first | refine Chg.drew ?_ | refine Chg.setCell ?_ (.inl rfl) _ | exact Chg.refl _ _)
  have hs1 : w.heap.size + 1 < w1.heap.size := heap_lt HB2.out
  have hs2 := hc2.size
  have hc13 : Chg (fun b o => b = n ∨ (b = l.ib ∧ l.io + i ≤ o ∧ o < l.io + (i + 1)) ∨ b = w.heap.size) w1 w3 :=
    hc2.trans' hc3 (fun b o _ h => by rcases h with h | h; exact .inl h; exact .inr (.inl h)) (fun b o _ h => .inr (.inr h))
  have hext : ∀ o, l.io + i ≤ o → o < l.io + (i + 1) → l.io ≤ o ∧ o < l.io + l.ic := by intro o h1 h2; omega
  refine ⟨w.heap.size + 1, x, ⟨l.ib, l.io, i, l.cc, l.cb, l.co, i + 1⟩, ⟨l.ib, l.io + (i + 1), l.ic - (i + 1), 0, 0, 0, 0⟩, rfl, hx, by omega, ?_, ?_, ?_, rfl, rfl, rfl, rfl, rfl, rfl, fun h => absurd hk h⟩
  · refine hc1.trans' hc13 (fun _ _ _ h => h.elim) ?_
    rintro b o hb (h | ⟨h1, h2, h3⟩ | h)
    · exact .inl h
    · exact .inr (.inl ⟨h1, by have := hext o h2 h3; simpa [parM] using this⟩)
    · omega
  · refine ⟨?_, ?_, ?_, hibn, ?_⟩
    · rw [hc3.block (by omega) (by intro o; omega), HD2.out, hk]
      simp [hdCells, parM, hlen, ksum_nil]; omega
    · have := hn1.rowPart hc13 0 i i (by omega) (by omega) (by omega) (by
        intro o h1 h2 h3
        simp [parM] at h1 h2
        rcases h3 with h3 | ⟨_, h3, _⟩ | h3 <;> omega)
      simpa [parM] using this
    · rw [hk]; simp
    · rw [hk]; simp
  · refine ⟨?_, ?_, ?_, ?_, ?_⟩
    · rw [hc3.block (by omega) (by intro o; simp), hc2.block (by omega) (by intro o; omega), HB2.out, hk]
      simp [hdCells, parM, hlen, ksum_nil]
    · have := hn1.rowPart hc13 (i + 1) (r.items.length - (i + 1)) (l.ic - (i + 1)) (by omega) (by omega) (by omega) (by
        intro o h1 h2 h3
        simp [parM] at h1 h2
        rcases h3 with h3 | ⟨_, _, h3⟩ | h3 <;> omega)
      rw [List.take_of_length_le (by simp)] at this
      simpa [parM] using this
    · rw [hk]; simp
    · show l.ib ≠ w.heap.size + 1
      omega
    · rw [hk]; simp
end Go.Proofs.Ytjggkpmlffhjgaa

namespace Go.Proofs.Ytjggkpmlffhjgaa
set_option linter.unusedSimpArgs false
set_option linter.unusedVariables false
open Go.RowKit

/-- What the search among sorted keys answers. -/
def Srch (ks : Nat → Int) (n : Nat) (key : Int) (i : Nat) (f : Bool) : Prop :=
  ((f = true ∧ i < n ∧ ks i = key) ∨ (f = false ∧ i ≤ n ∧ (∀ j, i ≤ j → j < n → key < ks j))) ∧ ∀ j, j < i → ks j < key

def SrchPost (ks : Nat → Int) (n : Nat) (key : Int) (w : World) (e : Ending) (w' : World) : Prop :=
  ∃ (i : Nat) (f : Bool) (m : Nat), e = .returned (.tuple #[.int .i64 i, .bool f]) ∧ Srch ks n key i f ∧ w' = w.drewN m

set_option maxHeartbeats 400000 in
theorem search_any (t n ib io len cap : Nat) (ks : Nat → Int) (key : Int) (w : World)
    (hi : w.cell? ⟨n, 2, none⟩ = some (.slice (some ⟨ib, io, none⟩) len cap))
    (hbig : len ≤ 1000000000000) (hsort : ∀ i j, i < j → j < len → ks i < ks j)
    (hk : ∀ j, j < len → w.cell? ⟨ib, io + j, none⟩ = some (.int .i64 (ks j))) :
    Calls Try.prog 163 #[.pointer (some ⟨t, 0, none⟩), .pointer (some ⟨n, 0, none⟩), .int .i64 key] w
      (SrchPost ks len key w) := by
  have H := Lib.hid hk; clear hk
  have HS := Lib.hid hsort; clear hsort
  go_enter Try.func163, Try.ntmps163
  go_wp2
  go_quiet (fail)
  go_wp2
  go_loop [8, 9, 10] (fun lo hi h => ∃ l h' : Nat, l ≤ h' ∧ h' ≤ len ∧ lo = .int .i64 l ∧ hi = .int .i64 h' ∧ (∀ j, j < l → ks j ≤ key) ∧ (∀ j, h' ≤ j → j < len → key < ks j))
    (fun lo hi _ => (intOf hi).toNat - (intOf lo).toNat)
  case atStart => exact ⟨0, len, Nat.zero_le _, Nat.le_refl _, rfl, rfl, by omega, by omega⟩
  case round =>
    obtain ⟨l, h, hlh, hh, rfl, rfl, hA, hB⟩ := hrel
    have HA := Lib.hid hA; clear hA
    have HB := Lib.hid hB; clear hB
    by_cases hlt : l < h
    · have hcell := H.out ((l + h) / 2) (by omega)
      go_wp2
      · have hq : ¬ key < ks ((l + h) / 2) := by rename_i hx; simpa using hx
        go_round
        case rel =>
          refine ⟨(l + h) / 2 + 1, h, by omega, hh, by go_num, rfl, ?_, HB.out⟩
          intro j hj
          rcases Nat.lt_or_ge j ((l + h) / 2) with hj' | hj'
          · have := HS.out j ((l + h) / 2) hj' (by omega); omega
          · have : j = (l + h) / 2 := by omega
            subst this; omega
        case measure => simp [intOf]; omega
      · have hq : key < ks ((l + h) / 2) := by rename_i hx; simpa using hx
        go_round
        case rel =>
          refine ⟨l, (l + h) / 2, by omega, by omega, rfl, by go_num, HA.out, ?_⟩
          intro j hj hj2
          rcases Nat.lt_or_ge ((l + h) / 2) j with hj' | hj'
          · have := HS.out ((l + h) / 2) j hj' (by omega); omega
          · have : j = (l + h) / 2 := by omega
            subst this; omega
        case measure => simp [intOf]; omega
    · have hl : l = h := by omega
      subst hl
      rcases Nat.eq_zero_or_pos l with h0 | h0
      · subst h0
        go_wp2
        go_ret2
        exact ⟨0, false, _, rfl, ⟨.inr ⟨rfl, by omega, HB.out⟩, by omega⟩, rfl⟩
      · have hcell := H.out (l - 1) (by omega)
        have hd : decide ((0:Int) < (l : Int)) = true := by simpa using h0
        have hlast := HA.out (l - 1) (by omega)
        have hcast : ((l - 1 : Nat) : Int) = (l : Int) - 1 := by omega
        have Hc := Lib.hid hcast; clear hcast
        go_wp2
        · have hq : ¬ ks (l - 1) < key := by rename_i hx _; simpa using hx
          go_ret2
          refine ⟨l - 1, true, _, by rw [Hc.out]; rfl, ⟨.inl ⟨rfl, by omega, by omega⟩, ?_⟩, rfl⟩
          intro j hj
          have := HS.out j (l - 1) hj (by omega)
          omega
        · have hq : ks (l - 1) < key := by rename_i hx _; simpa using hx
          go_ret2
          refine ⟨l, false, _, rfl, ⟨.inr ⟨rfl, by omega, HB.out⟩, ?_⟩, rfl⟩
          intro j hj
          rcases Nat.lt_or_ge j (l - 1) with h1 | h1
          · have := HS.out j (l - 1) h1 (by omega); omega
          · have : j = l - 1 := by omega
            subst this; omega

def ltM (a b : Int × Int) : Bool := decide (a.1 < b.1)

theorem swoM : Swo ltM where
  asymm := by intro a b h; simp [ltM] at h ⊢; omega
  ntrans := by intro a b c h1 h2; simp [ltM] at h1 h2 ⊢; omega

def SrchN (xs : List (Int × Int)) (x : Int × Int) (w : World) (e : Ending) (w' : World) : Prop :=
  ∃ (i : Nat) (f : Bool), e = .returned (.tuple #[.int .i64 i, .bool f]) ∧ Chg (fun _ _ => False) w w' ∧ ((f = true ∧ ∃ y, HitAt ltM xs x i y) ∨ (f = false ∧ PosAt ltM xs x i))

theorem search_node {k : Int} {mn mx : Nat} {w : World} {n : Nat} {r : NodeR (Int × Int)} {l : Lay} (t : Nat) (x : Int × Int) (_ : MapAt k mn mx w t) (h : NodeAt (parM k) w n r l) (hs : Srt ltM r.items) (hlen : r.items.length ≤ 1000000) :
    Calls Try.prog 163 #[.pointer (some ⟨t, 0, none⟩), .pointer (some ⟨n, 0, none⟩), .int .i64 x.1] w (SrchN r.items x w) := by
  refine (search_any t n l.ib l.io r.items.length l.ic (fun j => (r.items.getD j (0, 0)).1) x.1 w h.c2 (by omega) ?_ ?_).mono ?_
  · intro i j hij hj
    have := List.pairwise_iff_getElem.1 hs i j (by omega) hj hij
    simpa [ltM, List.getD, show i < r.items.length by omega, hj] using this
  · intro j hj
    have := h.mkey (j := j) (x := r.items[j]) (List.getElem?_eq_getElem hj)
    simpa [List.getD, hj] using this
  · rintro e w' ⟨i, f, m, he, ⟨h1, h2⟩, hw⟩
    have hl : ∀ j y, j < i → r.items[j]? = some y → ltM y x = true := by
      intro j y hj hy
      have := h2 j hj
      simp [List.getD, hy] at this
      simpa [ltM] using this
    refine ⟨i, f, he, by rw [hw]; exact (Chg.refl _ _).drewN _, ?_⟩
    rcases h1 with ⟨h1, h3, h4⟩ | ⟨h1, h3, h4⟩
    · refine .inl ⟨h1, r.items[i], List.getElem?_eq_getElem h3, hl, ?_, ?_⟩
      · simp [List.getD, h3] at h4; simp [ltM]; omega
      · simp [List.getD, h3] at h4; simp [ltM]; omega
    · refine .inr ⟨h1, h3, hl, ?_⟩
      intro j y hj hy
      have hlt := (List.getElem?_eq_some_iff.1 hy).1
      have := h4 j hj hlt
      simp [List.getD, hy] at this
      simpa [ltM] using this
end Go.Proofs.Ytjggkpmlffhjgaa

namespace Go.Proofs.Ytjggkpmlffhjgaa
set_option linter.unusedSimpArgs false
set_option linter.unusedVariables false
open Go.RowKit

theorem partAt_zero {P : Program} {w : World} {b o : Nat} {c : Array Value} {T : TypeId} {fr : Nat × Nat} {s d : Nat} (h : w.heap[b]? = some (.cells c T fr)) (hs : P.cellsOf T = s) (hs0 : s ≠ 0) (hb : byteOfCell P P.depth T (o % s) = some d) :
    (partAt ⟨b, o, none⟩ 0 0).run P w = .ok ⟨b, o, none⟩ w := by
  unfold partAt byteOf
  have hsh : (Sem.shape b Sem.pure).run P w = .ok (some (T, c.size)) w := by
    have hq : w.shape? b = some (T, c.size) := by simp [World.shape?, h]
    simp [Sem.run, hq]
  simp [go_sem, noView, viewAt, shape, hsh, hs, hs0, hb]

theorem pair_cells : Try.prog.cellsOf 107 = 1 := by kernel_rfl
theorem pair_byte : byteOfCell Try.prog Try.prog.depth 107 0 = some 0 := by kernel_rfl
theorem map_cells : Try.prog.cellsOf 141 = 9 := by kernel_rfl
theorem map_byte : byteOfCell Try.prog Try.prog.depth 141 4 = some 32 := by kernel_rfl

/-- The value's field of an item of a node. -/
theorem NodeAt.pz {k : Int} {w : World} {n : Nat} {r : NodeR (Int × Int)} {l : Lay} (h : NodeAt (parM k) w n r l) (i : Nat) : (partAt ⟨l.ib, i, none⟩ 0 0).run Try.prog w = .ok ⟨l.ib, i, none⟩ w := by
  obtain ⟨_, c, h1, _⟩ := h.row
  exact partAt_zero h1 pair_cells (by decide) (by rw [Nat.mod_one]; exact pair_byte)
theorem block_pz {w : World} {b : Nat} {c : Array Value} (h : w.heap[b]? = some (.cells c 107 (0, 0))) (i : Nat) : (partAt ⟨b, i, none⟩ 0 0).run Try.prog w = .ok ⟨b, i, none⟩ w :=
  partAt_zero h pair_cells (by decide) (by rw [Nat.mod_one]; exact pair_byte)
theorem map_pz {w : World} {b : Nat} {c : Array Value} (h : w.heap[b]? = some (.cells c 141 (0, 0))) : (partAt ⟨b, 4, none⟩ 0 0).run Try.prog w = .ok ⟨b, 4, none⟩ w :=
  partAt_zero h map_cells (by decide) map_byte
theorem MapAt.pz {k : Int} {mn mx t : Nat} {w : World} (h : MapAt k mn mx w t) : (partAt ⟨t, 4, none⟩ 0 0).run Try.prog w = .ok ⟨t, 4, none⟩ w := by
  obtain ⟨c, h1⟩ := h.blk
  exact map_pz h1
end Go.Proofs.Ytjggkpmlffhjgaa
