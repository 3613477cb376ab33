/- Walks: leaf, isoLoad, search, newNode, updateCount. -/
import Derived.Test.YtojplcbkiogcpaaRows
import Derived.Test.YtojplcbkiogcpaaFam
import Derived.Test.YtojplcbkiogcpaaKc
import Derived.WalkLawsBesides
import Derived.RegionTactic
import Derived.ChangeAlike
import Derived.Deep.QuietTactic
import Derived.BigQuiet
import Derived.BigRegion
import Derived.StillTailTactics
import Derived.Deep.RegionHeld3
namespace Go.Proofs.Ytojplcbkiogcpaa
set_option linter.unusedSimpArgs false
set_option linter.unusedVariables false
open Go.RowKit
variable {ord : List Int} {k : Kc ord}

theorem leaf_any (n : Nat) (p : Option Addr) (w : World) (h : w.cell? ⟨n, 3, none⟩ = some (.pointer p)) :
    Calls Try.prog 97 #[.pointer (some ⟨n, 0, none⟩)] w fun e w' => e = .returned (.bool (p.isNone)) ∧ w = w' := by
  rcases p with _ | a
  · go_enter Try.func97, Try.ntmps97
    go_wp2
    go_ret
    exact ⟨rfl, rfl⟩
  · go_enter Try.func97, Try.ntmps97
    go_wp2
    go_ret
    exact ⟨rfl, rfl⟩

set_option maxHeartbeats 400000 in
theorem isoLoad_any (t n : Nat) (k : Kc ord) (ad : Addr) (b : Bool) (w : World) (hp : w.cell? ad = some (.pointer (some ⟨n, 0, none⟩)))
    (hn : w.cell? ⟨n, 0, none⟩ = some (.int .u64 k.iso)) (ht : w.cell? ⟨t, 0, none⟩ = some (.int .u64 k.iso)) :
    Calls Try.prog 96 #[.pointer (some ⟨t, 0, none⟩), .pointer (some ad), .bool b] w fun e w' => e = .returned (.pointer (some ⟨n, 0, none⟩)) ∧ ∃ m, w' = w.drewN m := by
  cases b
  · go_enter Try.func96, Try.ntmps96
    go_wp2
    go_quiet (fail)
    go_wp2
    go_ret
    exact ⟨rfl, _, rfl⟩
  · go_enter Try.func96, Try.ntmps96
    go_wp2
    go_quiet (fail)
    go_wp2
    go_ret
    exact ⟨rfl, _, rfl⟩

theorem newNode_leaf (t : Nat) (k : Kc ord) (w : World) (ht : w.cell? ⟨t, 0, none⟩ = some (.int .u64 k.iso)) :
    Calls Try.prog 115 #[.pointer (some ⟨t, 0, none⟩), .bool true] w fun e w' => e = .returned (.pointer (some ⟨w.heap.size, 0, none⟩)) ∧
      w' = w.alloc (.cells #[.int .u64 k.iso, .int .i64 0, .slice none 0 0, .pointer none] 105) := by
  have hlt := World.block_lt_of_cell? w _ ht
  go_enter Try.func115, Try.ntmps115
  go_wp2
  go_ret
  exact ⟨rfl, rfl⟩

theorem newNode_branch (t : Nat) (k : Kc ord) (w : World) (ht : w.cell? ⟨t, 0, none⟩ = some (.int .u64 k.iso)) :
    Calls Try.prog 115 #[.pointer (some ⟨t, 0, none⟩), .bool false] w fun e w' => e = .returned (.pointer (some ⟨w.heap.size, 0, none⟩)) ∧
      w' = (w.alloc (.cells #[.int .u64 k.iso, .int .i64 0, .slice none 0 0, .pointer (some ⟨w.heap.size + 1, 0, none⟩)] 105)).alloc (.cells #[.slice none 0 0] 106) := by
  have hlt := World.block_lt_of_cell? w _ ht
  go_enter Try.func115, Try.ntmps115
  go_wp2
  go_ret
  exact ⟨rfl, rfl⟩

theorem setCell_twice (w : World) (a : Addr) (u v : Value) : (w.setCell a u).setCell a v = w.setCell a v := by
  unfold World.setCell
  congr 1
  apply Array.ext_getElem?
  intro i
  simp only [Array.getElem?_modify]
  by_cases hi : a.block = i
  · simp only [hi, if_true]
    cases hq : w.heap[i]? with
    | none => rfl
    | some q =>
      cases q with
      | cells c T fr => by_cases hs : a.spot.isSome = true <;> simp [hs]
      | _ => rfl
  · simp only [hi, if_false]

/-- The sum of the first m counts. -/
def sumTo (cs : Nat → Int) : Nat → Int
  | 0 => 0
  | m + 1 => sumTo cs m + cs m

theorem sumTo_nonneg (cs : Nat → Int) (K : Nat) (h : ∀ j, j < K → 0 ≤ cs j) : ∀ m, m ≤ K → 0 ≤ sumTo cs m := by
  intro m
  induction m with
  | zero => intro _; simp [sumTo]
  | succ m ih => intro hm; have := ih (by omega); have := h m (by omega); simp only [sumTo]; omega

theorem sumTo_le (cs : Nat → Int) (K : Nat) (h : ∀ j, j < K → 0 ≤ cs j) : ∀ m, m ≤ K → sumTo cs m ≤ sumTo cs K := by
  induction K with
  | zero => intro m hm; obtain rfl : m = 0 := by omega
            exact Int.le_refl _
  | succ K ih =>
    intro m hm
    rcases Nat.lt_or_ge K m with h1 | h1
    · obtain rfl : m = K + 1 := by omega
      exact Int.le_refl _
    · have := ih (fun j hj => h j (by omega)) m h1
      have := h K (by omega)
      simp only [sumTo]; omega

set_option maxHeartbeats 400000 in
theorem updateCount_leaf (n ib io len cap : Nat) (c0 : Int) (w : World) (h1 : w.cell? ⟨n, 1, none⟩ = some (.int .i64 c0)) (hf : w.frozen? ⟨n, 1, none⟩ = false)
    (h2 : w.cell? ⟨n, 2, none⟩ = some (.slice (some ⟨ib, io, none⟩) len cap)) (h3 : w.cell? ⟨n, 3, none⟩ = some (.pointer none)) :
    Calls Try.prog 118 #[.pointer (some ⟨n, 0, none⟩)] w fun e w' => e = .returned (.tuple #[]) ∧ w' = w.setCell ⟨n, 1, none⟩ (.int .i64 len) := by
  go_enter Try.func118, Try.ntmps118
  go_wp2_with (go_at_call 97; refine (leaf_any _ none _ ?_).mono ?_; (focus go_simp); rintro e w' ⟨rfl, rfl⟩)
  go_end0
  exact ⟨rfl, rfl⟩

set_option maxRecDepth 100000 in
set_option maxHeartbeats 1000000 in
theorem updateCount_branch (n ib io len cap cc cb co K ck : Nat) (c0 : Int) (kid : Nat → Nat) (cs : Nat → Int) (w : World) (h1 : w.cell? ⟨n, 1, none⟩ = some (.int .i64 c0)) (hf : w.frozen? ⟨n, 1, none⟩ = false)
    (h2 : w.cell? ⟨n, 2, none⟩ = some (.slice (some ⟨ib, io, none⟩) len cap)) (h3 : w.cell? ⟨n, 3, none⟩ = some (.pointer (some ⟨cc, 0, none⟩)))
    (hc : w.cell? ⟨cc, 0, none⟩ = some (.slice (some ⟨cb, co, none⟩) K ck)) (hccn : cc ≠ n) (hcbn : cb ≠ n)
    (hk : ∀ j, j < K → w.cell? ⟨cb, co + j, none⟩ = some (.pointer (some ⟨kid j, 0, none⟩)) ∧ kid j ≠ n ∧ w.cell? ⟨kid j, 1, none⟩ = some (.int .i64 (cs j)) ∧ 0 ≤ cs j)
    (hK : K ≤ 1000000) (hb : (len : Int) + sumTo cs K ≤ 1000000000000000) :
    Calls Try.prog 118 #[.pointer (some ⟨n, 0, none⟩)] w fun e w' => e = .returned (.tuple #[]) ∧ ∃ m, w' = (w.setCell ⟨n, 1, none⟩ (.int .i64 (len + sumTo cs K))).drewN m := by
  have Hk := Lib.hid hk; clear hk
  have hmono : ∀ m, m ≤ K → 0 ≤ sumTo cs m := sumTo_nonneg cs K fun j hj => (Hk.out j hj).2.2.2
  have hmono2 : ∀ m, m ≤ K → sumTo cs m ≤ sumTo cs K := sumTo_le cs K fun j hj => (Hk.out j hj).2.2.2
  have Hm := Lib.hid hmono; clear hmono
  have Hm2 := Lib.hid hmono2; clear hmono2
  go_enter Try.func118, Try.ntmps118
  go_wp2_with (go_at_call 97; refine (leaf_any _ (some ⟨cc, 0, none⟩) _ ?_).mono ?_; (focus go_simp); rintro e w' ⟨rfl, rfl⟩)
  go_loopw [2] (fun i wr => ∃ (j m : Nat), j ≤ K ∧ i = .int .i64 j ∧ Hid (wr = (w.setCell ⟨n, 1, none⟩ (.int .i64 (len + sumTo cs j))).drewN m)) (fun i _ => K - (intOf i).toNat)
  case atStart => exact ⟨0, 0, Nat.zero_le _, rfl, Lib.hid (by simp [sumTo]; rfl)⟩
  case round =>
    obtain ⟨j, m, hj, rfl, hw⟩ := hrel
    have hs : ∀ a, ¬ (a = ⟨n, 1, none⟩) → wr.cell? a = w.cell? a := fun a ha => by rw [hw.out]; exact World.cell?_setCell_other w _ _ _ (Ne.symm ha)
    have r1 : wr.cell? ⟨n, 1, none⟩ = some (.int .i64 (len + sumTo cs j)) := by rw [hw.out]; exact World.cell?_setCell_same w _ _ h1
    have r3 : wr.cell? ⟨n, 3, none⟩ = some (.pointer (some ⟨cc, 0, none⟩)) := by rw [hs _ (by simp)]; exact h3
    have rc : wr.cell? ⟨cc, 0, none⟩ = some (.slice (some ⟨cb, co, none⟩) K ck) := by rw [hs _ (by simp)]; exact hc
    have rf : wr.frozen? ⟨n, 1, none⟩ = false := by rw [hw.out]; simpa using hf
    have Hs := Lib.hid hs; clear hs
    by_cases hlt : j < K
    · obtain ⟨g1, g2, g3, g4⟩ := Hk.out j hlt
      have g5 := Hm.out j (by omega)
      have g6 := Hm2.out (j + 1) (by omega)
      have g7 : sumTo cs (j + 1) = sumTo cs j + cs j := rfl
      have r5 : wr.cell? ⟨cb, co + j, none⟩ = some (.pointer (some ⟨kid j, 0, none⟩)) := by rw [Hs.out _ (by simp [hcbn])]; exact g1
      have r6 : wr.cell? ⟨kid j, 1, none⟩ = some (.int .i64 (cs j)) := by rw [Hs.out _ (by simp [g2])]; exact g3
      rw [g7] at g6
      have G7 := Lib.hid g7
      clear g7
      have i0 : (0 : Int) ≤ (j : Int) := by omega
      have i1 : (j : Int) < (K : Int) := by omega
      go_wp2
      go_still_tail 17, (by kernel_rfl)
      go_wp2
      go_roundw
      case rel =>
        refine ⟨j + 1, m + 1, by omega, by go_num, Lib.hid ?_⟩
        rw [hw.out, G7.out, ← Int.add_assoc]
        exact congrArg (fun x => World.drewN x (m + 1)) (setCell_twice w ⟨n, 1, none⟩ _ _)
      case measure => simp [intOf]; omega
    · obtain rfl : j = K := by omega
      go_wp2
      go_end0
      exact ⟨rfl, m, hw.out⟩
/-- The sum of the counts of a list of nodes. -/
def ksum (cf : Nat → Int) (ks : List Nat) : Int := (ks.map cf).sum

theorem ksum_nil (cf : Nat → Int) : ksum cf [] = 0 := rfl
theorem ksum_cons (cf : Nat → Int) (c : Nat) (ks : List Nat) : ksum cf (c :: ks) = cf c + ksum cf ks := by simp [ksum]
theorem ksum_append (cf : Nat → Int) (ks ls : List Nat) : ksum cf (ks ++ ls) = ksum cf ks + ksum cf ls := by simp [ksum]

theorem ksum_nonneg (cf : Nat → Int) : ∀ ks : List Nat, (∀ c ∈ ks, 0 ≤ cf c) → 0 ≤ ksum cf ks
  | [], _ => Int.le_refl _
  | c :: ks, h => by
    have := ksum_nonneg cf ks (fun x hx => h x (List.mem_cons_of_mem _ hx))
    have := h c (List.mem_cons_self)
    rw [ksum_cons]; omega

theorem ksum_split (cf : Nat → Int) (ks : List Nat) (h : ∀ c ∈ ks, 0 ≤ cf c) (i : Nat) : 0 ≤ ksum cf (ks.take i) ∧ 0 ≤ ksum cf (ks.drop i) ∧ ksum cf (ks.take i) + ksum cf (ks.drop i) = ksum cf ks :=
  ⟨ksum_nonneg cf _ fun c hc => h c (List.mem_of_mem_take hc), ksum_nonneg cf _ fun c hc => h c (List.mem_of_mem_drop hc), by rw [← ksum_append, List.take_append_drop]⟩

theorem sumTo_shift (cs : Nat → Int) : ∀ m, sumTo cs (m + 1) = cs 0 + sumTo (fun j => cs (j + 1)) m
  | 0 => by simp [sumTo]
  | m + 1 => by rw [sumTo, sumTo_shift cs m, sumTo]; omega

theorem sumTo_ksum (cf : Nat → Int) : ∀ ks : List Nat, sumTo (fun j => cf (ks.getD j 0)) ks.length = ksum cf ks
  | [] => rfl
  | c :: ks => by rw [List.length_cons, sumTo_shift, ksum_cons, ← sumTo_ksum cf ks]; rfl

end Go.Proofs.Ytojplcbkiogcpaa
