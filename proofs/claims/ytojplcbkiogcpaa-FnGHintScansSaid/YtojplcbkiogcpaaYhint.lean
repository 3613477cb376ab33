/- reverse, ReverseMut, GReverseMut; spec: Turned, First, GReverse; the law. -/
import Derived.Laws.EntriesVeiled
import Derived.ScopeJumps
import Derived.WalkMore
import Derived.Deep.Cut
import Derived.Deep.CutRange
import Derived.Laws.MakeOwn
import Derived.Test.YtojplcbkiogcpaaRege
import Derived.Test.YtojplcbkiogcpaaEl
import Derived.Test.YtojplcbkiogcpaaY1
namespace Go.Proofs.Ytojplcbkiogcpaa
set_option linter.unusedSimpArgs false
set_option linter.unusedVariables false
open Go.RowKit

/-- Items handed on one by one, until the function says no. -/
def runL {α : Type} (cont : List α → Bool) : List α → List α → List α × Bool
  | acc, [] => (acc, true)
  | acc, x :: l => if cont (acc ++ [x]) then runL cont (acc ++ [x]) l else (acc ++ [x], false)

theorem runL_append {α : Type} (cont : List α → Bool) : ∀ (l1 l2 acc : List α), runL cont acc (l1 ++ l2) = if (runL cont acc l1).2 then runL cont (runL cont acc l1).1 l2 else runL cont acc l1
  | [], l2, acc => by simp [runL]
  | x :: l1, l2, acc => by
    rw [List.cons_append, runL, runL]
    split
    · exact runL_append cont l1 l2 _
    · simp

theorem runL_true {α : Type} (cont : List α → Bool) : ∀ (l acc : List α), (runL cont acc l).2 = true → (runL cont acc l).1 = acc ++ l
  | [], acc, _ => by simp [runL]
  | x :: l, acc, h => by
    rw [runL] at h ⊢
    split at h
    · rename_i hc
      rw [if_pos hc, runL_true cont l _ h]; simp
    · cases h

theorem runL_len {α : Type} (cont : List α → Bool) : ∀ (l acc : List α), (runL cont acc l).1.length ≤ acc.length + l.length
  | [], acc => by simp [runL]
  | x :: l, acc => by
    rw [runL]
    split
    · have := runL_len cont l (acc ++ [x]); simp at this ⊢; omega
    · simp

/-- A bound: n calls, no bound for n below 1. -/
def contN {α : Type} (n : Int) (l : List α) : Bool := decide (n < 1) || decide ((l.length : Int) < n)

def firstN {α : Type} (n : Int) (l : List α) : List α := if n < 1 ∨ (l.length : Int) < n then l else l.take n.toNat

theorem runL_contN {α : Type} (n : Int) : ∀ (l acc : List α), (n < 1 ∨ (acc.length : Int) < n) → (runL (contN n) acc l).1 = acc ++ firstN (n - if n < 1 then 0 else acc.length) l
  | [], acc, h => by simp [runL, firstN]
  | x :: l, acc, h => by
    rw [runL]
    by_cases h1 : n < 1
    · have hc : contN n (acc ++ [x]) = true := by simp [contN, h1]
      rw [if_pos hc, runL_contN n l (acc ++ [x]) (.inl h1)]
      simp [firstN, h1]
    · by_cases h2 : ((acc ++ [x]).length : Int) < n
      · have hc : contN n (acc ++ [x]) = true := by simp only [contN, Bool.or_eq_true, decide_eq_true_eq]; exact .inr h2
        rw [if_pos hc, runL_contN n l (acc ++ [x]) (.inr h2)]
        simp only [if_neg h1, List.append_assoc]
        congr 1
        simp only [List.length_append, List.length_cons, List.length_nil] at h2 ⊢
        unfold firstN
        by_cases h3 : ((x :: l).length : Int) < n - acc.length
        · have h4 : (l.length : Int) < n - ((acc.length + (0 + 1) : Nat) : Int) := by simp only [List.length_cons] at h3; omega
          rw [if_pos (.inr h4), if_pos (.inr h3)]; rfl
        · have h4 : ¬ (n - ((acc.length + (0 + 1) : Nat) : Int) < 1 ∨ (l.length : Int) < n - ((acc.length + (0 + 1) : Nat) : Int)) := by simp only [List.length_cons] at h3; omega
          have h5 : ¬ (n - (acc.length : Int) < 1 ∨ ((x :: l).length : Int) < n - (acc.length : Int)) := by omega
          rw [if_neg h4, if_neg h5]
          have : (n - (acc.length : Int)).toNat = (n - ((acc.length + (0 + 1) : Nat) : Int)).toNat + 1 := by omega
          rw [this]; rfl
      · have hc : contN n (acc ++ [x]) = false := by simp only [contN, Bool.or_eq_false_iff, decide_eq_false_iff_not]; exact ⟨h1, h2⟩
        rw [if_neg (by rw [hc]; simp)]
        simp only [if_neg h1]
        have e : n - (acc.length : Int) = 1 := by
          rcases h with h | h
          · exact absurd h h1
          · simp at h2; omega
        show acc ++ [x] = acc ++ firstN (n - acc.length) (x :: l)
        congr 1
        rw [e]
        unfold firstN
        rw [if_neg (by simp; omega)]; rfl

theorem runL_first {α : Type} (n : Int) (l : List α) : (runL (contN n) [] l).1 = firstN n l := by
  have := runL_contN n l [] (by simp; omega)
  simpa using this

/-- The function's own variables: the slice at ob, the pointer to it at b2, the bound at b3, the inner function at cb; what was kept lies from rb on. -/
structure Kept (n : Int) (ob b2 b3 rb : Nat) (w : World) (acc : List (Int × Int)) : Prop where
  o : ∃ v, w.heap[ob]? = some (.cells #[v] 31 (0, 0)) ∧ OwnE itemE w v acc rb
  p2 : w.heap[b2]? = some (.cells #[.pointer (some ⟨ob, 0, none⟩)] 68 (0, 0))
  p3 : w.heap[b3]? = some (.cells #[.int .i64 n] 3 (0, 0))
  lo : ob < rb
  l2 : b2 < rb
  l3 : b3 < rb
  n2 : ob ≠ b2
  n3 : ob ≠ b3
  rw_ : rb ≤ w.heap.size

theorem Kept.keep {n : Int} {ob b2 b3 rb : Nat} {w w' : World} {acc : List (Int × Int)} (h : Kept n ob b2 b3 rb w acc) (c : Chg (fun _ _ => False) w w') : Kept n ob b2 b3 rb w' acc := by
  obtain ⟨⟨v, h1, h2⟩, p2, p3, l0, l2, l3, n2, n3, hr⟩ := h
  have hb : ∀ {b : Nat} {o : Obj}, w.heap[b]? = some o → w'.heap[b]? = some o := fun h => by rw [c.block (heap_lt h) (fun _ h => h)]; exact h
  exact ⟨⟨v, hb h1, h2.keep c⟩, hb p2, hb p3, l0, l2, l3, n2, n3, Nat.le_trans hr c.size⟩

def TakeB (ob rb : Nat) (b : Nat) : Prop := b = ob ∨ rb ≤ b

set_option maxRecDepth 100000 in
set_option maxHeartbeats 1000000 in
theorem taker1_any {n : Int} {ob b2 b3 rb : Nat} {w : World} {acc : List (Int × Int)} (x : Int × Int) (h : Kept n ob b2 b3 rb w acc) (hlen : acc.length ≤ 1000000000000) :
    Calls Try.prog 102 #[.agg #[.int .i64 x.1, .int .i64 x.2], .pointer (some ⟨b2, 0, none⟩), .pointer (some ⟨b3, 0, none⟩)] w fun e w' =>
      e = .returned (.bool (contN n (acc ++ [x]))) ∧ Kept n ob b2 b3 rb w' (acc ++ [x]) ∧ Chg (fun b _ => TakeB ob rb b) w w' := by
  obtain ⟨i0, hi0, hz0, hz1, hz2⟩ := info_parts infoItem
  have hk1 : Kept n ob b2 b3 rb (w.alloc (.cells #[.int .i64 x.1, .int .i64 x.2] 26)) acc := h.keep ((Chg.refl _ _).alloc _)
  have HK := Lib.hid h
  go_enter Try.func102, Try.ntmps102
  go_wp2
  refine name_world (fun w1 => Chg (fun _ _ => False) w w1 ∧ w1.heap[w.heap.size]? = some (.cells #[.int .i64 x.1, .int .i64 x.2] 26 (0, 0))) ⟨(Chg.refl _ _).alloc _, ha_at _ _ rfl⟩ ?_
  clear hk1 h
  rintro w1 ⟨hc1, hb1⟩
  obtain ⟨v, g1, g2⟩ := HK.out.o
  obtain ⟨_, p2, p3, l0, l2, l3, n2, n3, hr⟩ := HK.out.keep hc1
  have h1 : w1.heap[ob]? = some (.cells #[v] 31 (0, 0)) := by rw [hc1.block (heap_lt g1) (fun _ h => h)]; exact g1
  have h2 := g2.keep hc1
  have hvl : ∀ b, v.ownBlock = some b → rb ≤ b ∧ b < w.heap.size := fun b hb => g2.own_lt hb
  have HVL := Lib.hid hvl
  clear g1 g2 hvl
  have o0 := cell_of_block h1 0
  have q2 := cell_of_block p2 0
  have x0 := cell_of_block hb1 0
  have x1 := cell_of_block hb1 1
  have z0 := frozen_of_block h1 0
  simp only [List.getElem?_toArray, List.getElem?_cons_zero, List.getElem?_cons_succ] at o0 q2 x0 x1
  have hsz1 := hc1.size
  have HOW := Lib.hid h2
  have HB := Lib.hid h1
  clear h2 h1
  refine wp_region_script (fun w' => w'.cell? ⟨ob, 0, none⟩ = some v ∧ w'.cell? ⟨b2, 0, none⟩ = some (.pointer (some ⟨ob, 0, none⟩)) ∧ w'.cell? ⟨w.heap.size, 0, none⟩ = some (.int .i64 x.1) ∧ w'.cell? ⟨w.heap.size, 1, none⟩ = some (.int .i64 x.2)) 8
    [(0, true), (1, true), (2, true), (3, true), (4, true), (5, false), (6, false), (7, true), (8, false)] (by kernel_rfl) (by kernel_rfl) (fun _ _ _ _ _ h => h) ⟨o0, q2, x0, x1⟩ ?_
  refine script_soft (by rfl) ?_ (by simp [Region.wanted, yielded]) ?_ ?_
  rotate_left
  · intro w' hS
    try obtain ⟨a1, a2, a3, a4⟩ := hS
    go_simp
    try with_reducible rfl
  simp only [Act.put, List.setIfInBounds_toArray, List.set_cons_zero, List.set_cons_succ]
  refine script_soft (by rfl) ?_ (by simp [Region.wanted, yielded]) ?_ ?_
  rotate_left
  · intro w' hS
    try obtain ⟨a1, a2, a3, a4⟩ := hS
    go_simp
    try with_reducible rfl
  simp only [Act.put, List.setIfInBounds_toArray, List.set_cons_zero, List.set_cons_succ]
  refine script_soft (by rfl) ?_ (by simp [Region.wanted, yielded]) ?_ ?_
  rotate_left
  · intro w' hS
    try obtain ⟨a1, a2, a3, a4⟩ := hS
    go_simp
    try with_reducible rfl
  simp only [Act.put, List.setIfInBounds_toArray, List.set_cons_zero, List.set_cons_succ]
  refine script_soft (by rfl) ?_ (by simp [Region.wanted, yielded]) ?_ ?_
  rotate_left
  · intro w' hS
    try obtain ⟨a1, a2, a3, a4⟩ := hS
    go_simp
    try with_reducible rfl
  simp only [Act.put, List.setIfInBounds_toArray, List.set_cons_zero, List.set_cons_succ]
  refine script_soft (by rfl) ?_ (by simp [Region.wanted, yielded]) ?_ ?_
  rotate_left
  · intro w' hS
    try obtain ⟨a1, a2, a3, a4⟩ := hS
    go_simp
    try with_reducible rfl
  simp only [Act.put, List.setIfInBounds_toArray, List.set_cons_zero, List.set_cons_succ]
  refine script_hard (by rfl) (by simp [Region.wanted, yielded]) (fun K hK => ?_)
  go_simp
  have hc2 : Chg (fun _ _ => False) w1 (w1.alloc (.cells #[.int .i64 x.1, .int .i64 x.2] 26)).drew := ((Chg.refl _ _).alloc _).drew
  refine hK _ _ (fun _ => ⟨hc2.cell (fun h => h) o0, hc2.cell (fun h => h) q2, hc2.cell (fun h => h) x0, hc2.cell (fun h => h) x1⟩) ?_
  clear hK K
  refine script_hard (by rfl) (by simp [Region.wanted, yielded]) (fun K hK => ?_)
  refine wp_append_E2 itemE _ _ _ (by rfl) i0 _ 16 Try.underlying31 hi0 hz0 hz1 hz2 rfl v (by rfl) acc rb (HOW.out.keep hc2) (Nat.le_trans hr hc2.size) ⟨w1.heap.size, 0, none⟩ 1 _ (by rfl) [x] rfl (by decide) ?_ ?_ ?_ ?_
  · exact El.src1 itemE (c := #[.int .i64 x.1, .int .i64 x.2]) (ha_at _ _ (by simp)) _ rfl
  · unfold maxLen; omega
  · omega
  intro v' w2 g1 g2 _
  obtain ⟨a1, c1, hv', hlc⟩ : ∃ a1 c1, v' = .slice a1 (acc.length + 1) c1 ∧ True := by
    obtain ⟨a1, c1, e, _⟩ := g1.sl
    exact ⟨a1, c1, by rw [e]; simp, trivial⟩
  subst hv'
  have hgv : Chg (fun b _ => v.ownBlock = some b) w1 w2 := (hc2.mono (fun _ _ _ h => h.elim)).trans g2
  have hg : Chg (fun b _ => rb ≤ b) w1 w2 := hgv.mono (fun b _ _ h => (HVL.out b h).1)
  have hs : ∀ {b : Nat} {ob : Obj}, b < rb → w1.heap[b]? = some ob → w2.heap[b]? = some ob := fun h g => by rw [hg.block (heap_lt g) (fun _ h2 => by omega)]; exact g
  have x0' := hgv.cell (a := ⟨w.heap.size, 0, none⟩) (fun h => absurd (HVL.out w.heap.size h).2 (Nat.lt_irrefl _)) x0
  have x1' := hgv.cell (a := ⟨w.heap.size, 1, none⟩) (fun h => absurd (HVL.out w.heap.size h).2 (Nat.lt_irrefl _)) x1
  have o0' := hg.cell (a := ⟨ob, 0, none⟩) (fun h => by have h2 : rb ≤ ob := h; omega) o0
  have q2' := hg.cell (a := ⟨b2, 0, none⟩) (fun h => by have h2 : rb ≤ b2 := h; omega) q2
  have h1' := hs l0 HB.out
  have p2' := hs l2 p2
  have p3' := hs l3 p3
  refine hK _ _ (fun _ => ⟨o0', q2', x0', x1'⟩) ?_
  clear hK K
  have z0' := frozen_of_block h1' 0
  have HB2 := Lib.hid h1'
  have HP2 := Lib.hid p2'
  have HP3 := Lib.hid p3'
  have hsz2 := hg.size
  clear h1' p2' p3' p2 p3 z0
  refine script_soft (by rfl) ?_ (by simp [Region.wanted, yielded]) ?_ ?_
  rotate_left
  · intro w' hS
    try obtain ⟨a1, a2, a3, a4⟩ := hS
    go_simp
    try with_reducible rfl
  simp only [Act.put, List.setIfInBounds_toArray, List.set_cons_zero, List.set_cons_succ]
  refine script_hard (by rfl) (by simp [Region.wanted, yielded]) (fun K hK => ?_)
  go_simp
  refine hK _ _ (fun h => absurd h (by decide)) (script_nil ?_)
  clear hK K
  have hob : (w2.setCell ⟨ob, 0, none⟩ (.slice a1 (acc.length + 1) c1)).heap[ob]? = some (.cells #[.slice a1 (acc.length + 1) c1] 31 (0, 0)) := by rw [hs_same HB2.out]; rfl
  have hst : Chg (fun b _ => b = ob) w2 (w2.setCell ⟨ob, 0, none⟩ (.slice a1 (acc.length + 1) c1)) := (Chg.refl _ _).setCell (.inl rfl) _
  have hfin : Kept n ob b2 b3 rb (w2.setCell ⟨ob, 0, none⟩ (.slice a1 (acc.length + 1) c1)) (acc ++ [x]) := by
    have ho : ∀ {b : Nat} {o : Obj}, ob ≠ b → w2.heap[b]? = some o → (w2.setCell ⟨ob, 0, none⟩ (.slice a1 (acc.length + 1) c1)).heap[b]? = some o := fun h g => by rw [hst.block (heap_lt g) (fun _ e => h e.symm)]; exact g
    exact ⟨⟨_, hob, g1.chgOwn hst (fun b _ hb e => by have := (g1.own_lt hb).1; omega)⟩, ho n2 HP2.out, ho n3 HP3.out, l0, l2, l3, n2, n3, Nat.le_trans hr (Nat.le_trans hsz2 hst.size)⟩
  have hall : Chg (fun b _ => TakeB ob rb b) w (w2.setCell ⟨ob, 0, none⟩ (.slice a1 (acc.length + 1) c1)) := ((hc1.mono (fun _ _ _ h => h.elim)).trans (hg.mono (fun _ _ _ h => .inr h))).trans (hst.mono (fun _ _ _ h => .inl h))
  have HFIN := Lib.hid hfin
  have HALL := Lib.hid hall
  have k1 := cell_of_block hob 0
  have k2 := hst.cell (a := ⟨b2, 0, none⟩) (fun h => n2 h.symm) q2'
  have k3 := hst.cell (a := ⟨b3, 0, none⟩) (fun h => n3 h.symm) (cell_of_block HP3.out 0)
  simp only [List.getElem?_toArray, List.getElem?_cons_zero, List.getElem?_cons_succ] at k1 k3
  clear hob hst hfin hall o0 q2 x0 x1 o0' q2' x0' x1' hc2 hg hgv g1 g2
  have hcn : contN n (acc ++ [x]) = (decide (n < 1) || decide (((acc.length : Int) + 1) < n)) := by unfold contN; simp
  have HCN := Lib.hid hcn
  clear hcn
  have la1 : (0 : Int) ≤ (acc.length : Int) := by omega
  have la2 : (acc.length : Int) ≤ 1000000000000 := by omega
  by_cases hn1 : n < 1
  · have HD := Lib.hid (show contN n (acc ++ [x]) = true by rw [HCN.out]; simp [hn1])
    go_wp2_with fail
    go_quiet (fail)
    go_wp2
    go_ret
    refine ⟨?_, HFIN.out.keep ((Chg.refl _ _).drewN _), HALL.out.drewN _⟩
    show Ending.returned (.bool true) = _
    rw [HD.out]
  · have hd : decide (n < 1) = false := by simpa using hn1
    have HD := Lib.hid (show contN n (acc ++ [x]) = decide (((acc.length : Int) + 1) < n) by rw [HCN.out, hd]; rfl)
    go_wp2_with fail
    go_quiet (fail)
    go_wp2
    go_ret
    refine ⟨?_, HFIN.out.keep ((Chg.refl _ _).drewN _), HALL.out.drewN _⟩
    show Ending.returned (.bool (decide (((acc.length : Int) + 1) < n))) = _
    rw [HD.out]

theorem taker_any (ob : Nat) (n : Int) (w : World) :
    Calls Try.prog 68 #[.pointer (some ⟨ob, 0, none⟩), .int .i64 n] w fun e w' =>
      e = .returned (.func (.func 102) #[] #[.pointer (some ⟨w.heap.size, 0, none⟩), .pointer (some ⟨w.heap.size + 1, 0, none⟩)]) ∧
      w' = (w.alloc (.cells #[.pointer (some ⟨ob, 0, none⟩)] 68)).alloc (.cells #[.int .i64 n] 3) := by
  have hmf : ∀ (fn : Fn) (first cap : Array Value) (w : World), (Instr.makeFunc fn first cap).run Try.prog w = .ok (.func fn first cap) w := fun _ _ _ _ => rfl
  go_enter Try.func68, Try.ntmps68
  go_wp2
  go_ret
  exact ⟨rfl, rfl⟩

def fnG (b2 b3 : Nat) : Value := .func (.func 102) #[] #[.pointer (some ⟨b2, 0, none⟩), .pointer (some ⟨b3, 0, none⟩)]

theorem taker_kept {n : Int} {ob : Nat} {w : World} (ho : w.heap[ob]? = some (.cells #[.slice none 0 0] 31 (0, 0))) :
    Kept n ob w.heap.size (w.heap.size + 1) ((w.alloc (.cells #[.pointer (some ⟨ob, 0, none⟩)] 68)).alloc (.cells #[.int .i64 n] 3)).heap.size ((w.alloc (.cells #[.pointer (some ⟨ob, 0, none⟩)] 68)).alloc (.cells #[.int .i64 n] 3)) [] := by
  have hol := heap_lt ho
  refine ⟨⟨_, ?_, OwnE.nil _ _ _⟩, ?_, ?_, by simp only [World.size_alloc]; omega, by simp only [World.size_alloc]; omega, by simp only [World.size_alloc]; omega, by omega, by omega, Nat.le_refl _⟩
  · rw [ha_lt _ _ (by simp only [World.size_alloc]; omega), ha_lt _ _ hol]; exact ho
  · rw [ha_lt _ _ (by simp only [World.size_alloc]; omega)]; exact ha_at _ _ rfl
  · exact ha_at _ _ (by simp)
end Go.Proofs.Ytojplcbkiogcpaa

namespace Go.Proofs.Ytojplcbkiogcpaa
set_option linter.unusedSimpArgs false
set_option linter.unusedVariables false
open Go.RowKit

theorem pre_step {α : Type} {xs : List α} {ts : List (List α)} {i : Nat} {x : α} {t : List α} (hx : xs[i]? = some x) (ht : ts[i]? = some t) : pre (xs.take (i + 1)) (ts.take (i + 1)) = pre (xs.take i) (ts.take i) ++ (t ++ [x]) := by
  have hi := (List.getElem?_eq_some_iff.1 hx).1
  have hj := (List.getElem?_eq_some_iff.1 ht).1
  rw [List.take_add_one, List.take_add_one, hx, ht]
  have h : (xs.take i).length = (ts.take i).length := by simp; omega
  have := pre_app (xs.take i) [x] (ts.take i) [t] h
  simpa [pre] using this

theorem inter_end {α : Type} {xs : List α} {ts : List (List α)} {t : List α} (h : ts.length = xs.length + 1) (ht : ts[xs.length]? = some t) : inter xs ts = pre (xs.take xs.length) (ts.take xs.length) ++ t := by
  rw [inter_split xs.length xs ts t h ht, List.drop_of_length_le (Nat.le_refl _)]
  simp [post]

/-- A piece of the list ahead of the i-th child, and up to it. -/
theorem pre_len {α : Type} {xs : List α} {ts : List (List α)} (h : ts.length = xs.length + 1) {i : Nat} {t : List α} (ht : ts[i]? = some t) : (pre (xs.take i) (ts.take i)).length + t.length ≤ (inter xs ts).length := by
  rw [inter_split i xs ts t h ht]
  simp only [List.length_append]; omega

def ItSpec (ord : List Int) (h : Nat) : Prop := ∀ (k : Kc ord) (mn mx : Nat) (w : World) (F : Nat → Prop) (H : Nat → Option (NodeR (It ord))) (T : BT (It ord) h) (t : Nat) (pa : Addr) (mt : Bool) (v : Value) (acc : List (It ord)) (base : Nat),
  Fam (parM k) w F H → IsT H h T → Sh mn mx h T → 1 ≤ (its T).length → 1 ≤ mn → OwnE itemE w v acc base → base ≤ w.heap.size → (∀ b, F b → b < base) → t < base →
  w.cell? ⟨t, 0, none⟩ = some (.int .u64 k.iso) → w.cell? pa = some (.pointer (some ⟨rid T, 0, none⟩)) → acc.length + (toL h T).length ≤ 1000000000000 →
  Calls Try.prog 113 #[.pointer (some ⟨t, 0, none⟩), .pointer (some pa), v, .bool mt] w fun e w' => ∃ v', e = .returned v' ∧ OwnE itemE w' v' (acc ++ toL h T) base ∧ Chg (fun b _ => base ≤ b) w w'

theorem flat_same {ord : List Int} {k : Kc ord} (xs : List (It ord)) : flat (parM k) xs = flat itemE.par xs := rfl

set_option maxRecDepth 100000 in
set_option maxHeartbeats 1000000 in
theorem items_leaf (ord : List Int) : ItSpec ord 0 := by
  intro k mn mx w F H T t pa mt v acc base hF hT hs hit hmn how hbase hFb htb c0 hpa hlen
  obtain ⟨i0, hi0, hz0, hz1, hz2⟩ := info_parts infoItem
  obtain ⟨l0, hn0⟩ := hF.node hT.root
  have nn := hn0.c0
  have n3 := hn0.c3n rfl
  have n2 : w.cell? ⟨rid T, 2, none⟩ = some (.slice (some ⟨l0.ib, l0.io, none⟩) T.2.length l0.ic) := hn0.c2
  have hrow := hn0.row
  have hlen' : acc.length + T.2.length ≤ 1000000000000 := hlen
  have hit' : 1 ≤ T.2.length := hit
  have HOW := Lib.hid how
  have HROW := Lib.hid hrow
  clear how hrow
  go_enter Try.func113, Try.ntmps113
  go_wp2_with fail
  refine (isoLoad_any t (rid T) k _ _ _ hpa nn c0).mono ?_
  rintro e w1 ⟨rfl, m, hw1⟩
  have hc1 : Chg (fun _ _ => False) w w1 := by rw [hw1]; exact (Chg.refl _ _).drewN _
  replace n3 := hc1.cell (fun h => h) n3
  replace n2 := hc1.cell (fun h => h) n2
  clear hw1
  go_wp2_with fail
  refine (leaf_any _ none _ n3).mono ?_
  rintro e w' ⟨rfl, rfl⟩
  have HOW2 := Lib.hid (HOW.out.keep hc1)
  go_wp2_with (refine wpList_append_E itemE (by rfl) _ _ _ (by rfl) i0 _ 16 Try.underlying31 hi0 hz0 hz1 hz2 rfl _ (by rfl) _ base HOW2.out (Nat.le_trans hbase hc1.size) ⟨l0.ib, l0.io, none⟩ T.2.length _ (by rfl) T.2 rfl (by omega) ?_ ?_ ?_ ?_)
  · intro j u hj
    rw [add_none]
    exact hc1.cell (fun h => h) (HROW.out.cell hj)
  · unfold maxLen; omega
  · omega
  intro v' w' h1 h2 _
  go_wp2
  go_ret
  exact ⟨_, rfl, h1, (hc1.mono (fun _ _ _ h => h.elim)).trans h2⟩

set_option maxRecDepth 100000 in
set_option maxHeartbeats 1000000 in
theorem items_branch {ord : List Int} {h : Nat} (ih : ItSpec ord h) : ItSpec ord (h + 1) := by
  intro k mn mx w F H T t pa mt v acc base hF hT hs hit hmn how hbase hFb htb c0 hpa hlen
  obtain ⟨i0, hi0, hz0, hz1, hz2⟩ := info_parts infoItem
  obtain ⟨l0, hn0⟩ := hF.node hT.root
  have nn := hn0.c0
  have hk : (recOf (h + 1) T).kids = some (T.2.2.map fun c => some (rid c)) := rfl
  have n3 := hn0.c3s hk
  have hkl : T.2.2.length = T.2.1.length + 1 := hs.2.1
  have hml : (T.2.2.map (toL h)).length = T.2.1.length + 1 := by simpa using hkl
  have hlen' : acc.length + (inter T.2.1 (T.2.2.map (toL h))).length ≤ 1000000000000 := hlen
  have HLEN := Lib.hid hlen'
  have HOW := Lib.hid how
  have HKL := Lib.hid hkl
  have HML := Lib.hid hml
  have hitn : T.2.1.length ≤ (inter T.2.1 (T.2.2.map (toL h))).length := (its_sub hs).length_le
  have hitl : T.2.1.length ≤ 1000000000000 := by omega
  clear how hkl hlen' hml hlen hitn
  go_enter Try.func113, Try.ntmps113
  go_wp2_with fail
  refine (isoLoad_any t (rid T) k _ _ _ hpa nn c0).mono ?_
  rintro e w1 ⟨rfl, m, hw1⟩
  have hc1 : Chg (fun b _ => base ≤ b) w w1 := by rw [hw1]; exact (Chg.refl _ _).drewN _
  have hcf : Chg (fun _ _ => False) w w1 := by rw [hw1]; exact (Chg.refl _ _).drewN _
  replace n3 := hcf.cell (fun h => h) n3
  have HOW1 := Lib.hid (HOW.out.keep hcf)
  clear hw1 hcf
  go_wp2_with fail
  refine (leaf_any _ (some ⟨l0.cc, 0, none⟩) _ n3).mono ?_
  rintro e w' ⟨rfl, rfl⟩
  clear n3
  go_wp2_with fail
  go_loopw [2, 10] (fun v i wr => ∃ (j : Nat), j ≤ T.2.1.length ∧ i = .int .i64 j ∧ OwnE itemE wr v (acc ++ pre (T.2.1.take j) ((T.2.2.map (toL h)).take j)) base ∧ Chg (fun b _ => base ≤ b) w wr) (fun _ i _ => T.2.1.length - (intOf i).toNat)
  case atStart => exact ⟨0, Nat.zero_le _, rfl, by simpa [pre] using HOW1.out, hc1⟩
  case round =>
    obtain ⟨j, hj, rfl, how, hc⟩ := hrel
    have hsz := hc.size
    have hFr := hF.chg hc (fun b o hb h => by have := hFb b hb; omega)
    obtain ⟨l, hn, hblk⟩ := hFr.nodeB hT.root
    have hrb : ¬ base ≤ rid T := by have := hFb _ (hblk _ (.inl rfl)); omega
    have hcb : ¬ base ≤ l.cc := by have := hFb _ (hblk _ (.inr (.inr ⟨by rw [hk]; simp, .inl rfl⟩))); omega
    have n2 : wr.cell? ⟨rid T, 2, none⟩ = some (.slice (some ⟨l.ib, l.io, none⟩) T.2.1.length l.ic) := hn.c2
    have n3 := hn.c3s hk
    have nc := hn.cc hk
    rw [List.length_map] at nc
    obtain ⟨c, hcj⟩ : ∃ c, T.2.2[j]? = some c := ⟨_, List.getElem?_eq_getElem (by have := HKL.out; omega)⟩
    have kc : wr.cell? ⟨l.cb, l.co + j, none⟩ = some (.pointer (some ⟨rid c, 0, none⟩)) := hn.kidc hk (j := j) (o := some (rid c)) (by simp [hcj])
    have hcm : c ∈ T.2.2 := List.mem_of_getElem? hcj
    have hkc := (List.getElem?_eq_some_iff.1 hcj).1
    have htj : (T.2.2.map (toL h))[j]? = some (toL h c) := by simp [hcj]
    have hpl := pre_len HML.out htj
    have hpl2 := HLEN.out
    have i0' : (0 : Int) ≤ (j : Int) := by omega
    have k1 : (j : Int) < (T.2.2.length : Int) := by omega
    have hih := fun (w1 : World) (pa1 : Addr) (v1 : Value) (acc1 : List (It ord)) (hc1 : Chg (fun b _ => base ≤ b) w w1) (h1 : OwnE itemE w1 v1 acc1 base) (hp1 : w1.cell? pa1 = some (.pointer (some ⟨rid c, 0, none⟩))) (h2 : acc1.length + (toL h c).length ≤ 1000000000000) =>
      ih k mn mx w1 F H c t pa1 mt v1 acc1 base (hF.chg hc1 (fun b o hb h => by have := hFb b hb; omega)) (hT.kid hcm) (hs.2.2 c hcm).2 (Nat.le_trans hmn (hs.2.2 c hcm).1) hmn h1 (Nat.le_trans hbase hc1.size) hFb htb (hc1.cell (fun h => by have h2 : base ≤ t := h; omega) c0) hp1 h2
    have HIH := Lib.hid hih
    clear hih
    have hml1 : (acc ++ pre (T.2.1.take j) ((T.2.2.map (toL h)).take j)).length + (toL h c).length ≤ 1000000000000 := by
      rw [List.length_append]; omega
    have HL1 := Lib.hid hml1
    clear hml1
    by_cases hlt : j < T.2.1.length
    · obtain ⟨x, hx⟩ : ∃ x, T.2.1[j]? = some x := ⟨_, List.getElem?_eq_getElem hlt⟩
      have hstep := pre_step hx htj
      have ht : acc ++ pre (T.2.1.take (j + 1)) ((T.2.2.map (toL h)).take (j + 1)) = acc ++ pre (T.2.1.take j) ((T.2.2.map (toL h)).take j) ++ toL h c ++ [x] := by
        rw [hstep]; simp
      have HT := Lib.hid ht
      have HX := Lib.hid hx
      have HOW2 := Lib.hid how
      clear hx ht hstep how htj hcj hpl hpl2
      have i1 : (j : Int) < (T.2.1.length : Int) := by omega
      go_wp2_with fail
      refine (HIH.out _ _ _ _ hc HOW2.out kc HL1.out).mono ?_
      rintro e w2 ⟨v2, rfl, how2, hc2⟩
      have hc02 := hc.trans hc2
      obtain ⟨l2, hn2⟩ := (hF.chg hc02 (fun b o hb h => by have := hFb b hb; omega)).node hT.root
      have n2' : w2.cell? ⟨rid T, 2, none⟩ = some (.slice (some ⟨l2.ib, l2.io, none⟩) T.2.1.length l2.ic) := hn2.c2
      have iv := hn2.mval (j := j) HX.out
      have ik := hn2.mkey (j := j) HX.out
      have hca : Chg (fun _ _ => False) w2 (w2.alloc (.cells #[.int .i64 x.1, .int .i64 x.2] 26)) := (Chg.refl _ _).alloc _
      have HOW3 := Lib.hid (how2.keep hca)
      clear how2
      have hsz2 := hc02.size
      have hll : (acc ++ pre (T.2.1.take j) ((T.2.2.map (toL h)).take j) ++ toL h c).length ≤ 1000000000000 := by
        have := HL1.out
        rw [List.length_append]; exact this
      have HLL := Lib.hid hll
      clear hll n2 n3 nc kc
      go_wp2_with (refine wpList_append_E itemE (by rfl) _ _ _ (by rfl) i0 _ 16 Try.underlying31 hi0 hz0 hz1 hz2 rfl _ (by rfl) _ base HOW3.out (Nat.le_trans hbase (Nat.le_trans hsz2 hca.size)) ⟨w2.heap.size, 0, none⟩ 1 _ (by rfl) [x] rfl (by decide) ?_ ?_ ?_ ?_)
      · exact El.src1 itemE (c := #[.int .i64 x.1, .int .i64 x.2]) (ha_at _ _ (by simp)) _ rfl
      · have := HLL.out; unfold maxLen; omega
      · have := HLL.out; omega
      intro v' w' h1 h2 _
      have hc3 : Chg (fun b _ => base ≤ b) w w' := (hc02.trans (hca.mono (fun _ _ _ h => h.elim))).trans h2
      go_wp2
      go_roundw
      case rel => exact ⟨j + 1, by omega, by go_num, by rw [HT.out]; simpa only [List.append_assoc] using h1, hc3⟩
      case measure => simp [intOf]; omega
    · obtain rfl : j = T.2.1.length := by omega
      have hend := inter_end HML.out htj
      have ht : acc ++ toL (h + 1) T = acc ++ pre (T.2.1.take T.2.1.length) ((T.2.2.map (toL h)).take T.2.1.length) ++ toL h c := by
        show acc ++ inter T.2.1 (T.2.2.map (toL h)) = _
        rw [hend]; simp
      have HT := Lib.hid ht
      have HOW2 := Lib.hid how
      have hkk := HKL.out
      have kc' : wr.cell? ⟨l.cb, l.co + (T.2.2.length - 1), none⟩ = some (.pointer (some ⟨rid c, 0, none⟩)) := by
        have e : T.2.2.length - 1 = T.2.1.length := by omega
        rw [e]; exact kc
      have i4 : (1 : Int) ≤ (T.2.2.length : Int) := by omega
      have i0 : (0 : Int) ≤ (T.2.2.length : Int) - 1 := by omega
      have i1 : (T.2.2.length : Int) - 1 < (T.2.2.length : Int) := by omega
      have i2 : ((T.2.2.length : Int) - 1).toNat = T.2.2.length - 1 := by omega
      have i3 : IntKind.i64.wrap ((T.2.2.length : Int) - 1) = (T.2.2.length : Int) - 1 := IntWalk.i64_in _ (by omega)
      clear ht hend how htj hcj hpl hpl2 hkk hkc kc k1
      go_wp2_with fail
      refine wp_region_scr (fun w' => w'.cell? ⟨rid T, 3, none⟩ = some (.pointer (some ⟨l.cc, 0, none⟩)) ∧ w'.cell? ⟨l.cc, 0, none⟩ = some (.slice (some ⟨l.cb, l.co, none⟩) T.2.2.length l.ck)) (.soft 0 (.soft 1 (.soft 2 (.soft 3 (.soft 4 (.soft 5 (.soft 6 (.soft 7 (.soft 8 (.soft 9 (.soft 10 (.soft 11 (.soft 12 (.soft 13 (.soft 14 (.soft 15 (.soft 16 (.soft 17 (.hard 18 (.soft 19 .nil)))))))))))))))))))) (by kernel_rfl) (by kernel_rfl) (fun _ _ _ _ _ h => h) ⟨n3, nc⟩ ?_
      repeat
        first
        | (refine scr_soft (by rfl) ?_ ?_ ?_ ?_
           rotate_left
           · simp [Region.wanted, yielded]; done
           · intro w' hS
             try obtain ⟨a1, a2⟩ := hS
             go_simp
             try with_reducible rfl
           simp only [Act.put, List.setIfInBounds_toArray, List.set_cons_zero, List.set_cons_succ])
        | (refine scr_skip (by rfl) ?_ ?_
           · simp [Region.wanted, yielded]; done
           simp only [Act.put, List.setIfInBounds_toArray, List.set_cons_zero, List.set_cons_succ])
      refine scr_hard (by rfl) (by simp [Region.wanted, yielded]) (fun K hK => ?_)
      go_simp
      refine (HIH.out wr.drew _ _ _ hc.drew (HOW2.out.keep (Chg.refl _ _).drew) kc' HL1.out).mono ?_
      rintro e w2 ⟨v2, rfl, how2, hc2⟩
      refine hK _ _ ⟨hc2.cell hrb n3, hc2.cell hcb nc⟩ ?_
      clear hK K
      repeat
        first
        | (refine scr_soft (by rfl) ?_ ?_ ?_ ?_
           rotate_left
           · simp [Region.wanted, yielded]; done
           · intro w' hS
             try obtain ⟨a1, a2⟩ := hS
             go_simp
             try with_reducible rfl
           simp only [Act.put, List.setIfInBounds_toArray, List.set_cons_zero, List.set_cons_succ])
        | (refine scr_skip (by rfl) ?_ ?_
           · simp [Region.wanted, yielded]; done
           simp only [Act.put, List.setIfInBounds_toArray, List.set_cons_zero, List.set_cons_succ])
      refine scr_nil ?_
      go_wp2
      go_ret
      exact ⟨v2, rfl, by rw [HT.out]; simpa only [List.append_assoc] using how2, hc.drew.trans hc2⟩

theorem items_all (ord : List Int) : (h : Nat) → ItSpec ord h
  | 0 => items_leaf ord
  | h + 1 => items_branch (items_all ord h)
end Go.Proofs.Ytojplcbkiogcpaa

namespace Go.Proofs.Ytojplcbkiogcpaa
set_option linter.unusedSimpArgs false
set_option linter.unusedVariables false
open Go.RowKit

theorem runL_cons {α : Type} {cont : List α → Bool} {acc : List α} {x : α} {l : List α} (h : cont (acc ++ [x]) = true) : runL cont acc (x :: l) = runL cont (acc ++ [x]) l := by rw [runL, if_pos h]
theorem runL_stop {α : Type} {cont : List α → Bool} {acc : List α} {x : α} {l : List α} (h : cont (acc ++ [x]) = false) : runL cont acc (x :: l) = (acc ++ [x], false) := by rw [runL, if_neg (by rw [h]; simp)]
theorem runL_app_true {α : Type} {cont : List α → Bool} {acc : List α} {l1 l2 : List α} (h : (runL cont acc l1).2 = true) : runL cont acc (l1 ++ l2) = runL cont (runL cont acc l1).1 l2 := by rw [runL_append, if_pos h]
theorem runL_app_false {α : Type} {cont : List α → Bool} {acc : List α} {l1 l2 : List α} (h : (runL cont acc l1).2 = false) : runL cont acc (l1 ++ l2) = runL cont acc l1 := by rw [runL_append, if_neg (by rw [h]; simp)]


/-- What a walk over items with the keeping function leaves. -/
def RunPost (n : Int) (ob b2 b3 rb : Nat) (acc l : List (Int × Int)) (w : World) (e : Ending) (w' : World) : Prop :=
  e = .returned (.bool (runL (contN n) acc l).2) ∧ Kept n ob b2 b3 rb w' (runL (contN n) acc l).1 ∧ Chg (fun b _ => TakeB ob rb b) w w'

def RevSpec (ord : List Int) (h : Nat) : Prop := ∀ (k0 : Kc ord) (mn mx : Nat) (w : World) (F : Nat → Prop) (H : Nat → Option (NodeR (It ord))) (T : BT (It ord) h) (t : Nat) (pa : Addr) (mt : Bool) (n : Int) (ob b2 b3 rb : Nat) (acc : List (It ord)),
  Fam (parM k0) w F H → IsT H h T → Sh mn mx h T → w.cell? pa = some (.pointer (some ⟨rid T, 0, none⟩)) → w.cell? ⟨t, 0, none⟩ = some (.int .u64 k0.iso) → Kept n ob b2 b3 rb w acc → (∀ b, F b → ¬ TakeB ob rb b) → ¬ TakeB ob rb t → acc.length + (toL h T).length ≤ 1000000000000 →
  Calls Try.prog 126 #[.pointer (some ⟨t, 0, none⟩), .pointer (some pa), fnG b2 b3, .bool mt] w (RunPost n ob b2 b3 rb acc (toL h T).reverse w)


set_option maxRecDepth 100000 in
set_option maxHeartbeats 1000000 in
theorem rev_leaf (ord : List Int) : RevSpec ord 0 := by
  intro k0 mn mx w F H T t pa mt n ob b2 b3 rb acc hF hT hs hpa ht0 hK hFb htb hlen
  obtain ⟨l0, hn0⟩ := hF.node hT.root
  have n0 := hn0.c0
  have hlen' : acc.length + T.2.length ≤ 1000000000000 := hlen
  have HK := Lib.hid hK
  clear hK hlen
  unfold fnG
  go_enter Try.func126, Try.ntmps126
  go_wp2_with fail
  refine (isoLoad_any t (rid T) k0 pa mt _ hpa n0 ht0).mono ?_
  rintro e w1 ⟨rfl, m1, hw1⟩
  have hc1 : Chg (fun _ _ => False) w w1 := by rw [hw1]; exact (Chg.refl _ _).drewN _
  clear hw1 n0 hpa ht0
  have n3 := hc1.cell (fun h => h) (hn0.c3n rfl)
  have n2 : w1.cell? ⟨rid T, 2, none⟩ = some (.slice (some ⟨l0.ib, l0.io, none⟩) T.2.length l0.ic) := hc1.cell (fun h => h) hn0.c2
  go_wp2_with (go_at_call 97; refine (leaf_any _ none _ ?_).mono ?_; (focus go_simp); rintro e w' ⟨rfl, rfl⟩)
  go_loopw [10] (fun i wr => ∃ (k : Nat) (z : Int) (acc' : List (Int × Int)), i = .int .i64 z ∧ z = (k : Int) - 1 ∧ k ≤ T.2.length ∧ Kept n ob b2 b3 rb wr acc' ∧ runL (contN n) acc T.2.reverse = runL (contN n) acc' (T.2.take k).reverse ∧ acc'.length + k = acc.length + T.2.length ∧ Chg (fun b _ => TakeB ob rb b) w wr) (fun i _ => (intOf i + 1).toNat)
  case atStart => exact ⟨T.2.length, _, acc, rfl, rfl, Nat.le_refl _, HK.out.keep hc1, by rw [List.take_length], rfl, hc1.mono (fun _ _ _ h => h.elim)⟩
  case round =>
    obtain ⟨k, z, acc', rfl, hz, hk, hkp, hrun, hal, hc⟩ := hrel
    clear n2 n3
    rcases k with _ | k
    · have hz0 : ¬ (0 : Int) ≤ z := by omega
      clear hz
      have HR := Lib.hid hrun
      have HKP := Lib.hid hkp
      clear hrun hkp
      go_wp2
      go_ret
      unfold RunPost
      show _ = Ending.returned (.bool (runL (contN n) acc T.2.reverse).2) ∧ Kept n ob b2 b3 rb wr (runL (contN n) acc T.2.reverse).1 ∧ _
      rw [HR.out]
      exact ⟨rfl, HKP.out, hc⟩
    · obtain rfl : z = (k : Int) := by omega
      obtain ⟨x, hx⟩ : ∃ x, T.2[k]? = some x := ⟨_, List.getElem?_eq_getElem (by omega)⟩
      obtain ⟨l, hn⟩ := (hF.chg hc (fun b o hb h => hFb b hb h)).node hT.root
      have n2 : wr.cell? ⟨rid T, 2, none⟩ = some (.slice (some ⟨l.ib, l.io, none⟩) T.2.length l.ic) := hn.c2
      have ik := hn.mkey (j := k) hx
      have iv := hn.mval (j := k) hx
      have htk : (T.2.take (k + 1)).reverse = x :: (T.2.take k).reverse := by rw [List.take_add_one, hx]; simp
      rw [htk] at hrun
      have hp := fun w1 (h : Kept n ob b2 b3 rb w1 acc') => taker1_any x h (by omega)
      have HR := Lib.hid hrun
      have HKP := Lib.hid hkp
      have i0 : (0 : Int) ≤ (k : Int) := by omega
      have i1 : (k : Int) < (T.2.length : Int) := by omega
      clear hrun hkp htk hx hz
      cases hb : contN n (acc' ++ [x])
      all_goals
        rw [hb] at hp
        have HP := Lib.hid hp
        have HB := Lib.hid hb
        clear hp hb
        go_wp2_with fail
        refine (HP.out _ HKP.out).mono ?_
        rintro e w2 ⟨rfl, hk2, hc2⟩
        have hc02 := hc.trans hc2
      · go_wp2
        go_ret
        unfold RunPost
        show _ = Ending.returned (.bool (runL (contN n) acc T.2.reverse).2) ∧ Kept n ob b2 b3 rb w2 (runL (contN n) acc T.2.reverse).1 ∧ _
        rw [HR.out, runL_stop HB.out]
        exact ⟨rfl, hk2, hc02⟩
      · go_wp2
        go_roundw
        case rel => exact ⟨k, (k : Int) - 1, acc' ++ [x], by go_num, rfl, by omega, hk2, by rw [HR.out, runL_cons HB.out], by simp; omega, hc02⟩
        case measure => simp [intOf]

theorem pre_rev {α : Type} {xs : List α} {ts : List (List α)} {i : Nat} {x : α} {t : List α} (hx : xs[i]? = some x) (ht : ts[i]? = some t) : (pre (xs.take (i + 1)) (ts.take (i + 1))).reverse = x :: (t.reverse ++ (pre (xs.take i) (ts.take i)).reverse) := by
  rw [pre_step hx ht]; simp

theorem pre_take_len {α : Type} {xs : List α} {ts : List (List α)} (h : ts.length = xs.length + 1) {i : Nat} {t : List α} (ht : ts[i]? = some t) (hi : i < xs.length) : (pre (xs.take (i + 1)) (ts.take (i + 1))).length = (pre (xs.take i) (ts.take i)).length + t.length + 1 := by
  rw [pre_step (List.getElem?_eq_getElem hi) ht]; simp; omega

set_option maxRecDepth 100000 in
set_option maxHeartbeats 2000000 in
theorem rev_branch {ord : List Int} {h : Nat} (ih : RevSpec ord h) : RevSpec ord (h + 1) := by
  intro k0 mn mx w F H T t pa mt n ob b2 b3 rb acc hF hT hs hpa ht0 hK hFb htb hlen
  obtain ⟨l0, hn0, hblk⟩ := hF.nodeB hT.root
  have n0 := hn0.c0
  have hk : (recOf (h + 1) T).kids = some (T.2.2.map fun c => some (rid c)) := rfl
  have hrb : ¬ TakeB ob rb (rid T) := hFb _ (hblk _ (.inl rfl))
  have hcb : ¬ TakeB ob rb l0.cc := hFb _ (hblk _ (.inr (.inr ⟨by rw [hk]; simp, .inl rfl⟩)))
  have hkl : T.2.2.length = T.2.1.length + 1 := hs.2.1
  have hml : (T.2.2.map (toL h)).length = T.2.1.length + 1 := by simpa using hkl
  have hlen' : acc.length + (inter T.2.1 (T.2.2.map (toL h))).length ≤ 1000000000000 := hlen
  have hits : T.2.1.length ≤ 1000000000000 := by have := (its_sub hs).length_le; have h2 : (its T).length = T.2.1.length := rfl; omega
  have HKL := Lib.hid hkl
  have HML := Lib.hid hml
  have HLEN := Lib.hid hlen'
  have HK := Lib.hid hK
  have HT0 := Lib.hid ht0
  have hih := fun (c : BT (It ord) h) (hcm : c ∈ T.2.2) (w1 : World) (pa1 : Addr) (acc1 : List (Int × Int)) (hc1 : Chg (fun b _ => TakeB ob rb b) w w1) (hp1 : w1.cell? pa1 = some (.pointer (some ⟨rid c, 0, none⟩))) (h1 : Kept n ob b2 b3 rb w1 acc1) (h2 : acc1.length + (toL h c).length ≤ 1000000000000) =>
    ih k0 mn mx w1 F H c t pa1 mt n ob b2 b3 rb acc1 (hF.chg hc1 (fun b o hb h => hFb b hb h)) (hT.kid hcm) (hs.2.2 c hcm).2 hp1 (hc1.cell (a := ⟨t, 0, none⟩) (fun h => htb h) HT0.out) h1 hFb htb h2
  unfold fnG at hih
  have HIH := Lib.hid hih
  obtain ⟨cl, hcl⟩ : ∃ c, T.2.2[T.2.1.length]? = some c := ⟨_, List.getElem?_eq_getElem (by omega)⟩
  have hclm : cl ∈ T.2.2 := List.mem_of_getElem? hcl
  have htl : (T.2.2.map (toL h))[T.2.1.length]? = some (toL h cl) := by simp [hcl]
  have hend := inter_end hml htl
  have hall : (toL (h + 1) T).reverse = (toL h cl).reverse ++ (pre (T.2.1.take T.2.1.length) ((T.2.2.map (toL h)).take T.2.1.length)).reverse := by
    show (inter T.2.1 (T.2.2.map (toL h))).reverse = _
    rw [hend]; simp
  have hleq : (inter T.2.1 (T.2.2.map (toL h))).length = (pre (T.2.1.take T.2.1.length) ((T.2.2.map (toL h)).take T.2.1.length)).length + (toL h cl).length := by rw [hend]; simp
  have HALL := Lib.hid hall
  have HCL := Lib.hid hcl
  have HLEQ := Lib.hid hleq
  clear hK hlen hkl hml hlen' hih hall hcl htl hend hleq
  unfold fnG
  go_enter Try.func126, Try.ntmps126
  go_wp2_with fail
  refine (isoLoad_any t (rid T) k0 pa mt _ hpa n0 ht0).mono ?_
  rintro e w1 ⟨rfl, m1, hw1⟩
  have hc1 : Chg (fun _ _ => False) w w1 := by rw [hw1]; exact (Chg.refl _ _).drewN _
  clear hw1 n0 hpa ht0
  have hn1 := hn0.chg hc1 (fun _ _ _ h => h)
  have n3 := hn1.c3s hk
  have nc := hn1.cc hk
  rw [List.length_map] at nc
  have kc : w1.cell? ⟨l0.cb, l0.co + T.2.1.length, none⟩ = some (.pointer (some ⟨rid cl, 0, none⟩)) := hn1.kidc hk (j := T.2.1.length) (o := some (rid cl)) (by simp [HCL.out])
  have s1 : IntKind.i64.wrap (T.2.1.length : Int) = (T.2.1.length : Int) := IntWalk.i64_in _ (by omega)
  have s2 : ((T.2.2.length : Int) - 1) = (T.2.1.length : Int) := by have := HKL.out; omega
  have k1 : ((T.2.1.length : Nat) : Int) < (T.2.2.length : Int) := by have := HKL.out; omega
  have HKC := Lib.hid kc
  clear kc
  go_wp2_with (go_at_call 97; refine (leaf_any _ (some ⟨l0.cc, 0, none⟩) _ ?_).mono ?_; (focus go_simp); rintro e w' ⟨rfl, rfl⟩)
  refine name_world (fun w2 => Chg (fun _ _ => False) w1 w2) (Chg.refl _ _) ?_
  rintro w2 hc2
  replace n3 := hc2.cell (fun h => h) n3
  replace nc := hc2.cell (fun h => h) nc
  have hcc := hc1.trans hc2
  cases hb : (runL (contN n) acc (toL h cl).reverse).2
  all_goals
    have hlast := HIH.out cl hclm w2.drew ⟨l0.cb, l0.co + T.2.1.length, none⟩ acc (hcc.drew.mono (fun _ _ _ h => h.elim)) (hc2.drew.cell (fun h => h) HKC.out) (HK.out.keep hcc.drew) (by have := HLEN.out; have := HLEQ.out; omega)
    unfold RunPost at hlast
    rw [hb] at hlast
    have HLAST := Lib.hid hlast
    have HB := Lib.hid hb
    clear hlast hb
    refine wp_region_scr (fun w' => w'.cell? ⟨rid T, 3, none⟩ = some (.pointer (some ⟨l0.cc, 0, none⟩)) ∧ w'.cell? ⟨l0.cc, 0, none⟩ = some (.slice (some ⟨l0.cb, l0.co, none⟩) T.2.2.length l0.ck)) (.soft 0 (.soft 1 (.soft 2 (.soft 3 (.soft 4 (.soft 5 (.soft 6 (.soft 7 (.soft 8 (.soft 9 (.soft 10 (.soft 11 (.soft 12 (.soft 13 (.soft 14 (.soft 15 (.soft 16 (.soft 17 (.hard 18 (.soft 19 .nil)))))))))))))))))))) (by kernel_rfl) (by kernel_rfl) (fun _ _ _ _ _ h => h) ⟨n3, nc⟩ ?_
    repeat
      first
      | (refine scr_soft (by rfl) ?_ ?_ ?_ ?_
         rotate_left
         · simp [Region.wanted, yielded]; done
         · intro w' hS
           try obtain ⟨a1, a2⟩ := hS
           go_simp
           try with_reducible rfl
         simp only [Act.put, List.setIfInBounds_toArray, List.set_cons_zero, List.set_cons_succ])
      | (refine scr_skip (by rfl) ?_ ?_
         · simp [Region.wanted, yielded]; done
         simp only [Act.put, List.setIfInBounds_toArray, List.set_cons_zero, List.set_cons_succ])
    refine scr_hard (by rfl) (by simp [Region.wanted, yielded]) (fun K hK => ?_)
    go_simp
    refine HLAST.out.mono ?_
    rintro e w3 ⟨rfl, hk3, hc3⟩
    refine hK _ _ ⟨hc3.cell hrb n3, hc3.cell hcb nc⟩ ?_
    clear hK K
    repeat
      first
      | (refine scr_soft (by rfl) ?_ ?_ ?_ ?_
         rotate_left
         · simp [Region.wanted, yielded]; done
         · intro w' hS
           try obtain ⟨a1, a2⟩ := hS
           go_simp
           try with_reducible rfl
         simp only [Act.put, List.setIfInBounds_toArray, List.set_cons_zero, List.set_cons_succ])
      | (refine scr_skip (by rfl) ?_ ?_
         · simp [Region.wanted, yielded]; done
         simp only [Act.put, List.setIfInBounds_toArray, List.set_cons_zero, List.set_cons_succ])
    refine scr_nil ?_
    have hc03 := (hcc.drew.mono (B := fun b _ => TakeB ob rb b) (fun _ _ _ h => h.elim)).trans hc3
    have HK3 := Lib.hid hk3
    clear hk3
  · go_wp2
    go_ret
    unfold RunPost
    show _ = Ending.returned (.bool (runL (contN n) acc (toL (h + 1) T).reverse).2) ∧ Kept n ob b2 b3 rb w3 (runL (contN n) acc (toL (h + 1) T).reverse).1 ∧ _
    rw [HALL.out, runL_app_false HB.out, HB.out]
    exact ⟨rfl, HK3.out, hc03⟩
  · have hn3 := (hF.chg hc03 (fun b o hb h => hFb b hb h)).node hT.root
    obtain ⟨l3, hn3⟩ := hn3
    have n2 : w3.cell? ⟨rid T, 2, none⟩ = some (.slice (some ⟨l3.ib, l3.io, none⟩) T.2.1.length l3.ic) := hn3.c2
    have hrt := runL_true _ _ _ HB.out
    have HRT := Lib.hid hrt
    clear n3 nc hrt
    go_wp2
    go_loopw [11] (fun i wr => ∃ (k : Nat) (z : Int) (acc' : List (Int × Int)), i = .int .i64 z ∧ z = (k : Int) - 1 ∧ k ≤ T.2.1.length ∧ Kept n ob b2 b3 rb wr acc' ∧ runL (contN n) acc (toL (h + 1) T).reverse = runL (contN n) acc' (pre (T.2.1.take k) ((T.2.2.map (toL h)).take k)).reverse ∧ acc'.length + (pre (T.2.1.take k) ((T.2.2.map (toL h)).take k)).length ≤ 1000000000000 ∧ Chg (fun b _ => TakeB ob rb b) w wr) (fun i _ => (intOf i + 1).toNat)
    case atStart => exact ⟨T.2.1.length, _, _, rfl, rfl, Nat.le_refl _, HK3.out, by rw [HALL.out, runL_app_true HB.out], by rw [HRT.out]; have := HLEN.out; have := HLEQ.out; simp only [List.length_append, List.length_reverse]; omega, hc03⟩
    case round =>
      obtain ⟨k, z, acc', rfl, hz, hkk, hkp, hrun, hal, hc⟩ := hrel
      clear n2
      rcases k with _ | k
      · have hz0 : ¬ (0 : Int) ≤ z := by omega
        have HR := Lib.hid hrun
        have HKP := Lib.hid hkp
        clear hz hrun hkp
        go_wp2
        go_ret
        unfold RunPost
        show _ = Ending.returned (.bool (runL (contN n) acc (toL (h + 1) T).reverse).2) ∧ Kept n ob b2 b3 rb wr (runL (contN n) acc (toL (h + 1) T).reverse).1 ∧ _
        rw [HR.out]
        exact ⟨rfl, HKP.out, hc⟩
      · obtain rfl : z = (k : Int) := by omega
        obtain ⟨x, hx⟩ : ∃ x, T.2.1[k]? = some x := ⟨_, List.getElem?_eq_getElem (by omega)⟩
        obtain ⟨c, hcj⟩ : ∃ c, T.2.2[k]? = some c := ⟨_, List.getElem?_eq_getElem (by have := HKL.out; omega)⟩
        have hcm : c ∈ T.2.2 := List.mem_of_getElem? hcj
        have hkc := (List.getElem?_eq_some_iff.1 hcj).1
        have htj : (T.2.2.map (toL h))[k]? = some (toL h c) := by simp [hcj]
        obtain ⟨l, hn⟩ := (hF.chg hc (fun b o hb h => hFb b hb h)).node hT.root
        have n2 : wr.cell? ⟨rid T, 2, none⟩ = some (.slice (some ⟨l.ib, l.io, none⟩) T.2.1.length l.ic) := hn.c2
        have ik := hn.mkey (j := k) hx
        have iv := hn.mval (j := k) hx
        have hpr := pre_rev hx htj
        have hptl := pre_take_len HML.out htj (by omega)
        rw [hpr] at hrun
        have hp := fun w1 (h : Kept n ob b2 b3 rb w1 acc') => taker1_any x h (by omega)
        have HR := Lib.hid hrun
        have HKP := Lib.hid hkp
        have HCJ := Lib.hid hcj
        have HPTL := Lib.hid hptl
        have i0 : (0 : Int) ≤ (k : Int) := by omega
        have i1 : (k : Int) < (T.2.1.length : Int) := by omega
        have i2 : (k : Int) < (T.2.2.length : Int) := by omega
        clear hrun hkp hpr hx hz htj hcj hptl
        cases hb : contN n (acc' ++ [x])
        all_goals
          rw [hb] at hp
          have HP := Lib.hid hp
          have HB1 := Lib.hid hb
          clear hp hb
          go_wp2_with fail
          refine (HP.out _ HKP.out).mono ?_
          rintro e w4 ⟨rfl, hk4, hc4⟩
          have hc04 := hc.trans hc4
          have HK4 := Lib.hid hk4
          clear hk4
        · go_wp2
          go_ret
          unfold RunPost
          show _ = Ending.returned (.bool (runL (contN n) acc (toL (h + 1) T).reverse).2) ∧ Kept n ob b2 b3 rb w4 (runL (contN n) acc (toL (h + 1) T).reverse).1 ∧ _
          rw [HR.out, runL_stop HB1.out]
          exact ⟨rfl, HK4.out, hc04⟩
        · obtain ⟨l4, hn4⟩ := (hF.chg hc04 (fun b o hb h => hFb b hb h)).node hT.root
          have n3 := hn4.c3s hk
          have nc := hn4.cc hk
          rw [List.length_map] at nc
          have kc : w4.cell? ⟨l4.cb, l4.co + k, none⟩ = some (.pointer (some ⟨rid c, 0, none⟩)) := hn4.kidc hk (j := k) (o := some (rid c)) (by simp [HCJ.out])
          clear n2 ik iv
          cases hb2 : (runL (contN n) (acc' ++ [x]) (toL h c).reverse).2
          all_goals
            have hkid := HIH.out c hcm w4 ⟨l4.cb, l4.co + k, none⟩ (acc' ++ [x]) hc04 kc HK4.out (by have := HPTL.out; simp only [List.length_append, List.length_cons, List.length_nil]; omega)
            unfold RunPost at hkid
            rw [hb2] at hkid
            have HKID := Lib.hid hkid
            have HB2 := Lib.hid hb2
            clear hkid hb2
            go_wp2_with fail
            refine HKID.out.mono ?_
            rintro e w5 ⟨rfl, hk5, hc5⟩
            have hc05 := hc04.trans hc5
            have HK5 := Lib.hid hk5
            clear hk5
          · go_wp2
            go_ret
            unfold RunPost
            show _ = Ending.returned (.bool (runL (contN n) acc (toL (h + 1) T).reverse).2) ∧ Kept n ob b2 b3 rb w5 (runL (contN n) acc (toL (h + 1) T).reverse).1 ∧ _
            rw [HR.out, runL_cons HB1.out, runL_app_false HB2.out, HB2.out]
            exact ⟨rfl, HK5.out, hc05⟩
          · have hrt2 := runL_true _ _ _ HB2.out
            have HRT2 := Lib.hid hrt2
            clear hrt2
            go_wp2
            go_roundw
            case rel => exact ⟨k, (k : Int) - 1, _, by go_num, rfl, by omega, HK5.out, by rw [HR.out, runL_cons HB1.out, runL_app_true HB2.out], by rw [HRT2.out]; have := HPTL.out; simp only [List.length_append, List.length_reverse, List.length_cons, List.length_nil]; omega, hc05⟩
            case measure => simp [intOf]

theorem rev_all (ord : List Int) : (h : Nat) → RevSpec ord h
  | 0 => rev_leaf ord
  | h + 1 => rev_branch (rev_all ord h)
end Go.Proofs.Ytojplcbkiogcpaa

namespace Go.Proofs.Ytojplcbkiogcpaa
set_option linter.unusedSimpArgs false
set_option linter.unusedVariables false
open Go.RowKit

set_option maxRecDepth 100000 in
theorem find_any {ord : List Int} {k : Kc ord} {mn mx : Nat} {w : World} {n : Nat} {r : NodeR (It ord)} {l : Lay} (t : Nat) (x : It ord) (dp : Int) (hm : MapAt k mn mx w t) (h : NodeAt (parM k) w n r l) (hs : Srt ltM r.items) (hlen : r.items.length ≤ 1000000) :
    Calls Try.prog 123 #[.pointer (some ⟨t, 0, none⟩), .pointer (some ⟨n, 0, none⟩), aggM x, .pointer none, .int .i64 dp] w (SrchN r.items x w) := by
  have HS := Lib.hid (fun (w1 : World) (c : Chg (fun _ _ => False) w w1) => search_node t x (hm.chg c (fun _ _ _ h => h)) (h.chg c (fun _ _ _ h => h)) hs hlen)
  clear hm h hs
  unfold aggM at HS ⊢
  unfold SrchN at HS ⊢
  go_enter Try.func123, Try.ntmps123
  go_wp2_with fail
  refine (HS.out _ ((Chg.refl _ _).alloc _)).mono ?_
  rintro e w2 ⟨i, f, rfl, hc, hf⟩
  go_wp2_with fail
  go_ret2
  exact ⟨i, f, rfl, ((Chg.refl _ _).alloc _).trans hc, hf⟩

theorem fnd_kid {α : Type} {lt : α → α → Bool} (s : Swo lt) {h : Nat} {T : BT α (h + 1)} {mn mx i : Nat} {c : BT α h} {x : α} (hs : Sh mn mx (h + 1) T) (hc : T.2.2[i]? = some c) (hsrt : Srt lt (toL (h + 1) T)) (hp : PosAt lt T.2.1 x i) :
    fndL lt x (toL (h + 1) T) = fndL lt x (toL h c) := by
  obtain ⟨h1, h2⟩ := around s hs hc hsrt hp
  rw [toL_at hs hc]
  exact fndL_mid s h1 h2

theorem kid_lt {α : Type} {h : Nat} {T : BT α (h + 1)} {mn mx : Nat} {c : BT α h} (hs : Sh mn mx (h + 1) T) (hc : c ∈ T.2.2) (h1 : 1 ≤ T.2.1.length) : (toL h c).length < (toL (h + 1) T).length := by
  have e := inter_len T.2.1 (T.2.2.map (toL h)) (by simpa using hs.2.1)
  obtain ⟨A, B, hAB⟩ := List.append_of_mem hc
  have e2 : (toL (h + 1) T).length = T.2.1.length + ((T.2.2.map (toL h)).map (·.length)).sum := e
  rw [e2, hAB]
  simp only [List.map_append, List.map_cons, List.sum_append, List.sum_cons]
  omega

set_option maxRecDepth 100000 in
set_option maxHeartbeats 1000000 in
theorem getHint_any {ord : List Int} {k : Kc ord} {mn mx : Nat} {w : World} {F : Nat → Prop} {t : Nat} {l : List (It ord)} (mt : Bool) (x : It ord) (hM : MapIn k mn mx w F t l) (hmn : 1 ≤ mn) :
    Calls Try.prog 104 #[.pointer (some ⟨t, 0, none⟩), aggM x, .pointer none, .bool mt] w fun e w' => e = .returned (lastV (fndL ltM x l)) ∧ Chg (fun _ _ => False) w w' := by
  rcases hM with ⟨rfl, _, hB⟩ | ⟨H, h, T, hI, hB, rfl, h1⟩
  · have htl := hB.lt
    have HB := Lib.hid hB
    clear hB
    unfold aggM
    go_enter Try.func104, Try.ntmps104
    go_wp2_with fail
    refine name_calls (fun w1 => Chg (fun _ _ => False) w w1 ∧ w1.heap[w.heap.size]? = some (.cells #[.int .i64 x.1, .int .i64 x.2] 26 (0, 0)) ∧ w1.heap[w.heap.size + 1]? = some (.cells #[.int .i64 0, .int .i64 0] 26 (0, 0))) ⟨((Chg.refl _ _).alloc _).alloc _, ?_, ?_⟩ ?_
    · rw [ha_lt _ _ (by simp)]; exact ha_at _ _ rfl
    · exact ha_at _ _ (by simp)
    rintro w1 ⟨hc1, hbk, hbr⟩
    refine (lock_any t mt _).mono ?_
    rintro e w' ⟨rfl, rfl⟩
    have hm := HB.out.chg hc1 (fun _ _ _ h => h)
    have c2 : w1.cell? ⟨t, 2, none⟩ = some (.pointer none) := hm.c2
    obtain ⟨c7, c8⟩ := hm.empty
    have c0 := hm.at_.c0
    have hma := hm.at_
    clear hm hma
    have z0 := frozen_of_block hbr 0
    have z1 := frozen_of_block hbr 1
    have p0 := cell_of_block hbr 0
    have p1 := cell_of_block hbr 1
    simp only [List.getElem?_toArray, List.getElem?_cons_zero, List.getElem?_cons_succ] at p0 p1
    go_wp2_with fail
    refine name_prop (fun wl => Chg (fun b _ => b = w.heap.size + 1) w1 wl ∧ wl.heap[w.heap.size + 1]? = some (.cells #[.int .i64 0, .int .i64 0] 26 (0, 0))) ⟨?_, blk2 hbr _ _⟩ ?_
    · repeat (first | refine Chg.drew ?_ | refine Chg.drewN ?_ _ | refine Chg.setCell ?_ (.inl rfl) _ | exact Chg.refl _ _)
    clear p0 p1
    rintro wl ⟨hcl, hbl⟩
    have p0 := cell_of_block hbl 0
    have p1 := cell_of_block hbl 1
    simp only [List.getElem?_toArray, List.getElem?_cons_zero, List.getElem?_cons_succ] at p0 p1
    refine bodyPost_ret (v := .tuple #[.agg #[.int .i64 0, .int .i64 0], .bool false]) (by simp [results, Try.results104, go_sem, p0, p1]) rfl ?_
    exact ⟨rfl, hc1.trans' hcl (fun _ _ _ h => h) (fun b o hb e => by omega)⟩
  · have htl := hB.lt
    have HB := Lib.hid hB
    have HI := Lib.hid hI
    have hmx := hI.m1000
    generalize hfd : fndL ltM x (toL h T) = o
    have HFD := Lib.hid hfd
    clear hB hI hfd
    unfold aggM
    go_enter Try.func104, Try.ntmps104
    go_wp2_with fail
    refine name_calls (fun w1 => Chg (fun _ _ => False) w w1 ∧ w1.heap[w.heap.size]? = some (.cells #[.int .i64 x.1, .int .i64 x.2] 26 (0, 0)) ∧ w1.heap[w.heap.size + 1]? = some (.cells #[.int .i64 0, .int .i64 0] 26 (0, 0))) ⟨((Chg.refl _ _).alloc _).alloc _, ?_, ?_⟩ ?_
    · rw [ha_lt _ _ (by simp)]; exact ha_at _ _ rfl
    · exact ha_at _ _ (by simp)
    rintro w1 ⟨hc1, hbk, hbr⟩
    refine (lock_any t mt _).mono ?_
    rintro e w' ⟨rfl, rfl⟩
    have hm := HB.out.chg hc1 (fun _ _ _ h => h)
    have c2 : w1.cell? ⟨t, 2, none⟩ = some (.pointer (some ⟨rid T, 0, none⟩)) := hm.c2
    obtain ⟨c7, c8⟩ := hm.empty
    have c0 := hm.at_.c0
    have hma := hm.at_
    obtain ⟨l0, hn0⟩ := (HI.out.fam.chg hc1 (fun _ _ _ h => h)).node HI.out.isT.root
    have n0 := hn0.c0
    have HMA := Lib.hid hma
    clear hm hn0 hma
    go_wp2_with fail
    refine (isoLoad_any t (rid T) k _ _ _ c2 n0 c0).mono ?_
    rintro e w2 ⟨rfl, m, hw1⟩
    have hc2 : Chg (fun _ _ => False) w1 w2 := by rw [hw1]; exact (Chg.refl _ _).drewN _
    clear hw1
    go_wp2_with fail
    go_loopw [10, 11] (fun nv dv wr => ∃ h', ∃ T' : BT (It ord) h', ∃ dp : Int, nv = .pointer (some ⟨rid T', 0, none⟩) ∧ dv = .int .i64 dp ∧ IsT H h' T' ∧ Sh mn mx h' T' ∧ 1 ≤ (its T').length ∧ Srt ltM (toL h' T') ∧ fndL ltM x (toL h' T') = o ∧ Chg (fun _ _ => False) w1 wr) (fun nv _ _ => mOf H nv)
    case atStart => exact ⟨h, T, 0, rfl, rfl, HI.out.isT, HI.out.sh, h1, HI.out.srt, HFD.out, hc2⟩
    case round =>
      obtain ⟨h', T', dp, rfl, rfl, hT, hs, hit, hsrt, hfo, hc⟩ := hrel
      have hFr := (HI.out.fam.chg hc1 (fun _ _ _ h => h)).chg hc (fun _ _ _ h => h)
      obtain ⟨l2, hn2⟩ := hFr.node hT.root
      have hits := its_srt hs hsrt
      have hsl := hs.len
      have hse := find_any t x dp (HMA.out.chg hc (fun _ _ _ h => h)) hn2 (by rw [recOf_items]; exact hits) (by rw [recOf_items]; omega)
      rw [recOf_items] at hse
      unfold aggM at hse
      have HSE := Lib.hid hse
      have HFO := Lib.hid hfo
      have q0 := hc.cell (fun h => h) (cell_of_block hbk 0)
      have q1 := hc.cell (fun h => h) (cell_of_block hbk 1)
      have hbr2 : wr.heap[w.heap.size + 1]? = some (.cells #[.int .i64 0, .int .i64 0] 26 (0, 0)) := by rw [hc.block (heap_lt hbr) (fun _ h => h)]; exact hbr
      have HFR := Lib.hid hFr
      clear hse hfo hFr
      go_wp2_with fail
      refine HSE.out.mono ?_
      rintro e w3 ⟨i, f, rfl, hw3, hf⟩
      have hc3 : Chg (fun _ _ => False) wr w3 := hw3
      clear hw3 q0 q1
      have hc13 := hc.trans hc3
      have hn3 := hn2.chg hc3 (fun _ _ _ h => h)
      have cw0 := hc13.cell (fun h => h) c0
      have cw7 := hc13.cell (fun h => h) c7
      have cw8 := hc13.cell (fun h => h) c8
      have hbr3 : w3.heap[w.heap.size + 1]? = some (.cells #[.int .i64 0, .int .i64 0] 26 (0, 0)) := by rw [hc3.block (heap_lt hbr2) (fun _ h => h)]; exact hbr2
      have z0 := frozen_of_block hbr3 0
      have z1 := frozen_of_block hbr3 1
      have p0 := cell_of_block hbr3 0
      have p1 := cell_of_block hbr3 1
      simp only [List.getElem?_toArray, List.getElem?_cons_zero, List.getElem?_cons_succ] at p0 p1
      have HBR := Lib.hid hbr3
      clear hbr2 hbr3
      rcases hf with ⟨rfl, y, hy⟩ | ⟨rfl, hp⟩
      · have n2 := hn3.c2
        rw [recOf_items] at n2
        have hyi : (recOf h' T').items[i]? = some y := by rw [recOf_items]; exact hy.at_
        have hilt := (List.getElem?_eq_some_iff.1 hy.at_).1
        have iv := hn3.mval hyi
        have ik := hn3.mkey hyi
        have i0 : (0 : Int) ≤ (i : Int) := by omega
        have i1 : (i : Int) < ((its T').length : Int) := by omega
        have ho : o = some y := by rw [← HFO.out]; exact (toL_hit swoM hs hsrt hy).2
        clear hyi
        go_wp2_with fail
        refine name_prop (fun wl => Chg (fun b _ => b = w.heap.size + 1) w3 wl ∧ wl.heap[w.heap.size + 1]? = some (.cells #[.int .i64 y.1, .int .i64 y.2] 26 (0, 0))) ⟨?_, blk2 HBR.out _ _⟩ ?_
        · repeat (first | refine Chg.drew ?_ | refine Chg.drewN ?_ _ | refine Chg.setCell ?_ (.inl rfl) _ | exact Chg.refl _ _)
        clear p0 p1
        rintro wl ⟨hcl, hbl⟩
        have p0 := cell_of_block hbl 0
        have p1 := cell_of_block hbl 1
        simp only [List.getElem?_toArray, List.getElem?_cons_zero, List.getElem?_cons_succ] at p0 p1
        refine bodyPost_ret (v := .tuple #[.agg #[.int .i64 y.1, .int .i64 y.2], .bool true]) (by simp [results, Try.results104, go_sem, p0, p1]) rfl ?_
        exact ⟨by rw [ho]; rfl, (hc1.trans hc13).trans' hcl (fun _ _ _ h => h) (fun b o hb e => by omega)⟩
      · rcases h' with _ | h'
        · have n3 := hn3.c3n rfl
          have ho : o = none := by rw [← HFO.out]; exact (pos_gap swoM (xs := T'.2) hp).2
          go_wp2_with fail
          refine name_prop (fun wl => Chg (fun b _ => b = w.heap.size + 1) w3 wl ∧ wl.heap[w.heap.size + 1]? = some (.cells #[.int .i64 0, .int .i64 0] 26 (0, 0))) ⟨?_, blk2 HBR.out _ _⟩ ?_
          · repeat (first | refine Chg.drew ?_ | refine Chg.drewN ?_ _ | refine Chg.setCell ?_ (.inl rfl) _ | exact Chg.refl _ _)
          clear p0 p1
          rintro wl ⟨hcl, hbl⟩
          have p0 := cell_of_block hbl 0
          have p1 := cell_of_block hbl 1
          simp only [List.getElem?_toArray, List.getElem?_cons_zero, List.getElem?_cons_succ] at p0 p1
          refine bodyPost_ret (v := .tuple #[.agg #[.int .i64 0, .int .i64 0], .bool false]) (by simp [results, Try.results104, go_sem, p0, p1]) rfl ?_
          exact ⟨by rw [ho]; rfl, (hc1.trans hc13).trans' hcl (fun _ _ _ h => h) (fun b o hb e => by omega)⟩
        · have hple : i ≤ T'.2.1.length := hp.le
          have hkl : T'.2.2.length = T'.2.1.length + 1 := hs.2.1
          obtain ⟨c, hcj⟩ : ∃ c, T'.2.2[i]? = some c := ⟨_, List.getElem?_eq_getElem (by omega)⟩
          have hcm : c ∈ T'.2.2 := List.mem_of_getElem? hcj
          have hk : (recOf (h' + 1) T').kids = some (T'.2.2.map fun c => some (rid c)) := rfl
          have n3 := hn3.c3s hk
          have nc := hn3.cc hk
          rw [List.length_map] at nc
          have kc : w3.cell? ⟨l2.cb, l2.co + i, none⟩ = some (.pointer (some ⟨rid c, 0, none⟩)) := hn3.kidc hk (j := i) (o := some (rid c)) (by simp [hcj])
          have i0 : (0 : Int) ≤ (i : Int) := by omega
          have i1 : (i : Int) < (T'.2.2.length : Int) := by omega
          have hfk := fnd_kid swoM hs hcj hsrt hp
          have HFK : Hid (fndL ltM x (toL h' c) = o) := Lib.hid (by rw [← hfk]; exact HFO.out)
          have hgt := kid_lt hs hcm hit
          have hsub := sub_srt hs hcj hsrt
          obtain ⟨lc, hnc⟩ := (HFR.out.chg hc3 (fun _ _ _ h => h)).node (hT.kid hcm).root
          have nc0 := hnc.c0
          have m2 := mOf_root (hT.kid hcm)
          have m1 := mOf_root hT
          clear hkl hcj hfk hnc
          go_wp2_with fail
          refine (isoLoad_any t (rid c) k _ _ _ kc nc0 cw0).mono ?_
          rintro e w4 ⟨rfl, m4, hw4⟩
          have hc4 : Chg (fun _ _ => False) w3 w4 := by rw [hw4]; exact (Chg.refl _ _).drewN _
          clear hw4
          go_wp2_with fail
          go_roundw
          case rel => exact ⟨h', c, _, rfl, rfl, hT.kid hcm, (hs.2.2 c hcm).2, Nat.le_trans hmn (hs.2.2 c hcm).1, hsub, HFK.out, hc13.trans hc4⟩
          case measure => rw [m1, m2]; exact hgt
end Go.Proofs.Ytojplcbkiogcpaa

namespace Go.Proofs.Ytojplcbkiogcpaa
set_option linter.unusedSimpArgs false
set_option linter.unusedVariables false
open Go.RowKit

section
variable {P : Program} {a : Act} {w : World} {Q : Exit → Act → World → Prop}

theorem jump_mono {l : Nat} {X : Act → World → Prop} {e : Exit} {a : Act} {w : World} (h : Exit.jump l (fun _ _ => False) Q e a w) : Exit.jump l X Q e a w := by
  cases e with
  | goto _ => exact h.2.elim
  | _ => exact h

/-- A scope in which the run jumps ahead to one label, behind which nothing jumps. -/
theorem wp_scope_fwd {c tail : Code} (l : Nat) (J : Act → World → Prop) (hf : findLabel c l = some (.seq .skip tail))
    (pass : ∀ a w, J a w → tail.wp P (Exit.jump l (fun _ _ => False) Q) a w)
    (first : (∀ a w, J a w → tail.wp P (Exit.jump l J Q) a w) → c.wp P (Exit.jump l J Q) a w) : (Code.scope c).wp P Q a w := by
  refine wp_scope_jumps l J (fun _ _ => 0) hf (first fun a w h => wp_mono (pass a w h) fun e a w h => jump_mono h) fun a w h => ?_
  refine wp_seq (wp_skip ?_)
  exact wp_mono (pass a w h) fun e a w h => jump_mono h
end

theorem srt_get {α : Type} {lt : α → α → Bool} {l : List α} (hs : Srt lt l) {i j : Nat} {a b : α} (hij : i < j) (ha : l[i]? = some a) (hb : l[j]? = some b) : lt a b = true := by
  obtain ⟨hi, rfl⟩ := List.getElem?_eq_some_iff.1 ha
  obtain ⟨hj, rfl⟩ := List.getElem?_eq_some_iff.1 hb
  exact List.pairwise_iff_getElem.1 hs i j hi hj hij

theorem srt_right {α : Type} {lt : α → α → Bool} (s : Swo lt) {l : List α} (hs : Srt lt l) {i j : Nat} {x y z : α} (hy : l[i]? = some y) (h : lt x y = true) (hij : i ≤ j) (hz : l[j]? = some z) : lt x z = true := by
  rcases Nat.eq_or_lt_of_le hij with rfl | hlt
  · rw [hy] at hz; obtain rfl := Option.some.inj hz; exact h
  · exact s.trans h (srt_get hs hlt hy hz)

theorem srt_left {α : Type} {lt : α → α → Bool} (s : Swo lt) {l : List α} (hs : Srt lt l) {i j : Nat} {x y z : α} (hy : l[i]? = some y) (h : lt y x = true) (hij : j ≤ i) (hz : l[j]? = some z) : lt z x = true := by
  rcases Nat.eq_or_lt_of_le hij with rfl | hlt
  · rw [hy] at hz; obtain rfl := Option.some.inj hz; exact h
  · exact s.trans (srt_get hs hlt hz hy) h

theorem srt_nright {α : Type} {lt : α → α → Bool} (s : Swo lt) {l : List α} (hs : Srt lt l) {i j : Nat} {x y z : α} (hy : l[i]? = some y) (h : lt x y = false) (hij : j ≤ i) (hz : l[j]? = some z) : lt x z = false := by
  rcases Nat.eq_or_lt_of_le hij with rfl | hlt
  · rw [hy] at hz; obtain rfl := Option.some.inj hz; exact h
  · cases h2 : lt x z with
    | false => rfl
    | true =>
      have := s.trans h2 (srt_get hs hlt hz hy)
      rw [h] at this; cases this

/-- The cells of a hint: eight times whether it was used, eight places. -/
structure HintC (c : Array Value) : Prop where
  sz : c.size = 16
  used : ∀ o, o < 8 → ∃ b, c[o]? = some (.bool b)
  path : ∀ o, o < 8 → ∃ z : Int, 0 ≤ z ∧ z ≤ 255 ∧ c[8 + o]? = some (.int .u8 z)

theorem HintC.setUsed {c : Array Value} (h : HintC c) {d : Nat} (hd : d < 8) (b : Bool) : HintC (c.setIfInBounds d (.bool b)) := by
  refine ⟨by simpa using h.sz, fun o ho => ?_, fun o ho => ?_⟩
  · by_cases e : d = o
    · subst e; exact ⟨b, by rw [Array.getElem?_setIfInBounds_self_of_lt (by rw [h.sz]; omega)]⟩
    · rw [Array.getElem?_setIfInBounds_ne e]; exact h.used o ho
  · rw [Array.getElem?_setIfInBounds_ne (by omega)]; exact h.path o ho

theorem HintC.setPath {c : Array Value} (h : HintC c) {d : Nat} (hd : d < 8) {z : Int} (h0 : 0 ≤ z) (h1 : z ≤ 255) : HintC (c.setIfInBounds (8 + d) (.int .u8 z)) := by
  refine ⟨by simpa using h.sz, fun o ho => ?_, fun o ho => ?_⟩
  · rw [Array.getElem?_setIfInBounds_ne (by omega)]; exact h.used o ho
  · by_cases e : d = o
    · subst e; exact ⟨z, h0, h1, by rw [Array.getElem?_setIfInBounds_self_of_lt (by rw [h.sz]; omega)]⟩
    · rw [Array.getElem?_setIfInBounds_ne (by omega)]; exact h.path o ho

/-- A hint lies in the block b. -/
def HintB (b : Nat) (w : World) : Prop := ∃ c, w.heap[b]? = some (.cells c 74 (0, 0)) ∧ HintC c

theorem HintB.chg {A : Nat → Nat → Prop} {b : Nat} {w w' : World} (h : HintB b w) (c : Chg A w w') (hA : ∀ o, ¬ A b o) : HintB b w' := by
  obtain ⟨x, h1, h2⟩ := h
  exact ⟨x, by rw [c.block (heap_lt h1) hA]; exact h1, h2⟩

theorem HintB.lt {b : Nat} {w : World} (h : HintB b w) : b < w.heap.size := by
  obtain ⟨x, h1, h2⟩ := h
  exact heap_lt h1

/-- The jump's meeting. -/
def HintJ {ord : List Int} (t n hb kb d : Nat) (xs : List (It ord)) (x : It ord) (w : World) (a : Act) (w' : World) : Prop :=
  ∃ (i : Nat) (f : Bool) (u : Nat → Value), a = { tmps := #[.pointer (some ⟨t, 0, none⟩), .pointer (some ⟨n, 0, none⟩), u 2, .pointer (some ⟨hb, 0, none⟩), .int .i64 (d : Int), u 5, u 6, .pointer (some ⟨kb, 0, none⟩), u 8, u 9, .int .i64 (i : Int), .bool f, u 12, u 13, u 14, u 15, u 16, u 17, u 18, u 19, u 20, u 21, u 22, u 23, u 24, u 25, u 26, u 27, u 28, u 29, u 30, u 31, u 32, u 33, u 34, u 35, u 36, u 37, u 38, u 39, u 40, u 41, u 42, u 43, u 44, u 45, u 46, u 47, u 48, u 49, u 50, u 51, u 52, u 53, u 54, u 55, u 56, u 57, u 58, u 59, u 60, u 61, u 62, u 63, u 64, u 65, u 66, u 67, u 68, u 69, u 70, u 71, u 72, u 73, u 74, u 75, u 76, u 77, u 78, u 79, u 80, u 81, u 82, u 83, u 84, u 85, u 86, u 87, u 88, u 89, u 90, u 91, u 92, u 93, u 94, u 95, u 96, u 97, u 98, u 99, u 100, u 101, u 102, u 103, u 104, u 105, u 106, u 107, u 108, u 109, u 110, u 111, u 112, u 113, u 114, u 115, u 116, u 117, u 118, u 119, u 120, u 121, u 122, u 123, u 124, u 125, u 126, u 127, u 128, u 129, u 130, u 131, u 132, u 133, u 134, u 135, u 136, u 137, u 138, u 139, u 140, u 141, u 142, u 143, u 144, u 145, u 146, u 147, u 148, u 149, u 150, u 151, u 152, u 153, u 154, u 155, u 156, u 157, u 158, u 159, u 160, u 161, u 162, u 163, u 164, u 165, u 166, u 167, u 168, u 169, u 170, u 171, u 172, u 173, u 174, u 175, u 176, u 177, u 178, u 179, u 180, u 181, u 182, u 183, u 184, u 185, u 186, u 187, u 188, u 189, u 190, u 191, u 192, u 193, u 194, u 195, u 196, u 197, u 198, u 199], defers := [] } ∧ Chg (fun _ _ => False) w w' ∧ i ≤ xs.length ∧ ((f = true ∧ ∃ y, HitAt ltM xs x i y) ∨ (f = false ∧ PosAt ltM xs x i))

theorem HintJ.intro {ord : List Int} {t n hb kb d : Nat} {xs : List (It ord)} {x : It ord} {w : World} {a : Act} {w' : World} (i : Nat) (f : Bool) (h : a = { tmps := #[.pointer (some ⟨t, 0, none⟩), .pointer (some ⟨n, 0, none⟩), a.tmps.getD 2 undef, .pointer (some ⟨hb, 0, none⟩), .int .i64 (d : Int), a.tmps.getD 5 undef, a.tmps.getD 6 undef, .pointer (some ⟨kb, 0, none⟩), a.tmps.getD 8 undef, a.tmps.getD 9 undef, .int .i64 (i : Int), .bool f, a.tmps.getD 12 undef, a.tmps.getD 13 undef, a.tmps.getD 14 undef, a.tmps.getD 15 undef, a.tmps.getD 16 undef, a.tmps.getD 17 undef, a.tmps.getD 18 undef, a.tmps.getD 19 undef, a.tmps.getD 20 undef, a.tmps.getD 21 undef, a.tmps.getD 22 undef, a.tmps.getD 23 undef, a.tmps.getD 24 undef, a.tmps.getD 25 undef, a.tmps.getD 26 undef, a.tmps.getD 27 undef, a.tmps.getD 28 undef, a.tmps.getD 29 undef, a.tmps.getD 30 undef, a.tmps.getD 31 undef, a.tmps.getD 32 undef, a.tmps.getD 33 undef, a.tmps.getD 34 undef, a.tmps.getD 35 undef, a.tmps.getD 36 undef, a.tmps.getD 37 undef, a.tmps.getD 38 undef, a.tmps.getD 39 undef, a.tmps.getD 40 undef, a.tmps.getD 41 undef, a.tmps.getD 42 undef, a.tmps.getD 43 undef, a.tmps.getD 44 undef, a.tmps.getD 45 undef, a.tmps.getD 46 undef, a.tmps.getD 47 undef, a.tmps.getD 48 undef, a.tmps.getD 49 undef, a.tmps.getD 50 undef, a.tmps.getD 51 undef, a.tmps.getD 52 undef, a.tmps.getD 53 undef, a.tmps.getD 54 undef, a.tmps.getD 55 undef, a.tmps.getD 56 undef, a.tmps.getD 57 undef, a.tmps.getD 58 undef, a.tmps.getD 59 undef, a.tmps.getD 60 undef, a.tmps.getD 61 undef, a.tmps.getD 62 undef, a.tmps.getD 63 undef, a.tmps.getD 64 undef, a.tmps.getD 65 undef, a.tmps.getD 66 undef, a.tmps.getD 67 undef, a.tmps.getD 68 undef, a.tmps.getD 69 undef, a.tmps.getD 70 undef, a.tmps.getD 71 undef, a.tmps.getD 72 undef, a.tmps.getD 73 undef, a.tmps.getD 74 undef, a.tmps.getD 75 undef, a.tmps.getD 76 undef, a.tmps.getD 77 undef, a.tmps.getD 78 undef, a.tmps.getD 79 undef, a.tmps.getD 80 undef, a.tmps.getD 81 undef, a.tmps.getD 82 undef, a.tmps.getD 83 undef, a.tmps.getD 84 undef, a.tmps.getD 85 undef, a.tmps.getD 86 undef, a.tmps.getD 87 undef, a.tmps.getD 88 undef, a.tmps.getD 89 undef, a.tmps.getD 90 undef, a.tmps.getD 91 undef, a.tmps.getD 92 undef, a.tmps.getD 93 undef, a.tmps.getD 94 undef, a.tmps.getD 95 undef, a.tmps.getD 96 undef, a.tmps.getD 97 undef, a.tmps.getD 98 undef, a.tmps.getD 99 undef, a.tmps.getD 100 undef, a.tmps.getD 101 undef, a.tmps.getD 102 undef, a.tmps.getD 103 undef, a.tmps.getD 104 undef, a.tmps.getD 105 undef, a.tmps.getD 106 undef, a.tmps.getD 107 undef, a.tmps.getD 108 undef, a.tmps.getD 109 undef, a.tmps.getD 110 undef, a.tmps.getD 111 undef, a.tmps.getD 112 undef, a.tmps.getD 113 undef, a.tmps.getD 114 undef, a.tmps.getD 115 undef, a.tmps.getD 116 undef, a.tmps.getD 117 undef, a.tmps.getD 118 undef, a.tmps.getD 119 undef, a.tmps.getD 120 undef, a.tmps.getD 121 undef, a.tmps.getD 122 undef, a.tmps.getD 123 undef, a.tmps.getD 124 undef, a.tmps.getD 125 undef, a.tmps.getD 126 undef, a.tmps.getD 127 undef, a.tmps.getD 128 undef, a.tmps.getD 129 undef, a.tmps.getD 130 undef, a.tmps.getD 131 undef, a.tmps.getD 132 undef, a.tmps.getD 133 undef, a.tmps.getD 134 undef, a.tmps.getD 135 undef, a.tmps.getD 136 undef, a.tmps.getD 137 undef, a.tmps.getD 138 undef, a.tmps.getD 139 undef, a.tmps.getD 140 undef, a.tmps.getD 141 undef, a.tmps.getD 142 undef, a.tmps.getD 143 undef, a.tmps.getD 144 undef, a.tmps.getD 145 undef, a.tmps.getD 146 undef, a.tmps.getD 147 undef, a.tmps.getD 148 undef, a.tmps.getD 149 undef, a.tmps.getD 150 undef, a.tmps.getD 151 undef, a.tmps.getD 152 undef, a.tmps.getD 153 undef, a.tmps.getD 154 undef, a.tmps.getD 155 undef, a.tmps.getD 156 undef, a.tmps.getD 157 undef, a.tmps.getD 158 undef, a.tmps.getD 159 undef, a.tmps.getD 160 undef, a.tmps.getD 161 undef, a.tmps.getD 162 undef, a.tmps.getD 163 undef, a.tmps.getD 164 undef, a.tmps.getD 165 undef, a.tmps.getD 166 undef, a.tmps.getD 167 undef, a.tmps.getD 168 undef, a.tmps.getD 169 undef, a.tmps.getD 170 undef, a.tmps.getD 171 undef, a.tmps.getD 172 undef, a.tmps.getD 173 undef, a.tmps.getD 174 undef, a.tmps.getD 175 undef, a.tmps.getD 176 undef, a.tmps.getD 177 undef, a.tmps.getD 178 undef, a.tmps.getD 179 undef, a.tmps.getD 180 undef, a.tmps.getD 181 undef, a.tmps.getD 182 undef, a.tmps.getD 183 undef, a.tmps.getD 184 undef, a.tmps.getD 185 undef, a.tmps.getD 186 undef, a.tmps.getD 187 undef, a.tmps.getD 188 undef, a.tmps.getD 189 undef, a.tmps.getD 190 undef, a.tmps.getD 191 undef, a.tmps.getD 192 undef, a.tmps.getD 193 undef, a.tmps.getD 194 undef, a.tmps.getD 195 undef, a.tmps.getD 196 undef, a.tmps.getD 197 undef, a.tmps.getD 198 undef, a.tmps.getD 199 undef], defers := [] }) (hc : Chg (fun _ _ => False) w w') (hi : i ≤ xs.length) (hf : (f = true ∧ ∃ y, HitAt ltM xs x i y) ∨ (f = false ∧ PosAt ltM xs x i)) : HintJ t n hb kb d xs x w a w' :=
  ⟨i, f, fun j => a.tmps.getD j undef, h, hc, hi, hf⟩

/-- What a search with a hint gives. -/
def SrchH {ord : List Int} (hb : Nat) (xs : List (It ord)) (x : It ord) (w : World) (e : Ending) (w' : World) : Prop :=
  ∃ (i : Nat) (f : Bool), e = .returned (.tuple #[.int .i64 i, .bool f]) ∧ Chg (fun b _ => b = hb) w w' ∧ HintB hb w' ∧ ((f = true ∧ ∃ y, HitAt ltM xs x i y) ∨ (f = false ∧ PosAt ltM xs x i))

set_option maxRecDepth 100000 in
set_option maxHeartbeats 4000000 in
theorem hintsearch_any {ord : List Int} {k : Kc ord} {mn mx : Nat} {w : World} {n : Nat} {r : NodeR (It ord)} {l : Lay} (t hb d : Nat) (x : It ord) (hm : MapAt k mn mx w t) (h : NodeAt (parM k) w n r l) (hs : Srt ltM r.items) (hlen : r.items.length ≤ 1000000) (hpos : 1 ≤ r.items.length) (hh : HintB hb w) (hd : d ≤ 1000000000000) :
    Calls Try.prog 128 #[.pointer (some ⟨t, 0, none⟩), .pointer (some ⟨n, 0, none⟩), aggM x, .pointer (some ⟨hb, 0, none⟩), .int .i64 d] w (SrchH hb r.items x w) := by
  obtain ⟨hc, hblk, hcs⟩ := hh
  have hnb : n ≠ hb := by
    rintro rfl
    have := h.hd
    rw [hblk] at this
    simp [parM] at this
  have H := Lib.hid h
  have HM := Lib.hid hm
  have HS := Lib.hid hs
  have HBLK := Lib.hid hblk
  obtain ⟨N, hN⟩ : ∃ N, r.items.length = N := ⟨_, rfl⟩
  have HN := Lib.hid hN
  rw [hN] at hlen hpos
  clear h hm hs hblk hN
  unfold aggM
  go_enter Try.func128, Try.ntmps128
  go_wp2_with fail
  refine wp_scope_fwd 0 (HintJ t n hb w.heap.size d r.items x w) rfl ?_ ?_
  · rintro a w2 ⟨i, f, u, rfl, hcw, hil, hf⟩
    have HF := Lib.hid hf
    clear hf
    by_cases hd8 : d < 8
    rotate_left
    · have hd9 : ¬ (d : Int) < 8 := by omega
      go_wp2_with fail
      simp only [Exit.jump]
      go_ret2
      exact ⟨i, f, rfl, hcw.mono (fun _ _ _ h => h.elim), ⟨hc, by rw [hcw.block (heap_lt HBLK.out) (fun _ h => h)]; exact HBLK.out, hcs⟩, HF.out⟩
    have hb2 : w2.heap[hb]? = some (.cells hc 74 (0, 0)) := by rw [hcw.block (heap_lt HBLK.out) (fun _ h => h)]; exact HBLK.out
    obtain ⟨bu, hbu⟩ := hcs.used d hd8
    obtain ⟨z, hz0, hz1, hz⟩ := hcs.path d hd8
    have cu := cell_of_block hb2 d
    rw [hbu] at cu
    have fu := frozen_of_block hb2 d
    have HB2 := Lib.hid hb2
    have d0 : (0 : Int) ≤ (d : Int) := by omega
    have d8 : (d : Int) < 8 := by omega
    clear hbu hb2
    go_wp2_with fail
    refine name_calls (fun w3 => Chg (fun b _ => b = hb) w w3 ∧ w3.heap[hb]? = some (.cells (hc.setIfInBounds d (.bool true)) 74 (0, 0))) ⟨?_, hs_same HB2.out _⟩ ?_
    · exact (hcw.mono (fun _ _ _ h => h.elim)).setCell (.inl rfl) _
    rintro w3 ⟨hc3, hb3⟩
    have n3 := hc3.cell (a := ⟨n, 3, none⟩) (fun e => hnb e) H.out.c3
    have fp := frozen_of_block hb3 (8 + d)
    have cp := cell_of_block hb3 (8 + d)
    rw [Array.getElem?_setIfInBounds_ne (by omega), hz] at cp
    have HB3 := Lib.hid hb3
    clear hb3 cu fu hz
    obtain ⟨op, hop⟩ : ∃ op : Option Addr, (r.kids.map fun _ => (⟨l.cc, 0, none⟩ : Addr)) = op := ⟨_, rfl⟩
    rw [hop] at n3
    clear hop
    refine (leaf_any n op _ n3).mono ?_
    rintro e w' ⟨rfl, rfl⟩
    clear n3
    rcases op with _ | op
    · cases f
      · go_wp2_with fail
        · go_loopw [16] (fun i' wr => ∃ (m : Nat), m ≤ 8 ∧ i' = .int .i64 m ∧ Chg (fun b _ => b = hb) w wr ∧ ∃ c, wr.heap[hb]? = some (.cells c 74 (0, 0)) ∧ HintC c) (fun i' _ => 8 - (intOf i').toNat)
          case atStart => exact ⟨d + 1, by omega, by go_num, hc3.setCell (.inl rfl) _, _, hs_same HB3.out _, (hcs.setUsed hd8 true).setPath hd8 (by omega) (by omega)⟩
          case round =>
            obtain ⟨m, hm8, rfl, hcr, c1, hb4, hc4⟩ := hrel
            have HB4 := Lib.hid hb4
            have HC4 := Lib.hid hc4
            by_cases hmm : m < 8
            · obtain ⟨bu4, hbu4⟩ := hc4.used m hmm
              have cu := cell_of_block hb4 m
              rw [hbu4] at cu
              have fu := frozen_of_block hb4 m
              have m0 : (0 : Int) ≤ (m : Int) := by omega
              have m8 : (m : Int) < 8 := by omega
              clear hbu4 hb4 hc4 fp cp
              go_wp2_with fail
              go_roundw
              case rel => exact ⟨m + 1, by omega, by go_num, hcr.setCell (.inl rfl) _, _, hs_same HB4.out _, HC4.out.setUsed hmm false⟩
              case measure => simp [intOf]; omega
            · obtain rfl : m = 8 := by omega
              clear hb4 hc4 fp cp
              go_wp2_with fail
              simp only [Exit.jump]
              go_ret2
              exact ⟨i, false, rfl, hcr, ⟨_, HB4.out, HC4.out⟩, by simpa using HF.out⟩
        · simp only [Exit.jump]
          go_ret2
          exact ⟨i, false, rfl, hc3, ⟨_, HB3.out, hcs.setUsed hd8 true⟩, by simpa using HF.out⟩
      · go_wp2_with fail
        · go_loopw [16] (fun i' wr => ∃ (m : Nat), m ≤ 8 ∧ i' = .int .i64 m ∧ Chg (fun b _ => b = hb) w wr ∧ ∃ c, wr.heap[hb]? = some (.cells c 74 (0, 0)) ∧ HintC c) (fun i' _ => 8 - (intOf i').toNat)
          case atStart => exact ⟨d + 1, by omega, by go_num, hc3.setCell (.inl rfl) _, _, hs_same HB3.out _, (hcs.setUsed hd8 true).setPath hd8 (by omega) (by omega)⟩
          case round =>
            obtain ⟨m, hm8, rfl, hcr, c1, hb4, hc4⟩ := hrel
            have HB4 := Lib.hid hb4
            have HC4 := Lib.hid hc4
            by_cases hmm : m < 8
            · obtain ⟨bu4, hbu4⟩ := hc4.used m hmm
              have cu := cell_of_block hb4 m
              rw [hbu4] at cu
              have fu := frozen_of_block hb4 m
              have m0 : (0 : Int) ≤ (m : Int) := by omega
              have m8 : (m : Int) < 8 := by omega
              clear hbu4 hb4 hc4 fp cp
              go_wp2_with fail
              go_roundw
              case rel => exact ⟨m + 1, by omega, by go_num, hcr.setCell (.inl rfl) _, _, hs_same HB4.out _, HC4.out.setUsed hmm false⟩
              case measure => simp [intOf]; omega
            · obtain rfl : m = 8 := by omega
              clear hb4 hc4 fp cp
              go_wp2_with fail
              simp only [Exit.jump]
              go_ret2
              exact ⟨i, true, rfl, hcr, ⟨_, HB4.out, HC4.out⟩, by simpa using HF.out⟩
        · simp only [Exit.jump]
          go_ret2
          exact ⟨i, true, rfl, hc3, ⟨_, HB3.out, hcs.setUsed hd8 true⟩, by simpa using HF.out⟩
    · go_wp2_with fail
      · go_loopw [16] (fun i' wr => ∃ (m : Nat), m ≤ 8 ∧ i' = .int .i64 m ∧ Chg (fun b _ => b = hb) w wr ∧ ∃ c, wr.heap[hb]? = some (.cells c 74 (0, 0)) ∧ HintC c) (fun i' _ => 8 - (intOf i').toNat)
        case atStart => exact ⟨d + 1, by omega, by go_num, hc3.setCell (.inl rfl) _, _, hs_same HB3.out _, (hcs.setUsed hd8 true).setPath hd8 (by omega) (by omega)⟩
        case round =>
          obtain ⟨m, hm8, rfl, hcr, c1, hb4, hc4⟩ := hrel
          have HB4 := Lib.hid hb4
          have HC4 := Lib.hid hc4
          by_cases hmm : m < 8
          · obtain ⟨bu4, hbu4⟩ := hc4.used m hmm
            have cu := cell_of_block hb4 m
            rw [hbu4] at cu
            have fu := frozen_of_block hb4 m
            have m0 : (0 : Int) ≤ (m : Int) := by omega
            have m8 : (m : Int) < 8 := by omega
            clear hbu4 hb4 hc4 fp cp
            go_wp2_with fail
            go_roundw
            case rel => exact ⟨m + 1, by omega, by go_num, hcr.setCell (.inl rfl) _, _, hs_same HB4.out _, HC4.out.setUsed hmm false⟩
            case measure => simp [intOf]; omega
          · obtain rfl : m = 8 := by omega
            clear hb4 hc4 fp cp
            go_wp2_with fail
            simp only [Exit.jump]
            go_ret2
            exact ⟨i, _, rfl, hcr, ⟨_, HB4.out, HC4.out⟩, by simpa using HF.out⟩
      · simp only [Exit.jump]
        go_ret2
        exact ⟨i, _, rfl, hc3, ⟨_, HB3.out, hcs.setUsed hd8 true⟩, by simpa using HF.out⟩
  · intro hrest
    have HR := Lib.hid hrest
    clear hrest
    go_upto_region 1 with fail
    refine name_world (fun w1 => Chg (fun _ _ => False) w w1 ∧ w1.heap[w.heap.size]? = some (.cells #[.int .i64 x.1, .int .i64 x.2] 26 (0, 0))) ⟨(Chg.refl _ _).alloc _, ha_at _ _ rfl⟩ ?_
    rintro w1 ⟨hc1, hb1⟩
    have hblk : w1.heap[hb]? = some (.cells hc 74 (0, 0)) := by rw [hc1.block (heap_lt HBLK.out) (fun _ h => h)]; exact HBLK.out
    have n2 := hc1.cell (fun h => h) H.out.c2
    rw [HN.out] at n2
    have q0 := cell_of_block hb1 0
    have q1 := cell_of_block hb1 1
    simp only [List.getElem?_toArray, List.getElem?_cons_zero, List.getElem?_cons_succ] at q0 q1
    have HB1 := Lib.hid hb1
    have HB2 := Lib.hid hblk
    clear hb1 hblk
    go_upto_region 3 with fail
    go_cut [32] from 17 (fun b wx => wx = w1 ∧ ∃ q, b = .bool q ∧ (q = true → d < 8))
    case first =>
      by_cases hd8 : d < 8
      · obtain ⟨bu, hbu⟩ := hcs.used d hd8
        have cu := cell_of_block HB2.out d
        rw [hbu] at cu
        have d0 : (0 : Int) ≤ (d : Int) := by omega
        have d8 : (d : Int) < 8 := by omega
        clear hbu
        go_wp2_with fail
        go_meet
        case rel => exact ⟨rfl, _, rfl, fun _ => hd8⟩
      · have hd9 : ¬ (d : Int) < 8 := by omega
        go_wp2_with fail
        go_meet
        case rel => exact ⟨rfl, _, rfl, fun h => by cases h⟩
    case rest =>
      obtain ⟨hwc, q, rfl, hq8⟩ := hcut
      rw [hwc]
      clear hwc
      go_upto_if 32 with fail
      go_cut [12, 13] from 14 (fun lo hi wx => ∃ (a b : Nat) (z : Int), lo = .int .i64 a ∧ hi = .int .i64 z ∧ z = (b : Int) - 1 ∧ a ≤ b ∧ b ≤ N ∧ (∀ j y, j < a → r.items[j]? = some y → ltM x y = false) ∧ (∀ j y, b ≤ j → r.items[j]? = some y → ltM x y = true) ∧ Chg (fun _ _ => False) w1 wx)
      case first =>
        cases q
        · go_wp2_with fail
          go_meet
          case rel => exact ⟨0, N, _, rfl, rfl, rfl, Nat.zero_le _, Nat.le_refl _, fun j y h => by omega, fun j y h1 h2 => by have := (List.getElem?_eq_some_iff.1 h2).1; have := HN.out; omega, Chg.refl _ _⟩
        · have hd8 := hq8 rfl
          obtain ⟨z, hz0, hz1, hz⟩ := hcs.path d hd8
          have cp := cell_of_block HB2.out (8 + d)
          rw [hz] at cp
          have d0 : (0 : Int) ≤ (d : Int) := by omega
          have d8 : (d : Int) < 8 := by omega
          have nl0 : (1 : Int) ≤ (N : Int) := by omega
          clear hz
          go_upto_if 46 with fail
          go_cut [10] from 14 (fun ix wx => ∃ i : Nat, ix = .int .i64 (i : Int) ∧ i < N ∧ Chg (fun _ _ => False) w1 wx)
          case first =>
            by_cases hzN : (N : Int) ≤ z
            · obtain ⟨y, hy⟩ : ∃ y, r.items[N - 1]? = some y := ⟨_, List.getElem?_eq_getElem (by have := HN.out; omega)⟩
              have iv := (H.out.chg hc1 (fun _ _ _ h => h)).mval hy
              have ik := (H.out.chg hc1 (fun _ _ _ h => h)).mkey hy
              have HY := Lib.hid hy
              have hcast2 : ((N : Int) - 1).toNat = N - 1 := by omega
              have s1 : (0 : Int) ≤ (N : Int) - 1 := by omega
              have s2 : (N : Int) - 1 < (N : Int) := by omega
              have s3 : IntKind.i64.wrap ((N : Int) - 1) = (N : Int) - 1 := IntWalk.i64_in _ (by omega)
              clear hy cp
              go_wp2_with fail
              refine wp_region_scr (fun w' => w'.cell? ⟨w.heap.size, 0, none⟩ = some (.int .i64 x.1) ∧ w'.cell? ⟨w.heap.size, 1, none⟩ = some (.int .i64 x.2) ∧ w'.cell? ⟨n, 2, none⟩ = some (.slice (some ⟨l.ib, l.io, none⟩) N l.ic) ∧ w'.cell? ⟨l.ib, l.io + (N - 1) * 2, none⟩ = some (.int .i64 y.1) ∧ w'.cell? ⟨l.ib, l.io + (N - 1) * 2 + 1, none⟩ = some (.int .i64 y.2)) (.soft 0 (.soft 1 (.soft 2 (.soft 3 (.soft 4 (.soft 5 (.soft 6 (.soft 7 (.soft 8 (.soft 9 (.soft 10 (.soft 11 (.soft 12 (.soft 13 (.hard 14 .nil))))))))))))))) (by kernel_rfl) (by kernel_rfl) (fun _ _ _ _ _ h => h) ⟨q0, q1, n2, iv, ik⟩ ?_
              repeat
                first
                | (refine scr_soft (by rfl) ?_ ?_ ?_ ?_
                   rotate_left
                   · simp [Region.wanted, yielded]; done
                   · intro w' hS
                     try obtain ⟨a1, a2, a3, a4, a5⟩ := hS
                     go_simp
                     try with_reducible rfl
                   simp only [Act.put, List.setIfInBounds_toArray, List.set_cons_zero, List.set_cons_succ])
                | (refine scr_skip (by rfl) ?_ ?_
                   · simp [Region.wanted, yielded]; done
                   simp only [Act.put, List.setIfInBounds_toArray, List.set_cons_zero, List.set_cons_succ])
              refine scr_hard (by rfl) (by simp [Region.wanted, yielded]) (fun K hK => ?_)
              go_simp
              refine (Less_any (HM.out.chg (hc1.trans (Chg.refl (fun _ _ => False) w1).drew) (fun _ _ _ h => h)) y x).mono ?_
              rintro e w9 ⟨rfl, hc9'⟩
              refine hK _ _ ⟨hc9'.cell (fun h => h) q0, hc9'.cell (fun h => h) q1, hc9'.cell (fun h => h) n2, hc9'.cell (fun h => h) iv, hc9'.cell (fun h => h) ik⟩ ?_
              clear hK K
              repeat
                first
                | (refine scr_soft (by rfl) ?_ ?_ ?_ ?_
                   rotate_left
                   · simp [Region.wanted, yielded]; done
                   · intro w' hS
                     try obtain ⟨a1, a2, a3, a4, a5⟩ := hS
                     go_simp
                     try with_reducible rfl
                   simp only [Act.put, List.setIfInBounds_toArray, List.set_cons_zero, List.set_cons_succ])
                | (refine scr_skip (by rfl) ?_ ?_
                   · simp [Region.wanted, yielded]; done
                   simp only [Act.put, List.setIfInBounds_toArray, List.set_cons_zero, List.set_cons_succ])
              refine scr_nil ?_
              have hc9 : Chg (fun _ _ => False) w1 w9 := ((Chg.refl (fun _ _ => False) w1).drew).trans hc9'
              replace q0 := ((Chg.refl (fun _ _ => False) _).drew.trans hc9').cell (fun h => h) q0
              replace q1 := ((Chg.refl (fun _ _ => False) _).drew.trans hc9').cell (fun h => h) q1
              replace n2 := ((Chg.refl (fun _ _ => False) _).drew.trans hc9').cell (fun h => h) n2
              clear hc9'
              cases hlt : ltM y x
              · go_wp2_with fail
                go_meet
                case rel => exact ⟨N - 1, by go_num, by omega, hc9⟩
              · go_wp2_with fail
                go_step3
                exact ⟨rfl, HintJ.intro N false rfl (hc1.trans hc9) (by have := HN.out; omega) (.inr ⟨rfl, by have := HN.out; omega, fun j z hj hz => srt_left swoM HS.out HY.out hlt (by omega) hz, fun j z hj hz => by have := (List.getElem?_eq_some_iff.1 hz).1; have := HN.out; omega⟩)⟩
            · have hzN' : ¬ (N : Int) ≤ z := hzN
              go_wp2_with fail
              go_meet
              case rel => exact ⟨z.toNat, by rw [Int.toNat_of_nonneg hz0], by omega, Chg.refl _ _⟩
          case rest =>
            obtain ⟨i, rfl, hiN, hcx1⟩ := hcut
            obtain ⟨y, hy⟩ : ∃ y, r.items[i]? = some y := ⟨_, List.getElem?_eq_getElem (by have := HN.out; omega)⟩
            have hbx : wc.heap[w.heap.size]? = some (.cells #[.int .i64 x.1, .int .i64 x.2] 26 (0, 0)) := by rw [hcx1.block (heap_lt HB1.out) (fun _ h => h)]; exact HB1.out
            have hcx := hc1.trans hcx1
            have hnx := H.out.chg hcx (fun _ _ _ h => h)
            have iv := hnx.mval hy
            have ik := hnx.mkey hy
            have HY := Lib.hid hy
            replace n2 := hnx.c2
            rw [HN.out] at n2
            replace q0 := cell_of_block hbx 0
            replace q1 := cell_of_block hbx 1
            simp only [List.getElem?_toArray, List.getElem?_cons_zero, List.getElem?_cons_succ] at q0 q1
            have i0 : (0 : Int) ≤ (i : Int) := by omega
            have i1 : (i : Int) < (N : Int) := by omega
            clear hy cp hbx hnx
            go_wp2_with fail
            refine wp_region_scr (fun w' => w'.cell? ⟨w.heap.size, 0, none⟩ = some (.int .i64 x.1) ∧ w'.cell? ⟨w.heap.size, 1, none⟩ = some (.int .i64 x.2) ∧ w'.cell? ⟨n, 2, none⟩ = some (.slice (some ⟨l.ib, l.io, none⟩) N l.ic) ∧ w'.cell? ⟨l.ib, l.io + (i) * 2, none⟩ = some (.int .i64 y.1) ∧ w'.cell? ⟨l.ib, l.io + (i) * 2 + 1, none⟩ = some (.int .i64 y.2)) (.soft 0 (.soft 1 (.soft 2 (.soft 3 (.soft 4 (.soft 5 (.soft 6 (.soft 7 (.soft 8 (.hard 9 .nil)))))))))) (by kernel_rfl) (by kernel_rfl) (fun _ _ _ _ _ h => h) ⟨q0, q1, n2, iv, ik⟩ ?_
            repeat
              first
              | (refine scr_soft (by rfl) ?_ ?_ ?_ ?_
                 rotate_left
                 · simp [Region.wanted, yielded]; done
                 · intro w' hS
                   try obtain ⟨a1, a2, a3, a4, a5⟩ := hS
                   go_simp
                   try with_reducible rfl
                 simp only [Act.put, List.setIfInBounds_toArray, List.set_cons_zero, List.set_cons_succ])
              | (refine scr_skip (by rfl) ?_ ?_
                 · simp [Region.wanted, yielded]; done
                 simp only [Act.put, List.setIfInBounds_toArray, List.set_cons_zero, List.set_cons_succ])
            refine scr_hard (by rfl) (by simp [Region.wanted, yielded]) (fun K hK => ?_)
            go_simp
            refine (Less_any (HM.out.chg (hc1.trans hcx1.drew) (fun _ _ _ h => h)) x y).mono ?_
            rintro e w9 ⟨rfl, hc9'⟩
            refine hK _ _ ⟨hc9'.cell (fun h => h) q0, hc9'.cell (fun h => h) q1, hc9'.cell (fun h => h) n2, hc9'.cell (fun h => h) iv, hc9'.cell (fun h => h) ik⟩ ?_
            clear hK K
            repeat
              first
              | (refine scr_soft (by rfl) ?_ ?_ ?_ ?_
                 rotate_left
                 · simp [Region.wanted, yielded]; done
                 · intro w' hS
                   try obtain ⟨a1, a2, a3, a4, a5⟩ := hS
                   go_simp
                   try with_reducible rfl
                 simp only [Act.put, List.setIfInBounds_toArray, List.set_cons_zero, List.set_cons_succ])
              | (refine scr_skip (by rfl) ?_ ?_
                 · simp [Region.wanted, yielded]; done
                 simp only [Act.put, List.setIfInBounds_toArray, List.set_cons_zero, List.set_cons_succ])
            refine scr_nil ?_
            have hc9 : Chg (fun _ _ => False) w1 w9 := (hcx1.drew).trans hc9'
            replace q0 := ((Chg.refl (fun _ _ => False) _).drew.trans hc9').cell (fun h => h) q0
            replace q1 := ((Chg.refl (fun _ _ => False) _).drew.trans hc9').cell (fun h => h) q1
            replace n2 := ((Chg.refl (fun _ _ => False) _).drew.trans hc9').cell (fun h => h) n2
            clear hc9'
            cases hlt : ltM x y
            · replace iv := (H.out.chg (hc1.trans hc9) (fun _ _ _ h => h)).mval HY.out
              replace ik := (H.out.chg (hc1.trans hc9) (fun _ _ _ h => h)).mkey HY.out
              have hc8 := hc9
              have HC8 := Lib.hid hc8
              clear hc9
              go_wp2_with fail
              refine wp_region_scr (fun w' => w'.cell? ⟨w.heap.size, 0, none⟩ = some (.int .i64 x.1) ∧ w'.cell? ⟨w.heap.size, 1, none⟩ = some (.int .i64 x.2) ∧ w'.cell? ⟨n, 2, none⟩ = some (.slice (some ⟨l.ib, l.io, none⟩) N l.ic) ∧ w'.cell? ⟨l.ib, l.io + (i) * 2, none⟩ = some (.int .i64 y.1) ∧ w'.cell? ⟨l.ib, l.io + (i) * 2 + 1, none⟩ = some (.int .i64 y.2)) (.soft 0 (.soft 1 (.soft 2 (.soft 3 (.soft 4 (.soft 5 (.soft 6 (.soft 7 (.soft 8 (.hard 9 .nil)))))))))) (by kernel_rfl) (by kernel_rfl) (fun _ _ _ _ _ h => h) ⟨q0, q1, n2, iv, ik⟩ ?_
              repeat
                first
                | (refine scr_soft (by rfl) ?_ ?_ ?_ ?_
                   rotate_left
                   · simp [Region.wanted, yielded]; done
                   · intro w' hS
                     try obtain ⟨a1, a2, a3, a4, a5⟩ := hS
                     go_simp
                     try with_reducible rfl
                   simp only [Act.put, List.setIfInBounds_toArray, List.set_cons_zero, List.set_cons_succ])
                | (refine scr_skip (by rfl) ?_ ?_
                   · simp [Region.wanted, yielded]; done
                   simp only [Act.put, List.setIfInBounds_toArray, List.set_cons_zero, List.set_cons_succ])
              refine scr_hard (by rfl) (by simp [Region.wanted, yielded]) (fun K hK => ?_)
              go_simp
              refine (Less_any (HM.out.chg (hc1.trans HC8.out.drew) (fun _ _ _ h => h)) y x).mono ?_
              rintro e w9 ⟨rfl, hc9'⟩
              refine hK _ _ ⟨hc9'.cell (fun h => h) q0, hc9'.cell (fun h => h) q1, hc9'.cell (fun h => h) n2, hc9'.cell (fun h => h) iv, hc9'.cell (fun h => h) ik⟩ ?_
              clear hK K
              repeat
                first
                | (refine scr_soft (by rfl) ?_ ?_ ?_ ?_
                   rotate_left
                   · simp [Region.wanted, yielded]; done
                   · intro w' hS
                     try obtain ⟨a1, a2, a3, a4, a5⟩ := hS
                     go_simp
                     try with_reducible rfl
                   simp only [Act.put, List.setIfInBounds_toArray, List.set_cons_zero, List.set_cons_succ])
                | (refine scr_skip (by rfl) ?_ ?_
                   · simp [Region.wanted, yielded]; done
                   simp only [Act.put, List.setIfInBounds_toArray, List.set_cons_zero, List.set_cons_succ])
              refine scr_nil ?_
              have hc9 : Chg (fun _ _ => False) w1 w9 := (HC8.out.drew).trans hc9'
              replace q0 := ((Chg.refl (fun _ _ => False) _).drew.trans hc9').cell (fun h => h) q0
              replace q1 := ((Chg.refl (fun _ _ => False) _).drew.trans hc9').cell (fun h => h) q1
              replace n2 := ((Chg.refl (fun _ _ => False) _).drew.trans hc9').cell (fun h => h) n2
              clear hc9'
              cases hlt2 : ltM y x
              · go_wp2_with fail
                go_step3
                exact ⟨rfl, HintJ.intro i true rfl (hc1.trans hc9) (by have := HN.out; omega) (.inl ⟨rfl, y, HY.out, fun j z hj hz => swoM.lt_of_lt_of_nlt (srt_get HS.out hj hz HY.out) hlt, hlt2, hlt⟩)⟩
              · go_wp2_with fail
                go_meet
                case rel => exact ⟨i + 1, N, _, by go_num, rfl, rfl, by omega, Nat.le_refl _, fun j z hj hz => srt_nright swoM HS.out HY.out hlt (by omega) hz, fun j z hj hz => by have := (List.getElem?_eq_some_iff.1 hz).1; have := HN.out; omega, hc9⟩
            · go_wp2_with fail
              rcases Nat.eq_zero_or_pos i with hi0 | hi0
              · have hb0 : ((i : Int) == 0) = true := by simp [hi0]
                have HI0 := Lib.hid hi0
                clear hi0
                refine wp_region_scr (fun w' => True) (.soft 0 (.soft 1 (.soft 2 (.soft 3 (.soft 4 (.soft 5 (.soft 6 (.soft 7 (.soft 8 (.soft 9 (.soft 10 (.soft 11 (.soft 12 (.hard 13 (.soft 14 .nil))))))))))))))) (by kernel_rfl) (by kernel_rfl) (fun _ _ _ _ _ h => h) trivial ?_
                repeat
                  first
                  | (refine scr_soft (by rfl) ?_ ?_ ?_ ?_
                     rotate_left
                     · simp [Region.wanted, yielded]; done
                     · intro w' hS
                       try obtain ⟨a1⟩ := hS
                       go_simp
                       try with_reducible rfl
                     simp only [Act.put, List.setIfInBounds_toArray, List.set_cons_zero, List.set_cons_succ])
                  | (refine scr_skip (by rfl) ?_ ?_
                     · simp [Region.wanted, yielded]; done
                     simp only [Act.put, List.setIfInBounds_toArray, List.set_cons_zero, List.set_cons_succ])
                refine scr_hard_skip (by rfl) (by simp [Region.wanted, yielded]) ?_
                simp only [Act.put, List.setIfInBounds_toArray, List.set_cons_zero, List.set_cons_succ]
                repeat
                  first
                  | (refine scr_soft (by rfl) ?_ ?_ ?_ ?_
                     rotate_left
                     · simp [Region.wanted, yielded]; done
                     · intro w' hS
                       try obtain ⟨a1⟩ := hS
                       go_simp
                       try with_reducible rfl
                     simp only [Act.put, List.setIfInBounds_toArray, List.set_cons_zero, List.set_cons_succ])
                  | (refine scr_skip (by rfl) ?_ ?_
                     · simp [Region.wanted, yielded]; done
                     simp only [Act.put, List.setIfInBounds_toArray, List.set_cons_zero, List.set_cons_succ])
                refine scr_nil ?_
                go_wp2_with fail
                go_step3
                exact ⟨rfl, HintJ.intro i false rfl (hc1.trans hc9).drew (by have := HN.out; omega) (.inr ⟨rfl, by have := HN.out; omega, fun j z hj hz => by have := HI0.out; omega, fun j z hj hz => srt_right swoM HS.out HY.out hlt hj hz⟩)⟩
              · obtain ⟨y2, hy2⟩ : ∃ y2, r.items[i - 1]? = some y2 := ⟨_, List.getElem?_eq_getElem (by have := HN.out; omega)⟩
                have hb0 : ((i : Int) == 0) = false := by simp; omega
                replace iv := (H.out.chg (hc1.trans hc9) (fun _ _ _ h => h)).mval hy2
                replace ik := (H.out.chg (hc1.trans hc9) (fun _ _ _ h => h)).mkey hy2
                have HY2 := Lib.hid hy2
                have hcast2 : ((i : Int) - 1).toNat = i - 1 := by omega
                have s1 : (0 : Int) ≤ (i : Int) - 1 := by omega
                have s4 : (1 : Int) ≤ (i : Int) := by omega
                have s2 : (i : Int) - 1 < (N : Int) := by omega
                have s3 : IntKind.i64.wrap ((i : Int) - 1) = (i : Int) - 1 := IntWalk.i64_in _ (by omega)
                have HC8 := Lib.hid hc9
                clear hy2 hc9
                refine wp_region_scr (fun w' => w'.cell? ⟨w.heap.size, 0, none⟩ = some (.int .i64 x.1) ∧ w'.cell? ⟨w.heap.size, 1, none⟩ = some (.int .i64 x.2) ∧ w'.cell? ⟨n, 2, none⟩ = some (.slice (some ⟨l.ib, l.io, none⟩) N l.ic) ∧ w'.cell? ⟨l.ib, l.io + (i - 1) * 2, none⟩ = some (.int .i64 y2.1) ∧ w'.cell? ⟨l.ib, l.io + (i - 1) * 2 + 1, none⟩ = some (.int .i64 y2.2)) (.soft 0 (.soft 1 (.soft 2 (.soft 3 (.soft 4 (.soft 5 (.soft 6 (.soft 7 (.soft 8 (.soft 9 (.soft 10 (.soft 11 (.soft 12 (.hard 13 (.soft 14 .nil))))))))))))))) (by kernel_rfl) (by kernel_rfl) (fun _ _ _ _ _ h => h) ⟨q0, q1, n2, iv, ik⟩ ?_
                repeat
                  first
                  | (refine scr_soft (by rfl) ?_ ?_ ?_ ?_
                     rotate_left
                     · simp [Region.wanted, yielded]; done
                     · intro w' hS
                       try obtain ⟨a1, a2, a3, a4, a5⟩ := hS
                       go_simp
                       try with_reducible rfl
                     simp only [Act.put, List.setIfInBounds_toArray, List.set_cons_zero, List.set_cons_succ])
                  | (refine scr_skip (by rfl) ?_ ?_
                     · simp [Region.wanted, yielded]; done
                     simp only [Act.put, List.setIfInBounds_toArray, List.set_cons_zero, List.set_cons_succ])
                refine scr_hard (by rfl) (by simp [Region.wanted, yielded]) (fun K hK => ?_)
                go_simp
                refine (Less_any (HM.out.chg (hc1.trans HC8.out.drew) (fun _ _ _ h => h)) y2 x).mono ?_
                rintro e w9 ⟨rfl, hc9'⟩
                refine hK _ _ ⟨hc9'.cell (fun h => h) q0, hc9'.cell (fun h => h) q1, hc9'.cell (fun h => h) n2, hc9'.cell (fun h => h) iv, hc9'.cell (fun h => h) ik⟩ ?_
                clear hK K
                repeat
                  first
                  | (refine scr_soft (by rfl) ?_ ?_ ?_ ?_
                     rotate_left
                     · simp [Region.wanted, yielded]; done
                     · intro w' hS
                       try obtain ⟨a1, a2, a3, a4, a5⟩ := hS
                       go_simp
                       try with_reducible rfl
                     simp only [Act.put, List.setIfInBounds_toArray, List.set_cons_zero, List.set_cons_succ])
                  | (refine scr_skip (by rfl) ?_ ?_
                     · simp [Region.wanted, yielded]; done
                     simp only [Act.put, List.setIfInBounds_toArray, List.set_cons_zero, List.set_cons_succ])
                refine scr_nil ?_
                have hc9 : Chg (fun _ _ => False) w1 w9 := (HC8.out.drew).trans hc9'
                replace q0 := ((Chg.refl (fun _ _ => False) _).drew.trans hc9').cell (fun h => h) q0
                replace q1 := ((Chg.refl (fun _ _ => False) _).drew.trans hc9').cell (fun h => h) q1
                replace n2 := ((Chg.refl (fun _ _ => False) _).drew.trans hc9').cell (fun h => h) n2
                clear hc9'
                cases hlt2 : ltM y2 x
                · go_wp2_with fail
                  go_meet
                  case rel => exact ⟨0, i, _, rfl, by go_num, rfl, Nat.zero_le _, by omega, fun j z hj hz => by omega, fun j z hj hz => srt_right swoM HS.out HY.out hlt hj hz, hc9⟩
                · go_wp2_with fail
                  go_step3
                  exact ⟨rfl, HintJ.intro i false rfl (hc1.trans hc9) (by have := HN.out; omega) (.inr ⟨rfl, by have := HN.out; omega, fun j z hj hz => srt_left swoM HS.out HY2.out hlt2 (by omega) hz, fun j z hj hz => srt_right swoM HS.out HY.out hlt hj hz⟩)⟩
      case rest =>
        obtain ⟨a0, b0, z0, rfl, rfl, hz0, hab0, hbN0, hA0, hB0, hcx1⟩ := hcut
        have HA0 := Lib.hid hA0
        have HB0 := Lib.hid hB0
        clear hA0 hB0 n2 q0 q1
        go_wp2_with fail
        go_loopw [12, 13, 14] (fun lo hi mid wr => ∃ (a b : Nat) (z : Int), lo = .int .i64 a ∧ hi = .int .i64 z ∧ z = (b : Int) - 1 ∧ a ≤ b ∧ b ≤ N ∧ (∀ j y, j < a → r.items[j]? = some y → ltM x y = false) ∧ (∀ j y, b ≤ j → r.items[j]? = some y → ltM x y = true) ∧ Chg (fun _ _ => False) w1 wr) (fun lo hi _ _ => (intOf hi + 1 - intOf lo).toNat)
        case atStart => exact ⟨a0, b0, z0, rfl, rfl, hz0, hab0, hbN0, HA0.out, HB0.out, hcx1⟩
        case round =>
          obtain ⟨a, b, z, rfl, rfl, hz, hab, hbN, hA, hB, hc⟩ := hrel
          have HA := Lib.hid hA
          have HB := Lib.hid hB
          have hcr := hc1.trans hc
          have hbx : wr.heap[w.heap.size]? = some (.cells #[.int .i64 x.1, .int .i64 x.2] 26 (0, 0)) := by rw [hc.block (heap_lt HB1.out) (fun _ h => h)]; exact HB1.out
          have hnx := H.out.chg hcr (fun _ _ _ h => h)
          have n2 := hnx.c2
          rw [HN.out] at n2
          have q0 := cell_of_block hbx 0
          have q1 := cell_of_block hbx 1
          simp only [List.getElem?_toArray, List.getElem?_cons_zero, List.getElem?_cons_succ] at q0 q1
          have HNX := Lib.hid hnx
          clear hA hB hbx hnx
          by_cases hab2 : a < b
          · obtain ⟨b, rfl⟩ : ∃ b', b = b' + 1 := ⟨b - 1, by omega⟩
            obtain rfl : z = (b : Int) := by omega
            obtain ⟨m, hm⟩ : ∃ m, a + (b + 1 - a) / 2 = m := ⟨_, rfl⟩
            obtain ⟨y, hy⟩ : ∃ y, r.items[m]? = some y := ⟨_, List.getElem?_eq_getElem (by have := HN.out; omega)⟩
            have iv := HNX.out.mval hy
            have ik := HNX.out.mkey hy
            have HY := Lib.hid hy
            have e1 : (a : Int) ≤ (b : Int) := by omega
            have m0 : (0 : Int) ≤ (m : Int) := by omega
            have m1 : (m : Int) < (N : Int) := by omega
            have hM : (a : Int) + ((b : Int) + 1 - (a : Int)) / 2 = (m : Int) := by omega
            clear hz hy
            go_wp2_with fail
            try rw [hM]
            clear hM
            refine wp_region_scr (fun w' => w'.cell? ⟨w.heap.size, 0, none⟩ = some (.int .i64 x.1) ∧ w'.cell? ⟨w.heap.size, 1, none⟩ = some (.int .i64 x.2) ∧ w'.cell? ⟨n, 2, none⟩ = some (.slice (some ⟨l.ib, l.io, none⟩) N l.ic) ∧ w'.cell? ⟨l.ib, l.io + (m) * 2, none⟩ = some (.int .i64 y.1) ∧ w'.cell? ⟨l.ib, l.io + (m) * 2 + 1, none⟩ = some (.int .i64 y.2)) (.soft 0 (.soft 1 (.soft 2 (.soft 3 (.soft 4 (.soft 5 (.soft 6 (.soft 7 (.soft 8 (.hard 9 (.soft 10 .nil))))))))))) (by kernel_rfl) (by kernel_rfl) (fun _ _ _ _ _ h => h) ⟨q0, q1, n2, iv, ik⟩ ?_
            repeat
              first
              | (refine scr_soft (by rfl) ?_ ?_ ?_ ?_
                 rotate_left
                 · simp [Region.wanted, yielded]; done
                 · intro w' hS
                   try obtain ⟨a1, a2, a3, a4, a5⟩ := hS
                   go_simp
                   try with_reducible rfl
                 simp only [Act.put, List.setIfInBounds_toArray, List.set_cons_zero, List.set_cons_succ])
              | (refine scr_skip (by rfl) ?_ ?_
                 · simp [Region.wanted, yielded]; done
                 simp only [Act.put, List.setIfInBounds_toArray, List.set_cons_zero, List.set_cons_succ])
            refine scr_hard (by rfl) (by simp [Region.wanted, yielded]) (fun K hK => ?_)
            go_simp
            refine (Less_any (HM.out.chg (hc1.trans hc.drew) (fun _ _ _ h => h)) x y).mono ?_
            rintro e w9 ⟨rfl, hc9'⟩
            refine hK _ _ ⟨hc9'.cell (fun h => h) q0, hc9'.cell (fun h => h) q1, hc9'.cell (fun h => h) n2, hc9'.cell (fun h => h) iv, hc9'.cell (fun h => h) ik⟩ ?_
            clear hK K
            repeat
              first
              | (refine scr_soft (by rfl) ?_ ?_ ?_ ?_
                 rotate_left
                 · simp [Region.wanted, yielded]; done
                 · intro w' hS
                   try obtain ⟨a1, a2, a3, a4, a5⟩ := hS
                   go_simp
                   try with_reducible rfl
                 simp only [Act.put, List.setIfInBounds_toArray, List.set_cons_zero, List.set_cons_succ])
              | (refine scr_skip (by rfl) ?_ ?_
                 · simp [Region.wanted, yielded]; done
                 simp only [Act.put, List.setIfInBounds_toArray, List.set_cons_zero, List.set_cons_succ])
            refine scr_nil ?_
            have hc9 : Chg (fun _ _ => False) w1 w9 := (hc.drew).trans hc9'
            replace q0 := ((Chg.refl (fun _ _ => False) _).drew.trans hc9').cell (fun h => h) q0
            replace q1 := ((Chg.refl (fun _ _ => False) _).drew.trans hc9').cell (fun h => h) q1
            replace n2 := ((Chg.refl (fun _ _ => False) _).drew.trans hc9').cell (fun h => h) n2
            clear hc9'
            cases hlt : ltM x y
            · go_wp2_with fail
              go_roundw
              case rel => exact ⟨m + 1, b + 1, (b : Int), by go_num, rfl, by omega, by omega, hbN, fun j z hj hz => srt_nright swoM HS.out HY.out hlt (by omega) hz, HB.out, hc9⟩
              case measure => simp [intOf]; omega
            · go_wp2_with fail
              go_roundw
              case rel => exact ⟨a, m, (m : Int) - 1, rfl, by go_num, rfl, by omega, by omega, HA.out, fun j z hj hz => srt_right swoM HS.out HY.out hlt hj hz, hc9⟩
              case measure => simp [intOf]; omega
          · obtain rfl : a = b := by omega
            have e1 : ¬ (a : Int) ≤ z := by omega
            rcases Nat.eq_zero_or_pos a with ha0 | ha0
            · have hgt : ¬ 0 < a := by omega
              have HZ := Lib.hid ha0
              clear ha0 hz
              go_wp2_with fail
              refine wp_region_scr (fun w' => True) (.soft 0 (.soft 1 (.soft 2 (.soft 3 (.soft 4 (.soft 5 (.soft 6 (.soft 7 (.soft 8 (.soft 9 (.soft 10 (.soft 11 (.soft 12 (.hard 13 (.soft 14 (.soft 15 .nil)))))))))))))))) (by kernel_rfl) (by kernel_rfl) (fun _ _ _ _ _ h => h) trivial ?_
              repeat
                first
                | (refine scr_soft (by rfl) ?_ ?_ ?_ ?_
                   rotate_left
                   · simp [Region.wanted, yielded]; done
                   · intro w' hS
                     try obtain ⟨a1⟩ := hS
                     go_simp
                     try with_reducible rfl
                   simp only [Act.put, List.setIfInBounds_toArray, List.set_cons_zero, List.set_cons_succ])
                | (refine scr_skip (by rfl) ?_ ?_
                   · simp [Region.wanted, yielded]; done
                   simp only [Act.put, List.setIfInBounds_toArray, List.set_cons_zero, List.set_cons_succ])
              refine scr_hard_skip (by rfl) (by simp [Region.wanted, yielded]) ?_
              simp only [Act.put, List.setIfInBounds_toArray, List.set_cons_zero, List.set_cons_succ]
              repeat
                first
                | (refine scr_soft (by rfl) ?_ ?_ ?_ ?_
                   rotate_left
                   · simp [Region.wanted, yielded]; done
                   · intro w' hS
                     try obtain ⟨a1⟩ := hS
                     go_simp
                     try with_reducible rfl
                   simp only [Act.put, List.setIfInBounds_toArray, List.set_cons_zero, List.set_cons_succ])
                | (refine scr_skip (by rfl) ?_ ?_
                   · simp [Region.wanted, yielded]; done
                   simp only [Act.put, List.setIfInBounds_toArray, List.set_cons_zero, List.set_cons_succ])
              refine scr_nil ?_
              go_wp2_with fail
              go_step3
              rename_i hK
              refine hK _ _ ?_
              refine HR.out _ _ ?_
              exact HintJ.intro a false rfl (hc1.trans hc).drew (by have := HN.out; omega) (.inr ⟨rfl, by have := HN.out; omega, fun j y h => by have := HZ.out; omega, HB.out⟩)
            · obtain ⟨y, hy⟩ : ∃ y, r.items[a - 1]? = some y := ⟨_, List.getElem?_eq_getElem (by have := HN.out; omega)⟩
              have iv := HNX.out.mval hy
              have ik := HNX.out.mkey hy
              have HY := Lib.hid hy
              have hcast2 : ((a : Int) - 1).toNat = a - 1 := by omega
              have s1 : (0 : Int) ≤ (a : Int) - 1 := by omega
              have s4 : (1 : Int) ≤ (a : Int) := by omega
              have s2 : (a : Int) - 1 < (N : Int) := by omega
              have s3 : IntKind.i64.wrap ((a : Int) - 1) = (a : Int) - 1 := IntWalk.i64_in _ (by omega)
              clear hz hy
              go_wp2_with fail
              refine wp_region_scr (fun w' => w'.cell? ⟨w.heap.size, 0, none⟩ = some (.int .i64 x.1) ∧ w'.cell? ⟨w.heap.size, 1, none⟩ = some (.int .i64 x.2) ∧ w'.cell? ⟨n, 2, none⟩ = some (.slice (some ⟨l.ib, l.io, none⟩) N l.ic) ∧ w'.cell? ⟨l.ib, l.io + (a - 1) * 2, none⟩ = some (.int .i64 y.1) ∧ w'.cell? ⟨l.ib, l.io + (a - 1) * 2 + 1, none⟩ = some (.int .i64 y.2)) (.soft 0 (.soft 1 (.soft 2 (.soft 3 (.soft 4 (.soft 5 (.soft 6 (.soft 7 (.soft 8 (.soft 9 (.soft 10 (.soft 11 (.soft 12 (.hard 13 (.soft 14 (.soft 15 .nil)))))))))))))))) (by kernel_rfl) (by kernel_rfl) (fun _ _ _ _ _ h => h) ⟨q0, q1, n2, iv, ik⟩ ?_
              repeat
                first
                | (refine scr_soft (by rfl) ?_ ?_ ?_ ?_
                   rotate_left
                   · simp [Region.wanted, yielded]; done
                   · intro w' hS
                     try obtain ⟨a1, a2, a3, a4, a5⟩ := hS
                     go_simp
                     try with_reducible rfl
                   simp only [Act.put, List.setIfInBounds_toArray, List.set_cons_zero, List.set_cons_succ])
                | (refine scr_skip (by rfl) ?_ ?_
                   · simp [Region.wanted, yielded]; done
                   simp only [Act.put, List.setIfInBounds_toArray, List.set_cons_zero, List.set_cons_succ])
              refine scr_hard (by rfl) (by simp [Region.wanted, yielded]) (fun K hK => ?_)
              go_simp
              refine (Less_any (HM.out.chg (hc1.trans hc.drew) (fun _ _ _ h => h)) y x).mono ?_
              rintro e w9 ⟨rfl, hc9'⟩
              refine hK _ _ ⟨hc9'.cell (fun h => h) q0, hc9'.cell (fun h => h) q1, hc9'.cell (fun h => h) n2, hc9'.cell (fun h => h) iv, hc9'.cell (fun h => h) ik⟩ ?_
              clear hK K
              repeat
                first
                | (refine scr_soft (by rfl) ?_ ?_ ?_ ?_
                   rotate_left
                   · simp [Region.wanted, yielded]; done
                   · intro w' hS
                     try obtain ⟨a1, a2, a3, a4, a5⟩ := hS
                     go_simp
                     try with_reducible rfl
                   simp only [Act.put, List.setIfInBounds_toArray, List.set_cons_zero, List.set_cons_succ])
                | (refine scr_skip (by rfl) ?_ ?_
                   · simp [Region.wanted, yielded]; done
                   simp only [Act.put, List.setIfInBounds_toArray, List.set_cons_zero, List.set_cons_succ])
              refine scr_nil ?_
              have hc9 : Chg (fun _ _ => False) w1 w9 := (hc.drew).trans hc9'
              replace q0 := ((Chg.refl (fun _ _ => False) _).drew.trans hc9').cell (fun h => h) q0
              replace q1 := ((Chg.refl (fun _ _ => False) _).drew.trans hc9').cell (fun h => h) q1
              replace n2 := ((Chg.refl (fun _ _ => False) _).drew.trans hc9').cell (fun h => h) n2
              clear hc9'
              have hnl := HA.out (a - 1) y (by omega) HY.out
              cases hlt : ltM y x
              · go_wp2_with fail
                have e : (a : Int) - 1 = ((a - 1 : Nat) : Int) := by omega
                rw [e]
                go_step3
                rename_i hK
                refine hK _ _ ?_
                refine HR.out _ _ ?_
                exact HintJ.intro (a - 1) true rfl (hc1.trans hc9) (by have := HN.out; omega) (.inl ⟨rfl, y, HY.out, fun j z hj hz => swoM.lt_of_lt_of_nlt (srt_get HS.out hj hz HY.out) hnl, hlt, hnl⟩)
              · go_wp2_with fail
                go_step3
                rename_i hK
                refine hK _ _ ?_
                refine HR.out _ _ ?_
                exact HintJ.intro a false rfl (hc1.trans hc9) (by have := HN.out; omega) (.inr ⟨rfl, by have := HN.out; omega, fun j z hj hz => srt_left swoM HS.out HY.out hlt (by omega) hz, HB.out⟩)
end Go.Proofs.Ytojplcbkiogcpaa

namespace Go.Proofs.Ytojplcbkiogcpaa
set_option linter.unusedSimpArgs false
set_option linter.unusedVariables false
open Go.RowKit

/-- A hint's place, or none. -/
def hintV (hv : Option Nat) : Value := .pointer (hv.map fun b => ⟨b, 0, none⟩)
def HintO (hv : Option Nat) (w : World) : Prop := ∀ b, hv = some b → HintB b w

theorem HintO.chg {A : Nat → Nat → Prop} {hv : Option Nat} {w w' : World} (h : HintO hv w) (c : Chg A w w') (hA : ∀ b o, hv = some b → ¬ A b o) : HintO hv w' :=
  fun b hb => (h b hb).chg c (fun o => hA b o hb)
theorem HintO.keep {hv : Option Nat} {w w' : World} (h : HintO hv w) (c : Chg (fun _ _ => False) w w') : HintO hv w' := h.chg c (fun _ _ _ h => h)
theorem HintO.lt {hv : Option Nat} {w : World} (h : HintO hv w) {b : Nat} (hb : hv = some b) : b < w.heap.size := (h b hb).lt
theorem HintO.none (w : World) : HintO none w := fun b hb => by cases hb

/-- What a search gives. -/
def SrchO {ord : List Int} (hv : Option Nat) (xs : List (It ord)) (x : It ord) (w : World) (e : Ending) (w' : World) : Prop :=
  ∃ (i : Nat) (f : Bool), e = .returned (.tuple #[.int .i64 i, .bool f]) ∧ Chg (fun b _ => hv = some b) w w' ∧ HintO hv w' ∧ ((f = true ∧ ∃ y, HitAt ltM xs x i y) ∨ (f = false ∧ PosAt ltM xs x i))

set_option maxRecDepth 100000 in
theorem find_o {ord : List Int} {k : Kc ord} {mn mx : Nat} {w : World} {n : Nat} {r : NodeR (It ord)} {l : Lay} (hv : Option Nat) (t d : Nat) (x : It ord) (hm : MapAt k mn mx w t) (h : NodeAt (parM k) w n r l) (hs : Srt ltM r.items) (hlen : r.items.length ≤ 1000000) (hpos : 1 ≤ r.items.length) (hh : HintO hv w) (hd : d ≤ 1000000000000) :
    Calls Try.prog 123 #[.pointer (some ⟨t, 0, none⟩), .pointer (some ⟨n, 0, none⟩), aggM x, hintV hv, .int .i64 d] w (SrchO hv r.items x w) := by
  rcases hv with _ | hb
  · refine (find_any t x (d : Int) hm h hs hlen).mono ?_
    rintro e w' ⟨i, f, rfl, hc, hf⟩
    exact ⟨i, f, rfl, hc.mono (fun _ _ _ h => h.elim), HintO.none _, hf⟩
  · have HS := Lib.hid (fun (w1 : World) (c : Chg (fun _ _ => False) w w1) => hintsearch_any t hb d x (hm.chg c (fun _ _ _ h => h)) (h.chg c (fun _ _ _ h => h)) hs hlen hpos ((hh hb rfl).chg c (fun _ h => h)) hd)
    clear hm h hs hh
    unfold aggM at HS ⊢
    unfold SrchH at HS
    show Calls _ _ #[_, _, _, .pointer (some ⟨hb, 0, none⟩), _] _ _
    go_enter Try.func123, Try.ntmps123
    go_wp2_with fail
    refine (HS.out _ ((Chg.refl _ _).alloc _)).mono ?_
    rintro e w2 ⟨i, f, rfl, hc, hb2, hf⟩
    have HB2 := Lib.hid hb2
    have HF := Lib.hid hf
    clear hb2 hf
    go_wp2_with fail
    go_ret2
    refine ⟨i, f, rfl, ?_, fun b e => by obtain rfl := Option.some.inj e; exact HB2.out, by simpa using HF.out⟩
    exact ((Chg.refl (fun b _ => some hb = some b) w).alloc (.cells #[.int .i64 x.1, .int .i64 x.2] 26)).trans (hc.mono (fun b o _ e => by rw [e]))

/-- The hint lies apart from what the keeping function changes, and from its own variables. -/
def HintK (hv : Option Nat) (ob b2 b3 rb : Nat) : Prop := ∀ b, hv = some b → b ≠ ob ∧ b ≠ b2 ∧ b ≠ b3 ∧ b < rb

/-- What a walk with a hint and the keeping function changes. -/
def HT (hv : Option Nat) (ob rb b : Nat) : Prop := TakeB ob rb b ∨ hv = some b

theorem HintK.take {hv : Option Nat} {ob b2 b3 rb b : Nat} (h : HintK hv ob b2 b3 rb) (hb : hv = some b) : ¬ TakeB ob rb b := by
  obtain ⟨h1, _, _, h4⟩ := h b hb
  rintro (e | e)
  · exact h1 e
  · omega

theorem Kept.hint {hv : Option Nat} {n : Int} {ob b2 b3 rb : Nat} {w w' : World} {acc : List (Int × Int)} (h : Kept n ob b2 b3 rb w acc) (hk : HintK hv ob b2 b3 rb) (c : Chg (fun b _ => hv = some b) w w') : Kept n ob b2 b3 rb w' acc := by
  obtain ⟨⟨v, h1, h2⟩, p2, p3, l0, l2, l3, n2, n3, hr⟩ := h
  have hb : ∀ {b : Nat} {o : Obj}, ¬ hv = some b → w.heap[b]? = some o → w'.heap[b]? = some o := fun hn h => by rw [c.block (heap_lt h) (fun _ => hn)]; exact h
  refine ⟨⟨v, hb (fun e => (hk _ e).1 rfl) h1, h2.chgOwn c (fun b _ hb e => ?_)⟩, hb (fun e => (hk _ e).2.1 rfl) p2, hb (fun e => (hk _ e).2.2.1 rfl) p3, l0, l2, l3, n2, n3, Nat.le_trans hr c.size⟩
  have h5 := (h2.own_lt hb).1
  have h6 := (hk _ e).2.2.2
  omega
end Go.Proofs.Ytojplcbkiogcpaa

namespace Go.Proofs.Ytojplcbkiogcpaa
set_option linter.unusedSimpArgs false
set_option linter.unusedVariables false
open Go.RowKit

def OwnPostI (xs : List (Int × Int)) (w : World) (e : Ending) (w' : World) : Prop := ∃ v, e = .returned v ∧ OwnE itemE w' v xs w.heap.size ∧ Chg (fun _ _ => False) w w'

theorem MapIn.blk {ord : List Int} {k : Kc ord} {mn mx : Nat} {w : World} {F : Nat → Prop} {t : Nat} {l : List (It ord)} (h : MapIn k mn mx w F t l) : ∃ root, MapBlk k mn mx w t root l.length := by
  rcases h with ⟨rfl, _, hB⟩ | ⟨H, h, T, _, hB, rfl, _⟩
  · exact ⟨none, hB⟩
  · exact ⟨_, hB⟩

theorem MapIn.flt {ord : List Int} {k : Kc ord} {mn mx : Nat} {w : World} {F : Nat → Prop} {t : Nat} {l : List (It ord)} (hM : MapIn k mn mx w F t l) : ∀ b, F b → b < w.heap.size := by
  intro b hb
  rcases hM with ⟨_, h, _⟩ | ⟨H, h, T, hI, _⟩
  · exact absurd hb (h b)
  · exact hI.fam.lt hb

theorem Len_any {ord : List Int} {k : Kc ord} {mn mx : Nat} {w : World} {F : Nat → Prop} {t : Nat} {l : List (It ord)} (hM : MapIn k mn mx w F t l) :
    Calls Try.prog 112 #[.pointer (some ⟨t, 0, none⟩)] w fun e w' => e = .returned (.int .i64 l.length) ∧ w = w' := by
  obtain ⟨root, hB⟩ := hM.blk
  have c3 := hB.c3
  clear hB hM
  go_enter Try.func112, Try.ntmps112
  go_wp2
  go_ret
  exact ⟨rfl, rfl⟩

theorem made_items (n : Nat) (w : World) (hn : n ≤ 1000000000000) : (Instr.makeSlice 31 (.int .i64 0) (.int .i64 n)).run Try.prog w = .ok (.slice (some ⟨w.heap.size, 0, none⟩) 0 n) (w.alloc (.cells (madeCells #[.int .i64 0, .int .i64 0] (n * 2)) 26)) := by
  obtain ⟨i0, hi0, hz0, hz1, hz2⟩ := info_parts infoItem
  have h := run_make (P := Try.prog) w 31 26 i0 _ Try.underlying31 hi0 hz0 .i64 .i64 0 (n : Int) (by omega) (by omega) (by rw [hz2]; omega) (by omega)
  rw [h, hz1]
  simp [Value.cells]

theorem own_made (n : Nat) (w : World) : OwnE itemE (w.alloc (.cells (madeCells #[.int .i64 0, .int .i64 0] (n * 2)) 26)) (.slice (some ⟨w.heap.size, 0, none⟩) 0 n) [] w.heap.size := by
  refine .inr ⟨w.heap.size, 0, n, rfl, Nat.zero_le _, Nat.le_refl _, RowAt.of_block (ha_at _ _ rfl) _ _ (by simp [flat]) ?_ (by simp [flat])⟩
  simp [madeCells, itemE]

set_option maxRecDepth 100000 in
theorem items_any {ord : List Int} {k : Kc ord} {mn mx : Nat} {w : World} {F : Nat → Prop} {t : Nat} {l : List (It ord)} (mt : Bool) (hM : MapIn k mn mx w F t l) (hmn : 1 ≤ mn) (hlen : l.length ≤ 1000000000000) :
    Calls Try.prog 86 #[.pointer (some ⟨t, 0, none⟩), .bool mt] w (OwnPostI l w) := by
  have hF := hM.flt
  have htw : t < w.heap.size := hM.own MOwn.self
  have hL := Len_any hM
  obtain ⟨n, hn⟩ : ∃ n, l.length = n := ⟨_, rfl⟩
  rw [hn] at hL hlen
  have HN := Lib.hid hn
  clear hn
  have hmk := fun w' => made_items n w' hlen
  have hca : Chg (fun _ _ => False) w (w.alloc (.cells (madeCells #[.int .i64 0, .int .i64 0] (n * 2)) 26)) := (Chg.refl _ _).alloc _
  have hown := own_made n w
  have HOWN := Lib.hid hown
  clear hown
  rcases hM.chg hca with ⟨rfl, _, hB⟩ | ⟨H, h, T, hI, hB, rfl, h1⟩
  · have c2 : (w.alloc (.cells (madeCells #[.int .i64 0, .int .i64 0] (n * 2)) 26)).cell? ⟨t, 2, none⟩ = some (.pointer none) := hB.c2
    clear hB
    go_enter Try.func86, Try.ntmps86
    go_wp2_with fail
    refine (lock_any t mt _).mono ?_
    rintro e w' ⟨rfl, rfl⟩
    go_wp2_with fail
    refine hL.mono ?_
    rintro e w' ⟨rfl, rfl⟩
    go_wp2_with fail
    go_ret
    exact ⟨_, rfl, HOWN.out, hca⟩
  · have c2 : (w.alloc (.cells (madeCells #[.int .i64 0, .int .i64 0] (n * 2)) 26)).cell? ⟨t, 2, none⟩ = some (.pointer (some ⟨rid T, 0, none⟩)) := hB.c2
    have c0 := hB.at_.c0
    have hk := items_all ord h k mn mx _ F H T t ⟨t, 2, none⟩ mt _ [] w.heap.size hI.fam hI.isT hI.sh h1 hmn HOWN.out hca.size hF htw c0 c2 (by rw [HN.out]; simpa using hlen)
    have HK := Lib.hid hk
    clear hk hB
    go_enter Try.func86, Try.ntmps86
    go_wp2_with fail
    refine (lock_any t mt _).mono ?_
    rintro e w' ⟨rfl, rfl⟩
    go_wp2_with fail
    refine hL.mono ?_
    rintro e w' ⟨rfl, rfl⟩
    go_wp2_with fail
    refine HK.out.mono ?_
    rintro e w2 ⟨v2, rfl, how2, hc2⟩
    go_wp2_with fail
    go_ret
    exact ⟨v2, rfl, how2, hca.trans' hc2 (fun _ _ _ h => h) (fun b o hb h => by omega)⟩

theorem ItemsMut_any {ord : List Int} {k : Kc ord} {mn mx : Nat} {w : World} {F : Nat → Prop} {t : Nat} {l : List (It ord)} (hM : MapIn k mn mx w F t l) (hmn : 1 ≤ mn) (hlen : l.length ≤ 1000000000000) :
    Calls Try.prog 81 #[.pointer (some ⟨t, 0, none⟩)] w (OwnPostI l w) := by
  have HK := Lib.hid (items_any true hM hmn hlen)
  clear hM
  go_enter Try.func81, Try.ntmps81
  go_wp2_with fail
  refine HK.out.mono ?_
  rintro e w1 ⟨v1, rfl, h1, h2⟩
  go_wp2_with fail
  go_ret
  exact ⟨v1, rfl, h1, h2⟩

set_option maxRecDepth 100000 in
theorem GItemsMut_any {ord : List Int} (sv : Value) (d : Int) (nl : Bool) (p : Option Addr) (cap : Nat) (l : List (It ord)) (w : World) (hs : SlE intE w sv ord) (hol : ord.length ≤ 2147483647) (hd : FitD d) (hl : ItemsAt w p l) (hlen : l.length ≤ 2147483647) :
    Calls Try.prog 51 #[.agg #[sv, .int .i64 d, .bool nl], .slice p l.length cap] w (OwnPostI (growL l) w) := by
  have HG := Lib.hid (fun w1 (c : Chg (fun _ _ => False) w w1) => grow_any (ord := ord) sv d nl p cap l w1 hd (hs.chg c) hol (hl.chg c) hlen)
  have hdim := hd.dims.1
  unfold GrowPost at HG
  have hgl := growL_take_len l l.length
  rw [List.take_length] at hgl
  have HGL := Lib.hid hgl
  obtain ⟨sa, sc, rfl⟩ : ∃ a c, sv = .slice a ord.length c := hs.form
  clear hs hl hgl
  go_enter Try.func51, Try.ntmps51
  go_wp2_with fail
  refine (HG.out _ ((Chg.refl _ _).alloc _)).mono ?_
  rintro e w2 ⟨k, t, F, rfl, hM, hc2, _, _⟩
  go_wp2_with fail
  refine (ItemsMut_any hM hdim (by have := HGL.out; omega)).mono ?_
  rintro e w3 ⟨v, rfl, how, hc3⟩
  have hc0 := (((Chg.refl (fun _ _ => False) w).alloc _)).trans hc2
  go_wp2_with fail
  go_ret
  exact ⟨v, rfl, how.mono hc0.size, hc0.trans hc3⟩

set_option maxRecDepth 100000 in
theorem gItemsMut_any {ord : List Int} (sv : Value) (d : Int) (nl : Bool) (p : Option Addr) (cap : Nat) (l : List (It ord)) (w : World) (hs : SlE intE w sv ord) (hol : ord.length ≤ 2147483647) (hd : FitD d) (hl : ItemsAt w p l) (hlen : l.length ≤ 2147483647) :
    Calls Try.prog 21 #[.agg #[sv, .int .i64 d, .bool nl], .slice p l.length cap] w fun e w' => e = .returned (.bool true) ∧ Chg (fun _ _ => False) w w' := by
  have HM := Lib.hid (fun w1 (c : Chg (fun _ _ => False) w w1) => GItemsMut_any sv d nl p cap l w1 (hs.chg c) hol hd (hl.chg c) hlen)
  have HT := Lib.hid (fun w1 (c : Chg (fun _ _ => False) w w1) => tree_any sv (rkL ord) p cap l w1 (rank_list sv ord w1 (hs.chg c) hol) (hl.chg c) hlen)
  rw [growL_tree] at HM
  have hlen2 := treeL_len (ltR (rkL ord)) l
  unfold TreePost at HT
  generalize treeL (ltR (rkL ord)) l = L at HM HT hlen2
  obtain ⟨sa, sc, rfl⟩ : ∃ a c, sv = .slice a ord.length c := hs.form
  clear hs hl
  go_enter Try.func21, Try.ntmps21
  go_wp2_with fail
  refine (HM.out _ ((Chg.refl _ _).alloc _)).mono ?_
  rintro e w1 ⟨v1, rfl, how1, hc1⟩
  have hb0 : w1.heap[w.heap.size]? = some (.cells #[.slice sa ord.length sc, .int .i64 d, .bool nl] 24 (0, 0)) := by rw [hc1.block (by simp) (fun _ h => h)]; exact ha_at _ _ rfl
  have m0 := cell_of_block hb0 0
  simp only [List.getElem?_toArray, List.getElem?_cons_zero, List.getElem?_cons_succ] at m0
  have hc01 := ((Chg.refl (fun _ _ => False) w).alloc (.cells #[.slice sa ord.length sc, .int .i64 d, .bool nl] 24)).trans hc1
  clear hb0
  go_wp2_with fail
  refine (HT.out _ hc01).mono ?_
  rintro e w2 ⟨v2, rfl, hv2, hc2⟩
  obtain ⟨q, cap2, rfl, hi, hcap⟩ := hv2.items
  go_wp2_with fail
  refine (equal_item _ _ _ _ (how1.sl.chg hc2) (hi.sl hcap) (by omega)).mono ?_
  rintro e w3 ⟨rfl, hc3⟩
  go_wp2_with fail
  go_ret
  exact ⟨rfl, (hc01.trans hc2).trans hc3⟩

set_option maxRecDepth 100000 in
theorem law_ExactGItemsMut (sv : Value) (os : List Int) (d : Int) (nl : Bool) (p : Option Addr) (cap : Nat) (l : List (Int × Int)) (w : World) (hs : SlE intE w sv os) (hl : ItemsAt w p l) :
    Calls Try.prog 5 #[.agg #[sv, .int .i64 d, .bool nl], .slice p l.length cap] w fun e w' => e = .returned (.bool true) ∧ Chg (fun _ _ => False) w w' := by
  obtain ⟨sa, sc, rfl⟩ : ∃ a c, sv = .slice a os.length c := hs.form
  have hz := fun w1 => zzFits1_any sa os.length sc d nl w1
  by_cases hol : os.length ≤ 2147483647
  rotate_left
  · rw [decide_eq_false hol] at hz
    go_enter Try.func5, Try.ntmps5
    go_wp2_with fail
    refine name_calls (fun w1 => Chg (fun _ _ => False) w w1) (((Chg.refl _ _).alloc _)) ?_
    intro w1 hc1
    refine (hz w1).mono ?_
    rintro e w2 ⟨rfl, hc2⟩
    go_wp2_with fail
    go_ret
    exact ⟨rfl, hc1.trans hc2⟩
  rw [decide_eq_true hol] at hz
  by_cases hlen : l.length ≤ 2147483647
  rotate_left
  · have hlen' : 2147483647 < l.length := by omega
    go_enter Try.func5, Try.ntmps5
    go_wp2_with fail
    refine name_calls (fun w1 => Chg (fun _ _ => False) w w1) (((Chg.refl _ _).alloc _)) ?_
    intro w1 hc1
    refine (hz w1).mono ?_
    rintro e w2 ⟨rfl, hc2⟩
    go_wp2_with fail
    go_ret
    exact ⟨rfl, hc1.trans hc2⟩
  have hn : ¬ 2147483647 < l.length := by omega
  have HEX := Lib.hid (fun q w1 (hq : ItemsAt w1 q exL) => gItemsMut_any (ord := []) (.slice none 0 0) 2 false q 7 exL w1 ⟨none, 0, rfl, Nat.le_refl _, .inl rfl⟩ (by simp) (.inr ⟨by omega, by omega⟩) hq (by decide))
  have HG := Lib.hid (fun hd w1 (c : Chg (fun _ _ => False) w w1) => gItemsMut_any (ord := os) (.slice sa os.length sc) d nl p cap l w1 (hs.chg c) hol hd (hl.chg c) hlen)
  clear hs hl
  have q1 : exL.length = 7 := rfl
  go_enter Try.func5, Try.ntmps5
  go_wp2_with fail
  refine name_calls (fun w1 => Chg (fun _ _ => False) w w1 ∧ w1.heap[w.heap.size]? = some (.cells #[.slice sa os.length sc, .int .i64 d, .bool nl] 24 (0, 0))) ⟨((Chg.refl _ _).alloc _), ha_at _ _ rfl⟩ ?_
  rintro w1 ⟨hc1, hb0⟩
  have m0 := cell_of_block hb0 0
  have m1 := cell_of_block hb0 1
  have m2 := cell_of_block hb0 2
  simp only [List.getElem?_toArray, List.getElem?_cons_zero, List.getElem?_cons_succ] at m0 m1 m2
  clear hb0
  refine (hz w1).mono ?_
  rintro e w2 ⟨rfl, hc2⟩
  replace m0 := hc2.cell (fun h => h) m0
  replace m1 := hc2.cell (fun h => h) m1
  replace m2 := hc2.cell (fun h => h) m2
  go_wp2_with fail
  refine (exMake_any _).mono ?_
  rintro e w3 ⟨rfl, hc3⟩
  replace m0 := hc3.cell (fun h => h) m0
  replace m1 := hc3.cell (fun h => h) m1
  replace m2 := hc3.cell (fun h => h) m2
  go_wp2_with fail
  refine (exItems_any _).mono ?_
  rintro e w4 ⟨q, rfl, hq, hc4⟩
  replace m0 := hc4.cell (fun h => h) m0
  replace m1 := hc4.cell (fun h => h) m1
  replace m2 := hc4.cell (fun h => h) m2
  go_wp2_with fail
  refine (HEX.out q _ hq).mono ?_
  rintro e w5 ⟨rfl, hc5⟩
  replace m0 := hc5.cell (fun h => h) m0
  replace m1 := hc5.cell (fun h => h) m1
  replace m2 := hc5.cell (fun h => h) m2
  have hc04 := (((hc1.trans hc2).trans hc3).trans hc4).trans hc5
  by_cases hd : FitD d
  · go_wp2_with fail
    refine (fits_fit d _ hd).mono ?_
    rintro e w' ⟨rfl, rfl⟩
    go_wp2_with fail
    refine (HG.out hd _ hc04).mono ?_
    rintro e w5 ⟨rfl, hc5⟩
    go_wp2_with fail
    go_ret
    exact ⟨rfl, hc04.trans hc5⟩
  · go_wp2_with fail
    refine (fits_not d _ hd).mono ?_
    rintro e w' ⟨rfl, rfl⟩
    go_wp2_with fail
    go_ret
    exact ⟨rfl, hc04⟩
end Go.Proofs.Ytojplcbkiogcpaa

namespace Go.Proofs.Ytojplcbkiogcpaa
set_option linter.unusedSimpArgs false
set_option linter.unusedVariables false
open Go.RowKit

def RunEnd (n : Int) (ob b2 b3 rb : Nat) (acc l : List (Int × Int)) (w : World) (e : Ending) (w' : World) : Prop :=
  e = .returned (.tuple #[]) ∧ Kept n ob b2 b3 rb w' (runL (contN n) acc l).1 ∧ Chg (fun b _ => TakeB ob rb b) w w'

theorem reverse_any {ord : List Int} {k0 : Kc ord} {mn mx : Nat} {w : World} {F : Nat → Prop} {t : Nat} {l : List (It ord)} (mt : Bool) {n : Int} {ob b2 b3 rb : Nat} {acc : List (It ord)} (hM : MapIn k0 mn mx w F t l) (hK : Kept n ob b2 b3 rb w acc) (hFb : ∀ b, F b → ¬ TakeB ob rb b) (htb : ¬ TakeB ob rb t) (hlen : acc.length + l.length ≤ 1000000000000) :
    Calls Try.prog 114 #[.pointer (some ⟨t, 0, none⟩), fnG b2 b3, .bool mt] w (RunEnd n ob b2 b3 rb acc l.reverse w) := by
  rcases hM with ⟨rfl, _, hB⟩ | ⟨H, h, T, hI, hB, rfl, h1⟩
  · have c2 : w.cell? ⟨t, 2, none⟩ = some (.pointer none) := hB.c2
    have HK := Lib.hid hK
    clear hK hB
    unfold fnG
    go_enter Try.func114, Try.ntmps114
    go_wp2_with fail
    refine (lock_any t mt _).mono ?_
    rintro e w' ⟨rfl, rfl⟩
    go_wp2
    go_end0
    exact ⟨rfl, HK.out, Chg.refl _ _⟩
  · have c2 : w.cell? ⟨t, 2, none⟩ = some (.pointer (some ⟨rid T, 0, none⟩)) := hB.c2
    have hr := rev_all ord h k0 mn mx w F H T t ⟨t, 2, none⟩ mt n ob b2 b3 rb acc hI.fam hI.isT hI.sh c2 hB.at_.c0 hK hFb htb hlen
    unfold fnG at hr ⊢
    have HR := Lib.hid hr
    clear hr hK hB
    go_enter Try.func114, Try.ntmps114
    go_wp2_with fail
    refine (lock_any t mt _).mono ?_
    rintro e w' ⟨rfl, rfl⟩
    go_wp2_with fail
    refine HR.out.mono ?_
    rintro e w1 ⟨rfl, h1, h2⟩
    go_wp2_with fail
    go_end0
    exact ⟨rfl, h1, h2⟩

theorem ReverseMut_any {ord : List Int} {k0 : Kc ord} {mn mx : Nat} {w : World} {F : Nat → Prop} {t : Nat} {l : List (It ord)} {n : Int} {ob b2 b3 rb : Nat} {acc : List (It ord)} (hM : MapIn k0 mn mx w F t l) (hK : Kept n ob b2 b3 rb w acc) (hFb : ∀ b, F b → ¬ TakeB ob rb b) (htb : ¬ TakeB ob rb t) (hlen : acc.length + l.length ≤ 1000000000000) :
    Calls Try.prog 88 #[.pointer (some ⟨t, 0, none⟩), fnG b2 b3] w (RunEnd n ob b2 b3 rb acc l.reverse w) := by
  have hr := reverse_any true hM hK hFb htb hlen
  unfold fnG at hr ⊢
  have HR := Lib.hid hr
  clear hr hK
  go_enter Try.func88, Try.ntmps88
  go_wp2_with fail
  refine HR.out.mono ?_
  rintro e w1 ⟨rfl, h1, h2⟩
  go_wp2_with fail
  go_end0
  exact ⟨rfl, h1, h2⟩

set_option maxRecDepth 100000 in
theorem GReverseMut_any {ord : List Int} (sv : Value) (d : Int) (nl : Bool) (p : Option Addr) (cap : Nat) (l : List (It ord)) (n : Int) (w : World) (hs : SlE intE w sv ord) (hol : ord.length ≤ 2147483647) (hd : FitD d) (hl : ItemsAt w p l) (hlen : l.length ≤ 2147483647) :
    Calls Try.prog 58 #[.agg #[sv, .int .i64 d, .bool nl], .slice p l.length cap, .int .i64 n] w (OwnPostI (firstN n (growL l).reverse) w) := by
  have HGR := Lib.hid (fun w1 (c : Chg (fun _ _ => False) w w1) => grow_any (ord := ord) sv d nl p cap l w1 hd (hs.chg c) hol (hl.chg c) hlen)
  unfold GrowPost at HGR
  have hgl := growL_take_len l l.length
  rw [List.take_length] at hgl
  have HGL := Lib.hid hgl
  obtain ⟨sa, sc, rfl⟩ : ∃ a c, sv = .slice a ord.length c := hs.form
  clear hgl hl hs
  go_enter Try.func58, Try.ntmps58
  go_wp2_with fail
  refine name_calls (fun w1 => Chg (fun _ _ => False) w w1 ∧ w1.heap[w.heap.size + 1]? = some (.cells #[.slice none 0 0] 31 (0, 0))) ⟨((Chg.refl _ _).alloc _).alloc _, ha_at _ _ (by simp)⟩ ?_
  rintro w1 ⟨hc1, hb1⟩
  refine (HGR.out _ hc1).mono ?_
  rintro e w2 ⟨k0, t, F, rfl, hM, hc2, hF2, ho2⟩
  have hb2 : w2.heap[w.heap.size + 1]? = some (.cells #[.slice none 0 0] 31 (0, 0)) := by rw [hc2.block (heap_lt hb1) (fun _ h => h)]; exact hb1
  have hlt1 := heap_lt hb1
  have hk := taker_kept (n := n) hb2
  have HKT := Lib.hid hk
  clear hk hb1 hb2
  go_wp2_with fail
  refine (taker_any (w.heap.size + 1) n w2).mono ?_
  rintro e w3 ⟨rfl, hw3⟩
  have hk : Kept n (w.heap.size + 1) w2.heap.size (w2.heap.size + 1) w3.heap.size w3 [] := by rw [hw3]; exact HKT.out
  have hc3 : Chg (fun _ _ => False) w2 w3 := by rw [hw3]; exact ((Chg.refl _ _).alloc _).alloc _
  clear hw3 HKT
  have hsz3 := hc3.size
  have hM3 := hM.chg hc3
  have hTb : ∀ b, F b → ¬ TakeB (w.heap.size + 1) w3.heap.size b := by
    rintro b hb (h | h)
    · have := hF2 b hb; omega
    · have := hM3.flt b hb; omega
  have htb : ¬ TakeB (w.heap.size + 1) w3.heap.size t := by
    rintro (h | h)
    · have := ho2 t MOwn.self; omega
    · have := hM3.own MOwn.self; omega
  have hr := ReverseMut_any hM3 hk hTb htb (by have := HGL.out; simp; omega)
  unfold fnG at hr
  have HR := Lib.hid hr
  clear hr hk
  go_wp2_with fail
  refine HR.out.mono ?_
  rintro e w4 ⟨rfl, hk4, hc4⟩
  rw [runL_first] at hk4
  obtain ⟨⟨v, g1, g2⟩, _⟩ := hk4
  have kk0 := cell_of_block g1 0
  simp only [List.getElem?_toArray, List.getElem?_cons_zero] at kk0
  clear g1
  go_wp2_with fail
  go_ret
  have hc03 := (hc1.trans hc2).trans hc3
  exact ⟨v, rfl, g2.mono hc03.size, hc03.trans' hc4 (fun _ _ _ h => h) (fun b o hb h => by rcases h with h | h <;> omega)⟩

/-! spec -/
set_option maxRecDepth 100000 in
theorem Turned_any (v : Value) (xs : List (Int × Int)) (w : World) (h : SlE itemE w v xs) (hlen : xs.length ≤ 2147483648) :
    Calls Try.prog 90 #[v] w (OwnPostI xs.reverse w) := by
  obtain ⟨a, cap, rfl⟩ := h.form
  have HS := Lib.hid h
  clear h
  obtain ⟨i0, hi0, hz0, hz1, hz2⟩ := info_parts infoItem
  go_enter Try.func90, Try.ntmps90
  go_wp2
  go_loopw [3, 4] (fun v i wr => ∃ (k : Nat) (z : Int), i = .int .i64 z ∧ z = (k : Int) - 1 ∧ k ≤ xs.length ∧ OwnE itemE wr v (xs.reverse.take (xs.length - k)) w.heap.size ∧ Chg (fun _ _ => False) w wr) (fun _ i _ => (intOf i + 1).toNat)
  case atStart => exact ⟨xs.length, _, rfl, rfl, Nat.le_refl _, by rw [Nat.sub_self]; exact OwnE.nil _ _ _, Chg.refl _ _⟩
  case round =>
    obtain ⟨k, z, rfl, hz, hk, how, hc⟩ := hrel
    have hsz := hc.size
    rcases k with _ | k
    · have hz0 : ¬ (0 : Int) ≤ z := by omega
      clear hz
      go_wp2
      go_ret
      exact ⟨_, rfl, by rw [List.take_of_length_le (by simp)] at how; exact how, hc⟩
    · obtain rfl : z = (k : Int) := by omega
      obtain ⟨x, hx⟩ : ∃ x, xs[k]? = some x := ⟨_, List.getElem?_eq_getElem (by omega)⟩
      obtain ⟨b, o, rfl, g0, g1⟩ := (HS.out.chg hc).item hx
      have ht : xs.reverse.take (xs.length - k) = xs.reverse.take (xs.length - (k + 1)) ++ [x] := by
        have e : xs.length - k = (xs.length - (k + 1)) + 1 := by omega
        rw [e, List.take_add_one, List.getElem?_reverse (by omega)]
        have : xs.length - 1 - (xs.length - (k + 1)) = k := by omega
        rw [this, hx]; rfl
      have hll : (xs.reverse.take (xs.length - (k + 1))).length ≤ xs.length := by simp
      have HT := Lib.hid ht
      have HLL := Lib.hid hll
      clear hx ht hz hll
      have i0' : (0 : Int) ≤ (k : Int) := by omega
      have i1 : (k : Int) < (xs.length : Int) := by omega
      have hc2 : Chg (fun _ _ => False) w (wr.alloc (.cells #[.int .i64 x.1, .int .i64 x.2] 26)) := hc.alloc _
      have how2 := how.keep ((Chg.refl (fun _ _ => False) wr).alloc (.cells #[.int .i64 x.1, .int .i64 x.2] 26))
      have HOW := Lib.hid how2
      clear how how2
      go_wp2_with (refine wpList_append_E itemE (by rfl) _ _ _ (by rfl) i0 _ 16 Try.underlying31 hi0 hz0 hz1 hz2 rfl _ (by rfl) _ w.heap.size HOW.out hc2.size ⟨wr.heap.size, 0, none⟩ 1 _ (by rfl) [x] rfl (by decide) ?_ ?_ ?_ ?_)
      · exact El.src1 itemE (c := #[.int .i64 x.1, .int .i64 x.2]) (ha_at _ _ (by simp)) _ rfl
      · have := HLL.out; unfold maxLen; omega
      · have := HLL.out; omega
      intro v' w' h1 h2 _
      have hc3 : Chg (fun _ _ => False) w w' := hc2.trans' h2 (fun _ _ _ h => h) (fun b o hb h => by omega)
      go_wp2
      go_roundw
      case rel => exact ⟨k, (k : Int) - 1, by go_num, rfl, by omega, by rw [HT.out]; exact h1, hc3⟩
      case measure => simp [intOf]

theorem SlE.take {α : Type} {p : El α} {w : World} {a : Option Addr} {cap : Nat} {xs : List α} (h : SlE p w (.slice a xs.length cap) xs) (k : Nat) (hk : k ≤ xs.length) : SlE p w (.slice a k cap) (xs.take k) := by
  obtain ⟨a', cap', h1, h2, h3⟩ := h
  injection h1 with e1 e2 e3
  subst e1 e3
  have hl : (xs.take k).length = k := by simp; omega
  refine ⟨a, cap, by rw [hl], by omega, ?_⟩
  rcases h3 with rfl | ⟨b, o, rfl, hc⟩
  · exact .inl (by simp)
  · refine .inr ⟨b, o, rfl, fun j u hj => hc j u ?_⟩
    have e : flat p.par (xs.take k) = (flat p.par xs).take (k * p.par.es) := (flat_take p.par xs k).symm
    rw [e] at hj
    have hjl : j < k * p.par.es := by
      have := (List.getElem?_eq_some_iff.1 hj).1
      simp at this; omega
    rw [List.getElem?_take_of_lt hjl] at hj
    exact hj

theorem First_any (v : Value) (xs : List (Int × Int)) (n : Int) (w : World) (h : SlE itemE w v xs) (hlen : xs.length ≤ 2147483648) :
    Calls Try.prog 89 #[v, .int .i64 n] w fun e w' => ∃ v', e = .returned v' ∧ SlE itemE w' v' (firstN n xs) ∧ Chg (fun _ _ => False) w w' := by
  obtain ⟨a, cap, rfl⟩ := h.form
  obtain ⟨_, _, _, hcap0, _⟩ := id h
  have hcap : xs.length ≤ cap := by
    obtain ⟨a', cap', e, h2, _⟩ := id h
    injection e with e1 e2 e3
    omega
  have HS := Lib.hid h
  clear h
  by_cases h1 : n < 1
  · have hf : firstN n xs = xs := by unfold firstN; rw [if_pos (.inl h1)]
    rw [hf]
    go_enter Try.func89, Try.ntmps89
    go_wp2
    go_ret
    exact ⟨_, rfl, HS.out, Chg.refl _ _⟩
  by_cases h2 : (xs.length : Int) < n
  · have hf : firstN n xs = xs := by unfold firstN; rw [if_pos (.inr h2)]
    rw [hf]
    go_enter Try.func89, Try.ntmps89
    go_wp2
    go_ret
    exact ⟨_, rfl, HS.out, Chg.refl _ _⟩
  · obtain ⟨k, rfl⟩ : ∃ k : Nat, n = (k : Int) := ⟨n.toNat, by omega⟩
    have hf : firstN (k : Int) xs = xs.take k := by unfold firstN; rw [if_neg (by omega)]; simp
    rw [hf]
    have k0 : (0 : Int) ≤ (k : Int) := by omega
    have k1 : (k : Int) ≤ (cap : Int) := by omega
    have k2 : k ≤ cap := by omega
    have ht := HS.out.take k (by omega)
    have HT := Lib.hid ht
    clear ht hf
    go_enter Try.func89, Try.ntmps89
    go_wp2
    go_ret
    exact ⟨_, rfl, HT.out, Chg.refl _ _⟩

set_option maxRecDepth 100000 in
theorem specGReverse_any {ord : List Int} (sv : Value) (d : Int) (nl : Bool) (p : Option Addr) (cap : Nat) (l : List (Int × Int)) (n : Int) (w : World) (hs : SlE intE w sv ord) (hol : ord.length ≤ 2147483647) (hl : ItemsAt w p l) (hlen : l.length ≤ 2147483647) :
    Calls Try.prog 59 #[.agg #[sv, .int .i64 d, .bool nl], .slice p l.length cap, .int .i64 n] w fun e w' => ∃ v', e = .returned v' ∧ SlE itemE w' v' (firstN n (treeL (ltR (rkL ord)) l).reverse) ∧ Chg (fun _ _ => False) w w' := by
  have HT := Lib.hid (fun w1 (c : Chg (fun _ _ => False) w w1) => tree_any sv (rkL ord) p cap l w1 (rank_list sv ord w1 (hs.chg c) hol) (hl.chg c) hlen)
  have hlen2 := treeL_len (ltR (rkL ord)) l
  obtain ⟨sa, sc, rfl⟩ : ∃ a c, sv = .slice a ord.length c := hs.form
  clear hl hs
  go_enter Try.func59, Try.ntmps59
  go_wp2_with fail
  have hc1 : Chg (fun _ _ => False) w (w.alloc (.cells #[.slice sa ord.length sc, .int .i64 d, .bool nl] 24)) := (Chg.refl _ _).alloc _
  refine (HT.out _ hc1).mono ?_
  rintro e w2 ⟨v2, rfl, hv2, hc2⟩
  obtain ⟨q, cap2, rfl, hi, hcap⟩ := hv2.items
  go_wp2_with fail
  refine (Turned_any _ _ _ (hi.sl hcap) (by omega)).mono ?_
  rintro e w3 ⟨v3, rfl, how3, hc3⟩
  go_wp2_with fail
  refine (First_any _ _ n _ how3.sl (by simp; omega)).mono ?_
  rintro e w4 ⟨v4, rfl, hs4, hc4⟩
  go_wp2_with fail
  go_ret
  exact ⟨v4, rfl, hs4, ((hc1.trans hc2).trans hc3).trans hc4⟩

theorem firstN_len {α : Type} (n : Int) (l : List α) : (firstN n l).length ≤ l.length := by
  unfold firstN
  split
  · exact Nat.le_refl _
  · simp; omega

set_option maxRecDepth 100000 in
theorem gReverseMut_any {ord : List Int} (sv : Value) (d : Int) (nl : Bool) (p : Option Addr) (cap : Nat) (l : List (It ord)) (n : Int) (w : World) (hs : SlE intE w sv ord) (hol : ord.length ≤ 2147483647) (hd : FitD d) (hl : ItemsAt w p l) (hlen : l.length ≤ 2147483647) :
    Calls Try.prog 30 #[.agg #[sv, .int .i64 d, .bool nl], .slice p l.length cap, .int .i64 n] w fun e w' => e = .returned (.bool true) ∧ Chg (fun _ _ => False) w w' := by
  have HM := Lib.hid (fun w1 (c : Chg (fun _ _ => False) w w1) => GReverseMut_any sv d nl p cap l n w1 (hs.chg c) hol hd (hl.chg c) hlen)
  have HG := Lib.hid (fun w1 (c : Chg (fun _ _ => False) w w1) => specGReverse_any sv d nl p cap l n w1 (hs.chg c) hol (hl.chg c) hlen)
  rw [growL_tree] at HM
  have hfl := firstN_len n (treeL (ltR (rkL ord)) l).reverse
  have hlen2 := treeL_len (ltR (rkL ord)) l
  rw [List.length_reverse] at hfl
  unfold OwnPostI at HM
  generalize firstN n (treeL (ltR (rkL ord)) l).reverse = L at HM HG hfl
  obtain ⟨sa, sc, rfl⟩ : ∃ a c, sv = .slice a ord.length c := hs.form
  clear hs hl
  go_enter Try.func30, Try.ntmps30
  go_wp2_with fail
  refine (HM.out _ ((Chg.refl _ _).alloc _)).mono ?_
  rintro e w1 ⟨v1, rfl, how1, hc1⟩
  have hb0 : w1.heap[w.heap.size]? = some (.cells #[.slice sa ord.length sc, .int .i64 d, .bool nl] 24 (0, 0)) := by rw [hc1.block (by simp) (fun _ h => h)]; exact ha_at _ _ rfl
  have m0 := cell_of_block hb0 0
  have m1 := cell_of_block hb0 1
  have m2 := cell_of_block hb0 2
  simp only [List.getElem?_toArray, List.getElem?_cons_zero, List.getElem?_cons_succ] at m0 m1 m2
  have hc01 := ((Chg.refl (fun _ _ => False) w).alloc (.cells #[.slice sa ord.length sc, .int .i64 d, .bool nl] 24)).trans hc1
  clear hb0
  go_wp2_with fail
  refine (HG.out _ hc01).mono ?_
  rintro e w3 ⟨v3, rfl, hs3, hc3⟩
  go_wp2_with fail
  refine (equal_item _ _ _ _ (how1.sl.chg hc3) hs3 (by omega)).mono ?_
  rintro e w4 ⟨rfl, hc4⟩
  go_wp2_with fail
  go_ret
  exact ⟨rfl, (hc01.trans hc3).trans hc4⟩

set_option maxRecDepth 100000 in
theorem law_ExactGReverseMut (sv : Value) (os : List Int) (d : Int) (nl : Bool) (p : Option Addr) (cap : Nat) (l : List (Int × Int)) (n : Int) (w : World) (hs : SlE intE w sv os) (hl : ItemsAt w p l) :
    Calls Try.prog 8 #[.agg #[sv, .int .i64 d, .bool nl], .slice p l.length cap, .int .i64 n] w fun e w' => e = .returned (.bool true) ∧ Chg (fun _ _ => False) w w' := by
  obtain ⟨sa, sc, rfl⟩ : ∃ a c, sv = .slice a os.length c := hs.form
  have hz := fun w1 => zzFits1_any sa os.length sc d nl w1
  by_cases hol : os.length ≤ 2147483647
  rotate_left
  · rw [decide_eq_false hol] at hz
    go_enter Try.func8, Try.ntmps8
    go_wp2_with fail
    refine name_calls (fun w1 => Chg (fun _ _ => False) w w1) (((Chg.refl _ _).alloc _)) ?_
    intro w1 hc1
    refine (hz w1).mono ?_
    rintro e w2 ⟨rfl, hc2⟩
    go_wp2_with fail
    go_ret
    exact ⟨rfl, hc1.trans hc2⟩
  rw [decide_eq_true hol] at hz
  by_cases hlen : l.length ≤ 2147483647
  rotate_left
  · have hlen' : 2147483647 < l.length := by omega
    go_enter Try.func8, Try.ntmps8
    go_wp2_with fail
    refine name_calls (fun w1 => Chg (fun _ _ => False) w w1) (((Chg.refl _ _).alloc _)) ?_
    intro w1 hc1
    refine (hz w1).mono ?_
    rintro e w2 ⟨rfl, hc2⟩
    go_wp2_with fail
    go_ret
    exact ⟨rfl, hc1.trans hc2⟩
  have hn : ¬ 2147483647 < l.length := by omega
  have HEX := Lib.hid (fun q w1 (hq : ItemsAt w1 q exL) => gReverseMut_any (ord := []) (.slice none 0 0) 2 false q 7 exL 2 w1 ⟨none, 0, rfl, Nat.le_refl _, .inl rfl⟩ (by simp) (.inr ⟨by omega, by omega⟩) hq (by decide))
  have HG := Lib.hid (fun hd w1 (c : Chg (fun _ _ => False) w w1) => gReverseMut_any (ord := os) (.slice sa os.length sc) d nl p cap l n w1 (hs.chg c) hol hd (hl.chg c) hlen)
  clear hs hl
  have q1 : exL.length = 7 := rfl
  go_enter Try.func8, Try.ntmps8
  go_wp2_with fail
  refine name_calls (fun w1 => Chg (fun _ _ => False) w w1 ∧ w1.heap[w.heap.size]? = some (.cells #[.slice sa os.length sc, .int .i64 d, .bool nl] 24 (0, 0))) ⟨((Chg.refl _ _).alloc _), ha_at _ _ rfl⟩ ?_
  rintro w1 ⟨hc1, hb0⟩
  have m0 := cell_of_block hb0 0
  have m1 := cell_of_block hb0 1
  have m2 := cell_of_block hb0 2
  simp only [List.getElem?_toArray, List.getElem?_cons_zero, List.getElem?_cons_succ] at m0 m1 m2
  clear hb0
  refine (hz w1).mono ?_
  rintro e w2 ⟨rfl, hc2⟩
  replace m0 := hc2.cell (fun h => h) m0
  replace m1 := hc2.cell (fun h => h) m1
  replace m2 := hc2.cell (fun h => h) m2
  go_wp2_with fail
  refine (exMake_any _).mono ?_
  rintro e w3 ⟨rfl, hc3⟩
  replace m0 := hc3.cell (fun h => h) m0
  replace m1 := hc3.cell (fun h => h) m1
  replace m2 := hc3.cell (fun h => h) m2
  go_wp2_with fail
  refine (exItems_any _).mono ?_
  rintro e w4 ⟨q, rfl, hq, hc4⟩
  replace m0 := hc4.cell (fun h => h) m0
  replace m1 := hc4.cell (fun h => h) m1
  replace m2 := hc4.cell (fun h => h) m2
  go_wp2_with fail
  refine (HEX.out q _ hq).mono ?_
  rintro e w5 ⟨rfl, hc5⟩
  replace m0 := hc5.cell (fun h => h) m0
  replace m1 := hc5.cell (fun h => h) m1
  replace m2 := hc5.cell (fun h => h) m2
  have hc04 := (((hc1.trans hc2).trans hc3).trans hc4).trans hc5
  by_cases hd : FitD d
  · go_wp2_with fail
    refine (fits_fit d _ hd).mono ?_
    rintro e w' ⟨rfl, rfl⟩
    go_wp2_with fail
    refine (HG.out hd _ hc04).mono ?_
    rintro e w5 ⟨rfl, hc5⟩
    go_wp2_with fail
    go_ret
    exact ⟨rfl, hc04.trans hc5⟩
  · go_wp2_with fail
    refine (fits_not d _ hd).mono ?_
    rintro e w' ⟨rfl, rfl⟩
    go_wp2_with fail
    go_ret
    exact ⟨rfl, hc04⟩
end Go.Proofs.Ytojplcbkiogcpaa
