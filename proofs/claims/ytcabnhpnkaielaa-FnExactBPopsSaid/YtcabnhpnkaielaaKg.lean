/- The function that keeps the items that are handed to it: taker, pairs, and what their functions do at a call. -/
import Derived.Laws.EntriesVeiled
import Derived.Test.YtcabnhpnkaielaaA2
import Derived.Test.YtcabnhpnkaielaaA3
import Derived.Test.YtcabnhpnkaielaaA9
namespace Go.Proofs.Ytcabnhpnkaielaa
set_option linter.unusedSimpArgs false
set_option linter.unusedVariables false
open Go.RowKit

/-- Items handed on one by one, until the function says no. -/
def runL {α : Type} (cont : List α → Bool) : List α → List α → List α × Bool
  | acc, [] => (acc, true)
  | acc, x :: l => if cont (acc ++ [x]) then runL cont (acc ++ [x]) l else (acc ++ [x], false)

theorem runL_append {α : Type} (cont : List α → Bool) : ∀ (l1 l2 acc : List α), runL cont acc (l1 ++ l2) = if (runL cont acc l1).2 then runL cont (runL cont acc l1).1 l2 else runL cont acc l1
  | [], l2, acc => by simp [runL]
  | x :: l1, l2, acc => by
    rw [List.cons_append, runL, runL]
    split
    · exact runL_append cont l1 l2 _
    · simp

theorem runL_true {α : Type} (cont : List α → Bool) : ∀ (l acc : List α), (runL cont acc l).2 = true → (runL cont acc l).1 = acc ++ l
  | [], acc, _ => by simp [runL]
  | x :: l, acc, h => by
    rw [runL] at h ⊢
    split at h
    · rename_i hc
      rw [if_pos hc, runL_true cont l _ h]; simp
    · cases h

theorem runL_len {α : Type} (cont : List α → Bool) : ∀ (l acc : List α), (runL cont acc l).1.length ≤ acc.length + l.length
  | [], acc => by simp [runL]
  | x :: l, acc => by
    rw [runL]
    split
    · have := runL_len cont l (acc ++ [x]); simp at this ⊢; omega
    · simp

/-- A bound: n calls, no bound for n below 1. -/
def contN {α : Type} (n : Int) (l : List α) : Bool := decide (n < 1) || decide ((l.length : Int) < n)

def firstN {α : Type} (n : Int) (l : List α) : List α := if n < 1 ∨ (l.length : Int) < n then l else l.take n.toNat

theorem runL_contN {α : Type} (n : Int) : ∀ (l acc : List α), (n < 1 ∨ (acc.length : Int) < n) → (runL (contN n) acc l).1 = acc ++ firstN (n - if n < 1 then 0 else acc.length) l
  | [], acc, h => by simp [runL, firstN]
  | x :: l, acc, h => by
    rw [runL]
    by_cases h1 : n < 1
    · have hc : contN n (acc ++ [x]) = true := by simp [contN, h1]
      rw [if_pos hc, runL_contN n l (acc ++ [x]) (.inl h1)]
      simp [firstN, h1]
    · by_cases h2 : ((acc ++ [x]).length : Int) < n
      · have hc : contN n (acc ++ [x]) = true := by simp only [contN, Bool.or_eq_true, decide_eq_true_eq]; exact .inr h2
        rw [if_pos hc, runL_contN n l (acc ++ [x]) (.inr h2)]
        simp only [if_neg h1, List.append_assoc]
        congr 1
        simp only [List.length_append, List.length_cons, List.length_nil] at h2 ⊢
        unfold firstN
        by_cases h3 : ((x :: l).length : Int) < n - acc.length
        · have h4 : (l.length : Int) < n - ((acc.length + (0 + 1) : Nat) : Int) := by simp only [List.length_cons] at h3; omega
          rw [if_pos (.inr h4), if_pos (.inr h3)]; rfl
        · have h4 : ¬ (n - ((acc.length + (0 + 1) : Nat) : Int) < 1 ∨ (l.length : Int) < n - ((acc.length + (0 + 1) : Nat) : Int)) := by simp only [List.length_cons] at h3; omega
          have h5 : ¬ (n - (acc.length : Int) < 1 ∨ ((x :: l).length : Int) < n - (acc.length : Int)) := by omega
          rw [if_neg h4, if_neg h5]
          have : (n - (acc.length : Int)).toNat = (n - ((acc.length + (0 + 1) : Nat) : Int)).toNat + 1 := by omega
          rw [this]; rfl
      · have hc : contN n (acc ++ [x]) = false := by simp only [contN, Bool.or_eq_false_iff, decide_eq_false_iff_not]; exact ⟨h1, h2⟩
        rw [if_neg (by rw [hc]; simp)]
        simp only [if_neg h1]
        have e : n - (acc.length : Int) = 1 := by
          rcases h with h | h
          · exact absurd h h1
          · simp at h2; omega
        show acc ++ [x] = acc ++ firstN (n - acc.length) (x :: l)
        congr 1
        rw [e]
        unfold firstN
        rw [if_neg (by simp; omega)]; rfl

theorem runL_first {α : Type} (n : Int) (l : List α) : (runL (contN n) [] l).1 = firstN n l := by
  have := runL_contN n l [] (by simp; omega)
  simpa using this

/-- The function's own variables: the slice at ob, the pointer to it at b2, the bound at b3, the inner function at cb; what was kept lies from rb on. -/
structure KeptI (n : Int) (ob b2 b3 rb : Nat) (w : World) (acc : List (Int × Int)) : Prop where
  o : ∃ v, w.heap[ob]? = some (.cells #[v] 31 (0, 0)) ∧ OwnE itemE w v acc rb
  p2 : w.heap[b2]? = some (.cells #[.pointer (some ⟨ob, 0, none⟩)] 76 (0, 0))
  p3 : w.heap[b3]? = some (.cells #[.int .i64 n] 3 (0, 0))
  lo : ob < rb
  l2 : b2 < rb
  l3 : b3 < rb
  n2 : ob ≠ b2
  n3 : ob ≠ b3
  rw_ : rb ≤ w.heap.size

theorem KeptI.keep {n : Int} {ob b2 b3 rb : Nat} {w w' : World} {acc : List (Int × Int)} (h : KeptI n ob b2 b3 rb w acc) (c : Chg (fun _ _ => False) w w') : KeptI n ob b2 b3 rb w' acc := by
  obtain ⟨⟨v, h1, h2⟩, p2, p3, l0, l2, l3, n2, n3, hr⟩ := h
  have hb : ∀ {b : Nat} {o : Obj}, w.heap[b]? = some o → w'.heap[b]? = some o := fun h => by rw [c.block (heap_lt h) (fun _ h => h)]; exact h
  exact ⟨⟨v, hb h1, h2.keep c⟩, hb p2, hb p3, l0, l2, l3, n2, n3, Nat.le_trans hr c.size⟩

def TakeB (ob rb : Nat) (b : Nat) : Prop := b = ob ∨ rb ≤ b

set_option maxRecDepth 100000 in
set_option maxHeartbeats 1000000 in
theorem taker1I_any {n : Int} {ob b2 b3 rb : Nat} {w : World} {acc : List (Int × Int)} (x : Int × Int) (h : KeptI n ob b2 b3 rb w acc) (hlen : acc.length ≤ 1000000000000) :
    Calls Try.prog 106 #[.agg #[.int .i64 x.1, .int .i64 x.2], .pointer (some ⟨b2, 0, none⟩), .pointer (some ⟨b3, 0, none⟩)] w fun e w' =>
      e = .returned (.bool (contN n (acc ++ [x]))) ∧ KeptI n ob b2 b3 rb w' (acc ++ [x]) ∧ Chg (fun b _ => TakeB ob rb b) w w' := by
  obtain ⟨i0, hi0, hz0, hz1, hz2⟩ := info_parts infoItem
  have hk1 : KeptI n ob b2 b3 rb (w.alloc (.cells #[.int .i64 x.1, .int .i64 x.2] 26)) acc := h.keep ((Chg.refl _ _).alloc _)
  have HK := Lib.hid h
  go_enter Try.func106, Try.ntmps106
  go_wp2
  refine name_world (fun w1 => Chg (fun _ _ => False) w w1 ∧ w1.heap[w.heap.size]? = some (.cells #[.int .i64 x.1, .int .i64 x.2] 26 (0, 0))) ⟨(Chg.refl _ _).alloc _, ha_at _ _ rfl⟩ ?_
  clear hk1 h
  rintro w1 ⟨hc1, hb1⟩
  obtain ⟨v, g1, g2⟩ := HK.out.o
  obtain ⟨_, p2, p3, l0, l2, l3, n2, n3, hr⟩ := HK.out.keep hc1
  have h1 : w1.heap[ob]? = some (.cells #[v] 31 (0, 0)) := by rw [hc1.block (heap_lt g1) (fun _ h => h)]; exact g1
  have h2 := g2.keep hc1
  have hvl : ∀ b, v.ownBlock = some b → rb ≤ b ∧ b < w.heap.size := fun b hb => g2.own_lt hb
  have HVL := Lib.hid hvl
  clear g1 g2 hvl
  have o0 := cell_of_block h1 0
  have q2 := cell_of_block p2 0
  have x0 := cell_of_block hb1 0
  have x1 := cell_of_block hb1 1
  have z0 := frozen_of_block h1 0
  simp only [List.getElem?_toArray, List.getElem?_cons_zero, List.getElem?_cons_succ] at o0 q2 x0 x1
  have hsz1 := hc1.size
  have HOW := Lib.hid h2
  have HB := Lib.hid h1
  clear h2 h1
  refine wp_region_script (fun w' => w'.cell? ⟨ob, 0, none⟩ = some v ∧ w'.cell? ⟨b2, 0, none⟩ = some (.pointer (some ⟨ob, 0, none⟩)) ∧ w'.cell? ⟨w.heap.size, 0, none⟩ = some (.int .i64 x.1) ∧ w'.cell? ⟨w.heap.size, 1, none⟩ = some (.int .i64 x.2)) 8
    [(0, true), (1, true), (2, true), (3, true), (4, true), (5, false), (6, false), (7, true), (8, false)] (by kernel_rfl) (by kernel_rfl) (fun _ _ _ _ _ h => h) ⟨o0, q2, x0, x1⟩ ?_
  refine script_soft (by rfl) ?_ (by simp [Region.wanted, yielded]) ?_ ?_
  rotate_left
  · intro w' hS
    try obtain ⟨a1, a2, a3, a4⟩ := hS
    go_simp
    try with_reducible rfl
  simp only [Act.put, List.setIfInBounds_toArray, List.set_cons_zero, List.set_cons_succ]
  refine script_soft (by rfl) ?_ (by simp [Region.wanted, yielded]) ?_ ?_
  rotate_left
  · intro w' hS
    try obtain ⟨a1, a2, a3, a4⟩ := hS
    go_simp
    try with_reducible rfl
  simp only [Act.put, List.setIfInBounds_toArray, List.set_cons_zero, List.set_cons_succ]
  refine script_soft (by rfl) ?_ (by simp [Region.wanted, yielded]) ?_ ?_
  rotate_left
  · intro w' hS
    try obtain ⟨a1, a2, a3, a4⟩ := hS
    go_simp
    try with_reducible rfl
  simp only [Act.put, List.setIfInBounds_toArray, List.set_cons_zero, List.set_cons_succ]
  refine script_soft (by rfl) ?_ (by simp [Region.wanted, yielded]) ?_ ?_
  rotate_left
  · intro w' hS
    try obtain ⟨a1, a2, a3, a4⟩ := hS
    go_simp
    try with_reducible rfl
  simp only [Act.put, List.setIfInBounds_toArray, List.set_cons_zero, List.set_cons_succ]
  refine script_soft (by rfl) ?_ (by simp [Region.wanted, yielded]) ?_ ?_
  rotate_left
  · intro w' hS
    try obtain ⟨a1, a2, a3, a4⟩ := hS
    go_simp
    try with_reducible rfl
  simp only [Act.put, List.setIfInBounds_toArray, List.set_cons_zero, List.set_cons_succ]
  refine script_hard (by rfl) (by simp [Region.wanted, yielded]) (fun K hK => ?_)
  go_simp
  have hc2 : Chg (fun _ _ => False) w1 (w1.alloc (.cells #[.int .i64 x.1, .int .i64 x.2] 26)).drew := ((Chg.refl _ _).alloc _).drew
  refine hK _ _ (fun _ => ⟨hc2.cell (fun h => h) o0, hc2.cell (fun h => h) q2, hc2.cell (fun h => h) x0, hc2.cell (fun h => h) x1⟩) ?_
  clear hK K
  refine script_hard (by rfl) (by simp [Region.wanted, yielded]) (fun K hK => ?_)
  refine wp_append_E2 itemE _ _ _ (by rfl) i0 _ 16 Try.underlying31 hi0 hz0 hz1 hz2 rfl v (by rfl) acc rb (HOW.out.keep hc2) (Nat.le_trans hr hc2.size) ⟨w1.heap.size, 0, none⟩ 1 _ (by rfl) [x] rfl (by decide) ?_ ?_ ?_ ?_
  · exact El.src1 itemE (c := #[.int .i64 x.1, .int .i64 x.2]) (ha_at _ _ (by simp)) _ rfl
  · unfold maxLen; omega
  · omega
  intro v' w2 g1 g2 _
  obtain ⟨a1, c1, hv', hlc⟩ : ∃ a1 c1, v' = .slice a1 (acc.length + 1) c1 ∧ True := by
    obtain ⟨a1, c1, e, _⟩ := g1.sl
    exact ⟨a1, c1, by rw [e]; simp, trivial⟩
  subst hv'
  have hgv : Chg (fun b _ => v.ownBlock = some b) w1 w2 := (hc2.mono (fun _ _ _ h => h.elim)).trans g2
  have hg : Chg (fun b _ => rb ≤ b) w1 w2 := hgv.mono (fun b _ _ h => (HVL.out b h).1)
  have hs : ∀ {b : Nat} {ob : Obj}, b < rb → w1.heap[b]? = some ob → w2.heap[b]? = some ob := fun h g => by rw [hg.block (heap_lt g) (fun _ h2 => by omega)]; exact g
  have x0' := hgv.cell (a := ⟨w.heap.size, 0, none⟩) (fun h => absurd (HVL.out w.heap.size h).2 (Nat.lt_irrefl _)) x0
  have x1' := hgv.cell (a := ⟨w.heap.size, 1, none⟩) (fun h => absurd (HVL.out w.heap.size h).2 (Nat.lt_irrefl _)) x1
  have o0' := hg.cell (a := ⟨ob, 0, none⟩) (fun h => by have h2 : rb ≤ ob := h; omega) o0
  have q2' := hg.cell (a := ⟨b2, 0, none⟩) (fun h => by have h2 : rb ≤ b2 := h; omega) q2
  have h1' := hs l0 HB.out
  have p2' := hs l2 p2
  have p3' := hs l3 p3
  refine hK _ _ (fun _ => ⟨o0', q2', x0', x1'⟩) ?_
  clear hK K
  have z0' := frozen_of_block h1' 0
  have HB2 := Lib.hid h1'
  have HP2 := Lib.hid p2'
  have HP3 := Lib.hid p3'
  have hsz2 := hg.size
  clear h1' p2' p3' p2 p3 z0
  refine script_soft (by rfl) ?_ (by simp [Region.wanted, yielded]) ?_ ?_
  rotate_left
  · intro w' hS
    try obtain ⟨a1, a2, a3, a4⟩ := hS
    go_simp
    try with_reducible rfl
  simp only [Act.put, List.setIfInBounds_toArray, List.set_cons_zero, List.set_cons_succ]
  refine script_hard (by rfl) (by simp [Region.wanted, yielded]) (fun K hK => ?_)
  go_simp
  refine hK _ _ (fun h => absurd h (by decide)) (script_nil ?_)
  clear hK K
  have hob : (w2.setCell ⟨ob, 0, none⟩ (.slice a1 (acc.length + 1) c1)).heap[ob]? = some (.cells #[.slice a1 (acc.length + 1) c1] 31 (0, 0)) := by rw [hs_same HB2.out]; rfl
  have hst : Chg (fun b _ => b = ob) w2 (w2.setCell ⟨ob, 0, none⟩ (.slice a1 (acc.length + 1) c1)) := (Chg.refl _ _).setCell (.inl rfl) _
  have hfin : KeptI n ob b2 b3 rb (w2.setCell ⟨ob, 0, none⟩ (.slice a1 (acc.length + 1) c1)) (acc ++ [x]) := by
    have ho : ∀ {b : Nat} {o : Obj}, ob ≠ b → w2.heap[b]? = some o → (w2.setCell ⟨ob, 0, none⟩ (.slice a1 (acc.length + 1) c1)).heap[b]? = some o := fun h g => by rw [hst.block (heap_lt g) (fun _ e => h e.symm)]; exact g
    exact ⟨⟨_, hob, g1.chgOwn hst (fun b _ hb e => by have := (g1.own_lt hb).1; omega)⟩, ho n2 HP2.out, ho n3 HP3.out, l0, l2, l3, n2, n3, Nat.le_trans hr (Nat.le_trans hsz2 hst.size)⟩
  have hall : Chg (fun b _ => TakeB ob rb b) w (w2.setCell ⟨ob, 0, none⟩ (.slice a1 (acc.length + 1) c1)) := ((hc1.mono (fun _ _ _ h => h.elim)).trans (hg.mono (fun _ _ _ h => .inr h))).trans (hst.mono (fun _ _ _ h => .inl h))
  have HFIN := Lib.hid hfin
  have HALL := Lib.hid hall
  have k1 := cell_of_block hob 0
  have k2 := hst.cell (a := ⟨b2, 0, none⟩) (fun h => n2 h.symm) q2'
  have k3 := hst.cell (a := ⟨b3, 0, none⟩) (fun h => n3 h.symm) (cell_of_block HP3.out 0)
  simp only [List.getElem?_toArray, List.getElem?_cons_zero, List.getElem?_cons_succ] at k1 k3
  clear hob hst hfin hall o0 q2 x0 x1 o0' q2' x0' x1' hc2 hg hgv g1 g2
  have hcn : contN n (acc ++ [x]) = (decide (n < 1) || decide (((acc.length : Int) + 1) < n)) := by unfold contN; simp
  have HCN := Lib.hid hcn
  clear hcn
  have la1 : (0 : Int) ≤ (acc.length : Int) := by omega
  have la2 : (acc.length : Int) ≤ 1000000000000 := by omega
  by_cases hn1 : n < 1
  · have HD := Lib.hid (show contN n (acc ++ [x]) = true by rw [HCN.out]; simp [hn1])
    go_wp2_with fail
    go_quiet (fail)
    go_wp2
    go_ret
    refine ⟨?_, HFIN.out.keep ((Chg.refl _ _).drewN _), HALL.out.drewN _⟩
    show Ending.returned (.bool true) = _
    rw [HD.out]
  · have hd : decide (n < 1) = false := by simpa using hn1
    have HD := Lib.hid (show contN n (acc ++ [x]) = decide (((acc.length : Int) + 1) < n) by rw [HCN.out, hd]; rfl)
    go_wp2_with fail
    go_quiet (fail)
    go_wp2
    go_ret
    refine ⟨?_, HFIN.out.keep ((Chg.refl _ _).drewN _), HALL.out.drewN _⟩
    show Ending.returned (.bool (decide (((acc.length : Int) + 1) < n))) = _
    rw [HD.out]

theorem taker_any (ob : Nat) (n : Int) (w : World) :
    Calls Try.prog 84 #[.pointer (some ⟨ob, 0, none⟩), .int .i64 n] w fun e w' =>
      e = .returned (.func (.func 106) #[] #[.pointer (some ⟨w.heap.size, 0, none⟩), .pointer (some ⟨w.heap.size + 1, 0, none⟩)]) ∧
      w' = (w.alloc (.cells #[.pointer (some ⟨ob, 0, none⟩)] 76)).alloc (.cells #[.int .i64 n] 3) := by
  have hmf : ∀ (fn : Fn) (first cap : Array Value) (w : World), (Instr.makeFunc fn first cap).run Try.prog w = .ok (.func fn first cap) w := fun _ _ _ _ => rfl
  go_enter Try.func84, Try.ntmps84
  go_wp2
  go_ret
  exact ⟨rfl, rfl⟩

def fnI (b2 b3 : Nat) : Value := .func (.func 106) #[] #[.pointer (some ⟨b2, 0, none⟩), .pointer (some ⟨b3, 0, none⟩)]

theorem takerI_kept {n : Int} {ob : Nat} {w : World} (ho : w.heap[ob]? = some (.cells #[.slice none 0 0] 31 (0, 0))) :
    KeptI n ob w.heap.size (w.heap.size + 1) ((w.alloc (.cells #[.pointer (some ⟨ob, 0, none⟩)] 76)).alloc (.cells #[.int .i64 n] 3)).heap.size ((w.alloc (.cells #[.pointer (some ⟨ob, 0, none⟩)] 76)).alloc (.cells #[.int .i64 n] 3)) [] := by
  have hol := heap_lt ho
  refine ⟨⟨_, ?_, OwnE.nil _ _ _⟩, ?_, ?_, by simp only [World.size_alloc]; omega, by simp only [World.size_alloc]; omega, by simp only [World.size_alloc]; omega, by omega, by omega, Nat.le_refl _⟩
  · rw [ha_lt _ _ (by simp only [World.size_alloc]; omega), ha_lt _ _ hol]; exact ho
  · rw [ha_lt _ _ (by simp only [World.size_alloc]; omega)]; exact ha_at _ _ rfl
  · exact ha_at _ _ (by simp)

/-- The function that hands an item of any type on to the keeping one: its variable lies at b2, the keeping one's at b3 and behind it. -/
structure Kept (n : Int) (ob b2 b3 rb : Nat) (w : World) (acc : List (Int × Int)) : Prop where
  i : KeptI n ob b3 (b3 + 1) rb w acc
  f : w.heap[b2]? = some (.cells #[fnI b3 (b3 + 1)] 101 (0, 0))
  l : b2 < rb
  ne : b2 ≠ ob

theorem Kept.keep {n : Int} {ob b2 b3 rb : Nat} {w w' : World} {acc : List (Int × Int)} (h : Kept n ob b2 b3 rb w acc) (c : Chg (fun _ _ => False) w w') : Kept n ob b2 b3 rb w' acc :=
  ⟨h.i.keep c, by rw [c.block (heap_lt h.f) (fun _ h => h)]; exact h.f, h.l, h.ne⟩

def fnG (b2 _b3 : Nat) : Value := .func (.func 85) #[] #[.pointer (some ⟨b2, 0, none⟩)]

set_option maxRecDepth 100000 in
theorem taker1_any {n : Int} {ob b2 b3 rb : Nat} {w : World} {acc : List (Int × Int)} (x : Int × Int) (h : Kept n ob b2 b3 rb w acc) (hlen : acc.length ≤ 1000000000000) :
    Calls Try.prog 85 #[.iface 26 (.agg #[.int .i64 x.1, .int .i64 x.2]), .pointer (some ⟨b2, 0, none⟩)] w fun e w' =>
      e = .returned (.bool (contN n (acc ++ [x]))) ∧ Kept n ob b2 b3 rb w' (acc ++ [x]) ∧ Chg (fun b _ => TakeB ob rb b) w w' := by
  have c0 := cell_of_block h.f 0
  unfold fnI at c0
  simp only [List.getElem?_toArray, List.getElem?_cons_zero] at c0
  have HI := Lib.hid (fun w1 (c : Chg (fun _ _ => False) w w1) => taker1I_any x (h.i.keep c) hlen)
  have HF := Lib.hid h
  have f1 := asItem
  clear h
  go_enter Try.func85, Try.ntmps85
  go_wp2_with fail
  refine wp_region_scr (fun w' => w'.cell? ⟨b2, 0, none⟩ = some (.func (.func 106) #[] #[.pointer (some ⟨b3, 0, none⟩), .pointer (some ⟨b3 + 1, 0, none⟩)])) (.soft 0 (.soft 1 (.soft 2 (.hard 3 (.soft 4 .nil))))) (by kernel_rfl) (by kernel_rfl) (fun _ _ _ _ _ h => h) c0 ?_
  repeat
    first
    | (refine scr_soft (by rfl) ?_ ?_ ?_ ?_
       rotate_left
       · simp [Region.wanted, yielded]; done
       · intro w' hS
         try obtain ⟨a1⟩ := hS
         go_simp
         try with_reducible rfl
       simp only [Act.put, List.setIfInBounds_toArray, List.set_cons_zero, List.set_cons_succ])
    | (refine scr_skip (by rfl) ?_ ?_
       · simp [Region.wanted, yielded]; done
       simp only [Act.put, List.setIfInBounds_toArray, List.set_cons_zero, List.set_cons_succ])
  refine scr_hard (by rfl) (by simp [Region.wanted, yielded]) (fun K hK => ?_)
  go_simp
  refine (HI.out _ ((Chg.refl _ _).drew)).mono ?_
  rintro e w2 ⟨rfl, hk2, hc2⟩
  have hcc : Chg (fun b _ => TakeB ob rb b) w w2 := ((Chg.refl _ _).drew).trans hc2
  have hb2 : w2.heap[b2]? = some (.cells #[fnI b3 (b3 + 1)] 101 (0, 0)) := by
    rw [hcc.block (heap_lt HF.out.f) (fun _ h => by
      rcases h with h | h
      · exact HF.out.ne h
      · have := HF.out.l; omega)]
    exact HF.out.f
  have c1 := cell_of_block hb2 0
  unfold fnI at c1
  simp only [List.getElem?_toArray, List.getElem?_cons_zero] at c1
  have FIN : Hid (Kept n ob b2 b3 rb w2 (acc ++ [x])) := Lib.hid ⟨hk2, hb2, HF.out.l, HF.out.ne⟩
  clear hb2
  refine hK _ _ c1 ?_
  clear hK K c0
  repeat
    first
    | (refine scr_soft (by rfl) ?_ ?_ ?_ ?_
       rotate_left
       · simp [Region.wanted, yielded]; done
       · intro w' hS
         try obtain ⟨a1⟩ := hS
         go_simp
         try with_reducible rfl
       simp only [Act.put, List.setIfInBounds_toArray, List.set_cons_zero, List.set_cons_succ])
    | (refine scr_skip (by rfl) ?_ ?_
       · simp [Region.wanted, yielded]; done
       simp only [Act.put, List.setIfInBounds_toArray, List.set_cons_zero, List.set_cons_succ])
  refine scr_nil ?_
  go_wp2_with fail
  go_ret
  exact ⟨rfl, FIN.out, hcc⟩

theorem takerAny_any (ob : Nat) (n : Int) (w : World) (ho : w.heap[ob]? = some (.cells #[.slice none 0 0] 31 (0, 0))) :
    Calls Try.prog 63 #[.pointer (some ⟨ob, 0, none⟩), .int .i64 n] w fun e w' =>
      e = .returned (fnG (w.heap.size + 2) w.heap.size) ∧ Kept n ob (w.heap.size + 2) w.heap.size w'.heap.size w' [] ∧ Chg (fun _ _ => False) w w' := by
  have hmf : ∀ (fn : Fn) (first cap : Array Value) (w : World), (Instr.makeFunc fn first cap).run Try.prog w = .ok (.func fn first cap) w := fun _ _ _ _ => rfl
  have hsf := fun (a : Addr) (c : Array Value) (w : World) => run_store Try.prog w a (.func (.func 106) #[] c) .plain rfl
  have HK := Lib.hid (takerI_kept (n := n) ho)
  have hol := heap_lt ho
  have HO := Lib.hid ho
  clear ho
  go_enter Try.func63, Try.ntmps63
  go_wp2_with fail
  refine (taker_any ob n w).mono ?_
  rintro e w1 ⟨rfl, hw1⟩
  have hk := HK.out
  rw [← hw1] at hk
  have hsz : w1.heap.size = w.heap.size + 2 := by rw [hw1]; simp
  have hc1 : Chg (fun _ _ => False) w w1 := by rw [hw1]; exact ((Chg.refl _ _).alloc _).alloc _
  clear hw1 HK
  have fin : ∀ w2, Chg (fun _ _ => False) w1 w2 → w1.heap.size < w2.heap.size → w2.heap[w1.heap.size]? = some (.cells #[fnI w.heap.size (w.heap.size + 1)] 101 (0, 0)) → Ending.returned (fnG (w.heap.size + 2) w.heap.size) = .returned (fnG (w.heap.size + 2) w.heap.size) ∧ Kept n ob (w.heap.size + 2) w.heap.size w2.heap.size w2 [] ∧ Chg (fun _ _ => False) w w2 := by
    intro w2 hc hlt hb
    refine ⟨rfl, ⟨?_, by rw [← hsz]; exact hb, by omega, by omega⟩, hc1.trans hc⟩
    obtain ⟨⟨v, h1, h2⟩, p2, p3, l0, l2, l3, n2, n3, hr⟩ := hk.keep hc
    exact ⟨⟨_, by rw [(hc1.trans hc).block hol (fun _ h => h)]; exact HO.out, OwnE.nil _ _ _⟩, p2, p3, by omega, by omega, by omega, n2, n3, Nat.le_refl _⟩
  have FIN := Lib.hid fin
  clear fin hk hc1
  go_wp2_with fail
  refine name_prop (fun w2 => Chg (fun _ _ => False) w1 w2 ∧ w1.heap.size < w2.heap.size ∧ w2.heap[w1.heap.size]? = some (.cells #[fnI w.heap.size (w.heap.size + 1)] 101 (0, 0))) ⟨?_, ?_, ?_⟩ ?_
  · repeat (first | refine Chg.drew ?_ | refine Chg.drewN ?_ _ | refine Chg.alloc ?_ _ | refine Chg.setCell ?_ (.inr (by simp)) _ | exact Chg.refl _ _)
  · simp
  · first | exact ha_at _ _ rfl | (rw [hs_same (ha_at _ _ rfl)]; rfl)
  rintro w2 ⟨hc2, hlt, hb2⟩
  go_ret
  exact ⟨rfl, (FIN.out _ hc2 hlt hb2).2⟩
end Go.Proofs.Ytcabnhpnkaielaa
