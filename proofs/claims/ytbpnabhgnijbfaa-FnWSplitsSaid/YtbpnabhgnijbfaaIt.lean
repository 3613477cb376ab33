/- The function that keeps the items that are handed to it: taker, pairs, and what their functions do at a call. -/
import Derived.Test.YtbpnabhgnijbfaaA9
import Derived.Test.YtbpnabhgnijbfaaA2
namespace Go.Proofs.Ytbpnabhgnijbfaa
set_option linter.unusedSimpArgs false
set_option linter.unusedVariables false
open Go.RowKit

/-- Items handed on one by one, until the function says no. -/
def runL {α : Type} (cont : List α → Bool) : List α → List α → List α × Bool
  | acc, [] => (acc, true)
  | acc, x :: l => if cont (acc ++ [x]) then runL cont (acc ++ [x]) l else (acc ++ [x], false)

theorem runL_append {α : Type} (cont : List α → Bool) : ∀ (l1 l2 acc : List α), runL cont acc (l1 ++ l2) = if (runL cont acc l1).2 then runL cont (runL cont acc l1).1 l2 else runL cont acc l1
  | [], l2, acc => by simp [runL]
  | x :: l1, l2, acc => by
    rw [List.cons_append, runL, runL]
    split
    · exact runL_append cont l1 l2 _
    · simp

theorem runL_true {α : Type} (cont : List α → Bool) : ∀ (l acc : List α), (runL cont acc l).2 = true → (runL cont acc l).1 = acc ++ l
  | [], acc, _ => by simp [runL]
  | x :: l, acc, h => by
    rw [runL] at h ⊢
    split at h
    · rename_i hc
      rw [if_pos hc, runL_true cont l _ h]; simp
    · cases h

theorem runL_len {α : Type} (cont : List α → Bool) : ∀ (l acc : List α), (runL cont acc l).1.length ≤ acc.length + l.length
  | [], acc => by simp [runL]
  | x :: l, acc => by
    rw [runL]
    split
    · have := runL_len cont l (acc ++ [x]); simp at this ⊢; omega
    · simp

/-- A bound: n calls, no bound for n below 1. -/
def contN {α : Type} (n : Int) (l : List α) : Bool := decide (n < 1) || decide ((l.length : Int) < n)

def firstN {α : Type} (n : Int) (l : List α) : List α := if n < 1 ∨ (l.length : Int) < n then l else l.take n.toNat

theorem runL_contN {α : Type} (n : Int) : ∀ (l acc : List α), (n < 1 ∨ (acc.length : Int) < n) → (runL (contN n) acc l).1 = acc ++ firstN (n - if n < 1 then 0 else acc.length) l
  | [], acc, h => by simp [runL, firstN]
  | x :: l, acc, h => by
    rw [runL]
    by_cases h1 : n < 1
    · have hc : contN n (acc ++ [x]) = true := by simp [contN, h1]
      rw [if_pos hc, runL_contN n l (acc ++ [x]) (.inl h1)]
      simp [firstN, h1]
    · by_cases h2 : ((acc ++ [x]).length : Int) < n
      · have hc : contN n (acc ++ [x]) = true := by simp only [contN, Bool.or_eq_true, decide_eq_true_eq]; exact .inr h2
        rw [if_pos hc, runL_contN n l (acc ++ [x]) (.inr h2)]
        simp only [if_neg h1, List.append_assoc]
        congr 1
        simp only [List.length_append, List.length_cons, List.length_nil] at h2 ⊢
        unfold firstN
        by_cases h3 : ((x :: l).length : Int) < n - acc.length
        · have h4 : (l.length : Int) < n - ((acc.length + (0 + 1) : Nat) : Int) := by simp only [List.length_cons] at h3; omega
          rw [if_pos (.inr h4), if_pos (.inr h3)]; rfl
        · have h4 : ¬ (n - ((acc.length + (0 + 1) : Nat) : Int) < 1 ∨ (l.length : Int) < n - ((acc.length + (0 + 1) : Nat) : Int)) := by simp only [List.length_cons] at h3; omega
          have h5 : ¬ (n - (acc.length : Int) < 1 ∨ ((x :: l).length : Int) < n - (acc.length : Int)) := by omega
          rw [if_neg h4, if_neg h5]
          have : (n - (acc.length : Int)).toNat = (n - ((acc.length + (0 + 1) : Nat) : Int)).toNat + 1 := by omega
          rw [this]; rfl
      · have hc : contN n (acc ++ [x]) = false := by simp only [contN, Bool.or_eq_false_iff, decide_eq_false_iff_not]; exact ⟨h1, h2⟩
        rw [if_neg (by rw [hc]; simp)]
        simp only [if_neg h1]
        have e : n - (acc.length : Int) = 1 := by
          rcases h with h | h
          · exact absurd h h1
          · simp at h2; omega
        show acc ++ [x] = acc ++ firstN (n - acc.length) (x :: l)
        congr 1
        rw [e]
        unfold firstN
        rw [if_neg (by simp; omega)]; rfl

theorem runL_first {α : Type} (n : Int) (l : List α) : (runL (contN n) [] l).1 = firstN n l := by
  have := runL_contN n l [] (by simp; omega)
  simpa using this

/-- The function's own variables: the slice at ob, the pointer to it at b2, the bound at b3, the inner function at cb; what was kept lies from rb on. -/
structure Kept (n : Int) (ob b2 b3 cb rb : Nat) (w : World) (acc : List (ByteArray × Int)) : Prop where
  o : ∃ v, w.heap[ob]? = some (.cells #[v] 22 (0, 0)) ∧ OwnE wordE w v acc rb
  p2 : w.heap[b2]? = some (.cells #[.pointer (some ⟨ob, 0, none⟩)] 58 (0, 0))
  p3 : w.heap[b3]? = some (.cells #[.int .i64 n] 3 (0, 0))
  pc : w.heap[cb]? = some (.cells #[.func (.func 61) #[] #[.pointer (some ⟨b2, 0, none⟩), .pointer (some ⟨b3, 0, none⟩)]] 41 (0, 0))
  lo : ob < rb
  l2 : b2 < rb
  l3 : b3 < rb
  lc : cb < rb
  n2 : ob ≠ b2
  n3 : ob ≠ b3
  nc : ob ≠ cb
  rw_ : rb ≤ w.heap.size

theorem Kept.keep {n : Int} {ob b2 b3 cb rb : Nat} {w w' : World} {acc : List (ByteArray × Int)} (h : Kept n ob b2 b3 cb rb w acc) (c : Chg (fun _ _ => False) w w') : Kept n ob b2 b3 cb rb w' acc := by
  obtain ⟨⟨v, h1, h2⟩, p2, p3, pc, l0, l2, l3, lc, n2, n3, nc, hr⟩ := h
  have hb : ∀ {b : Nat} {o : Obj}, w.heap[b]? = some o → w'.heap[b]? = some o := fun h => by rw [c.block (heap_lt h) (fun _ h => h)]; exact h
  exact ⟨⟨v, hb h1, h2.keep c⟩, hb p2, hb p3, hb pc, l0, l2, l3, lc, n2, n3, nc, Nat.le_trans hr c.size⟩

def TakeB (ob rb : Nat) (b : Nat) : Prop := b = ob ∨ rb ≤ b

set_option maxRecDepth 100000 in
set_option maxHeartbeats 1000000 in
theorem taker1_any {n : Int} {ob b2 b3 cb rb : Nat} {w : World} {acc : List (ByteArray × Int)} (x : ByteArray × Int) (h : Kept n ob b2 b3 cb rb w acc) (hlen : acc.length ≤ 1000000000000) :
    Calls Try.prog 61 #[.agg #[.string x.1, .int .i64 x.2], .pointer (some ⟨b2, 0, none⟩), .pointer (some ⟨b3, 0, none⟩)] w fun e w' =>
      e = .returned (.bool (contN n (acc ++ [x]))) ∧ Kept n ob b2 b3 cb rb w' (acc ++ [x]) ∧ Chg (fun b _ => TakeB ob rb b) w w' := by
  obtain ⟨i0, hi0, hz0, hz1, hz2⟩ := info_parts infoWord
  have hk1 : Kept n ob b2 b3 cb rb (w.alloc (.cells #[.string x.1, .int .i64 x.2] 35)) acc := h.keep ((Chg.refl _ _).alloc _)
  have HK := Lib.hid h
  go_enter Try.func61, Try.ntmps61
  go_wp2
  refine name_world (fun w1 => Chg (fun _ _ => False) w w1 ∧ w1.heap[w.heap.size]? = some (.cells #[.string x.1, .int .i64 x.2] 35 (0, 0))) ⟨(Chg.refl _ _).alloc _, ha_at _ _ rfl⟩ ?_
  clear hk1 h
  rintro w1 ⟨hc1, hb1⟩
  obtain ⟨v, g1, g2⟩ := HK.out.o
  obtain ⟨_, p2, p3, pc, l0, l2, l3, lc, n2, n3, nc, hr⟩ := HK.out.keep hc1
  have h1 : w1.heap[ob]? = some (.cells #[v] 22 (0, 0)) := by rw [hc1.block (heap_lt g1) (fun _ h => h)]; exact g1
  have h2 := g2.keep hc1
  have hvl : ∀ b, v.ownBlock = some b → rb ≤ b ∧ b < w.heap.size := fun b hb => g2.own_lt hb
  have HVL := Lib.hid hvl
  clear g1 g2 hvl
  have o0 := cell_of_block h1 0
  have q2 := cell_of_block p2 0
  have x0 := cell_of_block hb1 0
  have x1 := cell_of_block hb1 1
  have z0 := frozen_of_block h1 0
  simp only [List.getElem?_toArray, List.getElem?_cons_zero, List.getElem?_cons_succ] at o0 q2 x0 x1
  have hsz1 := hc1.size
  have HOW := Lib.hid h2
  have HB := Lib.hid h1
  clear h2 h1
  refine wp_region_script (fun w' => w'.cell? ⟨ob, 0, none⟩ = some v ∧ w'.cell? ⟨b2, 0, none⟩ = some (.pointer (some ⟨ob, 0, none⟩)) ∧ w'.cell? ⟨w.heap.size, 0, none⟩ = some (.string x.1) ∧ w'.cell? ⟨w.heap.size, 1, none⟩ = some (.int .i64 x.2)) 8
    [(0, true), (1, true), (2, true), (3, true), (4, true), (5, false), (6, false), (7, true), (8, false)] (by kernel_rfl) (by kernel_rfl) (fun _ _ _ _ _ h => h) ⟨o0, q2, x0, x1⟩ ?_
  refine script_soft (by rfl) ?_ (by simp [Region.wanted, yielded]) ?_ ?_
  rotate_left
  · intro w' hS
    try obtain ⟨a1, a2, a3, a4⟩ := hS
    go_simp
    try with_reducible rfl
  simp only [Act.put, List.setIfInBounds_toArray, List.set_cons_zero, List.set_cons_succ]
  refine script_soft (by rfl) ?_ (by simp [Region.wanted, yielded]) ?_ ?_
  rotate_left
  · intro w' hS
    try obtain ⟨a1, a2, a3, a4⟩ := hS
    go_simp
    try with_reducible rfl
  simp only [Act.put, List.setIfInBounds_toArray, List.set_cons_zero, List.set_cons_succ]
  refine script_soft (by rfl) ?_ (by simp [Region.wanted, yielded]) ?_ ?_
  rotate_left
  · intro w' hS
    try obtain ⟨a1, a2, a3, a4⟩ := hS
    go_simp
    try with_reducible rfl
  simp only [Act.put, List.setIfInBounds_toArray, List.set_cons_zero, List.set_cons_succ]
  refine script_soft (by rfl) ?_ (by simp [Region.wanted, yielded]) ?_ ?_
  rotate_left
  · intro w' hS
    try obtain ⟨a1, a2, a3, a4⟩ := hS
    go_simp
    try with_reducible rfl
  simp only [Act.put, List.setIfInBounds_toArray, List.set_cons_zero, List.set_cons_succ]
  refine script_soft (by rfl) ?_ (by simp [Region.wanted, yielded]) ?_ ?_
  rotate_left
  · intro w' hS
    try obtain ⟨a1, a2, a3, a4⟩ := hS
    go_simp
    try with_reducible rfl
  simp only [Act.put, List.setIfInBounds_toArray, List.set_cons_zero, List.set_cons_succ]
  refine script_hard (by rfl) (by simp [Region.wanted, yielded]) (fun K hK => ?_)
  go_simp
  have hc2 : Chg (fun _ _ => False) w1 (w1.alloc (.cells #[.string x.1, .int .i64 x.2] 35)).drew := ((Chg.refl _ _).alloc _).drew
  refine hK _ _ (fun _ => ⟨hc2.cell (fun h => h) o0, hc2.cell (fun h => h) q2, hc2.cell (fun h => h) x0, hc2.cell (fun h => h) x1⟩) ?_
  clear hK K
  refine script_hard (by rfl) (by simp [Region.wanted, yielded]) (fun K hK => ?_)
  refine wp_append_E2 wordE _ _ _ (by rfl) i0 _ 24 Try.underlying22 hi0 hz0 hz1 hz2 rfl v (by rfl) acc rb (HOW.out.keep hc2) (Nat.le_trans hr hc2.size) ⟨w1.heap.size, 0, none⟩ 1 _ (by rfl) [x] rfl (by decide) ?_ ?_ ?_ ?_
  · exact El.src1 wordE (c := #[.string x.1, .int .i64 x.2]) (ha_at _ _ (by simp)) _ rfl
  · unfold maxLen; omega
  · omega
  intro v' w2 g1 g2 _
  obtain ⟨a1, c1, hv', hlc⟩ : ∃ a1 c1, v' = .slice a1 (acc.length + 1) c1 ∧ True := by
    obtain ⟨a1, c1, e, _⟩ := g1.sl
    exact ⟨a1, c1, by rw [e]; simp, trivial⟩
  subst hv'
  have hgv : Chg (fun b _ => v.ownBlock = some b) w1 w2 := (hc2.mono (fun _ _ _ h => h.elim)).trans g2
  have hg : Chg (fun b _ => rb ≤ b) w1 w2 := hgv.mono (fun b _ _ h => (HVL.out b h).1)
  have hs : ∀ {b : Nat} {ob : Obj}, b < rb → w1.heap[b]? = some ob → w2.heap[b]? = some ob := fun h g => by rw [hg.block (heap_lt g) (fun _ h2 => by omega)]; exact g
  have x0' := hgv.cell (a := ⟨w.heap.size, 0, none⟩) (fun h => absurd (HVL.out w.heap.size h).2 (Nat.lt_irrefl _)) x0
  have x1' := hgv.cell (a := ⟨w.heap.size, 1, none⟩) (fun h => absurd (HVL.out w.heap.size h).2 (Nat.lt_irrefl _)) x1
  have o0' := hg.cell (a := ⟨ob, 0, none⟩) (fun h => by have h2 : rb ≤ ob := h; omega) o0
  have q2' := hg.cell (a := ⟨b2, 0, none⟩) (fun h => by have h2 : rb ≤ b2 := h; omega) q2
  have h1' := hs l0 HB.out
  have p2' := hs l2 p2
  have p3' := hs l3 p3
  have pc' := hs lc pc
  refine hK _ _ (fun _ => ⟨o0', q2', x0', x1'⟩) ?_
  clear hK K
  have z0' := frozen_of_block h1' 0
  have HB2 := Lib.hid h1'
  have HP2 := Lib.hid p2'
  have HP3 := Lib.hid p3'
  have HPC := Lib.hid pc'
  have hsz2 := hg.size
  clear h1' p2' p3' pc' p2 p3 pc z0
  refine script_soft (by rfl) ?_ (by simp [Region.wanted, yielded]) ?_ ?_
  rotate_left
  · intro w' hS
    try obtain ⟨a1, a2, a3, a4⟩ := hS
    go_simp
    try with_reducible rfl
  simp only [Act.put, List.setIfInBounds_toArray, List.set_cons_zero, List.set_cons_succ]
  refine script_hard (by rfl) (by simp [Region.wanted, yielded]) (fun K hK => ?_)
  go_simp
  refine hK _ _ (fun h => absurd h (by decide)) (script_nil ?_)
  clear hK K
  have hob : (w2.setCell ⟨ob, 0, none⟩ (.slice a1 (acc.length + 1) c1)).heap[ob]? = some (.cells #[.slice a1 (acc.length + 1) c1] 22 (0, 0)) := by rw [hs_same HB2.out]; rfl
  have hst : Chg (fun b _ => b = ob) w2 (w2.setCell ⟨ob, 0, none⟩ (.slice a1 (acc.length + 1) c1)) := (Chg.refl _ _).setCell (.inl rfl) _
  have hfin : Kept n ob b2 b3 cb rb (w2.setCell ⟨ob, 0, none⟩ (.slice a1 (acc.length + 1) c1)) (acc ++ [x]) := by
    have ho : ∀ {b : Nat} {o : Obj}, ob ≠ b → w2.heap[b]? = some o → (w2.setCell ⟨ob, 0, none⟩ (.slice a1 (acc.length + 1) c1)).heap[b]? = some o := fun h g => by rw [hst.block (heap_lt g) (fun _ e => h e.symm)]; exact g
    exact ⟨⟨_, hob, g1.chgOwn hst (fun b _ hb e => by have := (g1.own_lt hb).1; omega)⟩, ho n2 HP2.out, ho n3 HP3.out, ho nc HPC.out, l0, l2, l3, lc, n2, n3, nc, Nat.le_trans hr (Nat.le_trans hsz2 hst.size)⟩
  have hall : Chg (fun b _ => TakeB ob rb b) w (w2.setCell ⟨ob, 0, none⟩ (.slice a1 (acc.length + 1) c1)) := ((hc1.mono (fun _ _ _ h => h.elim)).trans (hg.mono (fun _ _ _ h => .inr h))).trans (hst.mono (fun _ _ _ h => .inl h))
  have HFIN := Lib.hid hfin
  have HALL := Lib.hid hall
  have k1 := cell_of_block hob 0
  have k2 := hst.cell (a := ⟨b2, 0, none⟩) (fun h => n2 h.symm) q2'
  have k3 := hst.cell (a := ⟨b3, 0, none⟩) (fun h => n3 h.symm) (cell_of_block HP3.out 0)
  simp only [List.getElem?_toArray, List.getElem?_cons_zero, List.getElem?_cons_succ] at k1 k3
  clear hob hst hfin hall o0 q2 x0 x1 o0' q2' x0' x1' hc2 hg hgv g1 g2
  have hcn : contN n (acc ++ [x]) = (decide (n < 1) || decide (((acc.length : Int) + 1) < n)) := by unfold contN; simp
  have HCN := Lib.hid hcn
  clear hcn
  have la1 : (0 : Int) ≤ (acc.length : Int) := by omega
  have la2 : (acc.length : Int) ≤ 1000000000000 := by omega
  by_cases hn1 : n < 1
  · have HD := Lib.hid (show contN n (acc ++ [x]) = true by rw [HCN.out]; simp [hn1])
    go_wp2_with fail
    go_quiet (fail)
    go_wp2
    go_ret
    refine ⟨?_, HFIN.out.keep ((Chg.refl _ _).drewN _), HALL.out.drewN _⟩
    show Ending.returned (.bool true) = _
    rw [HD.out]
  · have hd : decide (n < 1) = false := by simpa using hn1
    have HD := Lib.hid (show contN n (acc ++ [x]) = decide (((acc.length : Int) + 1) < n) by rw [HCN.out, hd]; rfl)
    go_wp2_with fail
    go_quiet (fail)
    go_wp2
    go_ret
    refine ⟨?_, HFIN.out.keep ((Chg.refl _ _).drewN _), HALL.out.drewN _⟩
    show Ending.returned (.bool (decide (((acc.length : Int) + 1) < n))) = _
    rw [HD.out]

/-- The function that pairs hands back, at a key and a value. -/
theorem pairs1_any {n : Int} {ob b2 b3 cb rb : Nat} {w : World} {acc : List (ByteArray × Int)} (x : ByteArray × Int) (h : Kept n ob b2 b3 cb rb w acc) (hlen : acc.length ≤ 1000000000000) :
    Calls Try.prog 46 #[.string x.1, .int .i64 x.2, .pointer (some ⟨cb, 0, none⟩)] w fun e w' =>
      e = .returned (.bool (contN n (acc ++ [x]))) ∧ Kept n ob b2 b3 cb rb w' (acc ++ [x]) ∧ Chg (fun b _ => TakeB ob rb b) w w' := by
  have c0 := cell_of_block h.pc 0
  simp only [List.getElem?_toArray, List.getElem?_cons_zero] at c0
  have ht := taker1_any x h hlen
  have HT := Lib.hid ht
  clear ht h
  go_enter Try.func46, Try.ntmps46
  go_wp2_with fail
  refine HT.out.mono ?_
  rintro e w1 ⟨rfl, h1, h2⟩
  go_wp2_with fail
  go_ret
  exact ⟨rfl, h1, h2⟩
end Go.Proofs.Ytbpnabhgnijbfaa
