/- Items, GItems; fits and alive: what the laws on trees share. -/
import Derived.Laws.EntriesVeiled
import Derived.Laws.MakeOwn
import Derived.Test.YtnohimhihombmaaA2
import Derived.Test.YtnohimhihombmaaA9
import Derived.Test.YtnohimhihombmaaA11
namespace Go.Proofs.Ytnohimhihombmaa
set_option linter.unusedSimpArgs false
set_option linter.unusedVariables false
open Go.RowKit

set_option maxRecDepth 100000 in
theorem find_any {ord : List Int} {k : Kc ord} {mn mx : Nat} {w : World} {n : Nat} {r : NodeR (It ord)} {l : Lay} (t : Nat) (x : It ord) (dp : Int) (hm : MapAt k mn mx w t) (h : NodeAt (parM k) w n r l) (hs : Srt ltM r.items) (hlen : r.items.length ≤ 1000000) :
    Calls Try.prog 49 #[.pointer (some ⟨t, 0, none⟩), .pointer (some ⟨n, 0, none⟩), aggM x, .pointer none, .int .i64 dp] w (SrchN r.items x w) := by
  have HS := Lib.hid (fun (w1 : World) (c : Chg (fun _ _ => False) w w1) => search_node t x (hm.chg c (fun _ _ _ h => h)) (h.chg c (fun _ _ _ h => h)) hs hlen)
  clear hm h hs
  unfold aggM at HS ⊢
  unfold SrchN at HS ⊢
  go_enter Try.func49, Try.ntmps49
  go_wp2_with fail
  refine (HS.out _ ((Chg.refl _ _).alloc _)).mono ?_
  rintro e w2 ⟨i, f, rfl, hc, hf⟩
  go_wp2_with fail
  go_ret2
  exact ⟨i, f, rfl, ((Chg.refl _ _).alloc _).trans hc, hf⟩

theorem fnd_kid {α : Type} {lt : α → α → Bool} (s : Swo lt) {h : Nat} {T : BT α (h + 1)} {mn mx i : Nat} {c : BT α h} {x : α} (hs : Sh mn mx (h + 1) T) (hc : T.2.2[i]? = some c) (hsrt : Srt lt (toL (h + 1) T)) (hp : PosAt lt T.2.1 x i) :
    fndL lt x (toL (h + 1) T) = fndL lt x (toL h c) := by
  obtain ⟨h1, h2⟩ := around s hs hc hsrt hp
  rw [toL_at hs hc]
  exact fndL_mid s h1 h2

theorem kid_lt {α : Type} {h : Nat} {T : BT α (h + 1)} {mn mx : Nat} {c : BT α h} (hs : Sh mn mx (h + 1) T) (hc : c ∈ T.2.2) (h1 : 1 ≤ T.2.1.length) : (toL h c).length < (toL (h + 1) T).length := by
  have e := inter_len T.2.1 (T.2.2.map (toL h)) (by simpa using hs.2.1)
  obtain ⟨A, B, hAB⟩ := List.append_of_mem hc
  have e2 : (toL (h + 1) T).length = T.2.1.length + ((T.2.2.map (toL h)).map (·.length)).sum := e
  rw [e2, hAB]
  simp only [List.map_append, List.map_cons, List.sum_append, List.sum_cons]
  omega

end Go.Proofs.Ytnohimhihombmaa

namespace Go.Proofs.Ytnohimhihombmaa
set_option linter.unusedSimpArgs false
set_option linter.unusedVariables false
open Go.RowKit

/-- Items handed on one by one, until the function says no. -/
def runL {α : Type} (cont : List α → Bool) : List α → List α → List α × Bool
  | acc, [] => (acc, true)
  | acc, x :: l => if cont (acc ++ [x]) then runL cont (acc ++ [x]) l else (acc ++ [x], false)

theorem runL_append {α : Type} (cont : List α → Bool) : ∀ (l1 l2 acc : List α), runL cont acc (l1 ++ l2) = if (runL cont acc l1).2 then runL cont (runL cont acc l1).1 l2 else runL cont acc l1
  | [], l2, acc => by simp [runL]
  | x :: l1, l2, acc => by
    rw [List.cons_append, runL, runL]
    split
    · exact runL_append cont l1 l2 _
    · simp

theorem runL_true {α : Type} (cont : List α → Bool) : ∀ (l acc : List α), (runL cont acc l).2 = true → (runL cont acc l).1 = acc ++ l
  | [], acc, _ => by simp [runL]
  | x :: l, acc, h => by
    rw [runL] at h ⊢
    split at h
    · rename_i hc
      rw [if_pos hc, runL_true cont l _ h]; simp
    · cases h

theorem runL_len {α : Type} (cont : List α → Bool) : ∀ (l acc : List α), (runL cont acc l).1.length ≤ acc.length + l.length
  | [], acc => by simp [runL]
  | x :: l, acc => by
    rw [runL]
    split
    · have := runL_len cont l (acc ++ [x]); simp at this ⊢; omega
    · simp

/-- A bound: n calls, no bound for n below 1. -/
def contN {α : Type} (n : Int) (l : List α) : Bool := decide (n < 1) || decide ((l.length : Int) < n)

def firstN {α : Type} (n : Int) (l : List α) : List α := if n < 1 ∨ (l.length : Int) < n then l else l.take n.toNat

theorem runL_contN {α : Type} (n : Int) : ∀ (l acc : List α), (n < 1 ∨ (acc.length : Int) < n) → (runL (contN n) acc l).1 = acc ++ firstN (n - if n < 1 then 0 else acc.length) l
  | [], acc, h => by simp [runL, firstN]
  | x :: l, acc, h => by
    rw [runL]
    by_cases h1 : n < 1
    · have hc : contN n (acc ++ [x]) = true := by simp [contN, h1]
      rw [if_pos hc, runL_contN n l (acc ++ [x]) (.inl h1)]
      simp [firstN, h1]
    · by_cases h2 : ((acc ++ [x]).length : Int) < n
      · have hc : contN n (acc ++ [x]) = true := by simp only [contN, Bool.or_eq_true, decide_eq_true_eq]; exact .inr h2
        rw [if_pos hc, runL_contN n l (acc ++ [x]) (.inr h2)]
        simp only [if_neg h1, List.append_assoc]
        congr 1
        simp only [List.length_append, List.length_cons, List.length_nil] at h2 ⊢
        unfold firstN
        by_cases h3 : ((x :: l).length : Int) < n - acc.length
        · have h4 : (l.length : Int) < n - ((acc.length + (0 + 1) : Nat) : Int) := by simp only [List.length_cons] at h3; omega
          rw [if_pos (.inr h4), if_pos (.inr h3)]; rfl
        · have h4 : ¬ (n - ((acc.length + (0 + 1) : Nat) : Int) < 1 ∨ (l.length : Int) < n - ((acc.length + (0 + 1) : Nat) : Int)) := by simp only [List.length_cons] at h3; omega
          have h5 : ¬ (n - (acc.length : Int) < 1 ∨ ((x :: l).length : Int) < n - (acc.length : Int)) := by omega
          rw [if_neg h4, if_neg h5]
          have : (n - (acc.length : Int)).toNat = (n - ((acc.length + (0 + 1) : Nat) : Int)).toNat + 1 := by omega
          rw [this]; rfl
      · have hc : contN n (acc ++ [x]) = false := by simp only [contN, Bool.or_eq_false_iff, decide_eq_false_iff_not]; exact ⟨h1, h2⟩
        rw [if_neg (by rw [hc]; simp)]
        simp only [if_neg h1]
        have e : n - (acc.length : Int) = 1 := by
          rcases h with h | h
          · exact absurd h h1
          · simp at h2; omega
        show acc ++ [x] = acc ++ firstN (n - acc.length) (x :: l)
        congr 1
        rw [e]
        unfold firstN
        rw [if_neg (by simp; omega)]; rfl

theorem runL_first {α : Type} (n : Int) (l : List α) : (runL (contN n) [] l).1 = firstN n l := by
  have := runL_contN n l [] (by simp; omega)
  simpa using this

/-- The function's own variables: the slice at ob, the pointer to it at b2, the bound at b3, the inner function at cb; what was kept lies from rb on. -/
structure Kept (n : Int) (ob b2 b3 rb : Nat) (w : World) (acc : List (Int × Int)) : Prop where
  o : ∃ v, w.heap[ob]? = some (.cells #[v] 25 (0, 0)) ∧ OwnE itemE w v acc rb
  p2 : w.heap[b2]? = some (.cells #[.pointer (some ⟨ob, 0, none⟩)] 60 (0, 0))
  p3 : w.heap[b3]? = some (.cells #[.int .i64 n] 3 (0, 0))
  lo : ob < rb
  l2 : b2 < rb
  l3 : b3 < rb
  n2 : ob ≠ b2
  n3 : ob ≠ b3
  rw_ : rb ≤ w.heap.size

theorem Kept.keep {n : Int} {ob b2 b3 rb : Nat} {w w' : World} {acc : List (Int × Int)} (h : Kept n ob b2 b3 rb w acc) (c : Chg (fun _ _ => False) w w') : Kept n ob b2 b3 rb w' acc := by
  obtain ⟨⟨v, h1, h2⟩, p2, p3, l0, l2, l3, n2, n3, hr⟩ := h
  have hb : ∀ {b : Nat} {o : Obj}, w.heap[b]? = some o → w'.heap[b]? = some o := fun h => by rw [c.block (heap_lt h) (fun _ h => h)]; exact h
  exact ⟨⟨v, hb h1, h2.keep c⟩, hb p2, hb p3, l0, l2, l3, n2, n3, Nat.le_trans hr c.size⟩

def TakeB (ob rb : Nat) (b : Nat) : Prop := b = ob ∨ rb ≤ b

set_option maxRecDepth 100000 in
set_option maxHeartbeats 1000000 in
theorem taker1_any {n : Int} {ob b2 b3 rb : Nat} {w : World} {acc : List (Int × Int)} (x : Int × Int) (h : Kept n ob b2 b3 rb w acc) (hlen : acc.length ≤ 1000000000000) :
    Calls Try.prog 53 #[.agg #[.int .i64 x.1, .int .i64 x.2], .pointer (some ⟨b2, 0, none⟩), .pointer (some ⟨b3, 0, none⟩)] w fun e w' =>
      e = .returned (.bool (contN n (acc ++ [x]))) ∧ Kept n ob b2 b3 rb w' (acc ++ [x]) ∧ Chg (fun b _ => TakeB ob rb b) w w' := by
  obtain ⟨i0, hi0, hz0, hz1, hz2⟩ := info_parts infoItem
  have hk1 : Kept n ob b2 b3 rb (w.alloc (.cells #[.int .i64 x.1, .int .i64 x.2] 27)) acc := h.keep ((Chg.refl _ _).alloc _)
  have HK := Lib.hid h
  go_enter Try.func53, Try.ntmps53
  go_wp2
  refine name_world (fun w1 => Chg (fun _ _ => False) w w1 ∧ w1.heap[w.heap.size]? = some (.cells #[.int .i64 x.1, .int .i64 x.2] 27 (0, 0))) ⟨(Chg.refl _ _).alloc _, ha_at _ _ rfl⟩ ?_
  clear hk1 h
  rintro w1 ⟨hc1, hb1⟩
  obtain ⟨v, g1, g2⟩ := HK.out.o
  obtain ⟨_, p2, p3, l0, l2, l3, n2, n3, hr⟩ := HK.out.keep hc1
  have h1 : w1.heap[ob]? = some (.cells #[v] 25 (0, 0)) := by rw [hc1.block (heap_lt g1) (fun _ h => h)]; exact g1
  have h2 := g2.keep hc1
  have hvl : ∀ b, v.ownBlock = some b → rb ≤ b ∧ b < w.heap.size := fun b hb => g2.own_lt hb
  have HVL := Lib.hid hvl
  clear g1 g2 hvl
  have o0 := cell_of_block h1 0
  have q2 := cell_of_block p2 0
  have x0 := cell_of_block hb1 0
  have x1 := cell_of_block hb1 1
  have z0 := frozen_of_block h1 0
  simp only [List.getElem?_toArray, List.getElem?_cons_zero, List.getElem?_cons_succ] at o0 q2 x0 x1
  have hsz1 := hc1.size
  have HOW := Lib.hid h2
  have HB := Lib.hid h1
  clear h2 h1
  refine wp_region_script (fun w' => w'.cell? ⟨ob, 0, none⟩ = some v ∧ w'.cell? ⟨b2, 0, none⟩ = some (.pointer (some ⟨ob, 0, none⟩)) ∧ w'.cell? ⟨w.heap.size, 0, none⟩ = some (.int .i64 x.1) ∧ w'.cell? ⟨w.heap.size, 1, none⟩ = some (.int .i64 x.2)) 8
    [(0, true), (1, true), (2, true), (3, true), (4, true), (5, false), (6, false), (7, true), (8, false)] (by kernel_rfl) (by kernel_rfl) (fun _ _ _ _ _ h => h) ⟨o0, q2, x0, x1⟩ ?_
  refine script_soft (by rfl) ?_ (by simp [Region.wanted, yielded]) ?_ ?_
  rotate_left
  · intro w' hS
    try obtain ⟨a1, a2, a3, a4⟩ := hS
    go_simp
    try with_reducible rfl
  simp only [Act.put, List.setIfInBounds_toArray, List.set_cons_zero, List.set_cons_succ]
  refine script_soft (by rfl) ?_ (by simp [Region.wanted, yielded]) ?_ ?_
  rotate_left
  · intro w' hS
    try obtain ⟨a1, a2, a3, a4⟩ := hS
    go_simp
    try with_reducible rfl
  simp only [Act.put, List.setIfInBounds_toArray, List.set_cons_zero, List.set_cons_succ]
  refine script_soft (by rfl) ?_ (by simp [Region.wanted, yielded]) ?_ ?_
  rotate_left
  · intro w' hS
    try obtain ⟨a1, a2, a3, a4⟩ := hS
    go_simp
    try with_reducible rfl
  simp only [Act.put, List.setIfInBounds_toArray, List.set_cons_zero, List.set_cons_succ]
  refine script_soft (by rfl) ?_ (by simp [Region.wanted, yielded]) ?_ ?_
  rotate_left
  · intro w' hS
    try obtain ⟨a1, a2, a3, a4⟩ := hS
    go_simp
    try with_reducible rfl
  simp only [Act.put, List.setIfInBounds_toArray, List.set_cons_zero, List.set_cons_succ]
  refine script_soft (by rfl) ?_ (by simp [Region.wanted, yielded]) ?_ ?_
  rotate_left
  · intro w' hS
    try obtain ⟨a1, a2, a3, a4⟩ := hS
    go_simp
    try with_reducible rfl
  simp only [Act.put, List.setIfInBounds_toArray, List.set_cons_zero, List.set_cons_succ]
  refine script_hard (by rfl) (by simp [Region.wanted, yielded]) (fun K hK => ?_)
  go_simp
  have hc2 : Chg (fun _ _ => False) w1 (w1.alloc (.cells #[.int .i64 x.1, .int .i64 x.2] 27)).drew := ((Chg.refl _ _).alloc _).drew
  refine hK _ _ (fun _ => ⟨hc2.cell (fun h => h) o0, hc2.cell (fun h => h) q2, hc2.cell (fun h => h) x0, hc2.cell (fun h => h) x1⟩) ?_
  clear hK K
  refine script_hard (by rfl) (by simp [Region.wanted, yielded]) (fun K hK => ?_)
  refine wp_append_E2 itemE _ _ _ (by rfl) i0 _ 16 Try.underlying25 hi0 hz0 hz1 hz2 rfl v (by rfl) acc rb (HOW.out.keep hc2) (Nat.le_trans hr hc2.size) ⟨w1.heap.size, 0, none⟩ 1 _ (by rfl) [x] rfl (by decide) ?_ ?_ ?_ ?_
  · exact El.src1 itemE (c := #[.int .i64 x.1, .int .i64 x.2]) (ha_at _ _ (by simp)) _ rfl
  · unfold maxLen; omega
  · omega
  intro v' w2 g1 g2 _
  obtain ⟨a1, c1, hv', hlc⟩ : ∃ a1 c1, v' = .slice a1 (acc.length + 1) c1 ∧ True := by
    obtain ⟨a1, c1, e, _⟩ := g1.sl
    exact ⟨a1, c1, by rw [e]; simp, trivial⟩
  subst hv'
  have hgv : Chg (fun b _ => v.ownBlock = some b) w1 w2 := (hc2.mono (fun _ _ _ h => h.elim)).trans g2
  have hg : Chg (fun b _ => rb ≤ b) w1 w2 := hgv.mono (fun b _ _ h => (HVL.out b h).1)
  have hs : ∀ {b : Nat} {ob : Obj}, b < rb → w1.heap[b]? = some ob → w2.heap[b]? = some ob := fun h g => by rw [hg.block (heap_lt g) (fun _ h2 => by omega)]; exact g
  have x0' := hgv.cell (a := ⟨w.heap.size, 0, none⟩) (fun h => absurd (HVL.out w.heap.size h).2 (Nat.lt_irrefl _)) x0
  have x1' := hgv.cell (a := ⟨w.heap.size, 1, none⟩) (fun h => absurd (HVL.out w.heap.size h).2 (Nat.lt_irrefl _)) x1
  have o0' := hg.cell (a := ⟨ob, 0, none⟩) (fun h => by have h2 : rb ≤ ob := h; omega) o0
  have q2' := hg.cell (a := ⟨b2, 0, none⟩) (fun h => by have h2 : rb ≤ b2 := h; omega) q2
  have h1' := hs l0 HB.out
  have p2' := hs l2 p2
  have p3' := hs l3 p3
  refine hK _ _ (fun _ => ⟨o0', q2', x0', x1'⟩) ?_
  clear hK K
  have z0' := frozen_of_block h1' 0
  have HB2 := Lib.hid h1'
  have HP2 := Lib.hid p2'
  have HP3 := Lib.hid p3'
  have hsz2 := hg.size
  clear h1' p2' p3' p2 p3 z0
  refine script_soft (by rfl) ?_ (by simp [Region.wanted, yielded]) ?_ ?_
  rotate_left
  · intro w' hS
    try obtain ⟨a1, a2, a3, a4⟩ := hS
    go_simp
    try with_reducible rfl
  simp only [Act.put, List.setIfInBounds_toArray, List.set_cons_zero, List.set_cons_succ]
  refine script_hard (by rfl) (by simp [Region.wanted, yielded]) (fun K hK => ?_)
  go_simp
  refine hK _ _ (fun h => absurd h (by decide)) (script_nil ?_)
  clear hK K
  have hob : (w2.setCell ⟨ob, 0, none⟩ (.slice a1 (acc.length + 1) c1)).heap[ob]? = some (.cells #[.slice a1 (acc.length + 1) c1] 25 (0, 0)) := by rw [hs_same HB2.out]; rfl
  have hst : Chg (fun b _ => b = ob) w2 (w2.setCell ⟨ob, 0, none⟩ (.slice a1 (acc.length + 1) c1)) := (Chg.refl _ _).setCell (.inl rfl) _
  have hfin : Kept n ob b2 b3 rb (w2.setCell ⟨ob, 0, none⟩ (.slice a1 (acc.length + 1) c1)) (acc ++ [x]) := by
    have ho : ∀ {b : Nat} {o : Obj}, ob ≠ b → w2.heap[b]? = some o → (w2.setCell ⟨ob, 0, none⟩ (.slice a1 (acc.length + 1) c1)).heap[b]? = some o := fun h g => by rw [hst.block (heap_lt g) (fun _ e => h e.symm)]; exact g
    exact ⟨⟨_, hob, g1.chgOwn hst (fun b _ hb e => by have := (g1.own_lt hb).1; omega)⟩, ho n2 HP2.out, ho n3 HP3.out, l0, l2, l3, n2, n3, Nat.le_trans hr (Nat.le_trans hsz2 hst.size)⟩
  have hall : Chg (fun b _ => TakeB ob rb b) w (w2.setCell ⟨ob, 0, none⟩ (.slice a1 (acc.length + 1) c1)) := ((hc1.mono (fun _ _ _ h => h.elim)).trans (hg.mono (fun _ _ _ h => .inr h))).trans (hst.mono (fun _ _ _ h => .inl h))
  have HFIN := Lib.hid hfin
  have HALL := Lib.hid hall
  have k1 := cell_of_block hob 0
  have k2 := hst.cell (a := ⟨b2, 0, none⟩) (fun h => n2 h.symm) q2'
  have k3 := hst.cell (a := ⟨b3, 0, none⟩) (fun h => n3 h.symm) (cell_of_block HP3.out 0)
  simp only [List.getElem?_toArray, List.getElem?_cons_zero, List.getElem?_cons_succ] at k1 k3
  clear hob hst hfin hall o0 q2 x0 x1 o0' q2' x0' x1' hc2 hg hgv g1 g2
  have hcn : contN n (acc ++ [x]) = (decide (n < 1) || decide (((acc.length : Int) + 1) < n)) := by unfold contN; simp
  have HCN := Lib.hid hcn
  clear hcn
  have la1 : (0 : Int) ≤ (acc.length : Int) := by omega
  have la2 : (acc.length : Int) ≤ 1000000000000 := by omega
  by_cases hn1 : n < 1
  · have HD := Lib.hid (show contN n (acc ++ [x]) = true by rw [HCN.out]; simp [hn1])
    go_wp2_with fail
    go_quiet (fail)
    go_wp2
    go_ret
    refine ⟨?_, HFIN.out.keep ((Chg.refl _ _).drewN _), HALL.out.drewN _⟩
    show Ending.returned (.bool true) = _
    rw [HD.out]
  · have hd : decide (n < 1) = false := by simpa using hn1
    have HD := Lib.hid (show contN n (acc ++ [x]) = decide (((acc.length : Int) + 1) < n) by rw [HCN.out, hd]; rfl)
    go_wp2_with fail
    go_quiet (fail)
    go_wp2
    go_ret
    refine ⟨?_, HFIN.out.keep ((Chg.refl _ _).drewN _), HALL.out.drewN _⟩
    show Ending.returned (.bool (decide (((acc.length : Int) + 1) < n))) = _
    rw [HD.out]

theorem taker_any (ob : Nat) (n : Int) (w : World) :
    Calls Try.prog 30 #[.pointer (some ⟨ob, 0, none⟩), .int .i64 n] w fun e w' =>
      e = .returned (.func (.func 53) #[] #[.pointer (some ⟨w.heap.size, 0, none⟩), .pointer (some ⟨w.heap.size + 1, 0, none⟩)]) ∧
      w' = (w.alloc (.cells #[.pointer (some ⟨ob, 0, none⟩)] 60)).alloc (.cells #[.int .i64 n] 3) := by
  have hmf : ∀ (fn : Fn) (first cap : Array Value) (w : World), (Instr.makeFunc fn first cap).run Try.prog w = .ok (.func fn first cap) w := fun _ _ _ _ => rfl
  go_enter Try.func30, Try.ntmps30
  go_wp2
  go_ret
  exact ⟨rfl, rfl⟩

def fnG (b2 b3 : Nat) : Value := .func (.func 53) #[] #[.pointer (some ⟨b2, 0, none⟩), .pointer (some ⟨b3, 0, none⟩)]

theorem taker_kept {n : Int} {ob : Nat} {w : World} (ho : w.heap[ob]? = some (.cells #[.slice none 0 0] 25 (0, 0))) :
    Kept n ob w.heap.size (w.heap.size + 1) ((w.alloc (.cells #[.pointer (some ⟨ob, 0, none⟩)] 60)).alloc (.cells #[.int .i64 n] 3)).heap.size ((w.alloc (.cells #[.pointer (some ⟨ob, 0, none⟩)] 60)).alloc (.cells #[.int .i64 n] 3)) [] := by
  have hol := heap_lt ho
  refine ⟨⟨_, ?_, OwnE.nil _ _ _⟩, ?_, ?_, by simp only [World.size_alloc]; omega, by simp only [World.size_alloc]; omega, by simp only [World.size_alloc]; omega, by omega, by omega, Nat.le_refl _⟩
  · rw [ha_lt _ _ (by simp only [World.size_alloc]; omega), ha_lt _ _ hol]; exact ho
  · rw [ha_lt _ _ (by simp only [World.size_alloc]; omega)]; exact ha_at _ _ rfl
  · exact ha_at _ _ (by simp)
end Go.Proofs.Ytnohimhihombmaa

namespace Go.Proofs.Ytnohimhihombmaa
set_option linter.unusedSimpArgs false
set_option linter.unusedVariables false
open Go.RowKit

theorem pre_step {α : Type} {xs : List α} {ts : List (List α)} {i : Nat} {x : α} {t : List α} (hx : xs[i]? = some x) (ht : ts[i]? = some t) : pre (xs.take (i + 1)) (ts.take (i + 1)) = pre (xs.take i) (ts.take i) ++ (t ++ [x]) := by
  have hi := (List.getElem?_eq_some_iff.1 hx).1
  have hj := (List.getElem?_eq_some_iff.1 ht).1
  rw [List.take_add_one, List.take_add_one, hx, ht]
  have h : (xs.take i).length = (ts.take i).length := by simp; omega
  have := pre_app (xs.take i) [x] (ts.take i) [t] h
  simpa [pre] using this

theorem inter_end {α : Type} {xs : List α} {ts : List (List α)} {t : List α} (h : ts.length = xs.length + 1) (ht : ts[xs.length]? = some t) : inter xs ts = pre (xs.take xs.length) (ts.take xs.length) ++ t := by
  rw [inter_split xs.length xs ts t h ht, List.drop_of_length_le (Nat.le_refl _)]
  simp [post]

/-- A piece of the list ahead of the i-th child, and up to it. -/
theorem pre_len {α : Type} {xs : List α} {ts : List (List α)} (h : ts.length = xs.length + 1) {i : Nat} {t : List α} (ht : ts[i]? = some t) : (pre (xs.take i) (ts.take i)).length + t.length ≤ (inter xs ts).length := by
  rw [inter_split i xs ts t h ht]
  simp only [List.length_append]; omega

def ItSpec (ord : List Int) (h : Nat) : Prop := ∀ (k : Kc ord) (mn mx : Nat) (w : World) (F : Nat → Prop) (H : Nat → Option (NodeR (It ord))) (T : BT (It ord) h) (t : Nat) (pa : Addr) (mt : Bool) (v : Value) (acc : List (It ord)) (base : Nat),
  Fam (parM k) w F H → IsT H h T → Sh mn mx h T → 1 ≤ (its T).length → 1 ≤ mn → OwnE itemE w v acc base → base ≤ w.heap.size → (∀ b, F b → b < base) → t < base →
  w.cell? ⟨t, 0, none⟩ = some (.int .u64 k.iso) → w.cell? pa = some (.pointer (some ⟨rid T, 0, none⟩)) → acc.length + (toL h T).length ≤ 1000000000000 →
  Calls Try.prog 66 #[.pointer (some ⟨t, 0, none⟩), .pointer (some pa), v, .bool mt] w fun e w' => ∃ v', e = .returned v' ∧ OwnE itemE w' v' (acc ++ toL h T) base ∧ Chg (fun b _ => base ≤ b) w w'

theorem flat_same {ord : List Int} {k : Kc ord} (xs : List (It ord)) : flat (parM k) xs = flat itemE.par xs := rfl

set_option maxRecDepth 100000 in
set_option maxHeartbeats 1000000 in
theorem items_leaf (ord : List Int) : ItSpec ord 0 := by
  intro k mn mx w F H T t pa mt v acc base hF hT hs hit hmn how hbase hFb htb c0 hpa hlen
  obtain ⟨i0, hi0, hz0, hz1, hz2⟩ := info_parts infoItem
  obtain ⟨l0, hn0⟩ := hF.node hT.root
  have nn := hn0.c0
  have n3 := hn0.c3n rfl
  have n2 : w.cell? ⟨rid T, 2, none⟩ = some (.slice (some ⟨l0.ib, l0.io, none⟩) T.2.length l0.ic) := hn0.c2
  have hrow := hn0.row
  have hlen' : acc.length + T.2.length ≤ 1000000000000 := hlen
  have hit' : 1 ≤ T.2.length := hit
  have HOW := Lib.hid how
  have HROW := Lib.hid hrow
  clear how hrow
  go_enter Try.func66, Try.ntmps66
  go_wp2_with fail
  refine (isoLoad_any t (rid T) k _ _ _ hpa nn c0).mono ?_
  rintro e w1 ⟨rfl, m, hw1⟩
  have hc1 : Chg (fun _ _ => False) w w1 := by rw [hw1]; exact (Chg.refl _ _).drewN _
  replace n3 := hc1.cell (fun h => h) n3
  replace n2 := hc1.cell (fun h => h) n2
  clear hw1
  go_wp2_with fail
  refine (leaf_any _ none _ n3).mono ?_
  rintro e w' ⟨rfl, rfl⟩
  have HOW2 := Lib.hid (HOW.out.keep hc1)
  go_wp2_with (refine wpList_append_E itemE (by rfl) _ _ _ (by rfl) i0 _ 16 Try.underlying25 hi0 hz0 hz1 hz2 rfl _ (by rfl) _ base HOW2.out (Nat.le_trans hbase hc1.size) ⟨l0.ib, l0.io, none⟩ T.2.length _ (by rfl) T.2 rfl (by omega) ?_ ?_ ?_ ?_)
  · intro j u hj
    rw [add_none]
    exact hc1.cell (fun h => h) (HROW.out.cell hj)
  · unfold maxLen; omega
  · omega
  intro v' w' h1 h2 _
  go_wp2
  go_ret
  exact ⟨_, rfl, h1, (hc1.mono (fun _ _ _ h => h.elim)).trans h2⟩

set_option maxRecDepth 100000 in
set_option maxHeartbeats 1000000 in
theorem items_branch {ord : List Int} {h : Nat} (ih : ItSpec ord h) : ItSpec ord (h + 1) := by
  intro k mn mx w F H T t pa mt v acc base hF hT hs hit hmn how hbase hFb htb c0 hpa hlen
  obtain ⟨i0, hi0, hz0, hz1, hz2⟩ := info_parts infoItem
  obtain ⟨l0, hn0⟩ := hF.node hT.root
  have nn := hn0.c0
  have hk : (recOf (h + 1) T).kids = some (T.2.2.map fun c => some (rid c)) := rfl
  have n3 := hn0.c3s hk
  have hkl : T.2.2.length = T.2.1.length + 1 := hs.2.1
  have hml : (T.2.2.map (toL h)).length = T.2.1.length + 1 := by simpa using hkl
  have hlen' : acc.length + (inter T.2.1 (T.2.2.map (toL h))).length ≤ 1000000000000 := hlen
  have HLEN := Lib.hid hlen'
  have HOW := Lib.hid how
  have HKL := Lib.hid hkl
  have HML := Lib.hid hml
  have hitn : T.2.1.length ≤ (inter T.2.1 (T.2.2.map (toL h))).length := (its_sub hs).length_le
  have hitl : T.2.1.length ≤ 1000000000000 := by omega
  clear how hkl hlen' hml hlen hitn
  go_enter Try.func66, Try.ntmps66
  go_wp2_with fail
  refine (isoLoad_any t (rid T) k _ _ _ hpa nn c0).mono ?_
  rintro e w1 ⟨rfl, m, hw1⟩
  have hc1 : Chg (fun b _ => base ≤ b) w w1 := by rw [hw1]; exact (Chg.refl _ _).drewN _
  have hcf : Chg (fun _ _ => False) w w1 := by rw [hw1]; exact (Chg.refl _ _).drewN _
  replace n3 := hcf.cell (fun h => h) n3
  have HOW1 := Lib.hid (HOW.out.keep hcf)
  clear hw1 hcf
  go_wp2_with fail
  refine (leaf_any _ (some ⟨l0.cc, 0, none⟩) _ n3).mono ?_
  rintro e w' ⟨rfl, rfl⟩
  clear n3
  go_wp2_with fail
  go_loopw [2, 10] (fun v i wr => ∃ (j : Nat), j ≤ T.2.1.length ∧ i = .int .i64 j ∧ OwnE itemE wr v (acc ++ pre (T.2.1.take j) ((T.2.2.map (toL h)).take j)) base ∧ Chg (fun b _ => base ≤ b) w wr) (fun _ i _ => T.2.1.length - (intOf i).toNat)
  case atStart => exact ⟨0, Nat.zero_le _, rfl, by simpa [pre] using HOW1.out, hc1⟩
  case round =>
    obtain ⟨j, hj, rfl, how, hc⟩ := hrel
    have hsz := hc.size
    have hFr := hF.chg hc (fun b o hb h => by have := hFb b hb; omega)
    obtain ⟨l, hn, hblk⟩ := hFr.nodeB hT.root
    have hrb : ¬ base ≤ rid T := by have := hFb _ (hblk _ (.inl rfl)); omega
    have hcb : ¬ base ≤ l.cc := by have := hFb _ (hblk _ (.inr (.inr ⟨by rw [hk]; simp, .inl rfl⟩))); omega
    have n2 : wr.cell? ⟨rid T, 2, none⟩ = some (.slice (some ⟨l.ib, l.io, none⟩) T.2.1.length l.ic) := hn.c2
    have n3 := hn.c3s hk
    have nc := hn.cc hk
    rw [List.length_map] at nc
    obtain ⟨c, hcj⟩ : ∃ c, T.2.2[j]? = some c := ⟨_, List.getElem?_eq_getElem (by have := HKL.out; omega)⟩
    have kc : wr.cell? ⟨l.cb, l.co + j, none⟩ = some (.pointer (some ⟨rid c, 0, none⟩)) := hn.kidc hk (j := j) (o := some (rid c)) (by simp [hcj])
    have hcm : c ∈ T.2.2 := List.mem_of_getElem? hcj
    have hkc := (List.getElem?_eq_some_iff.1 hcj).1
    have htj : (T.2.2.map (toL h))[j]? = some (toL h c) := by simp [hcj]
    have hpl := pre_len HML.out htj
    have hpl2 := HLEN.out
    have i0' : (0 : Int) ≤ (j : Int) := by omega
    have k1 : (j : Int) < (T.2.2.length : Int) := by omega
    have hih := fun (w1 : World) (pa1 : Addr) (v1 : Value) (acc1 : List (It ord)) (hc1 : Chg (fun b _ => base ≤ b) w w1) (h1 : OwnE itemE w1 v1 acc1 base) (hp1 : w1.cell? pa1 = some (.pointer (some ⟨rid c, 0, none⟩))) (h2 : acc1.length + (toL h c).length ≤ 1000000000000) =>
      ih k mn mx w1 F H c t pa1 mt v1 acc1 base (hF.chg hc1 (fun b o hb h => by have := hFb b hb; omega)) (hT.kid hcm) (hs.2.2 c hcm).2 (Nat.le_trans hmn (hs.2.2 c hcm).1) hmn h1 (Nat.le_trans hbase hc1.size) hFb htb (hc1.cell (fun h => by have h2 : base ≤ t := h; omega) c0) hp1 h2
    have HIH := Lib.hid hih
    clear hih
    have hml1 : (acc ++ pre (T.2.1.take j) ((T.2.2.map (toL h)).take j)).length + (toL h c).length ≤ 1000000000000 := by
      rw [List.length_append]; omega
    have HL1 := Lib.hid hml1
    clear hml1
    by_cases hlt : j < T.2.1.length
    · obtain ⟨x, hx⟩ : ∃ x, T.2.1[j]? = some x := ⟨_, List.getElem?_eq_getElem hlt⟩
      have hstep := pre_step hx htj
      have ht : acc ++ pre (T.2.1.take (j + 1)) ((T.2.2.map (toL h)).take (j + 1)) = acc ++ pre (T.2.1.take j) ((T.2.2.map (toL h)).take j) ++ toL h c ++ [x] := by
        rw [hstep]; simp
      have HT := Lib.hid ht
      have HX := Lib.hid hx
      have HOW2 := Lib.hid how
      clear hx ht hstep how htj hcj hpl hpl2
      have i1 : (j : Int) < (T.2.1.length : Int) := by omega
      go_wp2_with fail
      refine (HIH.out _ _ _ _ hc HOW2.out kc HL1.out).mono ?_
      rintro e w2 ⟨v2, rfl, how2, hc2⟩
      have hc02 := hc.trans hc2
      obtain ⟨l2, hn2⟩ := (hF.chg hc02 (fun b o hb h => by have := hFb b hb; omega)).node hT.root
      have n2' : w2.cell? ⟨rid T, 2, none⟩ = some (.slice (some ⟨l2.ib, l2.io, none⟩) T.2.1.length l2.ic) := hn2.c2
      have iv := hn2.mval (j := j) HX.out
      have ik := hn2.mkey (j := j) HX.out
      have hca : Chg (fun _ _ => False) w2 (w2.alloc (.cells #[.int .i64 x.1, .int .i64 x.2] 27)) := (Chg.refl _ _).alloc _
      have HOW3 := Lib.hid (how2.keep hca)
      clear how2
      have hsz2 := hc02.size
      have hll : (acc ++ pre (T.2.1.take j) ((T.2.2.map (toL h)).take j) ++ toL h c).length ≤ 1000000000000 := by
        have := HL1.out
        rw [List.length_append]; exact this
      have HLL := Lib.hid hll
      clear hll n2 n3 nc kc
      go_wp2_with (refine wpList_append_E itemE (by rfl) _ _ _ (by rfl) i0 _ 16 Try.underlying25 hi0 hz0 hz1 hz2 rfl _ (by rfl) _ base HOW3.out (Nat.le_trans hbase (Nat.le_trans hsz2 hca.size)) ⟨w2.heap.size, 0, none⟩ 1 _ (by rfl) [x] rfl (by decide) ?_ ?_ ?_ ?_)
      · exact El.src1 itemE (c := #[.int .i64 x.1, .int .i64 x.2]) (ha_at _ _ (by simp)) _ rfl
      · have := HLL.out; unfold maxLen; omega
      · have := HLL.out; omega
      intro v' w' h1 h2 _
      have hc3 : Chg (fun b _ => base ≤ b) w w' := (hc02.trans (hca.mono (fun _ _ _ h => h.elim))).trans h2
      go_wp2
      go_roundw
      case rel => exact ⟨j + 1, by omega, by go_num, by rw [HT.out]; simpa only [List.append_assoc] using h1, hc3⟩
      case measure => simp [intOf]; omega
    · obtain rfl : j = T.2.1.length := by omega
      have hend := inter_end HML.out htj
      have ht : acc ++ toL (h + 1) T = acc ++ pre (T.2.1.take T.2.1.length) ((T.2.2.map (toL h)).take T.2.1.length) ++ toL h c := by
        show acc ++ inter T.2.1 (T.2.2.map (toL h)) = _
        rw [hend]; simp
      have HT := Lib.hid ht
      have HOW2 := Lib.hid how
      have hkk := HKL.out
      have kc' : wr.cell? ⟨l.cb, l.co + (T.2.2.length - 1), none⟩ = some (.pointer (some ⟨rid c, 0, none⟩)) := by
        have e : T.2.2.length - 1 = T.2.1.length := by omega
        rw [e]; exact kc
      have i4 : (1 : Int) ≤ (T.2.2.length : Int) := by omega
      have i0 : (0 : Int) ≤ (T.2.2.length : Int) - 1 := by omega
      have i1 : (T.2.2.length : Int) - 1 < (T.2.2.length : Int) := by omega
      have i2 : ((T.2.2.length : Int) - 1).toNat = T.2.2.length - 1 := by omega
      have i3 : IntKind.i64.wrap ((T.2.2.length : Int) - 1) = (T.2.2.length : Int) - 1 := IntWalk.i64_in _ (by omega)
      clear ht hend how htj hcj hpl hpl2 hkk hkc kc k1
      go_wp2_with fail
      refine wp_region_scr (fun w' => w'.cell? ⟨rid T, 3, none⟩ = some (.pointer (some ⟨l.cc, 0, none⟩)) ∧ w'.cell? ⟨l.cc, 0, none⟩ = some (.slice (some ⟨l.cb, l.co, none⟩) T.2.2.length l.ck)) (.soft 0 (.soft 1 (.soft 2 (.soft 3 (.soft 4 (.soft 5 (.soft 6 (.soft 7 (.soft 8 (.soft 9 (.soft 10 (.soft 11 (.soft 12 (.soft 13 (.soft 14 (.soft 15 (.soft 16 (.soft 17 (.hard 18 (.soft 19 .nil)))))))))))))))))))) (by kernel_rfl) (by kernel_rfl) (fun _ _ _ _ _ h => h) ⟨n3, nc⟩ ?_
      repeat
        first
        | (refine scr_soft (by rfl) ?_ ?_ ?_ ?_
           rotate_left
           · simp [Region.wanted, yielded]; done
           · intro w' hS
             try obtain ⟨a1, a2⟩ := hS
             go_simp
             try with_reducible rfl
           simp only [Act.put, List.setIfInBounds_toArray, List.set_cons_zero, List.set_cons_succ])
        | (refine scr_skip (by rfl) ?_ ?_
           · simp [Region.wanted, yielded]; done
           simp only [Act.put, List.setIfInBounds_toArray, List.set_cons_zero, List.set_cons_succ])
      refine scr_hard (by rfl) (by simp [Region.wanted, yielded]) (fun K hK => ?_)
      go_simp
      refine (HIH.out wr.drew _ _ _ hc.drew (HOW2.out.keep (Chg.refl _ _).drew) kc' HL1.out).mono ?_
      rintro e w2 ⟨v2, rfl, how2, hc2⟩
      refine hK _ _ ⟨hc2.cell hrb n3, hc2.cell hcb nc⟩ ?_
      clear hK K
      repeat
        first
        | (refine scr_soft (by rfl) ?_ ?_ ?_ ?_
           rotate_left
           · simp [Region.wanted, yielded]; done
           · intro w' hS
             try obtain ⟨a1, a2⟩ := hS
             go_simp
             try with_reducible rfl
           simp only [Act.put, List.setIfInBounds_toArray, List.set_cons_zero, List.set_cons_succ])
        | (refine scr_skip (by rfl) ?_ ?_
           · simp [Region.wanted, yielded]; done
           simp only [Act.put, List.setIfInBounds_toArray, List.set_cons_zero, List.set_cons_succ])
      refine scr_nil ?_
      go_wp2
      go_ret
      exact ⟨v2, rfl, by rw [HT.out]; simpa only [List.append_assoc] using how2, hc.drew.trans hc2⟩

theorem items_all (ord : List Int) : (h : Nat) → ItSpec ord h
  | 0 => items_leaf ord
  | h + 1 => items_branch (items_all ord h)
end Go.Proofs.Ytnohimhihombmaa

namespace Go.Proofs.Ytnohimhihombmaa
set_option linter.unusedSimpArgs false
set_option linter.unusedVariables false
open Go.RowKit

def OwnPostI (xs : List (Int × Int)) (w : World) (e : Ending) (w' : World) : Prop := ∃ v, e = .returned v ∧ OwnE itemE w' v xs w.heap.size ∧ Chg (fun _ _ => False) w w'

theorem MapIn.blk {ord : List Int} {k : Kc ord} {mn mx : Nat} {w : World} {F : Nat → Prop} {t : Nat} {l : List (It ord)} (h : MapIn k mn mx w F t l) : ∃ root, MapBlk k mn mx w t root l.length := by
  rcases h with ⟨rfl, _, hB⟩ | ⟨H, h, T, _, hB, rfl, _⟩
  · exact ⟨none, hB⟩
  · exact ⟨_, hB⟩

theorem MapIn.flt {ord : List Int} {k : Kc ord} {mn mx : Nat} {w : World} {F : Nat → Prop} {t : Nat} {l : List (It ord)} (hM : MapIn k mn mx w F t l) : ∀ b, F b → b < w.heap.size := by
  intro b hb
  rcases hM with ⟨_, h, _⟩ | ⟨H, h, T, hI, _⟩
  · exact absurd hb (h b)
  · exact hI.fam.lt hb

theorem Len_any {ord : List Int} {k : Kc ord} {mn mx : Nat} {w : World} {F : Nat → Prop} {t : Nat} {l : List (It ord)} (hM : MapIn k mn mx w F t l) :
    Calls Try.prog 38 #[.pointer (some ⟨t, 0, none⟩)] w fun e w' => e = .returned (.int .i64 l.length) ∧ w = w' := by
  obtain ⟨root, hB⟩ := hM.blk
  have c3 := hB.c3
  clear hB hM
  go_enter Try.func38, Try.ntmps38
  go_wp2
  go_ret
  exact ⟨rfl, rfl⟩

theorem made_items (n : Nat) (w : World) (hn : n ≤ 1000000000000) : (Instr.makeSlice 25 (.int .i64 0) (.int .i64 n)).run Try.prog w = .ok (.slice (some ⟨w.heap.size, 0, none⟩) 0 n) (w.alloc (.cells (madeCells #[.int .i64 0, .int .i64 0] (n * 2)) 27)) := by
  obtain ⟨i0, hi0, hz0, hz1, hz2⟩ := info_parts infoItem
  have h := run_make (P := Try.prog) w 25 27 i0 _ Try.underlying25 hi0 hz0 .i64 .i64 0 (n : Int) (by omega) (by omega) (by rw [hz2]; omega) (by omega)
  rw [h, hz1]
  simp [Value.cells]

theorem own_made (n : Nat) (w : World) : OwnE itemE (w.alloc (.cells (madeCells #[.int .i64 0, .int .i64 0] (n * 2)) 27)) (.slice (some ⟨w.heap.size, 0, none⟩) 0 n) [] w.heap.size := by
  refine .inr ⟨w.heap.size, 0, n, rfl, Nat.zero_le _, Nat.le_refl _, RowAt.of_block (ha_at _ _ rfl) _ _ (by simp [flat]) ?_ (by simp [flat])⟩
  simp [madeCells, itemE]

set_option maxRecDepth 100000 in
theorem items_any {ord : List Int} {k : Kc ord} {mn mx : Nat} {w : World} {F : Nat → Prop} {t : Nat} {l : List (It ord)} (mt : Bool) (hM : MapIn k mn mx w F t l) (hmn : 1 ≤ mn) (hlen : l.length ≤ 1000000000000) :
    Calls Try.prog 45 #[.pointer (some ⟨t, 0, none⟩), .bool mt] w (OwnPostI l w) := by
  have hF := hM.flt
  have htw : t < w.heap.size := hM.own MOwn.self
  have hL := Len_any hM
  obtain ⟨n, hn⟩ : ∃ n, l.length = n := ⟨_, rfl⟩
  rw [hn] at hL hlen
  have HN := Lib.hid hn
  clear hn
  have hmk := fun w' => made_items n w' hlen
  have hca : Chg (fun _ _ => False) w (w.alloc (.cells (madeCells #[.int .i64 0, .int .i64 0] (n * 2)) 27)) := (Chg.refl _ _).alloc _
  have hown := own_made n w
  have HOWN := Lib.hid hown
  clear hown
  rcases hM.chg hca with ⟨rfl, _, hB⟩ | ⟨H, h, T, hI, hB, rfl, h1⟩
  · have c2 : (w.alloc (.cells (madeCells #[.int .i64 0, .int .i64 0] (n * 2)) 27)).cell? ⟨t, 2, none⟩ = some (.pointer none) := hB.c2
    clear hB
    go_enter Try.func45, Try.ntmps45
    go_wp2_with fail
    refine (lock_any t mt _).mono ?_
    rintro e w' ⟨rfl, rfl⟩
    go_wp2_with fail
    refine hL.mono ?_
    rintro e w' ⟨rfl, rfl⟩
    go_wp2_with fail
    go_ret
    exact ⟨_, rfl, HOWN.out, hca⟩
  · have c2 : (w.alloc (.cells (madeCells #[.int .i64 0, .int .i64 0] (n * 2)) 27)).cell? ⟨t, 2, none⟩ = some (.pointer (some ⟨rid T, 0, none⟩)) := hB.c2
    have c0 := hB.at_.c0
    have hk := items_all ord h k mn mx _ F H T t ⟨t, 2, none⟩ mt _ [] w.heap.size hI.fam hI.isT hI.sh h1 hmn HOWN.out hca.size hF htw c0 c2 (by rw [HN.out]; simpa using hlen)
    have HK := Lib.hid hk
    clear hk hB
    go_enter Try.func45, Try.ntmps45
    go_wp2_with fail
    refine (lock_any t mt _).mono ?_
    rintro e w' ⟨rfl, rfl⟩
    go_wp2_with fail
    refine hL.mono ?_
    rintro e w' ⟨rfl, rfl⟩
    go_wp2_with fail
    refine HK.out.mono ?_
    rintro e w2 ⟨v2, rfl, how2, hc2⟩
    go_wp2_with fail
    go_ret
    exact ⟨v2, rfl, how2, hca.trans' hc2 (fun _ _ _ h => h) (fun b o hb h => by omega)⟩







end Go.Proofs.Ytnohimhihombmaa

namespace Go.Proofs.Ytnohimhihombmaa
set_option linter.unusedSimpArgs false
set_option linter.unusedVariables false
open Go.RowKit

theorem Items_any {ord : List Int} {k : Kc ord} {mn mx : Nat} {w : World} {F : Nat → Prop} {t : Nat} {l : List (It ord)} (hM : MapIn k mn mx w F t l) (hmn : 1 ≤ mn) (hlen : l.length ≤ 1000000000000) :
    Calls Try.prog 25 #[.pointer (some ⟨t, 0, none⟩)] w (OwnPostI l w) := by
  have HK := Lib.hid (items_any false hM hmn hlen)
  clear hM
  go_enter Try.func25, Try.ntmps25
  go_wp2_with fail
  refine HK.out.mono ?_
  rintro e w1 ⟨v1, rfl, h1, h2⟩
  go_wp2_with fail
  go_ret
  exact ⟨v1, rfl, h1, h2⟩

set_option maxRecDepth 100000 in
theorem GItems_any {ord : List Int} (sv : Value) (d : Int) (nl : Bool) (p : Option Addr) (cap : Nat) (l : List (It ord)) (w : World) (hs : SlE intE w sv ord) (hol : ord.length ≤ 2147483647) (hd : FitD d) (hl : ItemsAt w p l) (hlen : l.length ≤ 2147483647) :
    Calls Try.prog 10 #[.agg #[sv, .int .i64 d, .bool nl], .slice p l.length cap] w (OwnPostI (growL l) w) := by
  have HG := Lib.hid (fun w1 (c : Chg (fun _ _ => False) w w1) => grow_any (ord := ord) sv d nl p cap l w1 hd (hs.chg c) hol (hl.chg c) hlen)
  have hdim := hd.dims.1
  unfold GrowPost at HG
  have hgl := growL_take_len l l.length
  rw [List.take_length] at hgl
  have HGL := Lib.hid hgl
  obtain ⟨sa, sc, rfl⟩ : ∃ a c, sv = .slice a ord.length c := hs.form
  clear hs hl hgl
  go_enter Try.func10, Try.ntmps10
  go_wp2_with fail
  refine (HG.out _ ((Chg.refl _ _).alloc _)).mono ?_
  rintro e w2 ⟨k, t, F, rfl, hM, hc2, _, _⟩
  go_wp2_with fail
  refine (Items_any hM hdim (by have := HGL.out; omega)).mono ?_
  rintro e w3 ⟨v, rfl, how, hc3⟩
  have hc0 := (((Chg.refl (fun _ _ => False) w).alloc _)).trans hc2
  go_wp2_with fail
  go_ret
  exact ⟨v, rfl, how.mono hc0.size, hc0.trans hc3⟩


theorem lawFits_yes (a : Option Addr) (m c : Nat) (d : Int) (nl : Bool) (w : World) (hd : FitD d) :
    Calls Try.prog 8 #[.agg #[.slice a m c, .int .i64 d, .bool nl]] w fun e w' => e = .returned (.bool true) ∧ Chg (fun _ _ => False) w w' := by
  go_enter Try.func8, Try.ntmps8
  go_wp2_with fail
  refine (fits_fit d _ hd).mono ?_
  rintro e w' ⟨rfl, rfl⟩
  go_wp2_with fail
  go_ret
  exact ⟨rfl, (Chg.refl _ _).alloc _⟩

theorem lawFits_no (a : Option Addr) (m c : Nat) (d : Int) (nl : Bool) (w : World) (hd : ¬ FitD d) :
    Calls Try.prog 8 #[.agg #[.slice a m c, .int .i64 d, .bool nl]] w fun e w' => e = .returned (.bool false) ∧ Chg (fun _ _ => False) w w' := by
  go_enter Try.func8, Try.ntmps8
  go_wp2_with fail
  refine (fits_not d _ hd).mono ?_
  rintro e w' ⟨rfl, rfl⟩
  go_wp2_with fail
  go_ret
  exact ⟨rfl, (Chg.refl _ _).alloc _⟩

def exL3 : List (Int × Int) := [(5, 1), (3, 2), (9, 3)]
theorem grow3 : (growL (ord := []) exL3).length = 3 := by decide

theorem ItemsAt.take {w : World} {p : Option Addr} {l : List (Int × Int)} (h : ItemsAt w p l) (n : Nat) : ItemsAt w p (l.take n) := by
  rcases h with rfl | ⟨b, o, rfl, hc⟩
  · exact .inl (by simp)
  · refine .inr ⟨b, o, rfl, fun i x hx => hc i x ?_⟩
    rw [List.getElem?_take] at hx
    split at hx
    · exact hx
    · cases hx

theorem alive_any (w : World) : Calls Try.prog 9 #[] w fun e w' => e = .returned (.bool true) ∧ Chg (fun _ _ => False) w w' := by
  have HI := Lib.hid (fun q w1 (hq : ItemsAt w1 q exL3) => GItems_any (ord := []) (.slice none 0 0) 2 false q 7 exL3 w1 ⟨none, 0, rfl, Nat.le_refl _, .inl rfl⟩ (by simp) (.inr ⟨by omega, by omega⟩) hq (by decide))
  have q1 : exL.length = 7 := rfl
  have q3 : exL3.length = 3 := rfl
  unfold OwnPostI at HI
  rw [q3] at HI
  go_enter Try.func9, Try.ntmps9
  go_wp2_with fail
  refine (exMake_any _).mono ?_
  rintro e w1 ⟨rfl, hc1⟩
  go_wp2_with fail
  refine (exItems_any _).mono ?_
  rintro e w2 ⟨q, rfl, hq, hc2⟩
  go_wp2_with fail
  refine (HI.out q _ (hq.take 3)).mono ?_
  rintro e w3 ⟨v, rfl, how, hc3⟩
  obtain ⟨a, c, rfl⟩ := how.sl.form
  have hl3 : (growL (ord := []) exL3).length = 3 := grow3
  rw [hl3]
  clear how
  go_wp2_with fail
  go_ret
  exact ⟨rfl, (hc1.trans hc2).trans hc3⟩
end Go.Proofs.Ytnohimhihombmaa
