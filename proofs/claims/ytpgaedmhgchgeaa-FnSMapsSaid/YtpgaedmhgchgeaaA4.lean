/- A row moved up by one place: the builtin copy within one row. No program in sight. -/
import Derived.Test.YtpgaedmhgchgeaaA1
namespace Go.Proofs.Ytpgaedmhgchgeaa
set_option linter.unusedSimpArgs false
set_option linter.unusedVariables false
open Go.RowKit

/-- What a walk knows of the map's own struct: the isoid, the limits, the zero pair; nothing there is frozen. -/
structure MapAt (k : Int) (mn mx : Nat) (w : World) (t : Nat) : Prop where
  c0 : w.cell? ⟨t, 0, none⟩ = some (.int .u64 k)
  c4 : w.cell? ⟨t, 4, none⟩ = some (.int .i64 0)
  c5 : w.cell? ⟨t, 4, none⟩ = some (.int .i64 0)
  c6 : w.cell? ⟨t, 5, none⟩ = some (.int .i64 mn)
  c7 : w.cell? ⟨t, 6, none⟩ = some (.int .i64 mx)
  blk : ∃ c, w.heap[t]? = some (.cells c 57 (0, 0))

/-- The blocks that are the map's own. -/
def MOwn (k : Int) (t b : Nat) : Prop := b = t

theorem MOwn.self {k : Int} {t : Nat} : MOwn k t t := rfl

theorem MapAt.lt {k : Int} {mn mx t b : Nat} {w : World} (h : MapAt k mn mx w t) (hb : MOwn k t b) : b < w.heap.size := by
  obtain rfl : b = t := hb; exact World.block_lt_of_cell? w _ h.c0

theorem MapAt.chg {A : Nat → Nat → Prop} {k : Int} {mn mx t : Nat} {w w' : World} (h : MapAt k mn mx w t) (c : Chg A w w') (hA : ∀ b o, MOwn k t b → ¬ A b o) : MapAt k mn mx w' t :=
  ⟨c.cell (hA t 0 MOwn.self) h.c0, c.cell (hA t 4 MOwn.self) h.c4, c.cell (hA t 4 MOwn.self) h.c5, c.cell (hA t 5 MOwn.self) h.c6, c.cell (hA t 6 MOwn.self) h.c7, by obtain ⟨c1, h1⟩ := h.blk; obtain ⟨c2, h2, _⟩ := c.cells _ _ _ _ h1; exact ⟨c2, h2⟩⟩

/-- The node n of the record r has been parted at place i: the first part stays n, the second one is the new node m. kl: the children, cf: their counts. -/
def SplitPost (k : Int) (w : World) (n : Nat) (r : NodeR (Int × Int)) (l : Lay) (i : Nat) (cf : Nat → Int) (kl : List Nat) (e : Ending) (w' : World) : Prop :=
  ∃ m x l1 l2, e = .returned (.tuple #[.pointer (some ⟨m, 0, none⟩), .agg #[.int .i64 x.1]]) ∧ r.items[i]? = some x ∧ w.heap.size ≤ m ∧
    Chg (Ext (parM k) n r l) w w' ∧
    NodeAt (parM k) w' n ⟨i + ksum cf (kl.take (i + 1)), r.items.take i, r.kids.map (·.take (i + 1))⟩ l1 ∧
    NodeAt (parM k) w' m ⟨((r.items.length - (i + 1) : Nat) : Int) + ksum cf (kl.drop (i + 1)), r.items.drop (i + 1), r.kids.map (·.drop (i + 1))⟩ l2 ∧
    l1.ib = l.ib ∧ l1.io = l.io ∧ l1.ic = i ∧ l2.ib = l.ib ∧ l2.io = l.io + (i + 1) ∧ l2.ic = l.ic - (i + 1) ∧
    (r.kids ≠ none → l1.cc = l.cc ∧ l1.cb = l.cb ∧ l1.co = l.co ∧ l1.ck = i + 1 ∧ w.heap.size ≤ l2.cc ∧ l2.cb = l.cb ∧ l2.co = l.co + (i + 1) ∧ l2.ck = l.ck - (i + 1))

set_option maxRecDepth 100000 in
set_option maxHeartbeats 1000000 in
theorem nodeSplit_leaf (k : Int) (mn mx t n : Nat) (r : NodeR (Int × Int)) (l : Lay) (w : World) (ht : MapAt k mn mx w t) (hn : NodeAt (parM k) w n r l) (hk : r.kids = none) (hlen : r.items.length = mx) (hmx : mx ≤ 1000) (hm3 : 3 ≤ mx) (cf : Nat → Int) :
    Calls Try.prog 56 #[.pointer (some ⟨t, 0, none⟩), .pointer (some ⟨n, 0, none⟩)] w (SplitPost k w n r l (mx / 2) cf []) := by
  obtain ⟨i, hi⟩ : ∃ i : Nat, mx / 2 = i := ⟨_, rfl⟩
  rw [hi]
  have hI : (mx : Int) / 2 = (i : Int) := by omega
  have Hi := Lib.hid hi
  have hilt : i < mx := by omega
  have hi1 : 1 ≤ i := by omega
  clear hi
  obtain ⟨x, hx⟩ : ∃ x, r.items[i]? = some x := ⟨_, List.getElem?_eq_getElem (by omega)⟩
  have t0 := ht.c0
  have t6 := ht.c7
  have n2 := hn.c2
  have n3 := hn.c3n hk
  have iv := hn.mval hx
  have ik := hn.mkey hx
  have hcap := hn.len
  rw [hlen] at n2
  have ibl := hn.row.lt
  have nlt := World.block_lt_of_cell? w _ n2
  have tlt := World.block_lt_of_cell? w _ t0
  go_enter Try.func56, Try.ntmps56
  go_wp2_with (first | (go_at_call 58; refine (leaf_any _ none _ ?_).mono ?_; (focus go_simp); rintro e w' ⟨rfl, rfl⟩) | (go_at_call 54; refine (newNode_leaf _ k _ ?_).mono ?_; (focus go_simp); rintro e w' ⟨rfl, rfl⟩))
  refine (updateCount_leaf _ l.ib (l.io + (i + 1)) (mx - (i + 1)) (l.ic - (i + 1)) 0 _ ?_ ?_ ?_ ?_).mono ?_
  · go_simp
  · go_simp
  · go_simp
  · go_simp
  rintro e w' ⟨rfl, rfl⟩
  go_wp2_with fail
  refine name_world (fun w1 => Chg (fun _ _ => False) w w1 ∧ w1.heap[w.heap.size]? = some (.cells #[.int .i64 x.1] 53 (0, 0)) ∧
    w1.heap[w.heap.size + 1]? = some (.cells #[.int .u64 k, .int .i64 ((mx - (i + 1) : Nat) : Int), .slice (some ⟨l.ib, l.io + (i + 1), none⟩) (mx - (i + 1)) (l.ic - (i + 1)), .pointer none] 93 (0, 0)))
    ⟨((Chg.refl _ w).alloc _).alloc _, by rw [ha_lt _ _ (by simp)]; exact ha_at _ _ rfl, ha_at _ _ (by simp)⟩ ?_
  rintro w1 ⟨hc1, hb1, hb2⟩
  have HB1 := Lib.hid hb1
  have HB2 := Lib.hid hb2
  clear hb1 hb2
  have ht1 := ht.chg hc1 (by simp)
  have hn1 := hn.chg hc1 (by simp)
  have n21 := hn1.c2
  rw [hlen] at n21
  have iv1 := hn1.mval hx
  have ik1 := hn1.mkey hx
  have e4 := ht1.c4
  have e5 := ht1.c5
  have fz0 := hn1.ifz (l.io + i)
  have fz1 := hn1.ifz (l.io + i)
  have fzn := hn1.fz 2
  have fzn1 := hn1.fz 1
  have n31 := hn1.c3n hk
  have n11 := hn1.c1
  have hibn := hn1.d1
  have j0 : (0 : Int) ≤ (i : Int) := by omega
  have j1 : (i : Int) < (mx : Int) := by omega
  clear t0 t6 n2 n3 iv ik hm3
  go_still_tail 10, (by kernel_rfl)
  go_wp2_with (first | (go_at_call 58; refine (leaf_any _ none _ ?_).mono ?_; (focus go_simp); rintro e w' ⟨rfl, rfl⟩))
  refine (updateCount_leaf _ l.ib l.io (i) (i) r.cnt _ ?_ ?_ ?_ ?_).mono ?_
  · go_simp
  · go_simp
  · go_simp
  · go_simp
  rintro e w' ⟨rfl, rfl⟩
  go_wp2_with fail
  refine name_world (fun w2 => Chg (fun b o => b = n ∨ (b = l.ib ∧ l.io + i ≤ o ∧ o < l.io + (i + 1))) w1 w2 ∧
      w2.heap[n]? = some (.cells #[.int .u64 k, .int .i64 ((i : Nat) : Int), .slice (some ⟨l.ib, l.io, none⟩) (i) (i), .pointer none] 93 (0, 0))) ⟨?_, ?_⟩ ?_
  · repeat (first | refine Chg.drew ?_ | refine Chg.setCell ?_ (.inl ?_) _ | exact Chg.refl _ _)
    all_goals (simp; try omega)
  · have hd := hn1.hd
    unfold hdCells at hd
    rw [hk, hlen] at hd
    rw [hd_drew, hs_same (c := #[.int .u64 k, .int .i64 r.cnt, .slice (some ⟨l.ib, l.io, none⟩) (i) (i), .pointer none]) (T := 93) (fr := (0, 0))]
    · rfl
    · rw [hs_same (c := #[.int .u64 k, .int .i64 r.cnt, .slice (some ⟨l.ib, l.io, none⟩) mx l.ic, .pointer none]) (T := 93) (fr := (0, 0))]
      · rfl
      · repeat rw [hs_ne _ (Ne.symm hibn)]
        exact hd
  rintro w2 ⟨hc2, hd2⟩
  have hc2' := hc2
  have hszw := hc1.size
  have HD2 := Lib.hid hd2
  clear hd2
  have hb2 : w2.heap[w.heap.size]? = some (.cells #[.int .i64 x.1] 53 (0, 0)) := by
    rw [hc2.block (heap_lt HB1.out) (by intro o; simp; omega)]; exact HB1.out
  have q0 := cell_of_block hb2 0
  have q1 := cell_of_block hb2 0
  have q2 := frozen_of_block hb2 0
  have q3 := frozen_of_block hb2 1
  simp only [List.getElem?_toArray, List.getElem?_cons_zero, List.getElem?_cons_succ] at q0 q1
  have HQ := Lib.hid hb2
  clear hb2 n21 iv1 ik1 e4 e5 fz0 fz1 fzn fzn1 n31 n11
  go_region
  go_wp2
  refine bodyPost_ret (v := .tuple #[.pointer (some ⟨w.heap.size + 1, 0, none⟩), .agg #[.int .i64 x.1]]) (by simp [results, Try.results56, go_sem, q0, q1]) rfl ?_
  generalize hw3 : World.drew _ = w3
  have hc3 : Chg (fun b _ => b = w.heap.size) w2 w3 := by
    rw [← hw3]
    repeat (first | refine Chg.drew ?_ | refine Chg.setCell ?_ (.inl rfl) _ | exact Chg.refl _ _)
  have hs1 : w.heap.size + 1 < w1.heap.size := heap_lt HB2.out
  have hs2 := hc2.size
  have hc13 : Chg (fun b o => b = n ∨ (b = l.ib ∧ l.io + i ≤ o ∧ o < l.io + (i + 1)) ∨ b = w.heap.size) w1 w3 :=
    hc2.trans' hc3 (fun b o _ h => by rcases h with h | h; exact .inl h; exact .inr (.inl h)) (fun b o _ h => .inr (.inr h))
  have hext : ∀ o, l.io + i ≤ o → o < l.io + (i + 1) → l.io ≤ o ∧ o < l.io + l.ic := by intro o h1 h2; omega
  refine ⟨w.heap.size + 1, x, ⟨l.ib, l.io, i, l.cc, l.cb, l.co, i + 1⟩, ⟨l.ib, l.io + (i + 1), l.ic - (i + 1), 0, 0, 0, 0⟩, rfl, hx, by omega, ?_, ?_, ?_, rfl, rfl, rfl, rfl, rfl, rfl, fun h => absurd hk h⟩
  · refine hc1.trans' hc13 (fun _ _ _ h => h.elim) ?_
    rintro b o hb (h | ⟨h1, h2, h3⟩ | h)
    · exact .inl h
    · exact .inr (.inl ⟨h1, by have := hext o h2 h3; simpa [parM] using this⟩)
    · omega
  · refine ⟨?_, ?_, ?_, hibn, ?_⟩
    · rw [hc3.block (by omega) (by intro o; omega), HD2.out, hk]
      simp [hdCells, parM, hlen, ksum_nil]; omega
    · have := hn1.rowPart hc13 0 i i (by omega) (by omega) (by omega) (by
        intro o h1 h2 h3
        simp [parM] at h1 h2
        rcases h3 with h3 | ⟨_, h3, _⟩ | h3 <;> omega)
      simpa [parM] using this
    · rw [hk]; simp
    · rw [hk]; simp
  · refine ⟨?_, ?_, ?_, ?_, ?_⟩
    · rw [hc3.block (by omega) (by intro o; simp), hc2.block (by omega) (by intro o; omega), HB2.out, hk]
      simp [hdCells, parM, hlen, ksum_nil]
    · have := hn1.rowPart hc13 (i + 1) (r.items.length - (i + 1)) (l.ic - (i + 1)) (by omega) (by omega) (by omega) (by
        intro o h1 h2 h3
        simp [parM] at h1 h2
        rcases h3 with h3 | ⟨_, _, h3⟩ | h3 <;> omega)
      rw [List.take_of_length_le (by simp)] at this
      simpa [parM] using this
    · rw [hk]; simp
    · show l.ib ≠ w.heap.size + 1
      omega
    · rw [hk]; simp
end Go.Proofs.Ytpgaedmhgchgeaa

namespace Go.Proofs.Ytpgaedmhgchgeaa
set_option linter.unusedSimpArgs false
set_option linter.unusedVariables false
open Go.RowKit

set_option maxRecDepth 100000 in
set_option maxHeartbeats 2000000 in
theorem nodeSplit_branch (k : Int) (mn mx t n : Nat) (r : NodeR (Int × Int)) (l : Lay) (w : World) (ht : MapAt k mn mx w t) (hn : NodeAt (parM k) w n r l) (kl : List Nat) (hk : r.kids = some (kl.map some)) (hlen : r.items.length = mx) (hmx : mx ≤ 1000) (hm3 : 3 ≤ mx)
    (hkl : kl.length = mx + 1) (cf : Nat → Int) (hkid : ∀ c ∈ kl, w.cell? ⟨c, 1, none⟩ = some (.int .i64 (cf c)) ∧ 0 ≤ cf c ∧ ∀ o, ¬ Ext (parM k) n r l c o) (hsum : ksum cf kl ≤ 100000000000000) :
    Calls Try.prog 56 #[.pointer (some ⟨t, 0, none⟩), .pointer (some ⟨n, 0, none⟩)] w (SplitPost k w n r l (mx / 2) cf kl) := by
  obtain ⟨i, hi⟩ : ∃ i : Nat, mx / 2 = i := ⟨_, rfl⟩
  rw [hi]
  have hI : (mx : Int) / 2 = (i : Int) := by omega
  have hilt : i < mx := by omega
  have hi1 : 1 ≤ i := by omega
  clear hi
  obtain ⟨x, hx⟩ : ∃ x, r.items[i]? = some x := ⟨_, List.getElem?_eq_getElem (by omega)⟩
  have t0 := ht.c0
  have t6 := ht.c7
  have n2 := hn.c2
  have n3 := hn.c3s hk
  have iv := hn.mval hx
  have ik := hn.mkey hx
  have hcap := hn.len
  have hkcap := hn.klen hk
  rw [hlen] at n2
  rw [List.length_map, hkl] at hkcap
  have ibl := hn.row.lt
  have nlt : n < w.heap.size := World.block_lt_of_cell? w _ n2
  have tlt : t < w.heap.size := World.block_lt_of_cell? w _ t0
  have cclt := heap_lt (hn.kid _ hk).1
  have cblt := (hn.kid _ hk).2.lt
  have nlt1 : n < w.heap.size + 1 + 1 := by omega
  have tlt1 : t < w.heap.size + 1 + 1 := by omega
  have cclt1 : l.cc < w.heap.size + 1 + 1 := by omega
  have hnew : ∀ b o, w.heap.size ≤ b → ¬ Ext (parM k) n r l b o := fun b o hb h => Nat.lt_irrefl _ (Nat.lt_of_lt_of_le (hn.lt h.blk) hb)
  have HNEW := Lib.hid hnew
  clear hnew
  have HK := Lib.hid hkid
  clear hkid
  have HK2 := Lib.hid hk
  clear hk
  go_enter Try.func56, Try.ntmps56
  go_wp2_with (first | (go_at_call 58; refine (leaf_any _ (some ⟨l.cc, 0, none⟩) _ ?_).mono ?_; (focus go_simp); rintro e w' ⟨rfl, rfl⟩) | (go_at_call 54; refine (newNode_branch _ k _ ?_).mono ?_; (focus go_simp); rintro e w' ⟨rfl, rfl⟩))
  refine name_world (fun w1 => Chg (fun _ _ => False) w w1 ∧ w1.heap[w.heap.size]? = some (.cells #[.int .i64 x.1] 53 (0, 0)) ∧
    w1.heap[w.heap.size + 1]? = some (.cells #[.int .u64 k, .int .i64 0, .slice (some ⟨l.ib, l.io + (i + 1), none⟩) (mx - (i + 1)) (l.ic - (i + 1)), .pointer (some ⟨w.heap.size + 2, 0, none⟩)] 93 (0, 0)) ∧
    w1.heap[w.heap.size + 2]? = some (.cells #[.slice none 0 0] 99 (0, 0)))
    ⟨?_, ?_, ?_, ?_⟩ ?_
  · exact (((Chg.refl _ w).alloc _).alloc _).alloc _
  · rw [ha_lt _ _ (by simp; try omega), ha_lt _ _ (by simp; try omega)]; exact ha_at _ _ rfl
  · rw [ha_lt _ _ (by simp)]; exact ha_at _ _ (by simp)
  · exact ha_at _ _ (by simp)
  rintro w1 ⟨hc1, hb1, hb2, hb3⟩
  have r3 := cell_of_block hb2 3
  have cc0 := cell_of_block hb3 0
  have fcc := frozen_of_block hb3 0
  simp only [List.getElem?_toArray, List.getElem?_cons_zero, List.getElem?_cons_succ] at r3 cc0
  have HB1 := Lib.hid hb1
  have HB2 := Lib.hid hb2
  have HB3 := Lib.hid hb3
  clear hb1 hb2 hb3
  have ht1 := ht.chg hc1 (by simp)
  have hn1 := hn.chg hc1 (by simp)
  have n31 := hn1.c3s HK2.out
  have nc1 := hn1.cc HK2.out
  rw [List.length_map, hkl] at nc1
  have j0 : (0 : Int) ≤ (i : Int) := by omega
  have j1 : (i : Int) < (mx : Int) := by omega
  have j2 : ((i : Int) + 1) ≤ ((mx + 1 : Nat) : Int) := by omega
  clear t0 t6 n2 n3 iv ik hm3
  have hle : i ≤ mx := by omega
  have hck : ¬ l.ck = i + 1 := by omega
  have s2 : (0 : Int) ≤ (i : Int) + 1 := by omega
  have s3 : ((i : Int) + 1).toNat = i + 1 := by omega
  have s1 : IntKind.i64.wrap ((i : Int) + 1) = (i : Int) + 1 := IntWalk.i64_in _ (by omega)
  go_still_tail 13, (by kernel_rfl)
  clear s1 s2 s3
  go_wp2_with fail
  refine name_calls (fun w2 => Chg (fun b _ => b = w.heap.size + 2) w1 w2 ∧ w2.heap[w.heap.size + 2]? = some (.cells #[.slice (some ⟨l.cb, l.co + (i + 1), none⟩) (mx - i) (l.ck - (i + 1))] 99 (0, 0))) ⟨?_, ?_⟩ ?_
  · repeat (first | refine Chg.drew ?_ | refine Chg.setCell ?_ (.inl rfl) _ | exact Chg.refl _ _)
  · rw [hd_drew, hs_same HB3.out]; rfl
  rintro w2 ⟨hc2, hb3⟩
  have hsz1 : w.heap.size + 2 < w1.heap.size := heap_lt HB3.out
  have hc12 : Chg (fun b _ => b = w.heap.size + 2) w w2 := hc1.trans' hc2 (fun _ _ _ h => h.elim) (fun _ _ _ h => h)
  have hn2 := hn1.chg hc2 (fun b o h1 h2 => HNEW.out b o (by omega) h1)
  have hb2 : w2.heap[w.heap.size + 1]? = some (.cells #[.int .u64 k, .int .i64 0, .slice (some ⟨l.ib, l.io + (i + 1), none⟩) (mx - (i + 1)) (l.ic - (i + 1)), .pointer (some ⟨w.heap.size + 2, 0, none⟩)] 93 (0, 0)) := by
    rw [hc2.block (by omega) (by intro o; omega)]; exact HB2.out
  refine (updateCount_branch (w.heap.size + 1) l.ib (l.io + (i + 1)) (mx - (i + 1)) (l.ic - (i + 1)) (w.heap.size + 2) l.cb (l.co + (i + 1)) (mx - i) (l.ck - (i + 1)) 0 (fun j => (kl.drop (i + 1)).getD j 0) (fun j => cf ((kl.drop (i + 1)).getD j 0)) w2
    (cell_of_block hb2 1) (frozen_of_block hb2 1) (cell_of_block hb2 2) (cell_of_block hb2 3) (cell_of_block hb3 0) (by omega) (by omega) ?_ (by omega) ?_).mono ?_
  · intro j hj
    have hjl : i + 1 + j < kl.length := by omega
    have hg : (kl.drop (i + 1)).getD j 0 = kl[i + 1 + j] := by simp [List.getD, hjl]
    rw [hg]
    obtain ⟨g1, g2, g3⟩ := HK.out kl[i + 1 + j] (List.getElem_mem hjl)
    have hlt : kl[i + 1 + j] < w.heap.size := World.block_lt_of_cell? w _ g1
    refine ⟨?_, by omega, hc12.cell (by simp; omega) g1, g2⟩
    have := hn2.kidc HK2.out (j := i + 1 + j) (o := some kl[i + 1 + j]) (by simp [hjl])
    rw [Nat.add_assoc]; exact this
  · have h1 := sumTo_ksum cf (kl.drop (i + 1))
    rw [List.length_drop, show kl.length - (i + 1) = mx - i by omega] at h1
    rw [h1]
    obtain ⟨s1, s2, s3⟩ := ksum_split cf kl (fun c hc => (HK.out c hc).2.1) (i + 1)
    omega
  rintro e w3 ⟨rfl, m, hw3⟩
  have hsz2 := hc2.size
  have hc3 : Chg (fun b o => b = w.heap.size + 1 ∧ o = 1) w2 w3 := by
    rw [hw3]; exact ((Chg.refl _ _).setCell (.inl ⟨rfl, rfl⟩) _).drewN _
  have HD1 : Hid (w3.heap[w.heap.size + 1]? = some (.cells #[.int .u64 k, .int .i64 (((mx - (i + 1) : Nat) : Int) + sumTo (fun j => cf ((kl.drop (i + 1)).getD j 0)) (mx - i)), .slice (some ⟨l.ib, l.io + (i + 1), none⟩) (mx - (i + 1)) (l.ic - (i + 1)), .pointer (some ⟨w.heap.size + 2, 0, none⟩)] 93 (0, 0))) :=
    Lib.hid (by rw [hw3, hd_drewN, hs_same hb2]; rfl)
  have HB3' : Hid (w3.heap[w.heap.size + 2]? = some (.cells #[.slice (some ⟨l.cb, l.co + (i + 1), none⟩) (mx - i) (l.ck - (i + 1))] 99 (0, 0))) :=
    Lib.hid (by rw [hc3.block (by omega) (by intro o; omega)]; exact hb3)
  have HB1' : Hid (w3.heap[w.heap.size]? = some (.cells #[.int .i64 x.1] 53 (0, 0))) :=
    Lib.hid (by rw [hc3.block (by omega) (by intro o; omega), hc2.block (by omega) (by intro o; omega)]; exact HB1.out)
  clear hw3 hb2 hb3
  have hn3 := hn2.chg hc3 (fun b o h1 h2 => HNEW.out b o (by omega) h1)
  have hc13 : Chg (fun b _ => b = w.heap.size + 1 ∨ b = w.heap.size + 2) w1 w3 := hc2.trans' hc3 (fun _ _ _ h => .inr h) (fun _ _ _ h => .inl h.1)
  have ht3 := ht1.chg hc13 (by intro b o hm; have := ht.lt hm; omega)
  have n23 := hn3.c2
  rw [hlen] at n23
  have iv3 := hn3.mval hx
  have ik3 := hn3.mkey hx
  have e4 := ht3.c4
  have e5 := ht3.c5
  have fz0 := hn3.ifz (l.io + i)
  have fz1 := hn3.ifz (l.io + i)
  have fzn := hn3.fz 2
  have n33 := hn3.c3s HK2.out
  have hibn := hn3.d1
  obtain ⟨d1, d2, d3, d4, d5⟩ := hn3.d2 (by rw [HK2.out]; simp)
  clear n31 nc1 r3 cc0 fcc hle hck j2
  go_wp2_with fail
  go_still_tail 10, (by kernel_rfl)
  go_wp2_with (first | (go_at_call 58; refine (leaf_any _ (some ⟨l.cc, 0, none⟩) _ ?_).mono ?_; (focus go_simp); rintro e w' ⟨rfl, rfl⟩))
  refine name_world (fun w4 => Chg (fun b o => b = n ∨ (b = l.ib ∧ l.io + i ≤ o ∧ o < l.io + (i + 1))) w3 w4 ∧
      w4.heap[n]? = some (.cells #[.int .u64 k, .int .i64 r.cnt, .slice (some ⟨l.ib, l.io, none⟩) i i, .pointer (some ⟨l.cc, 0, none⟩)] 93 (0, 0))) ⟨?_, ?_⟩ ?_
  · repeat (first | refine Chg.drew ?_ | refine Chg.setCell ?_ (.inl ?_) _ | exact Chg.refl _ _)
    all_goals (simp; try omega)
  · have hd := hn3.hd
    unfold hdCells at hd
    rw [HK2.out, hlen] at hd
    rw [hd_drew, hs_same (c := #[.int .u64 k, .int .i64 r.cnt, .slice (some ⟨l.ib, l.io, none⟩) mx l.ic, .pointer (some ⟨l.cc, 0, none⟩)]) (T := 93) (fr := (0, 0))]
    · rfl
    · repeat rw [hs_ne _ (Ne.symm hibn)]
      exact hd
  rintro w4 ⟨hc4, hd4⟩
  have n34 := cell_of_block hd4 3
  have cc4 : w4.heap[l.cc]? = w3.heap[l.cc]? := hc4.block (hn3.lt (.inr (.inr ⟨by rw [HK2.out]; simp, .inl rfl⟩))) (by intro o; simp [d1, d3])
  rw [(hn3.kid _ HK2.out).1] at cc4
  have nc4 := cell_of_block cc4 0
  have fc4 := frozen_of_block cc4 0
  simp only [List.getElem?_toArray, List.getElem?_cons_zero, List.getElem?_cons_succ, List.length_map, hkl] at n34 nc4
  have HD4 := Lib.hid hd4
  have HC4 := Lib.hid cc4
  clear hd4 cc4 n23 iv3 ik3 e4 e5 fz0 fz1 fzn n33
  have hle : i ≤ mx := by omega
  have hle2 : i + 1 ≤ l.ck := by omega
  have hle3 : (i : Int) + 1 ≤ (l.ck : Int) := by omega
  have s2 : (0 : Int) ≤ (i : Int) + 1 := by omega
  have s3 : ((i : Int) + 1).toNat = i + 1 := by omega
  have s1 : IntKind.i64.wrap ((i : Int) + 1) = (i : Int) + 1 := IntWalk.i64_in _ (by omega)
  go_still_tail 15, (by kernel_rfl)
  clear s1 s2 s3
  go_wp2_with fail
  refine name_calls (fun w5 => Chg (fun b _ => b = l.cc) w4 w5 ∧ w5.heap[l.cc]? = some (.cells #[.slice (some ⟨l.cb, l.co, none⟩) (i + 1) (i + 1)] 99 (0, 0))) ⟨?_, ?_⟩ ?_
  · repeat (first | refine Chg.drew ?_ | refine Chg.setCell ?_ (.inl rfl) _ | exact Chg.refl _ _)
  · rw [hd_drew, hs_same HC4.out]; rfl
  rintro w5 ⟨hc5, hb5⟩
  have hd5 : w5.heap[n]? = some (.cells #[.int .u64 k, .int .i64 r.cnt, .slice (some ⟨l.ib, l.io, none⟩) i i, .pointer (some ⟨l.cc, 0, none⟩)] 93 (0, 0)) := by
    rw [hc5.block (heap_lt HD4.out) (by intro o; exact Ne.symm d1)]; exact HD4.out
  have hc35 : Chg (fun b o => b = n ∨ (b = l.ib ∧ l.io + i ≤ o ∧ o < l.io + (i + 1)) ∨ b = l.cc) w3 w5 :=
    hc4.trans' hc5 (fun _ _ _ h => by rcases h with h | h; exact .inl h; exact .inr (.inl h)) (fun _ _ _ h => .inr (.inr h))
  have hext5 : ∀ b o, (b = n ∨ (b = l.ib ∧ l.io + i ≤ o ∧ o < l.io + (i + 1)) ∨ b = l.cc) → Ext (parM k) n r l b o := by
    rintro b o (h | ⟨h1, h2, h3⟩ | h)
    · exact .inl h
    · exact .inr (.inl ⟨h1, by omega, by simpa [parM] using (show o < l.io + l.ic by omega)⟩)
    · exact .inr (.inr ⟨by rw [HK2.out]; simp, .inl h⟩)
  have hrow5 := hn3.kidPart HK2.out hc35 0 (i + 1) (i + 1) (by simp; omega) (by omega) (by omega) (by
    intro o h1 h2 h3
    rcases h3 with h3 | ⟨h3, _⟩ | h3
    · exact d2 h3
    · exact d4 h3
    · exact d5 h3)
  refine (updateCount_branch n l.ib l.io i i l.cc l.cb l.co (i + 1) (i + 1) r.cnt (fun j => (kl.take (i + 1)).getD j 0) (fun j => cf ((kl.take (i + 1)).getD j 0)) w5
    (cell_of_block hd5 1) (frozen_of_block hd5 1) (cell_of_block hd5 2) (cell_of_block hd5 3) (cell_of_block hb5 0) d1 d2 ?_ (by omega) ?_).mono ?_
  · intro j hj
    have hjl : j < kl.length := by omega
    have hg : (kl.take (i + 1)).getD j 0 = kl[j] := by simp [List.getD, hjl, hj]
    rw [hg]
    obtain ⟨g1, g2, g3⟩ := HK.out kl[j] (List.getElem_mem hjl)
    have hlt : kl[j] < w.heap.size := World.block_lt_of_cell? w _ g1
    refine ⟨?_, fun e => g3 0 (.inl e), ?_, g2⟩
    · have := hrow5.cell (j := j) (v := kidV (some kl[j])) (by simp [hjl, hj])
      simpa [kidV] using this
    · refine hc35.cell (fun h => g3 1 (hext5 _ _ h)) (hc13.cell (by simp; omega) (hc1.cell (by simp) g1))
  · have h1 := sumTo_ksum cf (kl.take (i + 1))
    rw [List.length_take, show min (i + 1) kl.length = i + 1 by omega] at h1
    rw [h1]
    obtain ⟨s1, s2, s3⟩ := ksum_split cf kl (fun c hc => (HK.out c hc).2.1) (i + 1)
    omega
  rintro e w6 ⟨rfl, m', hw6⟩
  have hc6 : Chg (fun b o => b = n ∧ o = 1) w5 w6 := by
    rw [hw6]; exact ((Chg.refl _ _).setCell (.inl ⟨rfl, rfl⟩) _).drewN _
  have HD6 : Hid (w6.heap[n]? = some (.cells #[.int .u64 k, .int .i64 ((i : Int) + sumTo (fun j => cf ((kl.take (i + 1)).getD j 0)) (i + 1)), .slice (some ⟨l.ib, l.io, none⟩) i i, .pointer (some ⟨l.cc, 0, none⟩)] 93 (0, 0))) :=
    Lib.hid (by rw [hw6, hd_drewN, hs_same hd5]; rfl)
  clear hw6
  have HC6 : Hid (w6.heap[l.cc]? = some (.cells #[.slice (some ⟨l.cb, l.co, none⟩) (i + 1) (i + 1)] 99 (0, 0))) :=
    Lib.hid (by rw [hc6.block (heap_lt hb5) (by intro o h; exact d1 h.1)]; exact hb5)
  have hc36 : Chg (fun b o => b = n ∨ (b = l.ib ∧ l.io + i ≤ o ∧ o < l.io + (i + 1)) ∨ b = l.cc) w3 w6 :=
    hc35.trans' hc6 (fun _ _ _ h => h) (fun _ _ _ h => .inl h.1)
  have hsz3 := hc3.size
  have old36 : ∀ b, w.heap.size ≤ b → b < w3.heap.size → w6.heap[b]? = w3.heap[b]? := fun b hb hb2 => hc36.block hb2 (fun o h => HNEW.out b o hb (hext5 _ _ h))
  have hb6 : w6.heap[w.heap.size]? = some (.cells #[.int .i64 x.1] 53 (0, 0)) := by
    rw [old36 _ (by omega) (by omega)]; exact HB1'.out
  have q0 := cell_of_block hb6 0
  have q1 := cell_of_block hb6 0
  have q2 := frozen_of_block hb6 0
  have q3 := frozen_of_block hb6 1
  simp only [List.getElem?_toArray, List.getElem?_cons_zero, List.getElem?_cons_succ] at q0 q1
  clear hb6 hd5 hb5 n34 nc4 fc4 hle hle2 hle3
  go_wp2_with fail
  go_region
  go_wp2
  refine bodyPost_ret (v := .tuple #[.pointer (some ⟨w.heap.size + 1, 0, none⟩), .agg #[.int .i64 x.1]]) (by simp [results, Try.results56, go_sem, q0, q1]) rfl ?_
  generalize hw7 : World.drew _ = w7
  have hc7 : Chg (fun b _ => b = w.heap.size) w6 w7 := by
    rw [← hw7]
    repeat (first | refine Chg.drew ?_ | refine Chg.setCell ?_ (.inl rfl) _ | exact Chg.refl _ _)
  have hsz6 := hc36.size
  have hc37 : Chg (fun b o => (b = n ∨ (b = l.ib ∧ l.io + i ≤ o ∧ o < l.io + (i + 1)) ∨ b = l.cc) ∨ b = w.heap.size) w3 w7 :=
    hc36.trans' hc7 (fun _ _ _ h => .inl h) (fun _ _ _ h => .inr h)
  have hk1 := sumTo_ksum cf (kl.take (i + 1))
  rw [List.length_take, show min (i + 1) kl.length = i + 1 by omega] at hk1
  have hk2 := sumTo_ksum cf (kl.drop (i + 1))
  rw [List.length_drop, show kl.length - (i + 1) = mx - i by omega] at hk2
  have nlt3 : n < w.heap.size := nlt
  have hblk := hn3.d2 (by rw [HK2.out]; simp)
  refine ⟨w.heap.size + 1, x, ⟨l.ib, l.io, i, l.cc, l.cb, l.co, i + 1⟩, ⟨l.ib, l.io + (i + 1), l.ic - (i + 1), w.heap.size + 2, l.cb, l.co + (i + 1), l.ck - (i + 1)⟩, rfl, hx, by omega, ?_, ?_, ?_, rfl, rfl, rfl, rfl, rfl, rfl, fun _ => ⟨rfl, rfl, rfl, rfl, by simp, rfl, rfl, rfl⟩⟩
  · refine (hc1.trans' hc13 (B := fun b _ => w.heap.size ≤ b) (fun _ _ _ h => h.elim) (fun b o _ h => by omega)).trans' hc37 (fun b o h1 h2 => by omega) ?_
    rintro b o hb (h | h)
    · exact hext5 b o h
    · omega
  · refine ⟨?_, ?_, ?_, hibn, ?_⟩
    · rw [hc7.block (by omega) (by intro o; omega), HD6.out, hk1, HK2.out]
      simp [hdCells, parM, hlen]; omega
    · have := hn3.rowPart hc37 0 i i (by omega) (by omega) (by omega) (by
        intro o h1 h2 h3
        simp [parM] at h1 h2
        rcases h3 with (h3 | ⟨_, h3, _⟩ | h3) | h3
        · exact hibn h3
        · omega
        · exact hblk.2.2.1 h3.symm
        · omega)
      simpa [parM] using this
    · intro ks hks
      rw [HK2.out] at hks
      obtain rfl : (kl.map some).take (i + 1) = ks := by simpa using hks
      refine ⟨?_, ?_⟩
      · show w7.heap[l.cc]? = _
        rw [hc7.block (by omega) (by intro o; omega), HC6.out]
        simp [parM, hkl]; omega
      · have := hn3.kidPart HK2.out hc37 0 (i + 1) (i + 1) (by simp; omega) (by omega) (by omega) (by
          intro o h1 h2 h3
          rcases h3 with (h3 | ⟨h3, _⟩ | h3) | h3
          · exact d2 h3
          · exact d4 h3
          · exact d5 h3
          · omega)
        simpa using this
    · intro _; exact hblk
  · refine ⟨?_, ?_, ?_, ?_, ?_⟩
    · rw [hc7.block (by omega) (by intro o; omega), old36 _ (by omega) (by omega), HD1.out, hk2, HK2.out]
      simp [hdCells, parM, hlen]
    · have := hn3.rowPart hc37 (i + 1) (r.items.length - (i + 1)) (l.ic - (i + 1)) (by omega) (by omega) (by omega) (by
        intro o h1 h2 h3
        simp [parM] at h1 h2
        rcases h3 with (h3 | ⟨_, _, h3⟩ | h3) | h3
        · exact hibn h3
        · omega
        · exact hblk.2.2.1 h3.symm
        · omega)
      rw [List.take_of_length_le (by simp)] at this
      simpa [parM] using this
    · intro ks hks
      rw [HK2.out] at hks
      obtain rfl : (kl.map some).drop (i + 1) = ks := by simpa using hks
      refine ⟨?_, ?_⟩
      · show w7.heap[w.heap.size + 2]? = _
        rw [hc7.block (by omega) (by intro o; omega), old36 _ (by omega) (by omega), HB3'.out]
        simp [parM, hkl]
      · have := hn3.kidPart HK2.out hc37 (i + 1) (mx - i) (l.ck - (i + 1)) (by simp; omega) (by omega) (by omega) (by
          intro o h1 h2 h3
          rcases h3 with (h3 | ⟨h3, _⟩ | h3) | h3
          · exact d2 h3
          · exact d4 h3
          · exact d5 h3
          · omega)
        rw [List.take_of_length_le (by simp; omega)] at this
        exact this
    · show l.ib ≠ w.heap.size + 1
      omega
    · intro _
      show w.heap.size + 2 ≠ w.heap.size + 1 ∧ l.cb ≠ w.heap.size + 1 ∧ w.heap.size + 2 ≠ l.ib ∧ l.cb ≠ l.ib ∧ l.cb ≠ w.heap.size + 2
      exact ⟨by omega, by omega, by omega, hblk.2.2.2.1, by omega⟩
end Go.Proofs.Ytpgaedmhgchgeaa

namespace Go.Proofs.Ytpgaedmhgchgeaa
set_option linter.unusedSimpArgs false
set_option linter.unusedVariables false
open Go.RowKit

def SplitFam (k : Int) (w : World) (F : Nat → Prop) (H : Nat → Option (NodeR (Int × Int))) (n : Nat) (r : NodeR (Int × Int)) (i : Nat) (cf : Nat → Int) (kl : List Nat) (e : Ending) (w' : World) : Prop :=
  ∃ m x, e = .returned (.tuple #[.pointer (some ⟨m, 0, none⟩), .agg #[.int .i64 x.1]]) ∧ r.items[i]? = some x ∧ w.heap.size ≤ m ∧ Chg (fun b _ => F b) w w' ∧
    Fam (parM k) w' (grow F w w') (upd (upd H n ⟨i + ksum cf (kl.take (i + 1)), r.items.take i, r.kids.map (·.take (i + 1))⟩) m ⟨((r.items.length - (i + 1) : Nat) : Int) + ksum cf (kl.drop (i + 1)), r.items.drop (i + 1), r.kids.map (·.drop (i + 1))⟩)

theorem split_close {k : Int} {w : World} {F : Nat → Prop} {H : Nat → Option (NodeR (Int × Int))} {n : Nat} {r : NodeR (Int × Int)} {i : Nat} {cf : Nat → Int} {kl : List Nat} {l : Lay} (hil : i + 1 ≤ r.items.length)
    (hil2 : ∀ ks, r.kids = some ks → i + 1 ≤ ks.length) (hn : NodeAt (parM k) w n r l) (hF : ∀ b, Blk n r l b → F b)
    (cl : ∀ w' r1 l1 m r2 l2, Chg (Ext (parM k) n r l) w w' → NodeAt (parM k) w' n r1 l1 → NodeAt (parM k) w' m r2 l2 → w.heap.size ≤ m →
      (∀ b o, Ext (parM k) n r1 l1 b o → Ext (parM k) n r l b o ∨ w.heap.size ≤ b) → (∀ b o, Ext (parM k) m r2 l2 b o → Ext (parM k) n r l b o ∨ w.heap.size ≤ b) → (∀ b o, Ext (parM k) n r1 l1 b o → ¬ Ext (parM k) m r2 l2 b o) →
      (∀ b, Blk n r1 l1 b → Blk n r l b ∨ w.heap.size ≤ b) → (∀ b, Blk m r2 l2 b → Blk n r l b ∨ w.heap.size ≤ b) → Fam (parM k) w' (grow F w w') (upd (upd H n r1) m r2))
    {e : Ending} {w' : World} (h : SplitPost k w n r l i cf kl e w') : SplitFam k w F H n r i cf kl e w' := by
  obtain ⟨m, x, l1, l2, he, hx, hm, hc, h1, h2, a1, a2, a3, b1, b2, b3, hk⟩ := h
  have hcap := hn.len
  have hnlt := hn.lt (.inl rfl)
  have hilt : l.ib < w.heap.size := hn.lt (.inr (.inl rfl))
  have kn : ∀ f : List (Option Nat) → List (Option Nat), r.kids.map f ≠ none → r.kids ≠ none := by intro f h e; rw [e] at h; exact h rfl
  have es : (parM k).es = 1 := rfl
  refine ⟨m, x, he, hx, hm, hc.mono fun b o _ hb => hF b hb.blk, ?_⟩
  have q1 : i ≤ l.ic := by omega
  refine cl w' _ l1 m _ l2 hc h1 h2 hm ?_ ?_ ?_ ?_ ?_
  · rintro b o (h | ⟨e1, e2, e3⟩ | ⟨e0, e1⟩)
    · exact .inl (.inl h)
    · rw [a2] at e2; rw [a2, a3, es] at e3; rw [a1] at e1
      exact .inl (.inr (.inl ⟨e1, e2, by rw [es]; omega⟩))
    · obtain ⟨c1, c2, c3, c4, c5⟩ := hk (kn _ e0)
      refine .inl (.inr (.inr ⟨kn _ e0, ?_⟩))
      rcases e1 with e1 | ⟨e1, e2, e3⟩
      · exact .inl (e1.trans c1)
      · rw [c3] at e2; rw [c3, c4] at e3
        refine .inr ⟨e1.trans c2, e2, ?_⟩
        cases hks : r.kids with
        | none => exact absurd hks (kn _ e0)
        | some ks => have := hn.klen hks; have := hil2 ks hks; omega
  · rintro b o (h | ⟨e1, e2, e3⟩ | ⟨e0, e1⟩)
    · exact .inr (by omega)
    · rw [b2] at e2; rw [b2, b3, es] at e3; rw [b1] at e1
      exact .inl (.inr (.inl ⟨e1, by omega, by rw [es]; omega⟩))
    · obtain ⟨c1, c2, c3, c4, c5, c6, c7, c8⟩ := hk (kn _ e0)
      rcases e1 with e1 | ⟨e1, e2, e3⟩
      · exact .inr (by omega)
      · rw [c7] at e2; rw [c7, c8] at e3
        refine .inl (.inr (.inr ⟨kn _ e0, .inr ⟨e1.trans c6, by omega, ?_⟩⟩))
        omega
  · have dd := fun h => hn.d2 h
    have d1 := hn.d1
    rintro b o (h | ⟨e1, e2, e3⟩ | ⟨e0, e1⟩) (g | ⟨g1, g2, g3⟩ | ⟨g0, g1⟩)
    · omega
    · rw [b1] at g1; exact d1 (g1.symm.trans h)
    · obtain ⟨c1, c2, c3, c4, c5, c6, c7, c8⟩ := hk (kn _ g0)
      obtain ⟨d2, d3, _⟩ := dd (kn _ g0)
      rcases g1 with g1 | ⟨g1, _, _⟩
      · omega
      · rw [c6] at g1; exact d3 (g1.symm.trans h)
    · rw [a1] at e1; omega
    · rw [a2, a3, es] at e3; rw [b2] at g2; omega
    · obtain ⟨c1, c2, c3, c4, c5, c6, c7, c8⟩ := hk (kn _ g0)
      obtain ⟨d2, d3, d4, d5, d6⟩ := dd (kn _ g0)
      rw [a1] at e1
      rcases g1 with g1 | ⟨g1, _, _⟩
      · omega
      · rw [c6] at g1; exact d5 (g1.symm.trans e1)
    · obtain ⟨c1, c2, c3, c4, c5, c6, c7, c8⟩ := hk (kn _ e0)
      have := hn.lt (b := l.cc) (.inr (.inr ⟨kn _ e0, .inl rfl⟩))
      have := hn.lt (b := l.cb) (.inr (.inr ⟨kn _ e0, .inr rfl⟩))
      rcases e1 with e1 | ⟨e1, _, _⟩
      · rw [c1] at e1; omega
      · rw [c2] at e1; omega
    · obtain ⟨c1, c2, c3, c4, c5, c6, c7, c8⟩ := hk (kn _ e0)
      obtain ⟨d2, d3, d4, d5, d6⟩ := dd (kn _ e0)
      rw [b1] at g1
      rcases e1 with e1 | ⟨e1, _, _⟩
      · rw [c1] at e1; exact d4 (e1.symm.trans g1)
      · rw [c2] at e1; exact d5 (e1.symm.trans g1)
    · obtain ⟨c1, c2, c3, c4, c5, c6, c7, c8⟩ := hk (kn _ e0)
      obtain ⟨d2, d3, d4, d5, d6⟩ := dd (kn _ e0)
      have := hn.lt (b := l.cc) (.inr (.inr ⟨kn _ e0, .inl rfl⟩))
      have := hn.lt (b := l.cb) (.inr (.inr ⟨kn _ e0, .inr rfl⟩))
      rcases e1 with e1 | ⟨e1, e2, e3⟩ <;> rcases g1 with g1 | ⟨g1, g2, g3⟩
      · rw [c1] at e1; omega
      · rw [c1] at e1; rw [c6] at g1; exact d6 (g1.symm.trans e1)
      · rw [c2] at e1; omega
      · rw [c3, c4] at e3; rw [c7] at g2; omega
  · rintro b (h | h | ⟨e0, e1⟩)
    · exact .inl (.inl h)
    · exact .inl (.inr (.inl (h.trans a1)))
    · obtain ⟨c1, c2, c3, c4, c5⟩ := hk (kn _ e0)
      rcases e1 with e1 | e1
      · exact .inl (.inr (.inr ⟨kn _ e0, .inl (e1.trans c1)⟩))
      · exact .inl (.inr (.inr ⟨kn _ e0, .inr (e1.trans c2)⟩))
  · rintro b (h | h | ⟨e0, e1⟩)
    · exact .inr (by omega)
    · exact .inl (.inr (.inl (h.trans b1)))
    · obtain ⟨c1, c2, c3, c4, c5, c6, c7, c8⟩ := hk (kn _ e0)
      rcases e1 with e1 | e1
      · exact .inr (by omega)
      · exact .inl (.inr (.inr ⟨kn _ e0, .inr (e1.trans c6)⟩))

/-- nodeSplit of a full node. kl: its children (none at a leaf); cf: their counts. -/
theorem nodeSplit_any (k : Int) (mn mx t n : Nat) (r : NodeR (Int × Int)) (w : World) (F : Nat → Prop) (H : Nat → Option (NodeR (Int × Int))) (hF : Fam (parM k) w F H) (ht : MapAt k mn mx w t) (hn : H n = some r) (kl : List Nat)
    (hk : (r.kids = none ∧ kl = []) ∨ (r.kids = some (kl.map some) ∧ kl.length = mx + 1)) (hlen : r.items.length = mx) (hmx : mx ≤ 1000) (hm3 : 3 ≤ mx) (cf : Nat → Int)
    (hkid : ∀ c ∈ kl, c ≠ n ∧ ∃ s, H c = some s ∧ s.cnt = cf c ∧ 0 ≤ cf c) (hsum : ksum cf kl ≤ 100000000000000) :
    Calls Try.prog 56 #[.pointer (some ⟨t, 0, none⟩), .pointer (some ⟨n, 0, none⟩)] w (SplitFam k w F H n r (mx / 2) cf kl) := by
  obtain ⟨l, hna, hb, ho, cl⟩ := hF.split hn
  rcases hk with ⟨hk, rfl⟩ | ⟨hk, hkl⟩
  · exact (nodeSplit_leaf k mn mx t n r l w ht hna hk hlen hmx hm3 cf).mono fun e w' h => split_close (by omega) (by rw [hk]; simp) hna hb cl h
  · refine (nodeSplit_branch k mn mx t n r l w ht hna kl hk hlen hmx hm3 hkl cf ?_ hsum).mono fun e w' h => split_close (by omega) (by rw [hk]; intro ks h; obtain rfl := Option.some.inj h; simp; omega) hna hb cl h
    intro c hc
    obtain ⟨h1, s, h2, h3, h4⟩ := hkid c hc
    obtain ⟨⟨l', h5⟩, h6⟩ := ho c s h1 h2
    exact ⟨by rw [h5.c1, h3], h4, h6⟩
end Go.Proofs.Ytpgaedmhgchgeaa

namespace Go.Proofs.Ytpgaedmhgchgeaa
set_option linter.unusedSimpArgs false
set_option linter.unusedVariables false
open Go.RowKit

/-- What the search among sorted keys answers. -/
def Srch (ks : Nat → Int) (n : Nat) (key : Int) (i : Nat) (f : Bool) : Prop :=
  ((f = true ∧ i < n ∧ ks i = key) ∨ (f = false ∧ i ≤ n ∧ (∀ j, i ≤ j → j < n → key < ks j))) ∧ ∀ j, j < i → ks j < key

def SrchPost (ks : Nat → Int) (n : Nat) (key : Int) (w : World) (e : Ending) (w' : World) : Prop :=
  ∃ (i : Nat) (f : Bool) (m : Nat), e = .returned (.tuple #[.int .i64 i, .bool f]) ∧ Srch ks n key i f ∧ w' = w.drewN m

set_option maxHeartbeats 400000 in
theorem search_any (t n ib io len cap : Nat) (ks : Nat → Int) (key : Int) (w : World)
    (hi : w.cell? ⟨n, 2, none⟩ = some (.slice (some ⟨ib, io, none⟩) len cap))
    (hbig : len ≤ 1000000000000) (hsort : ∀ i j, i < j → j < len → ks i < ks j)
    (hk : ∀ j, j < len → w.cell? ⟨ib, io + j, none⟩ = some (.int .i64 (ks j))) :
    Calls Try.prog 67 #[.pointer (some ⟨t, 0, none⟩), .pointer (some ⟨n, 0, none⟩), .int .i64 key] w
      (SrchPost ks len key w) := by
  have H := Lib.hid hk; clear hk
  have HS := Lib.hid hsort; clear hsort
  go_enter Try.func67, Try.ntmps67
  go_wp2
  go_quiet (fail)
  go_wp2
  go_loop [8, 9, 10] (fun lo hi h => ∃ l h' : Nat, l ≤ h' ∧ h' ≤ len ∧ lo = .int .i64 l ∧ hi = .int .i64 h' ∧ (∀ j, j < l → ks j ≤ key) ∧ (∀ j, h' ≤ j → j < len → key < ks j))
    (fun lo hi _ => (intOf hi).toNat - (intOf lo).toNat)
  case atStart => exact ⟨0, len, Nat.zero_le _, Nat.le_refl _, rfl, rfl, by omega, by omega⟩
  case round =>
    obtain ⟨l, h, hlh, hh, rfl, rfl, hA, hB⟩ := hrel
    have HA := Lib.hid hA; clear hA
    have HB := Lib.hid hB; clear hB
    by_cases hlt : l < h
    · have hcell := H.out ((l + h) / 2) (by omega)
      go_wp2
      · have hq : ¬ key < ks ((l + h) / 2) := by rename_i hx; simpa using hx
        go_round
        case rel =>
          refine ⟨(l + h) / 2 + 1, h, by omega, hh, by go_num, rfl, ?_, HB.out⟩
          intro j hj
          rcases Nat.lt_or_ge j ((l + h) / 2) with hj' | hj'
          · have := HS.out j ((l + h) / 2) hj' (by omega); omega
          · have : j = (l + h) / 2 := by omega
            subst this; omega
        case measure => simp [intOf]; omega
      · have hq : key < ks ((l + h) / 2) := by rename_i hx; simpa using hx
        go_round
        case rel =>
          refine ⟨l, (l + h) / 2, by omega, by omega, rfl, by go_num, HA.out, ?_⟩
          intro j hj hj2
          rcases Nat.lt_or_ge ((l + h) / 2) j with hj' | hj'
          · have := HS.out ((l + h) / 2) j hj' (by omega); omega
          · have : j = (l + h) / 2 := by omega
            subst this; omega
        case measure => simp [intOf]; omega
    · have hl : l = h := by omega
      subst hl
      rcases Nat.eq_zero_or_pos l with h0 | h0
      · subst h0
        go_wp2
        go_ret2
        exact ⟨0, false, _, rfl, ⟨.inr ⟨rfl, by omega, HB.out⟩, by omega⟩, rfl⟩
      · have hcell := H.out (l - 1) (by omega)
        have hd : decide ((0:Int) < (l : Int)) = true := by simpa using h0
        have hlast := HA.out (l - 1) (by omega)
        have hcast : ((l - 1 : Nat) : Int) = (l : Int) - 1 := by omega
        have Hc := Lib.hid hcast; clear hcast
        go_wp2
        · have hq : ¬ ks (l - 1) < key := by rename_i hx _; simpa using hx
          go_ret2
          refine ⟨l - 1, true, _, by rw [Hc.out]; rfl, ⟨.inl ⟨rfl, by omega, by omega⟩, ?_⟩, rfl⟩
          intro j hj
          have := HS.out j (l - 1) hj (by omega)
          omega
        · have hq : ks (l - 1) < key := by rename_i hx _; simpa using hx
          go_ret2
          refine ⟨l, false, _, rfl, ⟨.inr ⟨rfl, by omega, HB.out⟩, ?_⟩, rfl⟩
          intro j hj
          rcases Nat.lt_or_ge j (l - 1) with h1 | h1
          · have := HS.out j (l - 1) h1 (by omega); omega
          · have : j = l - 1 := by omega
            subst this; omega

def ltM (a b : Int × Int) : Bool := decide (a.1 < b.1)

theorem swoM : Swo ltM where
  asymm := by intro a b h; simp [ltM] at h ⊢; omega
  ntrans := by intro a b c h1 h2; simp [ltM] at h1 h2 ⊢; omega

def SrchN (xs : List (Int × Int)) (x : Int × Int) (w : World) (e : Ending) (w' : World) : Prop :=
  ∃ (i : Nat) (f : Bool), e = .returned (.tuple #[.int .i64 i, .bool f]) ∧ Chg (fun _ _ => False) w w' ∧ ((f = true ∧ ∃ y, HitAt ltM xs x i y) ∨ (f = false ∧ PosAt ltM xs x i))

theorem search_node {k : Int} {mn mx : Nat} {w : World} {n : Nat} {r : NodeR (Int × Int)} {l : Lay} (t : Nat) (x : Int × Int) (_ : MapAt k mn mx w t) (h : NodeAt (parM k) w n r l) (hs : Srt ltM r.items) (hlen : r.items.length ≤ 1000000) :
    Calls Try.prog 67 #[.pointer (some ⟨t, 0, none⟩), .pointer (some ⟨n, 0, none⟩), .int .i64 x.1] w (SrchN r.items x w) := by
  refine (search_any t n l.ib l.io r.items.length l.ic (fun j => (r.items.getD j (0, 0)).1) x.1 w h.c2 (by omega) ?_ ?_).mono ?_
  · intro i j hij hj
    have := List.pairwise_iff_getElem.1 hs i j (by omega) hj hij
    simpa [ltM, List.getD, show i < r.items.length by omega, hj] using this
  · intro j hj
    have := h.mkey (j := j) (x := r.items[j]) (List.getElem?_eq_getElem hj)
    simpa [List.getD, hj] using this
  · rintro e w' ⟨i, f, m, he, ⟨h1, h2⟩, hw⟩
    have hl : ∀ j y, j < i → r.items[j]? = some y → ltM y x = true := by
      intro j y hj hy
      have := h2 j hj
      simp [List.getD, hy] at this
      simpa [ltM] using this
    refine ⟨i, f, he, by rw [hw]; exact (Chg.refl _ _).drewN _, ?_⟩
    rcases h1 with ⟨h1, h3, h4⟩ | ⟨h1, h3, h4⟩
    · refine .inl ⟨h1, r.items[i], List.getElem?_eq_getElem h3, hl, ?_, ?_⟩
      · simp [List.getD, h3] at h4; simp [ltM]; omega
      · simp [List.getD, h3] at h4; simp [ltM]; omega
    · refine .inr ⟨h1, h3, hl, ?_⟩
      intro j y hj hy
      have hlt := (List.getElem?_eq_some_iff.1 hy).1
      have := h4 j hj hlt
      simp [List.getD, hy] at this
      simpa [ltM] using this
end Go.Proofs.Ytpgaedmhgchgeaa

namespace Go.Proofs.Ytpgaedmhgchgeaa
set_option linter.unusedSimpArgs false
set_option linter.unusedVariables false
open Go.RowKit

theorem partAt_zero {P : Program} {w : World} {b o : Nat} {c : Array Value} {T : TypeId} {fr : Nat × Nat} {s d : Nat} (h : w.heap[b]? = some (.cells c T fr)) (hs : P.cellsOf T = s) (hs0 : s ≠ 0) (hb : byteOfCell P P.depth T (o % s) = some d) :
    (partAt ⟨b, o, none⟩ 0 0).run P w = .ok ⟨b, o, none⟩ w := by
  unfold partAt byteOf
  have hsh : (Sem.shape b Sem.pure).run P w = .ok (some (T, c.size)) w := by
    have hq : w.shape? b = some (T, c.size) := by simp [World.shape?, h]
    simp [Sem.run, hq]
  simp [go_sem, noView, viewAt, shape, hsh, hs, hs0, hb]

theorem pair_cells : Try.prog.cellsOf 53 = 1 := by kernel_rfl
theorem pair_byte : byteOfCell Try.prog Try.prog.depth 53 0 = some 0 := by kernel_rfl
theorem map_cells : Try.prog.cellsOf 57 = 9 := by kernel_rfl
theorem map_byte : byteOfCell Try.prog Try.prog.depth 57 4 = some 32 := by kernel_rfl

/-- The value's field of an item of a node. -/
theorem NodeAt.pz {k : Int} {w : World} {n : Nat} {r : NodeR (Int × Int)} {l : Lay} (h : NodeAt (parM k) w n r l) (i : Nat) : (partAt ⟨l.ib, i, none⟩ 0 0).run Try.prog w = .ok ⟨l.ib, i, none⟩ w := by
  obtain ⟨_, c, h1, _⟩ := h.row
  exact partAt_zero h1 pair_cells (by decide) (by rw [Nat.mod_one]; exact pair_byte)
theorem block_pz {w : World} {b : Nat} {c : Array Value} (h : w.heap[b]? = some (.cells c 53 (0, 0))) (i : Nat) : (partAt ⟨b, i, none⟩ 0 0).run Try.prog w = .ok ⟨b, i, none⟩ w :=
  partAt_zero h pair_cells (by decide) (by rw [Nat.mod_one]; exact pair_byte)
theorem map_pz {w : World} {b : Nat} {c : Array Value} (h : w.heap[b]? = some (.cells c 57 (0, 0))) : (partAt ⟨b, 4, none⟩ 0 0).run Try.prog w = .ok ⟨b, 4, none⟩ w :=
  partAt_zero h map_cells (by decide) map_byte
theorem MapAt.pz {k : Int} {mn mx t : Nat} {w : World} (h : MapAt k mn mx w t) : (partAt ⟨t, 4, none⟩ 0 0).run Try.prog w = .ok ⟨t, 4, none⟩ w := by
  obtain ⟨c, h1⟩ := h.blk
  exact map_pz h1
end Go.Proofs.Ytpgaedmhgchgeaa

namespace Go.Proofs.Ytpgaedmhgchgeaa
set_option linter.unusedSimpArgs false
set_option linter.unusedVariables false
open Go.RowKit

theorem upList {β : Type} (ys : List β) (z : β) (i : Nat) (hi : i ≤ ys.length) (rest : List β) : (ys ++ [z]).take (i + 1) ++ ys.drop i ++ (ys ++ [z]).drop (i + 1 + (ys.drop i).length) = (ys ++ [z]).take (i + 1) ++ ys.drop i := by
  have h : (ys ++ [z]).drop (i + 1 + (ys.drop i).length) = [] := List.drop_eq_nil_of_le (by simp; omega)
  rw [h, List.append_nil]

theorem upList_set {β : Type} (ys : List β) (z x : β) (i : Nat) (hi : i ≤ ys.length) : ((ys ++ [z]).take (i + 1) ++ ys.drop i).set i x = ys.take i ++ x :: ys.drop i := by
  have h1 : ((ys ++ [z]).take (i + 1)).length = i + 1 := by simp; omega
  rw [List.set_append_left _ _ (by omega), List.set_eq_take_append_cons_drop, if_pos (by omega), List.drop_eq_nil_of_le (by omega), List.take_take, Nat.min_eq_left (by omega)]
  rw [List.take_append_of_le_length hi]
  simp

theorem upList_len {β : Type} (ys : List β) (z : β) (i : Nat) (hi : i ≤ ys.length) : ((ys ++ [z]).take (i + 1) ++ ys.drop i).length = ys.length + 1 := by
  simp; omega

variable {α : Type} {P : Program} {p : Par α} {w0 w : World} {n : Nat} {r0 r : NodeR α} {l0 l : Lay}

theorem wpList_shift {ops : Array Oper} {rest : List Oper} {o' : Oper} {a : Act} {Q : Exit → Act → World → Prop} (hgd : o'.guard = none) (d s : Operand) (dT sT : TypeId)
    (ho : o'.op = .call { callee := .builtin .copy, args := #[d, s], argTypes := #[dT, sT] }) (elem : TypeId) (hu : P.underlying dT = some (.slice elem)) (hsz : (P.info? elem).map (·.size) = some p.es)
    (h1 : Run p w0 n r0 l0 w r l) (ys : List α) (z : α) (hr : r.items = ys ++ [z]) (i od dl dc sl sc : Nat) (hi : i ≤ ys.length) (hod : i < ys.length → od = l.io + (i + 1) * p.es) (hod2 : od = l.io ∨ od = l.io + (i + 1) * p.es)
    (hd : a.eval d = .slice (some ⟨l.ib, od, none⟩) dl dc) (so : Nat) (hs : a.eval s = .slice (some ⟨l.ib, so, none⟩) sl sc) (hso : so = l.io + i * p.es) (hdl : dl = ys.length - i) (hsl : sl = ys.length + 1 - i)
    (h : ∀ w', Chg (fun b _ => b = l.ib) w w' → Run p w0 n r0 l0 w' { r with items := (ys ++ [z]).take (i + 1) ++ ys.drop i } l → wpList P ops Q rest (a.put o'.dst (goInt (Nat.min sl dl))) w') : wpList P ops Q (o' :: rest) a w := by
  obtain ⟨q0, c, q1, q2, q3⟩ := h1.at_.row
  have hlen := h1.at_.len
  have hl1 : r.items.length = ys.length + 1 := by rw [hr]; simp
  have m1 : (ys.length + 1) * p.es ≤ l.ic * p.es := Nat.mul_le_mul_right _ (by omega)
  have m2 : (i + 1) * p.es ≤ (ys.length + 1) * p.es := Nat.mul_le_mul_right _ (by omega)
  have m3 : (i + 1) * p.es + (ys.length - i) * p.es = (ys.length + 1) * p.es := by rw [← Nat.add_mul]; congr 1; omega
  have hcl : (flat p (ys.drop i)).length = (ys.length - i) * p.es := by rw [flat_len]; simp
  have hmin : Nat.min sl dl = ys.length - i := by rw [hsl, hdl]; exact Nat.min_eq_right (by omega)
  refine wpList_copy_row hgd d s dT sT ho elem p.es hu hsz l.ib od dl dc hd _ sl sc hs (flat p (ys.drop i)) (by rw [hmin, hcl]) ?_ c p.TI q1 ?_ (flat_one p _) ?_
  · intro j v hj
    rw [add_none, hso]
    have e : (flat p r.items)[i * p.es + j]? = some v := by
      rw [← List.getElem?_drop, flat_drop, hr, List.drop_append_of_le_length hi, flat_append, List.getElem?_append_left (List.getElem?_eq_some_iff.1 hj).1]
      exact hj
    have := h1.at_.row.cell e
    rw [Nat.add_assoc]
    exact this
  · rw [hcl]
    rcases Nat.lt_or_ge i ys.length with hlt | hge
    · rw [hod hlt]; omega
    · rw [show ys.length - i = 0 by omega, Nat.zero_mul]
      rcases hod2 with e | e <;> omega
  · refine h _ ?_ ?_
    · refine putCells_chg (Chg.refl _ _) q1 ?_ (.inl fun _ _ _ => rfl)
      rw [hcl]
      rcases Nat.lt_or_ge i ys.length with hlt | hge
      · rw [hod hlt]; omega
      · rw [show ys.length - i = 0 by omega, Nat.zero_mul]
        rcases hod2 with e | e <;> omega
    · rcases Nat.lt_or_ge i ys.length with hlt | hge
      · have := h1.putItems (i + 1) (ys.drop i) (by rw [List.length_drop]; omega)
        rw [hr, upList ys z i hi []] at this
        rw [hod hlt]
        exact this
      · have e1 : ys.drop i = [] := List.drop_eq_nil_of_le hge
        have e2 : (ys ++ [z]).take (i + 1) = ys ++ [z] := List.take_of_length_le (by simp; omega)
        rw [e1, e2, List.append_nil, ← hr]
        refine h1.still (putCells_chg (Chg.refl _ _) q1 ?_ (.inl fun o h1 h2 => ?_))
        · simp only [flat_nil, List.length_nil]
          rcases hod2 with e | e <;> omega
        · simp only [flat_nil, List.length_nil] at h2
          omega

theorem wpList_shiftKids {ops : Array Oper} {rest : List Oper} {o' : Oper} {a : Act} {Q : Exit → Act → World → Prop} (hgd : o'.guard = none) (d s : Operand) (dT sT : TypeId)
    (ho : o'.op = .call { callee := .builtin .copy, args := #[d, s], argTypes := #[dT, sT] }) (elem : TypeId) (hu : P.underlying dT = some (.slice elem)) (hsz : (P.info? elem).map (·.size) = some 1)
    (h1 : Run p w0 n r0 l0 w r l) (ys : List (Option Nat)) (z : Option Nat) (hr : r.kids = some (ys ++ [z])) (i od dl dc sl sc : Nat) (hi : i ≤ ys.length) (hod : i < ys.length → od = l.co + (i + 1)) (hod2 : od = l.co ∨ od = l.co + (i + 1))
    (hd : a.eval d = .slice (some ⟨l.cb, od, none⟩) dl dc) (so : Nat) (hs : a.eval s = .slice (some ⟨l.cb, so, none⟩) sl sc) (hso : so = l.co + i) (hdl : dl = ys.length - i) (hsl : sl = ys.length + 1 - i)
    (h : ∀ w', Chg (fun b _ => b = l.cb) w w' → Run p w0 n r0 l0 w' { r with kids := some ((ys ++ [z]).take (i + 1) ++ ys.drop i) } l → wpList P ops Q rest (a.put o'.dst (goInt (Nat.min sl dl))) w') : wpList P ops Q (o' :: rest) a w := by
  obtain ⟨k1, k2⟩ := h1.at_.kid _ hr
  obtain ⟨q0, c, q1, q2, q3⟩ := k2
  have hlen := h1.at_.klen hr
  have hl1 : (ys ++ [z]).length = ys.length + 1 := by simp
  have hcl : ((ys.drop i).map kidV).length = ys.length - i := by simp
  have hmin : Nat.min sl dl = ys.length - i := by rw [hsl, hdl]; exact Nat.min_eq_right (by omega)
  refine wpList_copy_row hgd d s dT sT ho elem 1 hu hsz l.cb od dl dc hd _ sl sc hs ((ys.drop i).map kidV) (by rw [hmin, hcl, Nat.mul_one]) ?_ c p.TP q1 ?_ ?_ ?_
  · intro j v hj
    rw [add_none, hso]
    have e : ((ys ++ [z]).map kidV)[i + j]? = some v := by
      rw [← List.getElem?_drop, ← List.map_drop, List.drop_append_of_le_length hi, List.map_append, List.getElem?_append_left (List.getElem?_eq_some_iff.1 hj).1]
      exact hj
    have := (h1.at_.kid _ hr).2.cell e
    rw [Nat.add_assoc]
    exact this
  · rw [hcl]
    rcases Nat.lt_or_ge i ys.length with hlt | hge
    · rw [hod hlt]; omega
    · rcases hod2 with e | e <;> omega
  · intro u hu
    obtain ⟨x, _, rfl⟩ := List.mem_map.1 hu
    cases x <;> rfl
  · refine h _ ?_ ?_
    · refine putCells_chg (Chg.refl _ _) q1 ?_ (.inl fun _ _ _ => rfl)
      rw [hcl]
      rcases Nat.lt_or_ge i ys.length with hlt | hge
      · rw [hod hlt]; omega
      · rcases hod2 with e | e <;> omega
    · rcases Nat.lt_or_ge i ys.length with hlt | hge
      · have := h1.putKids hr (i + 1) (ys.drop i) (by rw [List.length_drop]; simp; omega)
        rw [upList ys z i hi []] at this
        rw [hod hlt]
        exact this
      · have e1 : ys.drop i = [] := List.drop_eq_nil_of_le hge
        have e2 : (ys ++ [z]).take (i + 1) = ys ++ [z] := List.take_of_length_le (by simp; omega)
        rw [e1, e2, List.append_nil, ← hr]
        refine h1.still (putCells_chg (Chg.refl _ _) q1 ?_ (.inl fun o h1 h2 => ?_))
        · simp only [List.map_nil, List.length_nil]
          rcases hod2 with e | e <;> omega
        · simp only [List.map_nil, List.length_nil] at h2
          omega
end Go.Proofs.Ytpgaedmhgchgeaa
