/- The walk of nodeSplit. -/
import Derived.Test.YtojplcbkiogcpaaPm
import Derived.Test.YtojplcbkiogcpaaOr
namespace Go.Proofs.Ytojplcbkiogcpaa
set_option linter.unusedSimpArgs false
set_option linter.unusedVariables false
open Go.RowKit
variable {ord : List Int} {k : Kc ord}

/-- What a walk knows of the map's own struct: the isoid, the limits, the zero pair; nothing there is frozen. -/
structure MapAt (k : Kc ord) (mn mx : Nat) (w : World) (t : Nat) : Prop where
  c0 : w.cell? ⟨t, 0, none⟩ = some (.int .u64 k.iso)
  c4 : w.cell? ⟨t, 7, none⟩ = some (.int .i64 0)
  c5 : w.cell? ⟨t, 8, none⟩ = some (.int .i64 0)
  c6 : w.cell? ⟨t, 10, none⟩ = some (.int .i64 mn)
  c7 : w.cell? ⟨t, 9, none⟩ = some (.int .i64 mx)
  c6l : w.cell? ⟨t, 6, none⟩ = some (lessV k)
  ord : OrdAt k w

/-- The blocks that are the map's own. -/
def MOwn (k : Kc ord) (t b : Nat) : Prop := b = t ∨ b = k.ob ∨ b = k.rb

theorem MOwn.self {k : Kc ord} {t : Nat} : MOwn k t t := .inl rfl

theorem MapAt.lt {k : Kc ord} {mn mx t b : Nat} {w : World} (h : MapAt k mn mx w t) (hb : MOwn k t b) : b < w.heap.size := by
  rcases hb with rfl | rfl | rfl
  · exact World.block_lt_of_cell? w _ h.c0
  · exact h.ord.lt.1
  · exact h.ord.lt.2

theorem MapAt.chg {A : Nat → Nat → Prop} {k : Kc ord} {mn mx t : Nat} {w w' : World} (h : MapAt k mn mx w t) (c : Chg A w w') (hA : ∀ b o, MOwn k t b → ¬ A b o) : MapAt k mn mx w' t :=
  ⟨c.cell (hA t 0 MOwn.self) h.c0, c.cell (hA t 7 MOwn.self) h.c4, c.cell (hA t 8 MOwn.self) h.c5, c.cell (hA t 10 MOwn.self) h.c6, c.cell (hA t 9 MOwn.self) h.c7, c.cell (hA t 6 MOwn.self) h.c6l, h.ord.chg c (fun o => hA _ o (.inr (.inl rfl))) (fun o => hA _ o (.inr (.inr rfl)))⟩

/-- The node n of the record r has been parted at place i: the first part stays n, the second one is the new node m. kl: the children, cf: their counts. -/
def SplitPost (k : Kc ord) (w : World) (n : Nat) (r : NodeR (It ord)) (l : Lay) (i : Nat) (cf : Nat → Int) (kl : List Nat) (e : Ending) (w' : World) : Prop :=
  ∃ m x l1 l2, e = .returned (.tuple #[.pointer (some ⟨m, 0, none⟩), .agg #[.int .i64 x.1, .int .i64 x.2]]) ∧ r.items[i]? = some x ∧ w.heap.size ≤ m ∧
    Chg (Ext (parM k) n r l) w w' ∧
    NodeAt (parM k) w' n ⟨i + ksum cf (kl.take (i + 1)), r.items.take i, r.kids.map (·.take (i + 1))⟩ l1 ∧
    NodeAt (parM k) w' m ⟨((r.items.length - (i + 1) : Nat) : Int) + ksum cf (kl.drop (i + 1)), r.items.drop (i + 1), r.kids.map (·.drop (i + 1))⟩ l2 ∧
    l1.ib = l.ib ∧ l1.io = l.io ∧ l1.ic = i ∧ l2.ib = l.ib ∧ l2.io = l.io + (i + 1) * 2 ∧ l2.ic = l.ic - (i + 1) ∧
    (r.kids ≠ none → l1.cc = l.cc ∧ l1.cb = l.cb ∧ l1.co = l.co ∧ l1.ck = i + 1 ∧ w.heap.size ≤ l2.cc ∧ l2.cb = l.cb ∧ l2.co = l.co + (i + 1) ∧ l2.ck = l.ck - (i + 1))

set_option maxRecDepth 100000 in
set_option maxHeartbeats 1000000 in
theorem nodeSplit_leaf (k : Kc ord) (mn mx t n : Nat) (r : NodeR (It ord)) (l : Lay) (w : World) (ht : MapAt k mn mx w t) (hn : NodeAt (parM k) w n r l) (hk : r.kids = none) (hlen : r.items.length = mx) (hmx : mx ≤ 1000) (hm3 : 3 ≤ mx) (cf : Nat → Int) :
    Calls Try.prog 117 #[.pointer (some ⟨t, 0, none⟩), .pointer (some ⟨n, 0, none⟩)] w (SplitPost k w n r l (mx / 2) cf []) := by
  obtain ⟨i, hi⟩ : ∃ i : Nat, mx / 2 = i := ⟨_, rfl⟩
  rw [hi]
  have hI : (mx : Int) / 2 = (i : Int) := by omega
  have Hi := Lib.hid hi
  have hilt : i < mx := by omega
  have hi1 : 1 ≤ i := by omega
  clear hi
  obtain ⟨x, hx⟩ : ∃ x, r.items[i]? = some x := ⟨_, List.getElem?_eq_getElem (by omega)⟩
  have t0 := ht.c0
  have t6 := ht.c7
  have n2 := hn.c2
  have n3 := hn.c3n hk
  have iv := hn.mval hx
  have ik := hn.mkey hx
  have hcap := hn.len
  rw [hlen] at n2
  have ibl := hn.row.lt
  have nlt := World.block_lt_of_cell? w _ n2
  have tlt := World.block_lt_of_cell? w _ t0
  go_enter Try.func117, Try.ntmps117
  go_wp2_with (first | (go_at_call 97; refine (leaf_any _ none _ ?_).mono ?_; (focus go_simp); rintro e w' ⟨rfl, rfl⟩) | (go_at_call 115; refine (newNode_leaf _ k _ ?_).mono ?_; (focus go_simp); rintro e w' ⟨rfl, rfl⟩))
  refine (updateCount_leaf _ l.ib (l.io + (i + 1) * 2) (mx - (i + 1)) (l.ic - (i + 1)) 0 _ ?_ ?_ ?_ ?_).mono ?_
  · go_simp
  · go_simp
  · go_simp
  · go_simp
  rintro e w' ⟨rfl, rfl⟩
  go_wp2_with fail
  refine name_world (fun w1 => Chg (fun _ _ => False) w w1 ∧ w1.heap[w.heap.size]? = some (.cells #[.int .i64 x.1, .int .i64 x.2] 26 (0, 0)) ∧
    w1.heap[w.heap.size + 1]? = some (.cells #[.int .u64 k.iso, .int .i64 ((mx - (i + 1) : Nat) : Int), .slice (some ⟨l.ib, l.io + (i + 1) * 2, none⟩) (mx - (i + 1)) (l.ic - (i + 1)), .pointer none] 105 (0, 0)))
    ⟨((Chg.refl _ w).alloc _).alloc _, by rw [ha_lt _ _ (by simp)]; exact ha_at _ _ rfl, ha_at _ _ (by simp)⟩ ?_
  rintro w1 ⟨hc1, hb1, hb2⟩
  have HB1 := Lib.hid hb1
  have HB2 := Lib.hid hb2
  clear hb1 hb2
  have ht1 := ht.chg hc1 (by simp)
  have hn1 := hn.chg hc1 (by simp)
  have n21 := hn1.c2
  rw [hlen] at n21
  have iv1 := hn1.mval hx
  have ik1 := hn1.mkey hx
  have e4 := ht1.c4
  have e5 := ht1.c5
  have fz0 := hn1.ifz (l.io + i * 2)
  have fz1 := hn1.ifz (l.io + i * 2 + 1)
  have fzn := hn1.fz 2
  have fzn1 := hn1.fz 1
  have n31 := hn1.c3n hk
  have n11 := hn1.c1
  have hibn := hn1.d1
  have j0 : (0 : Int) ≤ (i : Int) := by omega
  have j1 : (i : Int) < (mx : Int) := by omega
  clear t0 t6 n2 n3 iv ik hm3
  go_still_tail 10, (by kernel_rfl)
  go_wp2_with (first | (go_at_call 97; refine (leaf_any _ none _ ?_).mono ?_; (focus go_simp); rintro e w' ⟨rfl, rfl⟩))
  refine (updateCount_leaf _ l.ib l.io (i) (i) r.cnt _ ?_ ?_ ?_ ?_).mono ?_
  · go_simp
  · go_simp
  · go_simp
  · go_simp
  rintro e w' ⟨rfl, rfl⟩
  go_wp2_with fail
  refine name_world (fun w2 => Chg (fun b o => b = n ∨ (b = l.ib ∧ l.io + i * 2 ≤ o ∧ o < l.io + (i + 1) * 2)) w1 w2 ∧
      w2.heap[n]? = some (.cells #[.int .u64 k.iso, .int .i64 ((i : Nat) : Int), .slice (some ⟨l.ib, l.io, none⟩) (i) (i), .pointer none] 105 (0, 0))) ⟨?_, ?_⟩ ?_
  · repeat (first | refine Chg.drew ?_ | refine Chg.setCell ?_ (.inl ?_) _ | exact Chg.refl _ _)
    all_goals (simp; try omega)
  · have hd := hn1.hd
    unfold hdCells at hd
    rw [hk, hlen] at hd
    rw [hd_drew, hs_same (c := #[.int .u64 k.iso, .int .i64 r.cnt, .slice (some ⟨l.ib, l.io, none⟩) (i) (i), .pointer none]) (T := 105) (fr := (0, 0))]
    · rfl
    · rw [hs_same (c := #[.int .u64 k.iso, .int .i64 r.cnt, .slice (some ⟨l.ib, l.io, none⟩) mx l.ic, .pointer none]) (T := 105) (fr := (0, 0))]
      · rfl
      · repeat rw [hs_ne _ (Ne.symm hibn)]
        exact hd
  rintro w2 ⟨hc2, hd2⟩
  have hc2' := hc2
  have hszw := hc1.size
  have HD2 := Lib.hid hd2
  clear hd2
  have hb2 : w2.heap[w.heap.size]? = some (.cells #[.int .i64 x.1, .int .i64 x.2] 26 (0, 0)) := by
    rw [hc2.block (heap_lt HB1.out) (by intro o; simp; omega)]; exact HB1.out
  have q0 := cell_of_block hb2 0
  have q1 := cell_of_block hb2 1
  have q2 := frozen_of_block hb2 0
  have q3 := frozen_of_block hb2 1
  simp only [List.getElem?_toArray, List.getElem?_cons_zero, List.getElem?_cons_succ] at q0 q1
  have HQ := Lib.hid hb2
  clear hb2 n21 iv1 ik1 e4 e5 fz0 fz1 fzn fzn1 n31 n11
  go_region
  go_wp2
  refine bodyPost_ret (v := .tuple #[.pointer (some ⟨w.heap.size + 1, 0, none⟩), .agg #[.int .i64 x.1, .int .i64 x.2]]) (by simp [results, Try.results117, go_sem, q0, q1]) rfl ?_
  generalize hw3 : World.drew _ = w3
  have hc3 : Chg (fun b _ => b = w.heap.size) w2 w3 := by
    rw [← hw3]
    repeat (first | refine Chg.drew ?_ | refine Chg.setCell ?_ (.inl rfl) _ | exact Chg.refl _ _)
  have hs1 : w.heap.size + 1 < w1.heap.size := heap_lt HB2.out
  have hs2 := hc2.size
  have hc13 : Chg (fun b o => b = n ∨ (b = l.ib ∧ l.io + i * 2 ≤ o ∧ o < l.io + (i + 1) * 2) ∨ b = w.heap.size) w1 w3 :=
    hc2.trans' hc3 (fun b o _ h => by rcases h with h | h; exact .inl h; exact .inr (.inl h)) (fun b o _ h => .inr (.inr h))
  have hext : ∀ o, l.io + i * 2 ≤ o → o < l.io + (i + 1) * 2 → l.io ≤ o ∧ o < l.io + l.ic * 2 := by intro o h1 h2; omega
  refine ⟨w.heap.size + 1, x, ⟨l.ib, l.io, i, l.cc, l.cb, l.co, i + 1⟩, ⟨l.ib, l.io + (i + 1) * 2, l.ic - (i + 1), 0, 0, 0, 0⟩, rfl, hx, by omega, ?_, ?_, ?_, rfl, rfl, rfl, rfl, rfl, rfl, fun h => absurd hk h⟩
  · refine hc1.trans' hc13 (fun _ _ _ h => h.elim) ?_
    rintro b o hb (h | ⟨h1, h2, h3⟩ | h)
    · exact .inl h
    · exact .inr (.inl ⟨h1, by have := hext o h2 h3; simpa [parM] using this⟩)
    · omega
  · refine ⟨?_, ?_, ?_, hibn, ?_⟩
    · rw [hc3.block (by omega) (by intro o; omega), HD2.out, hk]
      simp [hdCells, parM, hlen, ksum_nil]; omega
    · have := hn1.rowPart hc13 0 i i (by omega) (by omega) (by omega) (by
        intro o h1 h2 h3
        simp [parM] at h1 h2
        rcases h3 with h3 | ⟨_, h3, _⟩ | h3 <;> omega)
      simpa [parM] using this
    · rw [hk]; simp
    · rw [hk]; simp
  · refine ⟨?_, ?_, ?_, ?_, ?_⟩
    · rw [hc3.block (by omega) (by intro o; simp), hc2.block (by omega) (by intro o; omega), HB2.out, hk]
      simp [hdCells, parM, hlen, ksum_nil]
    · have := hn1.rowPart hc13 (i + 1) (r.items.length - (i + 1)) (l.ic - (i + 1)) (by omega) (by omega) (by omega) (by
        intro o h1 h2 h3
        simp [parM] at h1 h2
        rcases h3 with h3 | ⟨_, _, h3⟩ | h3 <;> omega)
      rw [List.take_of_length_le (by simp)] at this
      simpa [parM] using this
    · rw [hk]; simp
    · show l.ib ≠ w.heap.size + 1
      omega
    · rw [hk]; simp
end Go.Proofs.Ytojplcbkiogcpaa
