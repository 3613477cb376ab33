/- The walk of nodeSplit at a branch. -/
import Derived.Test.YtojplcbkiogcpaaWb
namespace Go.Proofs.Ytojplcbkiogcpaa
set_option linter.unusedSimpArgs false
set_option linter.unusedVariables false
open Go.RowKit
variable {ord : List Int} {k : Kc ord}

set_option maxRecDepth 100000 in
set_option maxHeartbeats 2000000 in
theorem nodeSplit_branch (k : Kc ord) (mn mx t n : Nat) (r : NodeR (It ord)) (l : Lay) (w : World) (ht : MapAt k mn mx w t) (hn : NodeAt (parM k) w n r l) (kl : List Nat) (hk : r.kids = some (kl.map some)) (hlen : r.items.length = mx) (hmx : mx ≤ 1000) (hm3 : 3 ≤ mx)
    (hkl : kl.length = mx + 1) (cf : Nat → Int) (hkid : ∀ c ∈ kl, w.cell? ⟨c, 1, none⟩ = some (.int .i64 (cf c)) ∧ 0 ≤ cf c ∧ ∀ o, ¬ Ext (parM k) n r l c o) (hsum : ksum cf kl ≤ 100000000000000) :
    Calls Try.prog 117 #[.pointer (some ⟨t, 0, none⟩), .pointer (some ⟨n, 0, none⟩)] w (SplitPost k w n r l (mx / 2) cf kl) := by
  obtain ⟨i, hi⟩ : ∃ i : Nat, mx / 2 = i := ⟨_, rfl⟩
  rw [hi]
  have hI : (mx : Int) / 2 = (i : Int) := by omega
  have hilt : i < mx := by omega
  have hi1 : 1 ≤ i := by omega
  clear hi
  obtain ⟨x, hx⟩ : ∃ x, r.items[i]? = some x := ⟨_, List.getElem?_eq_getElem (by omega)⟩
  have t0 := ht.c0
  have t6 := ht.c7
  have n2 := hn.c2
  have n3 := hn.c3s hk
  have iv := hn.mval hx
  have ik := hn.mkey hx
  have hcap := hn.len
  have hkcap := hn.klen hk
  rw [hlen] at n2
  rw [List.length_map, hkl] at hkcap
  have ibl := hn.row.lt
  have nlt : n < w.heap.size := World.block_lt_of_cell? w _ n2
  have tlt : t < w.heap.size := World.block_lt_of_cell? w _ t0
  have cclt := heap_lt (hn.kid _ hk).1
  have cblt := (hn.kid _ hk).2.lt
  have nlt1 : n < w.heap.size + 1 + 1 := by omega
  have tlt1 : t < w.heap.size + 1 + 1 := by omega
  have cclt1 : l.cc < w.heap.size + 1 + 1 := by omega
  have hnew : ∀ b o, w.heap.size ≤ b → ¬ Ext (parM k) n r l b o := fun b o hb h => Nat.lt_irrefl _ (Nat.lt_of_lt_of_le (hn.lt h.blk) hb)
  have HNEW := Lib.hid hnew
  clear hnew
  have HK := Lib.hid hkid
  clear hkid
  have HK2 := Lib.hid hk
  clear hk
  go_enter Try.func117, Try.ntmps117
  go_wp2_with (first | (go_at_call 97; refine (leaf_any _ (some ⟨l.cc, 0, none⟩) _ ?_).mono ?_; (focus go_simp); rintro e w' ⟨rfl, rfl⟩) | (go_at_call 115; refine (newNode_branch _ k _ ?_).mono ?_; (focus go_simp); rintro e w' ⟨rfl, rfl⟩))
  refine name_world (fun w1 => Chg (fun _ _ => False) w w1 ∧ w1.heap[w.heap.size]? = some (.cells #[.int .i64 x.1, .int .i64 x.2] 26 (0, 0)) ∧
    w1.heap[w.heap.size + 1]? = some (.cells #[.int .u64 k.iso, .int .i64 0, .slice (some ⟨l.ib, l.io + (i + 1) * 2, none⟩) (mx - (i + 1)) (l.ic - (i + 1)), .pointer (some ⟨w.heap.size + 2, 0, none⟩)] 105 (0, 0)) ∧
    w1.heap[w.heap.size + 2]? = some (.cells #[.slice none 0 0] 106 (0, 0)))
    ⟨?_, ?_, ?_, ?_⟩ ?_
  · exact (((Chg.refl _ w).alloc _).alloc _).alloc _
  · rw [ha_lt _ _ (by simp; try omega), ha_lt _ _ (by simp; try omega)]; exact ha_at _ _ rfl
  · rw [ha_lt _ _ (by simp)]; exact ha_at _ _ (by simp)
  · exact ha_at _ _ (by simp)
  rintro w1 ⟨hc1, hb1, hb2, hb3⟩
  have r3 := cell_of_block hb2 3
  have cc0 := cell_of_block hb3 0
  have fcc := frozen_of_block hb3 0
  simp only [List.getElem?_toArray, List.getElem?_cons_zero, List.getElem?_cons_succ] at r3 cc0
  have HB1 := Lib.hid hb1
  have HB2 := Lib.hid hb2
  have HB3 := Lib.hid hb3
  clear hb1 hb2 hb3
  have ht1 := ht.chg hc1 (by simp)
  have hn1 := hn.chg hc1 (by simp)
  have n31 := hn1.c3s HK2.out
  have nc1 := hn1.cc HK2.out
  rw [List.length_map, hkl] at nc1
  have j0 : (0 : Int) ≤ (i : Int) := by omega
  have j1 : (i : Int) < (mx : Int) := by omega
  have j2 : ((i : Int) + 1) ≤ ((mx + 1 : Nat) : Int) := by omega
  clear t0 t6 n2 n3 iv ik hm3
  have hle : i ≤ mx := by omega
  have hck : ¬ l.ck = i + 1 := by omega
  have s2 : (0 : Int) ≤ (i : Int) + 1 := by omega
  have s3 : ((i : Int) + 1).toNat = i + 1 := by omega
  have s1 : IntKind.i64.wrap ((i : Int) + 1) = (i : Int) + 1 := IntWalk.i64_in _ (by omega)
  go_still_tail 13, (by kernel_rfl)
  clear s1 s2 s3
  go_wp2_with fail
  refine name_calls (fun w2 => Chg (fun b _ => b = w.heap.size + 2) w1 w2 ∧ w2.heap[w.heap.size + 2]? = some (.cells #[.slice (some ⟨l.cb, l.co + (i + 1), none⟩) (mx - i) (l.ck - (i + 1))] 106 (0, 0))) ⟨?_, ?_⟩ ?_
  · repeat (first | refine Chg.drew ?_ | refine Chg.setCell ?_ (.inl rfl) _ | exact Chg.refl _ _)
  · rw [hd_drew, hs_same HB3.out]; rfl
  rintro w2 ⟨hc2, hb3⟩
  have hsz1 : w.heap.size + 2 < w1.heap.size := heap_lt HB3.out
  have hc12 : Chg (fun b _ => b = w.heap.size + 2) w w2 := hc1.trans' hc2 (fun _ _ _ h => h.elim) (fun _ _ _ h => h)
  have hn2 := hn1.chg hc2 (fun b o h1 h2 => HNEW.out b o (by omega) h1)
  have hb2 : w2.heap[w.heap.size + 1]? = some (.cells #[.int .u64 k.iso, .int .i64 0, .slice (some ⟨l.ib, l.io + (i + 1) * 2, none⟩) (mx - (i + 1)) (l.ic - (i + 1)), .pointer (some ⟨w.heap.size + 2, 0, none⟩)] 105 (0, 0)) := by
    rw [hc2.block (by omega) (by intro o; omega)]; exact HB2.out
  refine (updateCount_branch (w.heap.size + 1) l.ib (l.io + (i + 1) * 2) (mx - (i + 1)) (l.ic - (i + 1)) (w.heap.size + 2) l.cb (l.co + (i + 1)) (mx - i) (l.ck - (i + 1)) 0 (fun j => (kl.drop (i + 1)).getD j 0) (fun j => cf ((kl.drop (i + 1)).getD j 0)) w2
    (cell_of_block hb2 1) (frozen_of_block hb2 1) (cell_of_block hb2 2) (cell_of_block hb2 3) (cell_of_block hb3 0) (by omega) (by omega) ?_ (by omega) ?_).mono ?_
  · intro j hj
    have hjl : i + 1 + j < kl.length := by omega
    have hg : (kl.drop (i + 1)).getD j 0 = kl[i + 1 + j] := by simp [List.getD, hjl]
    rw [hg]
    obtain ⟨g1, g2, g3⟩ := HK.out kl[i + 1 + j] (List.getElem_mem hjl)
    have hlt : kl[i + 1 + j] < w.heap.size := World.block_lt_of_cell? w _ g1
    refine ⟨?_, by omega, hc12.cell (by simp; omega) g1, g2⟩
    have := hn2.kidc HK2.out (j := i + 1 + j) (o := some kl[i + 1 + j]) (by simp [hjl])
    rw [Nat.add_assoc]; exact this
  · have h1 := sumTo_ksum cf (kl.drop (i + 1))
    rw [List.length_drop, show kl.length - (i + 1) = mx - i by omega] at h1
    rw [h1]
    obtain ⟨s1, s2, s3⟩ := ksum_split cf kl (fun c hc => (HK.out c hc).2.1) (i + 1)
    omega
  rintro e w3 ⟨rfl, m, hw3⟩
  have hsz2 := hc2.size
  have hc3 : Chg (fun b o => b = w.heap.size + 1 ∧ o = 1) w2 w3 := by
    rw [hw3]; exact ((Chg.refl _ _).setCell (.inl ⟨rfl, rfl⟩) _).drewN _
  have HD1 : Hid (w3.heap[w.heap.size + 1]? = some (.cells #[.int .u64 k.iso, .int .i64 (((mx - (i + 1) : Nat) : Int) + sumTo (fun j => cf ((kl.drop (i + 1)).getD j 0)) (mx - i)), .slice (some ⟨l.ib, l.io + (i + 1) * 2, none⟩) (mx - (i + 1)) (l.ic - (i + 1)), .pointer (some ⟨w.heap.size + 2, 0, none⟩)] 105 (0, 0))) :=
    Lib.hid (by rw [hw3, hd_drewN, hs_same hb2]; rfl)
  have HB3' : Hid (w3.heap[w.heap.size + 2]? = some (.cells #[.slice (some ⟨l.cb, l.co + (i + 1), none⟩) (mx - i) (l.ck - (i + 1))] 106 (0, 0))) :=
    Lib.hid (by rw [hc3.block (by omega) (by intro o; omega)]; exact hb3)
  have HB1' : Hid (w3.heap[w.heap.size]? = some (.cells #[.int .i64 x.1, .int .i64 x.2] 26 (0, 0))) :=
    Lib.hid (by rw [hc3.block (by omega) (by intro o; omega), hc2.block (by omega) (by intro o; omega)]; exact HB1.out)
  clear hw3 hb2 hb3
  have hn3 := hn2.chg hc3 (fun b o h1 h2 => HNEW.out b o (by omega) h1)
  have hc13 : Chg (fun b _ => b = w.heap.size + 1 ∨ b = w.heap.size + 2) w1 w3 := hc2.trans' hc3 (fun _ _ _ h => .inr h) (fun _ _ _ h => .inl h.1)
  have ht3 := ht1.chg hc13 (by intro b o hm; have := ht.lt hm; omega)
  have n23 := hn3.c2
  rw [hlen] at n23
  have iv3 := hn3.mval hx
  have ik3 := hn3.mkey hx
  have e4 := ht3.c4
  have e5 := ht3.c5
  have fz0 := hn3.ifz (l.io + i * 2)
  have fz1 := hn3.ifz (l.io + i * 2 + 1)
  have fzn := hn3.fz 2
  have n33 := hn3.c3s HK2.out
  have hibn := hn3.d1
  obtain ⟨d1, d2, d3, d4, d5⟩ := hn3.d2 (by rw [HK2.out]; simp)
  clear n31 nc1 r3 cc0 fcc hle hck j2
  go_wp2_with fail
  go_still_tail 10, (by kernel_rfl)
  go_wp2_with (first | (go_at_call 97; refine (leaf_any _ (some ⟨l.cc, 0, none⟩) _ ?_).mono ?_; (focus go_simp); rintro e w' ⟨rfl, rfl⟩))
  refine name_world (fun w4 => Chg (fun b o => b = n ∨ (b = l.ib ∧ l.io + i * 2 ≤ o ∧ o < l.io + (i + 1) * 2)) w3 w4 ∧
      w4.heap[n]? = some (.cells #[.int .u64 k.iso, .int .i64 r.cnt, .slice (some ⟨l.ib, l.io, none⟩) i i, .pointer (some ⟨l.cc, 0, none⟩)] 105 (0, 0))) ⟨?_, ?_⟩ ?_
  · repeat (first | refine Chg.drew ?_ | refine Chg.setCell ?_ (.inl ?_) _ | exact Chg.refl _ _)
    all_goals (simp; try omega)
  · have hd := hn3.hd
    unfold hdCells at hd
    rw [HK2.out, hlen] at hd
    rw [hd_drew, hs_same (c := #[.int .u64 k.iso, .int .i64 r.cnt, .slice (some ⟨l.ib, l.io, none⟩) mx l.ic, .pointer (some ⟨l.cc, 0, none⟩)]) (T := 105) (fr := (0, 0))]
    · rfl
    · repeat rw [hs_ne _ (Ne.symm hibn)]
      exact hd
  rintro w4 ⟨hc4, hd4⟩
  have n34 := cell_of_block hd4 3
  have cc4 : w4.heap[l.cc]? = w3.heap[l.cc]? := hc4.block (hn3.lt (.inr (.inr ⟨by rw [HK2.out]; simp, .inl rfl⟩))) (by intro o; simp [d1, d3])
  rw [(hn3.kid _ HK2.out).1] at cc4
  have nc4 := cell_of_block cc4 0
  have fc4 := frozen_of_block cc4 0
  simp only [List.getElem?_toArray, List.getElem?_cons_zero, List.getElem?_cons_succ, List.length_map, hkl] at n34 nc4
  have HD4 := Lib.hid hd4
  have HC4 := Lib.hid cc4
  clear hd4 cc4 n23 iv3 ik3 e4 e5 fz0 fz1 fzn n33
  have hle : i ≤ mx := by omega
  have hle2 : i + 1 ≤ l.ck := by omega
  have hle3 : (i : Int) + 1 ≤ (l.ck : Int) := by omega
  have s2 : (0 : Int) ≤ (i : Int) + 1 := by omega
  have s3 : ((i : Int) + 1).toNat = i + 1 := by omega
  have s1 : IntKind.i64.wrap ((i : Int) + 1) = (i : Int) + 1 := IntWalk.i64_in _ (by omega)
  go_still_tail 15, (by kernel_rfl)
  clear s1 s2 s3
  go_wp2_with fail
  refine name_calls (fun w5 => Chg (fun b _ => b = l.cc) w4 w5 ∧ w5.heap[l.cc]? = some (.cells #[.slice (some ⟨l.cb, l.co, none⟩) (i + 1) (i + 1)] 106 (0, 0))) ⟨?_, ?_⟩ ?_
  · repeat (first | refine Chg.drew ?_ | refine Chg.setCell ?_ (.inl rfl) _ | exact Chg.refl _ _)
  · rw [hd_drew, hs_same HC4.out]; rfl
  rintro w5 ⟨hc5, hb5⟩
  have hd5 : w5.heap[n]? = some (.cells #[.int .u64 k.iso, .int .i64 r.cnt, .slice (some ⟨l.ib, l.io, none⟩) i i, .pointer (some ⟨l.cc, 0, none⟩)] 105 (0, 0)) := by
    rw [hc5.block (heap_lt HD4.out) (by intro o; exact Ne.symm d1)]; exact HD4.out
  have hc35 : Chg (fun b o => b = n ∨ (b = l.ib ∧ l.io + i * 2 ≤ o ∧ o < l.io + (i + 1) * 2) ∨ b = l.cc) w3 w5 :=
    hc4.trans' hc5 (fun _ _ _ h => by rcases h with h | h; exact .inl h; exact .inr (.inl h)) (fun _ _ _ h => .inr (.inr h))
  have hext5 : ∀ b o, (b = n ∨ (b = l.ib ∧ l.io + i * 2 ≤ o ∧ o < l.io + (i + 1) * 2) ∨ b = l.cc) → Ext (parM k) n r l b o := by
    rintro b o (h | ⟨h1, h2, h3⟩ | h)
    · exact .inl h
    · exact .inr (.inl ⟨h1, by omega, by simpa [parM] using (show o < l.io + l.ic * 2 by omega)⟩)
    · exact .inr (.inr ⟨by rw [HK2.out]; simp, .inl h⟩)
  have hrow5 := hn3.kidPart HK2.out hc35 0 (i + 1) (i + 1) (by simp; omega) (by omega) (by omega) (by
    intro o h1 h2 h3
    rcases h3 with h3 | ⟨h3, _⟩ | h3
    · exact d2 h3
    · exact d4 h3
    · exact d5 h3)
  refine (updateCount_branch n l.ib l.io i i l.cc l.cb l.co (i + 1) (i + 1) r.cnt (fun j => (kl.take (i + 1)).getD j 0) (fun j => cf ((kl.take (i + 1)).getD j 0)) w5
    (cell_of_block hd5 1) (frozen_of_block hd5 1) (cell_of_block hd5 2) (cell_of_block hd5 3) (cell_of_block hb5 0) d1 d2 ?_ (by omega) ?_).mono ?_
  · intro j hj
    have hjl : j < kl.length := by omega
    have hg : (kl.take (i + 1)).getD j 0 = kl[j] := by simp [List.getD, hjl, hj]
    rw [hg]
    obtain ⟨g1, g2, g3⟩ := HK.out kl[j] (List.getElem_mem hjl)
    have hlt : kl[j] < w.heap.size := World.block_lt_of_cell? w _ g1
    refine ⟨?_, fun e => g3 0 (.inl e), ?_, g2⟩
    · have := hrow5.cell (j := j) (v := kidV (some kl[j])) (by simp [hjl, hj])
      simpa [kidV] using this
    · refine hc35.cell (fun h => g3 1 (hext5 _ _ h)) (hc13.cell (by simp; omega) (hc1.cell (by simp) g1))
  · have h1 := sumTo_ksum cf (kl.take (i + 1))
    rw [List.length_take, show min (i + 1) kl.length = i + 1 by omega] at h1
    rw [h1]
    obtain ⟨s1, s2, s3⟩ := ksum_split cf kl (fun c hc => (HK.out c hc).2.1) (i + 1)
    omega
  rintro e w6 ⟨rfl, m', hw6⟩
  have hc6 : Chg (fun b o => b = n ∧ o = 1) w5 w6 := by
    rw [hw6]; exact ((Chg.refl _ _).setCell (.inl ⟨rfl, rfl⟩) _).drewN _
  have HD6 : Hid (w6.heap[n]? = some (.cells #[.int .u64 k.iso, .int .i64 ((i : Int) + sumTo (fun j => cf ((kl.take (i + 1)).getD j 0)) (i + 1)), .slice (some ⟨l.ib, l.io, none⟩) i i, .pointer (some ⟨l.cc, 0, none⟩)] 105 (0, 0))) :=
    Lib.hid (by rw [hw6, hd_drewN, hs_same hd5]; rfl)
  clear hw6
  have HC6 : Hid (w6.heap[l.cc]? = some (.cells #[.slice (some ⟨l.cb, l.co, none⟩) (i + 1) (i + 1)] 106 (0, 0))) :=
    Lib.hid (by rw [hc6.block (heap_lt hb5) (by intro o h; exact d1 h.1)]; exact hb5)
  have hc36 : Chg (fun b o => b = n ∨ (b = l.ib ∧ l.io + i * 2 ≤ o ∧ o < l.io + (i + 1) * 2) ∨ b = l.cc) w3 w6 :=
    hc35.trans' hc6 (fun _ _ _ h => h) (fun _ _ _ h => .inl h.1)
  have hsz3 := hc3.size
  have old36 : ∀ b, w.heap.size ≤ b → b < w3.heap.size → w6.heap[b]? = w3.heap[b]? := fun b hb hb2 => hc36.block hb2 (fun o h => HNEW.out b o hb (hext5 _ _ h))
  have hb6 : w6.heap[w.heap.size]? = some (.cells #[.int .i64 x.1, .int .i64 x.2] 26 (0, 0)) := by
    rw [old36 _ (by omega) (by omega)]; exact HB1'.out
  have q0 := cell_of_block hb6 0
  have q1 := cell_of_block hb6 1
  have q2 := frozen_of_block hb6 0
  have q3 := frozen_of_block hb6 1
  simp only [List.getElem?_toArray, List.getElem?_cons_zero, List.getElem?_cons_succ] at q0 q1
  clear hb6 hd5 hb5 n34 nc4 fc4 hle hle2 hle3
  go_wp2_with fail
  go_region
  go_wp2
  refine bodyPost_ret (v := .tuple #[.pointer (some ⟨w.heap.size + 1, 0, none⟩), .agg #[.int .i64 x.1, .int .i64 x.2]]) (by simp [results, Try.results117, go_sem, q0, q1]) rfl ?_
  generalize hw7 : World.drew _ = w7
  have hc7 : Chg (fun b _ => b = w.heap.size) w6 w7 := by
    rw [← hw7]
    repeat (first | refine Chg.drew ?_ | refine Chg.setCell ?_ (.inl rfl) _ | exact Chg.refl _ _)
  have hsz6 := hc36.size
  have hc37 : Chg (fun b o => (b = n ∨ (b = l.ib ∧ l.io + i * 2 ≤ o ∧ o < l.io + (i + 1) * 2) ∨ b = l.cc) ∨ b = w.heap.size) w3 w7 :=
    hc36.trans' hc7 (fun _ _ _ h => .inl h) (fun _ _ _ h => .inr h)
  have hk1 := sumTo_ksum cf (kl.take (i + 1))
  rw [List.length_take, show min (i + 1) kl.length = i + 1 by omega] at hk1
  have hk2 := sumTo_ksum cf (kl.drop (i + 1))
  rw [List.length_drop, show kl.length - (i + 1) = mx - i by omega] at hk2
  have nlt3 : n < w.heap.size := nlt
  have hblk := hn3.d2 (by rw [HK2.out]; simp)
  refine ⟨w.heap.size + 1, x, ⟨l.ib, l.io, i, l.cc, l.cb, l.co, i + 1⟩, ⟨l.ib, l.io + (i + 1) * 2, l.ic - (i + 1), w.heap.size + 2, l.cb, l.co + (i + 1), l.ck - (i + 1)⟩, rfl, hx, by omega, ?_, ?_, ?_, rfl, rfl, rfl, rfl, rfl, rfl, fun _ => ⟨rfl, rfl, rfl, rfl, by simp, rfl, rfl, rfl⟩⟩
  · refine (hc1.trans' hc13 (B := fun b _ => w.heap.size ≤ b) (fun _ _ _ h => h.elim) (fun b o _ h => by omega)).trans' hc37 (fun b o h1 h2 => by omega) ?_
    rintro b o hb (h | h)
    · exact hext5 b o h
    · omega
  · refine ⟨?_, ?_, ?_, hibn, ?_⟩
    · rw [hc7.block (by omega) (by intro o; omega), HD6.out, hk1, HK2.out]
      simp [hdCells, parM, hlen]; omega
    · have := hn3.rowPart hc37 0 i i (by omega) (by omega) (by omega) (by
        intro o h1 h2 h3
        simp [parM] at h1 h2
        rcases h3 with (h3 | ⟨_, h3, _⟩ | h3) | h3
        · exact hibn h3
        · omega
        · exact hblk.2.2.1 h3.symm
        · omega)
      simpa [parM] using this
    · intro ks hks
      rw [HK2.out] at hks
      obtain rfl : (kl.map some).take (i + 1) = ks := by simpa using hks
      refine ⟨?_, ?_⟩
      · show w7.heap[l.cc]? = _
        rw [hc7.block (by omega) (by intro o; omega), HC6.out]
        simp [parM, hkl]; omega
      · have := hn3.kidPart HK2.out hc37 0 (i + 1) (i + 1) (by simp; omega) (by omega) (by omega) (by
          intro o h1 h2 h3
          rcases h3 with (h3 | ⟨h3, _⟩ | h3) | h3
          · exact d2 h3
          · exact d4 h3
          · exact d5 h3
          · omega)
        simpa using this
    · intro _; exact hblk
  · refine ⟨?_, ?_, ?_, ?_, ?_⟩
    · rw [hc7.block (by omega) (by intro o; omega), old36 _ (by omega) (by omega), HD1.out, hk2, HK2.out]
      simp [hdCells, parM, hlen]
    · have := hn3.rowPart hc37 (i + 1) (r.items.length - (i + 1)) (l.ic - (i + 1)) (by omega) (by omega) (by omega) (by
        intro o h1 h2 h3
        simp [parM] at h1 h2
        rcases h3 with (h3 | ⟨_, _, h3⟩ | h3) | h3
        · exact hibn h3
        · omega
        · exact hblk.2.2.1 h3.symm
        · omega)
      rw [List.take_of_length_le (by simp)] at this
      simpa [parM] using this
    · intro ks hks
      rw [HK2.out] at hks
      obtain rfl : (kl.map some).drop (i + 1) = ks := by simpa using hks
      refine ⟨?_, ?_⟩
      · show w7.heap[w.heap.size + 2]? = _
        rw [hc7.block (by omega) (by intro o; omega), old36 _ (by omega) (by omega), HB3'.out]
        simp [parM, hkl]
      · have := hn3.kidPart HK2.out hc37 (i + 1) (mx - i) (l.ck - (i + 1)) (by simp; omega) (by omega) (by omega) (by
          intro o h1 h2 h3
          rcases h3 with (h3 | ⟨h3, _⟩ | h3) | h3
          · exact d2 h3
          · exact d4 h3
          · exact d5 h3
          · omega)
        rw [List.take_of_length_le (by simp; omega)] at this
        exact this
    · show l.ib ≠ w.heap.size + 1
      omega
    · intro _
      show w.heap.size + 2 ≠ w.heap.size + 1 ∧ l.cb ≠ w.heap.size + 1 ∧ w.heap.size + 2 ≠ l.ib ∧ l.cb ≠ l.ib ∧ l.cb ≠ w.heap.size + 2
      exact ⟨by omega, by omega, by omega, hblk.2.2.2.1, by omega⟩
end Go.Proofs.Ytojplcbkiogcpaa
