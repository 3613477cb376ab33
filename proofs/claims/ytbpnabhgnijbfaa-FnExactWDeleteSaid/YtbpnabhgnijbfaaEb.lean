/- delete of sets at a leaf: the item not there, and the last item. -/
import Derived.Test.YtbpnabhgnijbfaaEa
namespace Go.Proofs.Ytbpnabhgnijbfaa
set_option linter.unusedSimpArgs false
set_option linter.unusedVariables false
open Go.RowKit

set_option maxRecDepth 100000 in
set_option maxHeartbeats 4000000 in
theorem delete_leaf_miss {k : Int} {mn mx t n : Nat} {pa : Addr} {x : ByteArray × Int} {i : Nat} {r : NodeR (ByteArray × Int)} {w : World} {F : Nat → Prop} {H : Nat → Option (NodeR (ByteArray × Int))} (hF : Fam (parM k) w F H) (ht : MapAt k mn mx w t) (hn : H n = some r)
    (hpa : w.cell? pa = some (.pointer (some ⟨n, 0, none⟩))) (hs : Srt ltM r.items) (hlen : r.items.length ≤ 1000) (hpos : 1 ≤ r.items.length) (hk : r.kids = none) (hy : PosAt ltM r.items x i) :
    Calls Try.prog 52 #[.pointer (some ⟨t, 0, none⟩), .pointer (some pa), .bool false, .string x.1] w (DelPost k F (fun H' o => o = none ∧ H' = H) w) := by
  obtain ⟨l0, hn0⟩ := hF.node hn
  have hpa2 : ∀ o, (w.alloc o).cell? pa = some (.pointer (some ⟨n, 0, none⟩)) := fun o => ((Chg.refl (fun _ _ => False) w).alloc o).cell (fun h => h) hpa
  go_enter Try.func52, Try.ntmps52
  go_upto_region 1 with fail
  refine name_world (fun w1 => Chg (fun _ _ => False) w w1 ∧ w1.heap[w.heap.size]? = some (.cells #[.int .i64 0, .string ⟨#[]⟩] 77 (0, 0))) ⟨(Chg.refl _ _).alloc _, ha_at _ _ rfl⟩ ?_
  rintro w0 ⟨hc00, hb00⟩
  have t0 := (ht.chg hc00 (fun _ _ _ h => h)).c0
  have n0 := (hn0.chg hc00 (fun _ _ _ h => h)).c0
  have pa0 := hc00.cell (fun h => h) hpa
  clear hpa2
  go_wp2_with fail
  refine (isoLoad_any t n k pa true _ pa0 n0 t0).mono ?_
  rintro e w1 ⟨rfl, m, hw1⟩
  have hc01 : Chg (fun _ _ => False) w0 w1 := by rw [hw1]; exact (Chg.refl _ _).drewN _
  have hc1 := hc00.trans hc01
  clear hw1
  have hb1 : w1.heap[w.heap.size]? = some (.cells #[.int .i64 0, .string ⟨#[]⟩] 77 (0, 0)) := by rw [hc01.block (heap_lt hb00) (fun _ h => h)]; exact hb00
  have hna1 := hn0.chg hc1 (fun _ _ _ h => h)
  have ht1' := ht.chg hc1 (fun _ _ _ h => h)
  have HB1 := Lib.hid hb1
  have hlb1 := heap_lt hb1
  clear t0 n0 hn0 pa0 hb00 hc01 hc00 hb1
  go_wp2_with fail
  refine (search_node t x ht1' hna1 hs (by omega)).mono ?_
  rintro e w2 ⟨i', f, rfl, hw2, hf⟩
  have hcw2 := hc1.trans hw2
  have hF2 := hF.chg hcw2 (fun _ _ _ h => h)
  have htt2 := ht.chg hcw2 (fun _ _ _ h => h)
  have HB2 := Lib.hid (show w2.heap[w.heap.size]? = some (.cells #[.int .i64 0, .string ⟨#[]⟩] 77 (0, 0)) by rw [hw2.block hlb1 (fun _ h => h)]; exact HB1.out)
  have hlw2 : w.heap.size < w2.heap.size := Nat.lt_of_lt_of_le hlb1 hw2.size
  clear hw2 hc1 ht1' hna1 HB1 hlb1
  have hfi : f = false := by
    rcases hf with ⟨h1, y', h2⟩ | ⟨h1, h2⟩
    · exact absurd h2.n2 (by rw [hy.right i' y' (hit_le hy h2) h2.at_]; simp)
    · exact h1
  obtain rfl := hfi
  obtain ⟨l, hna⟩ := hF2.node hn
  have n3 := hna.c3n hk
  have e4 := htt2.c4
  have hb2 := HB2.out
  have e5 := htt2.c5
  have y0 := frozen_of_block hb2 0
  have y1 := frozen_of_block hb2 1
  have p0 := cell_of_block hb2 0
  have p1 := cell_of_block hb2 1
  simp only [List.getElem?_toArray, List.getElem?_cons_zero, List.getElem?_cons_succ] at p0 p1
  clear hb2 hf ht hy hna htt2
  go_wp2_with (go_at_call 53; refine (leaf_any _ none _ n3).mono ?_; rintro e w' ⟨rfl, rfl⟩)
  refine name_prop (fun wl => Chg (fun b _ => b = w.heap.size) w2 wl ∧ wl.heap[w.heap.size]? = some (.cells #[.int .i64 0, .string ⟨#[]⟩] 77 (0, 0))) ⟨?_, blk2 HB2.out _ _⟩ ?_
  · repeat (first | refine Chg.drew ?_ | refine Chg.drewN ?_ _ | refine Chg.setCell ?_ (.inl rfl) _ | exact Chg.refl _ _)
  clear p0 p1
  rintro wl ⟨hcl, hbl⟩
  have p0 := cell_of_block hbl 0
  have p1 := cell_of_block hbl 1
  simp only [List.getElem?_toArray, List.getElem?_cons_zero, List.getElem?_cons_succ] at p0 p1
  refine bodyPost_ret (v := .tuple #[.agg #[.int .i64 0, .string ⟨#[]⟩], .bool false]) (by simp [results, Try.results52, go_sem, p0, p1]) rfl ?_
  have f9 := (hF2.chg hcl (fun b o hb e => by have := hF.lt hb; omega)).mono (F' := grow F w wl) (fun _ h => .inl h) (fun b hb => ?_)
  · exact ⟨H, none, rfl, f9, (hcw2.mono (fun _ _ _ h => h.elim)).trans' hcl (fun _ _ _ h => h) (fun b o hb e => by omega), rfl, rfl⟩
  · rcases hb with hb | hb
    · exact Nat.lt_of_lt_of_le (hF.lt hb) (hcw2.trans' hcl (B := fun _ _ => True) (fun _ _ _ _ => trivial) (fun _ _ _ _ => trivial)).size
    · exact hb.2

set_option maxRecDepth 100000 in
set_option maxHeartbeats 4000000 in
theorem delete_leaf_max {k : Int} {mn mx t n : Nat} {pa : Addr} {y : ByteArray × Int} {i : Nat} {r : NodeR (ByteArray × Int)} {w : World} {F : Nat → Prop} {H : Nat → Option (NodeR (ByteArray × Int))} (z : ByteArray) (hF : Fam (parM k) w F H) (ht : MapAt k mn mx w t) (htF : ∀ b, MOwn k t b → ¬ F b) (hn : H n = some r)
    (hpa : w.cell? pa = some (.pointer (some ⟨n, 0, none⟩))) (hlen : r.items.length ≤ 1000) (hk : r.kids = none) (hy : r.items[i]? = some y) (hil : r.items.length = i + 1) (hc0 : 0 ≤ r.cnt ∧ r.cnt ≤ 100000000000000) :
    Calls Try.prog 52 #[.pointer (some ⟨t, 0, none⟩), .pointer (some pa), .bool true, .string z] w (DelPost k F (fun H' o => o = some y ∧ H' = upd H n ⟨r.cnt - 1, r.items.take i ++ r.items.drop (i + 1), r.kids⟩) w) := by
  have hi : i < r.items.length := by omega
  have s1 : IntKind.i64.wrap ((r.items.length : Int) - 1) = (i : Int) := by rw [IntWalk.i64_in _ (by omega)]; omega
  have HIL := Lib.hid hil
  clear hil
  have hn0' := hF.node hn
  obtain ⟨l1, hn1'⟩ := hn0'
  have HN2 := Lib.hid (fun w1 (c : Chg (fun _ _ => False) w w1) => (hn1'.chg c (fun _ _ _ h => h)).c2)
  clear hn1'
  go_enter Try.func52, Try.ntmps52
  go_upto_region 1 with fail
  obtain ⟨l0, hn0⟩ := hF.node hn
  refine name_world (fun w1 => Chg (fun _ _ => False) w w1 ∧ w1.heap[w.heap.size]? = some (.cells #[.int .i64 0, .string ⟨#[]⟩] 77 (0, 0))) ⟨(Chg.refl _ _).alloc _, ha_at _ _ rfl⟩ ?_
  rintro w0 ⟨hc00, hb00⟩
  have t0 := (ht.chg hc00 (fun _ _ _ h => h)).c0
  have n0 := (hn0.chg hc00 (fun _ _ _ h => h)).c0
  have pa0 := hc00.cell (fun h => h) hpa
  go_wp2_with fail
  refine (isoLoad_any t n k pa true _ pa0 n0 t0).mono ?_
  rintro e w2 ⟨rfl, m, hw1⟩
  have hc01 : Chg (fun _ _ => False) w0 w2 := by rw [hw1]; exact (Chg.refl _ _).drewN _
  have hcw2 := hc00.trans hc01
  clear hw1
  have HB2 := Lib.hid (show w2.heap[w.heap.size]? = some (.cells #[.int .i64 0, .string ⟨#[]⟩] 77 (0, 0)) by rw [hc01.block (heap_lt hb00) (fun _ h => h)]; exact hb00)
  have hlw2 := heap_lt HB2.out
  have hn2 := HN2.out _ hcw2
  have hF2 := hF.chg hcw2 (fun _ _ _ h => h)
  have htt2 := ht.chg hcw2 (fun _ _ _ h => h)
  have HY := Lib.hid hy
  clear t0 n0 hn0 pa0 hb00 hc01 hc00 hy
  go_upto_region 7 with fail
  clear hn2
  have nF : ∀ b, w.heap.size ≤ b → ¬ F b := fun b hb h => Nat.lt_irrefl _ (Nat.lt_of_lt_of_le (hF.lt h) hb)
  obtain ⟨l0, hna0⟩ := hF2.node hn
  have n3 := hna0.c3n hk
  have n2 := hna0.c2
  have iv := hna0.mval (j := i) HY.out
  have ik := hna0.mkey (j := i) HY.out
  have j0 : (0 : Int) ≤ (i : Int) := by omega
  have j1 : (i : Int) < (r.items.length : Int) := by omega
  clear hna0
  go_wp2_with (go_at_call 53; refine (leaf_any _ none _ n3).mono ?_; rintro e w' ⟨rfl, rfl⟩)
  refine name_world (fun w3 => Chg (fun _ _ => False) w2 w3 ∧ w2.heap.size < w3.heap.size ∧ w3.heap[w2.heap.size]? = some (.cells #[.int .i64 y.2, .string y.1] 77 (0, 0))) ⟨(Chg.refl _ _).alloc _, by simp, ha_at _ _ rfl⟩ ?_
  rintro w3 ⟨hc3, hz3, hb3⟩
  have hsz2 := hcw2.size
  have hcw3 := hcw2.trans hc3
  have hF3 := hF2.chg hc3 (fun _ _ _ h => h)
  obtain ⟨l, hna, hb, ho, cl⟩ := hF3.work hn
  have HM := Lib.hid (htt2.chg hc3 (fun _ _ _ h => h))
  have HR := Lib.hid (Run.start hna)
  replace HB2 := Lib.hid (show w3.heap[w.heap.size]? = some (.cells #[.int .i64 0, .string ⟨#[]⟩] 77 (0, 0)) by rw [hc3.block hlw2 (fun _ h => h)]; exact HB2.out)
  have HB3 := Lib.hid hb3
  have HCW := Lib.hid hcw3
  have HZ := Lib.hid (And.intro hsz2 hz3)
  have HCL := Lib.hid cl
  have HBF := Lib.hid hb
  clear n2 n3 iv ik j0 j1 hb3 hz3 hsz2 hcw2 hcw3 hc3 hF2 hF3 hna htt2 cl ho
  have N2 : w3.cell? ⟨n, 2, none⟩ = some (.slice (some ⟨l.ib, l.io, none⟩) r.items.length l.ic) := HR.out.at_.c2
  have hlenc : r.items.length ≤ l.ic := HR.out.at_.len
  have s0 : (0 : Int) ≤ (i : Int) := by omega
  have s2 : (0 : Int) ≤ (i : Int) + 1 := by omega
  have s3 : ((i : Int) + 1).toNat = i + 1 := by omega
  have s4 : (i : Int) ≤ (r.items.length : Int) := by omega
  have s5 : (i : Int) + 1 ≤ (r.items.length : Int) := by omega
  have hck2 : ¬ l.ic = i := by omega
  obtain ⟨sp, hif, hsp⟩ : ∃ sp, (if l.ic = i + 1 then some (⟨l.ib, l.io, none⟩ : Addr) else some ⟨l.ib, l.io + (i + 1) * 2, none⟩) = some sp ∧ (i + 1 < r.items.length → sp = ⟨l.ib, l.io + (i + 1) * 2, none⟩) := by
    by_cases h : l.ic = i + 1
    · exact ⟨_, by rw [if_pos h], fun h2 => by omega⟩
    · exact ⟨_, by rw [if_neg h], fun _ => rfl⟩
  have s1 : IntKind.i64.wrap ((i : Int) + 1) = (i : Int) + 1 := IntWalk.i64_in _ (by omega)
  have HSP := Lib.hid hsp
  clear hsp
  go_still_tail 13, (by kernel_rfl)
  refine wpList_down (p := parM k) (by rfl) _ _ _ _ (by rfl) 77 (by kernel_rfl) infoPairSize (HR.out.still ((Chg.refl _ _).drew)) i (l.io + i * 2) _ _ _ _ (show i < r.items.length by omega) (by simp [parM]) (by rfl) sp (by rfl) (by simpa [parM] using HSP.out) (by first | rfl | simp) (by first | rfl | simp) ?_
  intro w8 ys r8 hys1 hys2
  replace hys1 := Lib.hid hys1
  replace hys2 := Lib.hid hys2
  clear s0 s1 s2 s3 s4 s5 hck2 hif N2 hlenc HSP
  go_upto_region 11 with fail
  refine name_world (fun wz => ∃ ys, ys.length = r.items.length ∧ ys.take (r.items.length - 1) = r.items.take i ++ r.items.drop (i + 1) ∧ Run (parM k) w3 n r l wz { r with items := ys } l) ⟨ys, hys1.out, hys2.out, r8⟩ ?_
  clear r8 hys1 hys2 HR
  rintro w4 ⟨y3, hly3, hy3, hR⟩
  replace hly3 := Lib.hid hly3
  replace hy3 := Lib.hid hy3
  have HR := Lib.hid hR
  clear hR
  have hyb : 1 ≤ y3.length ∧ y3.length ≤ 1001 := by rw [hly3.out]; omega
  have N2 : w4.cell? ⟨n, 2, none⟩ = some (.slice (some ⟨l.ib, l.io, none⟩) y3.length l.ic) := HR.out.at_.c2
  have hm1 := HM.out.chg HR.out.chg (fun b o hm h => htF b hm (hb _ h.blk))
  have e4 := hm1.c4
  have e5 := hm1.c5
  have hlenc : y3.length ≤ l.ic := HR.out.at_.len
  have s0 : (0 : Int) ≤ (y3.length : Int) - 1 := by omega
  have s2 : (y3.length : Int) - 1 < (y3.length : Int) := by omega
  have s3 : ((y3.length : Int) - 1).toNat = y3.length - 1 := by omega
  have s1 : IntKind.i64.wrap ((y3.length : Int) - 1) = (y3.length : Int) - 1 := IntWalk.i64_in _ (by omega)
  have hlt : y3.length - 1 < y3.length := by omega
  have z0 := HR.out.at_.ifz (l.io + (y3.length - 1) * 2)
  have z1 := HR.out.at_.ifz (l.io + (y3.length - 1) * 2 + 1)
  obtain ⟨y6, hy6⟩ : ∃ y, y3[y3.length - 1]? = some y := ⟨_, List.getElem?_eq_getElem hlt⟩
  have iv := HR.out.at_.mval (j := y3.length - 1) hy6
  have ik := HR.out.at_.mkey (j := y3.length - 1) hy6
  have r8 := (HR.out.still ((Chg.refl _ _).drew)).setItemM (y3.length - 1) ((⟨#[]⟩, 0) : ByteArray × Int) hlt
  have HR8 := Lib.hid r8
  clear hm1 hy6 r8
  go_still_tail 14, (by kernel_rfl)
  go_upto_region 12 with fail
  refine name_world (fun wz => ∃ ys, ys.length = y3.length ∧ ys.take (y3.length - 1) = y3.take (y3.length - 1) ∧ Run (parM k) w3 n r l wz { r with items := ys } l) ⟨_, List.length_set, take_set_last _ _ _, HR8.out⟩ ?_
  clear N2 e4 e5 hlenc s0 s1 s2 s3 hlt z0 z1 iv ik HR8 HR y6
  rintro w5 ⟨y4, hly4, hy4, hR⟩
  replace hly4 := Lib.hid hly4
  replace hy4 := Lib.hid hy4
  have HR := Lib.hid hR
  clear hR
  have hyb : 1 ≤ y4.length ∧ y4.length ≤ 1001 := by rw [hly4.out, hly3.out]; omega
  have N2 : w5.cell? ⟨n, 2, none⟩ = some (.slice (some ⟨l.ib, l.io, none⟩) y4.length l.ic) := HR.out.at_.c2
  have z2 := HR.out.at_.fz 2
  have hlenc : y4.length ≤ l.ic := HR.out.at_.len
  have s0 : (0 : Int) ≤ (y4.length : Int) - 1 := by omega
  have s2 : (y4.length : Int) - 1 ≤ (l.ic : Int) := by omega
  have s3 : ((y4.length : Int) - 1).toNat = y4.length - 1 := by omega
  have s1 : IntKind.i64.wrap ((y4.length : Int) - 1) = (y4.length : Int) - 1 := IntWalk.i64_in _ (by omega)
  have ck : ¬ l.ic = 0 := by omega
  have s6 : ¬ ((y4.length : Int) < 1) := by omega
  have s7 : (1 : Int) ≤ (y4.length : Int) := by omega
  have r8 := (HR.out.still ((Chg.refl _ _).drew)).cut 0 (y4.length - 1) l.ic (by show 0 + (y4.length - 1) ≤ y4.length; omega) (by omega) (by omega)
  simp only [Nat.zero_mul, Nat.add_zero, List.drop_zero] at r8
  have HR8 := Lib.hid r8
  clear r8
  go_still_tail 12, (by kernel_rfl)
  go_upto_region 13 with fail
  refine name_world (fun wz => Run (parM k) w3 n r l wz { r with items := y4.take (y4.length - 1) } l) HR8.out ?_
  clear N2 z2 hlenc s0 s1 s2 s3 s6 s7 ck HR8 HR
  rintro w6 hR
  have HR := Lib.hid hR
  clear hR
  have C1 := HR.out.at_.c1
  have z1 := HR.out.at_.fz 1
  have s1 : IntKind.i64.wrap (r.cnt - 1) = r.cnt - 1 := IntWalk.i64_in _ (by omega)
  have hsz := HR.out.chg.size
  have r8 := HR.out.setCnt (r.cnt - 1)
  go_upto_region 14 with fail
  refine name_world (fun wz => Run (parM k) w3 n r l wz ⟨r.cnt - 1, y4.take (y4.length - 1), r.kids⟩ l) r8 ?_
  clear C1 z1 s1 r8 hsz
  rintro w7 hR7
  have hit : y4.take (y4.length - 1) = r.items.take i ++ r.items.drop (i + 1) := by
    have h1 := hy3.out
    have h2 := hy4.out
    rw [← hly3.out, ← h2, ← hly4.out] at h1
    exact h1
  rw [hit] at hR7
  have hc37 := hR7.chg
  have hext : ∀ b o, Ext (parM k) n r l b o → F b := fun b o h => HBF.out b h.blk
  obtain ⟨hz1, hz2⟩ := HZ.out
  have hb12 : w7.heap[w.heap.size]? = some (.cells #[.int .i64 0, .string ⟨#[]⟩] 77 (0, 0)) := by
    rw [hc37.block (heap_lt HB2.out) (fun o h => nF _ (Nat.le_refl _) (hext _ _ h))]; exact HB2.out
  have hb17 : w7.heap[w2.heap.size]? = some (.cells #[.int .i64 y.2, .string y.1] 77 (0, 0)) := by
    rw [hc37.block (heap_lt HB3.out) (fun o h => nF _ hz1 (hext _ _ h))]; exact HB3.out
  obtain ⟨f7, g7⟩ := HCL.out _ _ _ hR7
  have hsz37 := hc37.size
  have hl12 := heap_lt HB2.out
  have hc07 : Chg (fun b _ => F b) w w7 := (HCW.out.mono (fun _ _ _ h => h.elim)).trans g7
  clear hR7 hc37 hit HR hly3 hly4 hy3 hy4
  have y0 := frozen_of_block hb12 0
  have y1 := frozen_of_block hb12 1
  have p0 := cell_of_block hb12 0
  have p1 := cell_of_block hb12 1
  simp only [List.getElem?_toArray, List.getElem?_cons_zero, List.getElem?_cons_succ] at p0 p1
  have x0 := frozen_of_block hb17 0
  have x1 := frozen_of_block hb17 1
  have r0 := cell_of_block hb17 0
  have r1 := cell_of_block hb17 1
  simp only [List.getElem?_toArray, List.getElem?_cons_zero, List.getElem?_cons_succ] at r0 r1
  have HB12 := Lib.hid hb12
  clear hb12 hb17
  go_wp2_with fail
  refine name_prop (fun wl => Chg (fun b _ => b = w.heap.size) w7 wl ∧ wl.heap[w.heap.size]? = some (.cells #[.int .i64 y.2, .string y.1] 77 (0, 0))) ⟨?_, blk2 HB12.out _ _⟩ ?_
  · repeat (first | refine Chg.drew ?_ | refine Chg.drewN ?_ _ | refine Chg.setCell ?_ (.inl rfl) _ | exact Chg.refl _ _)
  clear p0 p1 r0 r1
  rintro wl ⟨hcl, hbl⟩
  have p0 := cell_of_block hbl 0
  have p1 := cell_of_block hbl 1
  simp only [List.getElem?_toArray, List.getElem?_cons_zero, List.getElem?_cons_succ] at p0 p1
  refine bodyPost_ret (v := .tuple #[.agg #[.int .i64 y.2, .string y.1], .bool true]) (by simp [results, Try.results52, go_sem, p0, p1]) rfl ?_
  have f9 := f7.chg hcl (fun b o hb e => by
    rcases hb with hb | hb
    · exact nF b (by omega) hb
    · have h1 := hb.1; omega)
  refine ⟨_, some y, rfl, f9.mono (fun b hb => ?_) (fun b hb => ?_), hc07.trans' hcl (fun _ _ _ h => h) (fun b o hb e => by omega), rfl, rfl⟩
  · rcases hb with hb | hb
    · exact .inl hb
    · exact .inr ⟨by have := hb.1; omega, Nat.lt_of_lt_of_le hb.2 hcl.size⟩
  · rcases hb with hb | hb
    · exact f9.lt (.inl hb)
    · exact hb.2
end Go.Proofs.Ytbpnabhgnijbfaa
