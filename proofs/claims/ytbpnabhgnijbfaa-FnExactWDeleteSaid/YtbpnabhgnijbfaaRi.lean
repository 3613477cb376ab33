/- nodeRebalance, where an item of the left child goes to the right one: leaves. -/
import Derived.Test.YtbpnabhgnijbfaaRc
namespace Go.Proofs.Ytbpnabhgnijbfaa
set_option linter.unusedSimpArgs false
set_option linter.unusedVariables false
open Go.RowKit


set_option maxRecDepth 100000 in
set_option maxHeartbeats 4000000 in
theorem reb_right_leaf {k : Int} {mn mx : Nat} {w : World} {F : Nat → Prop} {H : Nat → Option (NodeR (ByteArray × Int))} {t n a b i : Nat} {cn ca cb : Int} {xs xa xb : List (ByteArray × Int)} {ks : List Nat} {x z : ByteArray × Int}
    (hF : Fam (parM k) w F H) (hm : MapAt k mn mx w t) (hout : ∀ b, MOwn k t b → ¬ F b) (hn : H n = some ⟨cn, xs, some (ks.map some)⟩) (hk : ks.length = xs.length + 1) (ha : H a = some ⟨ca, xa, none⟩) (hb : H b = some ⟨cb, xb, none⟩)
    (hia : ks[i]? = some a) (hib : ks[i + 1]? = some b) (na : n ≠ a) (nb : n ≠ b) (ab : a ≠ b) (hx : xs[i]? = some x) (hz : xa[xa.length - 1]? = some z) (hi : i < xs.length) (hxi : xs.length = i + 1) (hxl : xs.length ≤ 1000) (hmx : mx ≤ 1000)
    (hsum : mx ≤ xa.length + xb.length) (hlt : xb.length < xa.length) (hxa : xa.length ≤ 1000) (hca : 0 ≤ ca ∧ ca ≤ 100000000000000) (hcb : 0 ≤ cb ∧ cb ≤ 100000000000000) :
    Calls Try.prog 65 #[.pointer (some ⟨t, 0, none⟩), .pointer (some ⟨n, 0, none⟩), .int .i64 xs.length] w
      (RebPost k w F H n a b ⟨cn, xs.set i z, some (ks.map some)⟩ ⟨ca - 1, xa.take (xa.length - 1), none⟩ ⟨cb + 1, x :: xb, none⟩) := by
  have hne : IntKind.i64.wrap ((xs.length : Int) - 1) = (i : Int) := by rw [IntWalk.i64_in _ (by omega)]; omega
  have hla : ¬ ((xa.length : Int) + (xb.length : Int) < (mx : Int)) := by omega
  have hl1 : (0 : Int) ≤ (xa.length : Int) := by omega
  have hl2 : (0 : Int) ≤ (xb.length : Int) := by omega
  have hl3 : (xa.length : Int) ≤ 1000 := by omega
  have hl4 : (xb.length : Int) ≤ 1000 := by omega
  have HZ := Lib.hid hz
  clear hz hxi
  have hc0 := Chg.refl (fun _ _ => False) w
  have HT0 := Lib.hid (Tri.start (p := parM k) hF hc0 hn ha hb)
  obtain ⟨ln0, la0, lb0, hO0⟩ := HT0.out.open na nb ab
  have N2 := hO0.atN.c2
  have N3 := hO0.atN.c3s (ks := ks.map some) rfl
  have NC := hO0.atN.cc (ks := ks.map some) rfl
  rw [List.length_map] at NC
  have Ka : w.cell? ⟨ln0.cb, ln0.co + i, none⟩ = some (.pointer (some ⟨a, 0, none⟩)) := hO0.atN.kidc (ks := ks.map some) rfl (j := i) (o := some a) (by simp [hia])
  have Kb : w.cell? ⟨ln0.cb, ln0.co + (i + 1), none⟩ = some (.pointer (some ⟨b, 0, none⟩)) := hO0.atN.kidc (ks := ks.map some) rfl (j := i + 1) (o := some b) (by simp [hib])
  have a0 : w.cell? ⟨a, 0, none⟩ = some (.int .u64 k) := hO0.atA.c0
  have b0 : w.cell? ⟨b, 0, none⟩ = some (.int .u64 k) := hO0.atB.c0
  have t0 := hm.c0
  have A2 := hO0.atA.c2
  have B2 := hO0.atB.c2
  have t7 := hm.c7
  have i0' : (0 : Int) ≤ (i : Int) := by omega
  have i1' : (i : Int) < (ks.length : Int) := by omega
  have i2' : (i : Int) + 1 < (ks.length : Int) := by omega
  have i3' : (0 : Int) ≤ (i : Int) + 1 := by omega
  have i4' : ((i : Int) + 1).toNat = i + 1 := by omega
  have i5' : IntKind.i64.wrap ((i : Int) + 1) = (i : Int) + 1 := IntWalk.i64_in _ (by omega)
  have HNL := Lib.hid hk
  have HIA := Lib.hid hia
  have HIB := Lib.hid hib
  have HM := Lib.hid hm
  have HX := Lib.hid hx
  clear hO0 hn ha hb hF hk hia hib hm hx hc0
  go_enter Try.func65, Try.ntmps65
  skip
  go_wp2_with fail
  refine (isoLoad_any t a k _ true _ Ka a0 t0).mono ?_
  rintro e w1 ⟨rfl, m1, hw1⟩
  have hc1 : Chg (fun _ _ => False) w w1 := by rw [hw1]; exact (Chg.refl _ _).drewN _
  clear hw1
  replace N3 := hc1.cell (fun h => h) N3
  replace NC := hc1.cell (fun h => h) NC
  replace Kb := hc1.cell (fun h => h) Kb
  replace b0 := hc1.cell (fun h => h) b0
  replace t0 := hc1.cell (fun h => h) t0
  replace A2 := hc1.cell (fun h => h) A2
  replace B2 := hc1.cell (fun h => h) B2
  replace t7 := hc1.cell (fun h => h) t7
  clear N2 Ka a0
  go_wp2_with fail
  refine (isoLoad_any t b k _ true _ Kb b0 t0).mono ?_
  rintro e w2 ⟨rfl, m2, hw2⟩
  have hc12 : Chg (fun _ _ => False) w1 w2 := by rw [hw2]; exact (Chg.refl _ _).drewN _
  have hc2 := hc1.trans hc12
  clear hw2
  replace A2 := hc12.cell (fun h => h) A2
  replace B2 := hc12.cell (fun h => h) B2
  replace t7 := hc12.cell (fun h => h) t7
  clear N3 NC Kb b0 t0 hc12 hc1
  go_wp2_with fail
  go_quiet (fail)
  go_upto_region 16 with fail
  go_quiet (fail)
  go_upto_region 17 with fail
  refine name_world (fun w3 => Chg (fun _ _ => False) w w3) ((hc2.drewN _).drewN _) ?_
  intro w3 hc3
  have HT := Lib.hid (HT0.out.still hc3)
  clear A2 B2 t7 hc2 HT0
  obtain ⟨ln, la, lb, hO⟩ := HT.out.open na nb ab
  have B2 : w3.cell? ⟨b, 2, none⟩ = some (.slice (some ⟨lb.ib, lb.io, none⟩) xb.length lb.ic) := hO.atB.c2
  have hm1 := HM.out.chg HT.out.chg (fun b o hm h => hout b hm h)
  have e4 := hm1.c4
  have e5 := hm1.c5
  have tib : t ≠ lb.ib := by
    intro h
    rcases hO.blkB lb.ib (.inr (.inl rfl)) with h1 | h1
    · exact hout t MOwn.self (h ▸ h1)
    · have := HM.out.lt MOwn.self
      omega
  have za := hO.atB.fz 2
  have alt := World.block_lt_of_cell? _ _ B2
  have hlen : xb.length ≤ lb.ic := hO.atB.len
  have arow := hO.atB.row
  have HO := Lib.hid hO
  obtain ⟨i0, hi0, hz0, hz1, hz2⟩ := info_parts infoPair
  clear hO hm1
  refine wp_region_soft (fun w' => w'.cell? ⟨b, 2, none⟩ = some (.slice (some ⟨lb.ib, lb.io, none⟩) xb.length lb.ic) ∧ w'.cell? ⟨t, 4, none⟩ = some (.int .i64 0) ∧ w'.cell? ⟨t, 5, none⟩ = some (.string ⟨#[]⟩))
    11 [0, 1, 2, 3, 4, 5, 6, 7, 8] [9, 10] (by kernel_rfl) (by kernel_rfl) (fun _ _ _ _ _ h => h) rfl rfl ⟨B2, e4, e5⟩ ?_
  simp only [pickOps, List.filterMap_cons, List.filterMap_nil, List.getElem?_cons_zero, List.getElem?_cons_succ]
  iterate 9
    refine wpSoft_step ?_ rfl ?_ ?_
    rotate_left
    · intro w' hS
      obtain ⟨a1, a2, a3⟩ := hS
      go_simp
      try with_reducible rfl
    simp only [Act.put, List.setIfInBounds_toArray, List.set_cons_zero, List.set_cons_succ]
  refine wpSoft_nil ?_
  have hca : Chg (fun _ _ => False) w3 (w3.alloc (.cells #[.int .i64 0, .string ⟨#[]⟩] 77)).drew := ((Chg.refl _ _).alloc _).drew
  refine wpHards_step (fun K hK => ?_)
  go_simp
  refine hK _ _ ⟨hca.cell (fun h => h) B2, hca.cell (fun h => h) e4, hca.cell (fun h => h) e5⟩ ?_
  iterate 0 go_keep
  clear hK K
  refine wpHards_step (fun K hK => ?_)
  refine wp_append_row _ _ _ (by rfl) 77 i0 _ 2 24 Try.underlying87 hi0 hz0 hz1 hz2 rfl lb.ib lb.io xb.length lb.ic (by rfl) (flat (parM k) xb) ((arow.alloc _).drew) (flat_len _ _) ⟨w3.heap.size, 0, none⟩ 1 _ (by rfl) [.int .i64 0, .string ⟨#[]⟩] (by rfl) (World.news_of_block (cs := #[.int .i64 0, .string ⟨#[]⟩]) (t := 77) (fr := (0, 0)) (heap_alloc_new w3 _)) (by simp [Value.oneCell']) (by unfold maxLen; omega) (by omega) ?_
  intro b' o1 cap' w7 happ
  have hch := happ.chg
  have nib : b ≠ lb.ib := Ne.symm HO.out.atB.d1
  have B2' := hch.cell (a := ⟨b, 2, none⟩) (fun h => nib h.1) (hca.cell (fun h => h) B2)
  have e4' := hch.cell (a := ⟨t, 4, none⟩) (fun h => tib h.1) (hca.cell (fun h => h) e4)
  have e5' := hch.cell (a := ⟨t, 5, none⟩) (fun h => tib h.1) (hca.cell (fun h => h) e5)
  have z2' : w7.frozen? ⟨b, 2, none⟩ = false := by rw [hch.frozen (Nat.lt_of_lt_of_le alt hca.size), hca.frozen alt]; exact za
  have r8 := ((Run.start HO.out.atB).still hca).append [((⟨#[]⟩, 0) : ByteArray × Int)] happ (Chg.refl _ _)
  have hT8 := HO.out.doB r8
  have HT8 := Lib.hid hT8
  refine hK _ _ ⟨B2', e4', e5'⟩ ?_
  clear hK K B2 e4 e5 r8 hT8 hch
  simp only [wpHards, List.drop_succ_cons, List.drop_zero, Act.put, List.setIfInBounds_toArray, List.set_cons_zero, List.set_cons_succ]
  go_upto_region 18 with fail
  refine name_world (fun wz => ∃ ya, ya = xb ++ [((⟨#[]⟩, 0) : ByteArray × Int)] ∧ Tri (parM k) w F H n a b wz ⟨cn, xs, some (ks.map some)⟩ ⟨ca, xa, none⟩ ⟨cb, ya, none⟩) ⟨_, rfl, HT8.out⟩ ?_
  clear B2' e4' e5' z2' happ hca za alt hlen arow nib HO HT8 HT hi0 hz0 hz1 hz2 i0 tib
  rintro w4 ⟨y1, hy1, hT⟩
  replace hy1 := Lib.hid hy1
  have HT := Lib.hid hT
  clear hT
  obtain ⟨ln, la, lb, hO⟩ := HT.out.open na nb ab
  have N2 : w4.cell? ⟨b, 2, none⟩ = some (.slice (some ⟨lb.ib, lb.io, none⟩) y1.length lb.ic) := hO.atB.c2
  have hlen : y1.length ≤ lb.ic := hO.atB.len
  have hle0 : xb.length + 1 ≤ y1.length := by rw [hy1.out]; simp
  have hge0 : y1.length ≤ xb.length + 1 := by rw [hy1.out]; simp
  have s4 : (1 : Int) ≤ (y1.length : Int) := by omega
  have s5 : 1 ≤ y1.length := by omega
  obtain ⟨od, hif, hod, hod2⟩ : ∃ od, (if lb.ic = 1 then some (⟨lb.ib, lb.io, none⟩ : Addr) else some ⟨lb.ib, lb.io + 2, none⟩) = some ⟨lb.ib, od, none⟩ ∧ (0 < xb.length → od = lb.io + (0 + 1) * 2) ∧ (od = lb.io ∨ od = lb.io + (0 + 1) * 2) := by
    by_cases h : lb.ic = 1
    · exact ⟨lb.io, by rw [if_pos h], fun h2 => by omega, .inl rfl⟩
    · exact ⟨lb.io + 2, by rw [if_neg h], fun _ => by simp, .inr (by simp)⟩
  have HSP := Lib.hid hod
  have HSP2 := Lib.hid hod2
  have HL := Lib.hid (And.intro hle0 hge0)
  have HO := Lib.hid hO
  clear hO hod hod2 hle0 hge0
  go_still_tail 9, (by kernel_rfl)
  refine wpList_shift (p := parM k) (by rfl) _ _ _ _ (by rfl) 77 (by kernel_rfl) infoPairSize ((Run.start HO.out.atB).still ((Chg.refl _ _).drew)) xb ((⟨#[]⟩, 0) : ByteArray × Int) hy1.out 0 od _ _ _ _ (Nat.zero_le _) (by simpa [parM] using HSP.out) (by simpa [parM] using HSP2.out) (by rfl) lb.io (by rfl) (by simp) (by have := HL.out; omega) (by have := HL.out; omega) ?_
  intro w8 hc8 r8
  clear s4 s5 hif N2 hlen HSP HSP2
  go_upto_region 19 with fail
  refine name_world (fun wz => ∃ ys, xb.length + 1 ≤ ys.length ∧ ys.length ≤ xb.length + 1 ∧ (∀ x, ys.set 0 x = x :: xb) ∧ Tri (parM k) w F H n a b wz ⟨cn, xs, some (ks.map some)⟩ ⟨ca, xa, none⟩ ⟨cb, ys, none⟩) ⟨_, Nat.le_of_eq (upList_len _ _ _ (Nat.zero_le _)).symm, Nat.le_of_eq (upList_len _ _ _ (Nat.zero_le _)), fun x => by rw [upList_set _ _ _ _ (Nat.zero_le _)]; rfl, HO.out.doB r8⟩ ?_
  clear r8 hc8 HO HT HL
  rintro w5 ⟨y2, hly2, hmy2, hy2, hT⟩
  replace hy2 := Lib.hid hy2
  have HT := Lib.hid hT
  clear hT
  obtain ⟨ln, la, lb, hO⟩ := HT.out.open na nb ab
  have N2 : w5.cell? ⟨n, 2, none⟩ = some (.slice (some ⟨ln.ib, ln.io, none⟩) xs.length ln.ic) := hO.atN.c2
  have B2 : w5.cell? ⟨b, 2, none⟩ = some (.slice (some ⟨lb.ib, lb.io, none⟩) y2.length lb.ic) := hO.atB.c2
  have j2 : (0 : Int) < (y2.length : Int) := by omega
  have j3 : 0 < y2.length := by omega
  obtain ⟨y6, hy6⟩ : ∃ y, y2[0]? = some y := ⟨_, List.getElem?_eq_getElem j3⟩
  have bv := hO.atB.mval (j := 0) hy6
  have bk := hO.atB.mkey (j := 0) hy6
  simp only [Nat.zero_mul, Nat.add_zero] at bv bk
  have iv := hO.atN.mval (j := i) HX.out
  have ik := hO.atN.mkey (j := i) HX.out
  have z0 := hO.atB.ifz (lb.io)
  have z1 := hO.atB.ifz (lb.io + 1)
  have j0 : (0 : Int) ≤ (i : Int) := by omega
  have j1 : (i : Int) < (xs.length : Int) := by omega
  have r8 := ((Run.start hO.atB).still ((Chg.refl _ _).drew)).setItemM 0 x j3
  simp only [Nat.zero_mul, Nat.add_zero] at r8
  have HR8 := Lib.hid (hO.doB r8)
  clear hO r8 hy6
  go_still_tail 11, (by kernel_rfl)
  go_upto_region 20 with fail
  refine name_world (fun wz => Tri (parM k) w F H n a b wz ⟨cn, xs, some (ks.map some)⟩ ⟨ca, xa, none⟩ ⟨cb, y2.set 0 x, none⟩) HR8.out ?_
  clear N2 B2 bv bk iv ik z0 z1 j0 j1 j2 j3 HR8 HT y6
  intro w6 hT
  have HT := Lib.hid hT
  clear hT
  rw [hy2.out] at HT
  obtain ⟨ln, la, lb, hO⟩ := HT.out.open na nb ab
  have C1 := hO.atB.c1
  have z1 := hO.atB.fz 1
  have s1 : IntKind.i64.wrap (cb + 1) = cb + 1 := IntWalk.i64_in _ (by omega)
  have r8 := (Run.start hO.atB).setCnt (cb + 1)
  have HR8 := Lib.hid (hO.doB r8)
  clear hO r8
  go_upto_region 21 with fail
  refine name_world (fun wz => Tri (parM k) w F H n a b wz ⟨cn, xs, some (ks.map some)⟩ ⟨ca, xa, none⟩ ⟨cb + 1, x :: xb, none⟩) HR8.out ?_
  clear C1 z1 s1 HR8 HT
  intro w7 hT
  have HT := Lib.hid hT
  clear hT
  obtain ⟨ln, la, lb, hO⟩ := HT.out.open na nb ab
  have N2 : w7.cell? ⟨n, 2, none⟩ = some (.slice (some ⟨ln.ib, ln.io, none⟩) xs.length ln.ic) := hO.atN.c2
  have A2 : w7.cell? ⟨a, 2, none⟩ = some (.slice (some ⟨la.ib, la.io, none⟩) xa.length la.ic) := hO.atA.c2
  have bv := hO.atA.mval (j := xa.length - 1) HZ.out
  have bk := hO.atA.mkey (j := xa.length - 1) HZ.out
  have iv := hO.atN.mval (j := i) HX.out
  have ik := hO.atN.mkey (j := i) HX.out
  have z0 := hO.atN.ifz (ln.io + i * 2)
  have z1 := hO.atN.ifz (ln.io + i * 2 + 1)
  have j0 : (0 : Int) ≤ (i : Int) := by omega
  have j1 : (i : Int) < (xs.length : Int) := by omega
  have s0 : (0 : Int) ≤ (xa.length : Int) - 1 := by omega
  have s2 : (xa.length : Int) - 1 < (xa.length : Int) := by omega
  have s3 : ((xa.length : Int) - 1).toNat = xa.length - 1 := by omega
  have s1 : IntKind.i64.wrap ((xa.length : Int) - 1) = (xa.length : Int) - 1 := IntWalk.i64_in _ (by omega)
  have s6 : ¬ ((xa.length : Int) < 1) := by omega
  have s7 : (1 : Int) ≤ (xa.length : Int) := by omega
  have s9 : 1 ≤ xa.length := by omega
  have r8 := ((Run.start hO.atN).still ((Chg.refl _ _).drew)).setItemM i z hi
  have HR8 := Lib.hid (hO.doN r8)
  clear hO r8
  go_still_tail 17, (by kernel_rfl)
  go_upto_region 22 with fail
  refine name_world (fun wz => Tri (parM k) w F H n a b wz ⟨cn, xs.set i z, some (ks.map some)⟩ ⟨ca, xa, none⟩ ⟨cb + 1, x :: xb, none⟩) HR8.out ?_
  clear N2 A2 bv bk iv ik z0 z1 j0 j1 s0 s1 s2 s3 s6 s7 s9 HR8 HT
  intro w8 hT
  have HT := Lib.hid hT
  clear hT
  have hyb : 1 ≤ xa.length ∧ xa.length ≤ 1001 := by rw [show xa.length = xa.length from rfl]; omega
  obtain ⟨ln, la, lb, hO⟩ := HT.out.open na nb ab
  have N2 : w8.cell? ⟨a, 2, none⟩ = some (.slice (some ⟨la.ib, la.io, none⟩) xa.length la.ic) := hO.atA.c2
  have hm1 := HM.out.chg HT.out.chg (fun b o hm h => hout b hm h)
  have e4 := hm1.c4
  have e5 := hm1.c5
  have hlen : xa.length ≤ la.ic := hO.atA.len
  have s0 : (0 : Int) ≤ (xa.length : Int) - 1 := by omega
  have s2 : (xa.length : Int) - 1 < (xa.length : Int) := by omega
  have s3 : ((xa.length : Int) - 1).toNat = xa.length - 1 := by omega
  have s1 : IntKind.i64.wrap ((xa.length : Int) - 1) = (xa.length : Int) - 1 := IntWalk.i64_in _ (by omega)
  have hlt : xa.length - 1 < xa.length := by omega
  have z0 := hO.atA.ifz (la.io + (xa.length - 1) * 2)
  have z1 := hO.atA.ifz (la.io + (xa.length - 1) * 2 + 1)
  obtain ⟨y6, hy6⟩ : ∃ y, xa[xa.length - 1]? = some y := ⟨_, List.getElem?_eq_getElem hlt⟩
  have iv := hO.atA.mval (j := xa.length - 1) hy6
  have ik := hO.atA.mkey (j := xa.length - 1) hy6
  have r8 := ((Run.start hO.atA).still ((Chg.refl _ _).drew)).setItemM (xa.length - 1) ((⟨#[]⟩, 0) : ByteArray × Int) hlt
  have HR8 := Lib.hid (hO.doA r8)
  clear hO hm1 hy6 r8
  go_still_tail 14, (by kernel_rfl)
  go_upto_region 23 with fail
  refine name_world (fun wz => ∃ ys, ys.length = xa.length ∧ ys.take (xa.length - 1) = xa.take (xa.length - 1) ∧ Tri (parM k) w F H n a b wz ⟨cn, xs.set i z, some (ks.map some)⟩ ⟨ca, ys, none⟩ ⟨cb + 1, x :: xb, none⟩) ⟨_, List.length_set, take_set_last _ _ _, HR8.out⟩ ?_
  clear N2 e4 e5 hlen s0 s1 s2 s3 hlt z0 z1 iv ik HR8 HT y6
  rintro w9 ⟨y4, hly4, hy4, hT⟩
  replace hly4 := Lib.hid hly4
  replace hy4 := Lib.hid hy4
  have HT := Lib.hid hT
  clear hT
  have hyb : 1 ≤ y4.length ∧ y4.length ≤ 1001 := by rw [hly4.out]; omega
  obtain ⟨ln, la, lb, hO⟩ := HT.out.open na nb ab
  have N2 : w9.cell? ⟨a, 2, none⟩ = some (.slice (some ⟨la.ib, la.io, none⟩) y4.length la.ic) := hO.atA.c2
  have z2 := hO.atA.fz 2
  have hlen : y4.length ≤ la.ic := hO.atA.len
  have s0 : (0 : Int) ≤ (y4.length : Int) - 1 := by omega
  have s2 : (y4.length : Int) - 1 ≤ (la.ic : Int) := by omega
  have s3 : ((y4.length : Int) - 1).toNat = y4.length - 1 := by omega
  have s1 : IntKind.i64.wrap ((y4.length : Int) - 1) = (y4.length : Int) - 1 := IntWalk.i64_in _ (by omega)
  have ck : ¬ la.ic = 0 := by omega
  have s6 : ¬ ((y4.length : Int) < 1) := by omega
  have s7 : (1 : Int) ≤ (y4.length : Int) := by omega
  have r8 := ((Run.start hO.atA).still ((Chg.refl _ _).drew)).cut 0 (y4.length - 1) la.ic (by show 0 + (y4.length - 1) ≤ y4.length; omega) (by omega) (by omega)
  simp only [Nat.zero_mul, Nat.add_zero, List.drop_zero] at r8
  have HR8 := Lib.hid (hO.doA r8)
  clear hO r8
  go_still_tail 12, (by kernel_rfl)
  go_upto_region 24 with fail
  refine name_world (fun wz => Tri (parM k) w F H n a b wz ⟨cn, xs.set i z, some (ks.map some)⟩ ⟨ca, y4.take (y4.length - 1), none⟩ ⟨cb + 1, x :: xb, none⟩) HR8.out ?_
  clear N2 z2 hlen s0 s1 s2 s3 s6 s7 ck HR8 HT
  rintro w10 hT
  have HT := Lib.hid hT
  clear hT
  obtain ⟨ln, la, lb, hO⟩ := HT.out.open na nb ab
  have C1 := hO.atA.c1
  have z1 := hO.atA.fz 1
  have s1 : IntKind.i64.wrap (ca - 1) = ca - 1 := IntWalk.i64_in _ (by omega)
  have r8 := (Run.start hO.atA).setCnt (ca - 1)
  have HR8 := Lib.hid (hO.doA r8)
  clear hO r8
  go_upto_region 25 with fail
  refine name_world (fun wz => Tri (parM k) w F H n a b wz ⟨cn, xs.set i z, some (ks.map some)⟩ ⟨ca - 1, y4.take (y4.length - 1), none⟩ ⟨cb + 1, x :: xb, none⟩) HR8.out ?_
  clear C1 z1 s1 HR8 HT
  intro w11 hT
  have HT := Lib.hid hT
  clear hT
  obtain ⟨ln, la, lb, hO⟩ := HT.out.open na nb ab
  have n3 := hO.atA.c3n rfl
  clear hO
  have eI : y4.take (y4.length - 1) = xa.take (xa.length - 1) := by rw [hly4.out, hy4.out]
  rw [eI] at HT
  clear eI
  go_wp2_with (go_at_call 53; refine (leaf_any _ none _ ?_).mono ?_; (focus go_simp); rintro e w' ⟨rfl, rfl⟩)
  refine bodyPost_end (v := .tuple #[]) (by simp [results, Try.results65, go_sem]) rfl ⟨rfl, ?_⟩
  exact HT.out
end Go.Proofs.Ytbpnabhgnijbfaa
