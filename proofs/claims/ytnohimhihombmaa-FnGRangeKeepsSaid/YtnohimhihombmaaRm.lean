/- nodeRebalance, where an item of the left child goes to the right one: branches. -/
import Derived.Test.YtnohimhihombmaaT1
import Derived.Test.YtnohimhihombmaaR1
namespace Go.Proofs.Ytnohimhihombmaa
set_option linter.unusedSimpArgs false
set_option linter.unusedVariables false
set_option maxRecDepth 100000
set_option maxHeartbeats 40000000
open Value renaming int → Ii, pointer → Ip, slice → Is, tuple → Iu
open IntKind renaming i64 → Ij
open Obj renaming cells → Ic
open Ending renaming returned → Ir
open Option.some renaming inj → Iq
open _root_.Go.Proofs.Try renaming prog → Tp
open List renaming setIfInBounds_toArray → zA, set_cons_zero → zB, set_cons_succ → zC, getElem?_cons_zero → zD, getElem?_cons_succ → zE, getElem?_eq_getElem → zH, length_set → zW, filterMap_cons → zX, filterMap_nil → zY, drop_succ_cons → za, drop_zero → zb
open Chg renaming refl → zK
open Lib renaming hid → zL
open IntWalk renaming i64_in → zh
open Run renaming start → zm
section
open Go.RowKit
variable {ord:List Int}
theorem reb_right_kids {k:Kc ord} {mn mx:Nat} {w:World} {F:Nat→Prop} {H:HN ord} {t n a b i:Nat} {cn ca cb:Int} {xs xa xb:List (It ord)} {ka kb:List (Option Nat)} {ks:List Nat} {c:Nat} {sc:NodeR (It ord)} {x z:It ord}
  (hF:Fam (parM k) w F H) (hm:MapAt k mn mx w t) (hout:∀b,MOwn k t b→¬F b) (hn:H n=some ⟨cn,xs,some (ks.map some)⟩) (hk:ks.length=xs.length+1) (ha:H a=some ⟨ca,xa,some ka⟩) (hb:H b=some ⟨cb,xb,some kb⟩)
  (hia:ks[i]?=some a) (hib:ks[i+1]?=some b) (na:n≠a) (nb:n≠b) (ab:a≠b) (hx:xs[i]?=some x) (hz:xa[xa.length - 1]?=some z) (hi:i < xs.length) (hxi:xs.length=i+1) (hxl:xs.length≤1000) (hmx:mx≤1000)
  (hsum:mx≤xa.length+xb.length) (hlt:xb.length < xa.length) (hxa:xa.length≤1000) (hca:0≤ca∧ca≤100000000000000) (hcb:0≤cb∧cb≤100000000000000) (hkl:ka[ka.length - 1]?=some (some c)) (hcc:H c=some sc) (cN:c≠n) (cA:c≠a) (cB:c≠b) (hcs:0≤sc.cnt∧sc.cnt≤100000000000000) (hka1:1≤ka.length) (hkal:ka.length≤1001) (hkbl:kb.length≤1001) :
  Calls Tp 80 #[Ip (some ⟨t,0,none⟩),Ip (some ⟨n,0,none⟩),Ii Ij xs.length] w
   (RebPost k w F H n a b ⟨cn,xs.set i z,some (ks.map some)⟩ ⟨ca - 1 - sc.cnt,xa.take (xa.length - 1),some (ka.take (ka.length - 1))⟩ ⟨cb+1+sc.cnt,x::xb,some (some c::kb)⟩):=by
 have hne:Ij.wrap ((xs.length:Int) - 1)=(i:Int):=by rw [zh _ (by omega)];omega
 have hla:¬((xa.length:Int)+(xb.length:Int) < (mx:Int)):=by omega
 have hl1:(0:Int)≤(xa.length:Int):=by omega
 have hl2:(0:Int)≤(xb.length:Int):=by omega
 have hl3:(xa.length:Int)≤1000:=by omega
 have hl4:(xb.length:Int)≤1000:=by omega
 have HZ:=zL hz
 have HKL:=zL hkl
 have HCC:=zL hcc
 clear hz hxi hkl hcc
 have hc0:=zK (fun _ _=>False) w
 have HT0:=zL (Tri.start (p:=parM k) hF hc0 hn ha hb)
 obtain ⟨ln0,la0,lb0,hO0⟩:=HT0.out.open na nb ab
 have N2:=hO0.atN.c2
 have N3:=hO0.atN.c3s (ks:=ks.map some) rfl
 have NC:=hO0.atN.cc (ks:=ks.map some) rfl
 rw [List.length_map] at NC
 have Ka:w.cell? ⟨ln0.cb,ln0.co+i,none⟩=some (Ip (some ⟨a,0,none⟩)):=hO0.atN.kidc (ks:=ks.map some) rfl (j:=i) (o:=some a) (by simp [hia])
 have Kb:w.cell? ⟨ln0.cb,ln0.co+(i+1),none⟩=some (Ip (some ⟨b,0,none⟩)):=hO0.atN.kidc (ks:=ks.map some) rfl (j:=i+1) (o:=some b) (by simp [hib])
 have a0:w.cell? ⟨a,0,none⟩=some (.int .u64 k.iso):=hO0.atA.c0
 have b0:w.cell? ⟨b,0,none⟩=some (.int .u64 k.iso):=hO0.atB.c0
 have t0:=hm.c0
 have A2:=hO0.atA.c2
 have B2:=hO0.atB.c2
 have t7:=hm.c7
 have i0':(0:Int)≤(i:Int):=by omega
 have i1':(i:Int) < (ks.length:Int):=by omega
 have i2':(i:Int)+1 < (ks.length:Int):=by omega
 have i3':(0:Int)≤(i:Int)+1:=by omega
 have i4':((i:Int)+1).toNat=i+1:=by omega
 have i5':Ij.wrap ((i:Int)+1)=(i:Int)+1:=zh _ (by omega)
 have HNL:=zL hk
 have HIA:=zL hia
 have HIB:=zL hib
 have HM:=zL hm
 have HX:=zL hx
 clear hO0 hn ha hb hF hk hia hib hm hx hc0
 go_enter Try.func80,Try.ntmps80
 skip
 go_wp2_with fail
 refine (kcD t a k _ true _ Ka a0 t0).mono ?_
 rintro e w1 ⟨rfl,m1,hw1⟩
 have hc1:Chg (fun _ _=>False) w w1:=by rw [hw1];exact (zK _ _).drewN _
 clear hw1
 replace N3:=hc1.q N3
 replace NC:=hc1.q NC
 replace Kb:=hc1.q Kb
 replace b0:=hc1.q b0
 replace t0:=hc1.q t0
 replace A2:=hc1.q A2
 replace B2:=hc1.q B2
 replace t7:=hc1.q t7
 clear N2 Ka a0
 go_wp2_with fail
 refine (kcD t b k _ true _ Kb b0 t0).mono ?_
 rintro e w2 ⟨rfl,m2,hw2⟩
 have hc12:Chg (fun _ _=>False) w1 w2:=by rw [hw2];exact (zK _ _).drewN _
 have hc2:=hc1.trans hc12
 clear hw2
 replace A2:=hc12.q A2
 replace B2:=hc12.q B2
 replace t7:=hc12.q t7
 clear N3 NC Kb b0 t0 hc12 hc1
 go_wp2_with fail
 go_quiet (fail)
 go_upto_region 16 with fail
 go_quiet (fail)
 go_upto_region 17 with fail
 refine kbD (fun w3=>Chg (fun _ _=>False) w w3) ((hc2.drewN _).drewN _) ?_
 intro w3 hc3
 have HT:=zL (HT0.out.still hc3)
 clear A2 B2 t7 hc2 HT0
 obtain ⟨ln,la,lb,hO⟩:=HT.out.open na nb ab
 have B2:w3.cell? ⟨b,2,none⟩=some (Is (some ⟨lb.ib,lb.io,none⟩) xb.length lb.ic):=hO.atB.c2
 have hm1:=HM.out.chg HT.out.chg (fun b o hm h=>hout b hm h)
 have e4:=hm1.c4
 have e5:=hm1.c5
 have tib:t≠lb.ib:=by
  intro h
  rcases hO.blkB lb.ib (.inr (.inl rfl)) with h1 | h1
  ·exact hout t MOwn.self (h▸h1)
  ·have:=HM.out.lt MOwn.self
   omega
 have za:=hO.atB.fz 2
 have alt:=World.block_lt_of_cell? _ _ B2
 have hlen:xb.length≤lb.ic:=hO.atB.len
 have arow:=hO.atB.row
 have HO:=zL hO
 obtain ⟨i0,hi0,hz0,hz1,hz2⟩:=info_parts kfS
 clear hO hm1
 refine kcS (fun w'=>w'.cell? ⟨b,2,none⟩=some (Is (some ⟨lb.ib,lb.io,none⟩) xb.length lb.ic)∧w'.cell? ⟨t,7,none⟩=some (Ii Ij 0)∧w'.cell? ⟨t,8,none⟩=some (Ii Ij 0))
  11 [0,1,2,3,4,5,6,7,8] [9,10] (by kernel_rfl) (by kernel_rfl) (fun _ _ _ _ _ h=>h) rfl rfl ⟨B2,e4,e5⟩ ?_
 simp only [kbK,zX,zY,zD,zE]
 iterate 9
  refine kbR ?_ rfl ?_ ?_
  rotate_left
  ·intro w' hS
   obtain ⟨a1,a2,a3⟩:=hS
   go_simp
   try with_reducible rfl
  simp only [Act.put,zA,zB,zC]
 refine kbS ?_
 have hca:Chg (fun _ _=>False) w3 (w3.alloc (Ic #[Ii Ij 0,Ii Ij 0] 27)).drew:=((zK _ _).alloc _).drew
 refine kbN (fun K hK=>?_)
 go_simp
 refine hK _ _ ⟨hca.q B2,hca.q e4,hca.q e5⟩ ?_
 iterate 0 go_keep
 clear hK K
 refine kbN (fun K hK=>?_)
 refine kcC _ _ _ (by rfl) 27 i0 _ 2 16 Try.underlying25 hi0 hz0 hz1 hz2 rfl lb.ib lb.io xb.length lb.ic (by rfl) (flat (parM k) xb) ((arow.alloc _).drew) (kcW _ _) ⟨w3.heap.size,0,none⟩ 1 _ (by rfl) [Ii Ij 0,Ii Ij 0] (by rfl) (World.news_of_block (cs:=#[Ii Ij 0,Ii Ij 0]) (t:=27) (fr:=(0,0)) (heap_alloc_new w3 _)) (by simp [Value.oneCell']) (by unfold maxLen;omega) (by omega) ?_
 intro b' o1 cap' w7 happ
 have hch:=happ.chg
 have nib:b≠lb.ib:=Ne.symm HO.out.atB.d1
 have B2':=hch.cell (a:=⟨b,2,none⟩) (fun h=>nib h.1) (hca.q B2)
 have e4':=hch.cell (a:=⟨t,7,none⟩) (fun h=>tib h.1) (hca.q e4)
 have e5':=hch.cell (a:=⟨t,8,none⟩) (fun h=>tib h.1) (hca.q e5)
 have z2':w7.frozen? ⟨b,2,none⟩=false:=by rw [hch.frozen (Nat.lt_of_lt_of_le alt hca.size),hca.frozen alt];exact za
 have r8:=((zm HO.out.atB).still hca).append [((0,0):Int×Int)] happ (zK _ _)
 have hT8:=HO.out.doB r8
 have HT8:=zL hT8
 refine hK _ _ ⟨B2',e4',e5'⟩ ?_
 clear hK K B2 e4 e5 r8 hT8 hch
 simp only [kdC,za,zb,Act.put,zA,zB,zC]
 go_upto_region 18 with fail
 refine kbD (fun wz=>∃ya,ya=xb++[((0,0):Int×Int)]∧Tri (parM k) w F H n a b wz ⟨cn,xs,some (ks.map some)⟩ ⟨ca,xa,some ka⟩ ⟨cb,ya,some kb⟩) ⟨_,rfl,HT8.out⟩ ?_
 clear B2' e4' e5' z2' happ hca za alt hlen arow nib HO HT8 HT hi0 hz0 hz1 hz2 i0 tib
 rintro w4 ⟨y1,hy1,hT⟩
 replace hy1:=zL hy1
 have HT:=zL hT
 clear hT
 obtain ⟨ln,la,lb,hO⟩:=HT.out.open na nb ab
 have N2:w4.cell? ⟨b,2,none⟩=some (Is (some ⟨lb.ib,lb.io,none⟩) y1.length lb.ic):=hO.atB.c2
 have hlen:y1.length≤lb.ic:=hO.atB.len
 have hle0:xb.length+1≤y1.length:=by rw [hy1.out];simp
 have hge0:y1.length≤xb.length+1:=by rw [hy1.out];simp
 have s4:(1:Int)≤(y1.length:Int):=by omega
 have s5:1≤y1.length:=by omega
 obtain ⟨od,hif,hod,hod2⟩:∃od,(if lb.ic=1 then some (⟨lb.ib,lb.io,none⟩:Addr) else some ⟨lb.ib,lb.io+2,none⟩)=some ⟨lb.ib,od,none⟩∧(0 < xb.length→od=lb.io+(0+1) * 2)∧(od=lb.io∨od=lb.io+(0+1) * 2):=by
  by_cases h:lb.ic=1
  ·exact ⟨lb.io,by rw [if_pos h],fun h2=>by omega,.inl rfl⟩
  ·exact ⟨lb.io+2,by rw [if_neg h],fun _=>by simp,.inr (by simp)⟩
 have HSP:=zL hod
 have HSP2:=zL hod2
 have HL:=zL (And.intro hle0 hge0)
 have HO:=zL hO
 clear hO hod hod2 hle0 hge0
 go_still_tail 9,(by kernel_rfl)
 refine wpList_shift (p:=parM k) (by rfl) _ _ _ _ (by rfl) 27 (by kernel_rfl) kdD ((zm HO.out.atB).still ((zK _ _).drew)) xb ((0,0):Int×Int) hy1.out 0 od _ _ _ _ (Nat.zero_le _) (by simpa [parM] using HSP.out) (by simpa [parM] using HSP2.out) (by rfl) lb.io (by rfl) (by simp) (by have:=HL.out;omega) (by have:=HL.out;omega) ?_
 intro w8 hc8 r8
 clear s4 s5 hif N2 hlen HSP HSP2
 go_upto_region 19 with fail
 refine kbD (fun wz=>∃ys,xb.length+1≤ys.length∧ys.length≤xb.length+1∧(∀x,ys.set 0 x=x::xb)∧Tri (parM k) w F H n a b wz ⟨cn,xs,some (ks.map some)⟩ ⟨ca,xa,some ka⟩ ⟨cb,ys,some kb⟩) ⟨_,Nat.le_of_eq (kfT _ _ _ (Nat.zero_le _)).symm,Nat.le_of_eq (kfT _ _ _ (Nat.zero_le _)),fun x=>by rw [upList_set _ _ _ _ (Nat.zero_le _)];rfl,HO.out.doB r8⟩ ?_
 clear r8 hc8 HO HT HL
 rintro w5 ⟨y2,hly2,hmy2,hy2,hT⟩
 replace hy2:=zL hy2
 have HT:=zL hT
 clear hT
 obtain ⟨ln,la,lb,hO⟩:=HT.out.open na nb ab
 have N2:w5.cell? ⟨n,2,none⟩=some (Is (some ⟨ln.ib,ln.io,none⟩) xs.length ln.ic):=hO.atN.c2
 have B2:w5.cell? ⟨b,2,none⟩=some (Is (some ⟨lb.ib,lb.io,none⟩) y2.length lb.ic):=hO.atB.c2
 have j2:(0:Int) < (y2.length:Int):=by omega
 have j3:0 < y2.length:=by omega
 obtain ⟨y6,hy6⟩:∃y,y2[0]?=some y:=⟨_,zH j3⟩
 have bv:=hO.atB.mval (j:=0) hy6
 have bk:=hO.atB.mkey (j:=0) hy6
 simp only [Nat.zero_mul,Nat.add_zero] at bv bk
 have iv:=hO.atN.mval (j:=i) HX.out
 have ik:=hO.atN.mkey (j:=i) HX.out
 have z0:=hO.atB.ifz (lb.io)
 have z1:=hO.atB.ifz (lb.io+1)
 have j0:(0:Int)≤(i:Int):=by omega
 have j1:(i:Int) < (xs.length:Int):=by omega
 have r8:=((zm hO.atB).still ((zK _ _).drew)).setItemM 0 x j3
 simp only [Nat.zero_mul,Nat.add_zero] at r8
 have HR8:=zL (hO.doB r8)
 clear hO r8 hy6
 go_still_tail 11,(by kernel_rfl)
 go_upto_region 20 with fail
 refine kbD (fun wz=>Tri (parM k) w F H n a b wz ⟨cn,xs,some (ks.map some)⟩ ⟨ca,xa,some ka⟩ ⟨cb,y2.set 0 x,some kb⟩) HR8.out ?_
 clear N2 B2 bv bk iv ik z0 z1 j0 j1 j2 j3 HR8 HT y6
 intro w6 hT
 have HT:=zL hT
 clear hT
 rw [hy2.out] at HT
 obtain ⟨ln,la,lb,hO⟩:=HT.out.open na nb ab
 have C1:=hO.atB.c1
 have z1:=hO.atB.fz 1
 have s1:Ij.wrap (cb+1)=cb+1:=zh _ (by omega)
 have r8:=(zm hO.atB).setCnt (cb+1)
 have HR8:=zL (hO.doB r8)
 clear hO r8
 go_upto_region 21 with fail
 refine kbD (fun wz=>Tri (parM k) w F H n a b wz ⟨cn,xs,some (ks.map some)⟩ ⟨ca,xa,some ka⟩ ⟨cb+1,x::xb,some kb⟩) HR8.out ?_
 clear C1 z1 s1 HR8 HT
 intro w7 hT
 have HT:=zL hT
 clear hT
 obtain ⟨ln,la,lb,hO⟩:=HT.out.open na nb ab
 have N2:w7.cell? ⟨n,2,none⟩=some (Is (some ⟨ln.ib,ln.io,none⟩) xs.length ln.ic):=hO.atN.c2
 have A2:w7.cell? ⟨a,2,none⟩=some (Is (some ⟨la.ib,la.io,none⟩) xa.length la.ic):=hO.atA.c2
 have bv:=hO.atA.mval (j:=xa.length - 1) HZ.out
 have bk:=hO.atA.mkey (j:=xa.length - 1) HZ.out
 have iv:=hO.atN.mval (j:=i) HX.out
 have ik:=hO.atN.mkey (j:=i) HX.out
 have z0:=hO.atN.ifz (ln.io+i * 2)
 have z1:=hO.atN.ifz (ln.io+i * 2+1)
 have j0:(0:Int)≤(i:Int):=by omega
 have j1:(i:Int) < (xs.length:Int):=by omega
 have s0:(0:Int)≤(xa.length:Int) - 1:=by omega
 have s2:(xa.length:Int) - 1 < (xa.length:Int):=by omega
 have s3:((xa.length:Int) - 1).toNat=xa.length - 1:=by omega
 have s1:Ij.wrap ((xa.length:Int) - 1)=(xa.length:Int) - 1:=zh _ (by omega)
 have s6:¬((xa.length:Int) < 1):=by omega
 have s7:(1:Int)≤(xa.length:Int):=by omega
 have s9:1≤xa.length:=by omega
 have r8:=((zm hO.atN).still ((zK _ _).drew)).setItemM i z hi
 have HR8:=zL (hO.doN r8)
 clear hO r8
 go_still_tail 17,(by kernel_rfl)
 go_upto_region 22 with fail
 refine kbD (fun wz=>Tri (parM k) w F H n a b wz ⟨cn,xs.set i z,some (ks.map some)⟩ ⟨ca,xa,some ka⟩ ⟨cb+1,x::xb,some kb⟩) HR8.out ?_
 clear N2 A2 bv bk iv ik z0 z1 j0 j1 s0 s1 s2 s3 s6 s7 s9 HR8 HT
 intro w8 hT
 have HT:=zL hT
 clear hT
 have hyb:1≤xa.length∧xa.length≤1001:=by rw [show xa.length=xa.length from rfl];omega
 obtain ⟨ln,la,lb,hO⟩:=HT.out.open na nb ab
 have N2:w8.cell? ⟨a,2,none⟩=some (Is (some ⟨la.ib,la.io,none⟩) xa.length la.ic):=hO.atA.c2
 have hm1:=HM.out.chg HT.out.chg (fun b o hm h=>hout b hm h)
 have e4:=hm1.c4
 have e5:=hm1.c5
 have hlen:xa.length≤la.ic:=hO.atA.len
 have s0:(0:Int)≤(xa.length:Int) - 1:=by omega
 have s2:(xa.length:Int) - 1 < (xa.length:Int):=by omega
 have s3:((xa.length:Int) - 1).toNat=xa.length - 1:=by omega
 have s1:Ij.wrap ((xa.length:Int) - 1)=(xa.length:Int) - 1:=zh _ (by omega)
 have hlt:xa.length - 1 < xa.length:=by omega
 have z0:=hO.atA.ifz (la.io+(xa.length - 1) * 2)
 have z1:=hO.atA.ifz (la.io+(xa.length - 1) * 2+1)
 obtain ⟨y6,hy6⟩:∃y,xa[xa.length - 1]?=some y:=⟨_,zH hlt⟩
 have iv:=hO.atA.mval (j:=xa.length - 1) hy6
 have ik:=hO.atA.mkey (j:=xa.length - 1) hy6
 have r8:=((zm hO.atA).still ((zK _ _).drew)).setItemM (xa.length - 1) ((0,0):Int×Int) hlt
 have HR8:=zL (hO.doA r8)
 clear hO hm1 hy6 r8
 go_still_tail 14,(by kernel_rfl)
 go_upto_region 23 with fail
 refine kbD (fun wz=>∃ys,ys.length=xa.length∧ys.take (xa.length - 1)=xa.take (xa.length - 1)∧Tri (parM k) w F H n a b wz ⟨cn,xs.set i z,some (ks.map some)⟩ ⟨ca,ys,some ka⟩ ⟨cb+1,x::xb,some kb⟩) ⟨_,zW,kdB _ _ _,HR8.out⟩ ?_
 clear N2 e4 e5 hlen s0 s1 s2 s3 hlt z0 z1 iv ik HR8 HT y6
 rintro w9 ⟨y4,hly4,hy4,hT⟩
 replace hly4:=zL hly4
 replace hy4:=zL hy4
 have HT:=zL hT
 clear hT
 have hyb:1≤y4.length∧y4.length≤1001:=by rw [hly4.out];omega
 obtain ⟨ln,la,lb,hO⟩:=HT.out.open na nb ab
 have N2:w9.cell? ⟨a,2,none⟩=some (Is (some ⟨la.ib,la.io,none⟩) y4.length la.ic):=hO.atA.c2
 have z2:=hO.atA.fz 2
 have hlen:y4.length≤la.ic:=hO.atA.len
 have s0:(0:Int)≤(y4.length:Int) - 1:=by omega
 have s2:(y4.length:Int) - 1≤(la.ic:Int):=by omega
 have s3:((y4.length:Int) - 1).toNat=y4.length - 1:=by omega
 have s1:Ij.wrap ((y4.length:Int) - 1)=(y4.length:Int) - 1:=zh _ (by omega)
 have ck:¬la.ic=0:=by omega
 have s6:¬((y4.length:Int) < 1):=by omega
 have s7:(1:Int)≤(y4.length:Int):=by omega
 have r8:=((zm hO.atA).still ((zK _ _).drew)).cut 0 (y4.length - 1) la.ic (by show 0+(y4.length - 1)≤y4.length;omega) (by omega) (by omega)
 simp only [Nat.zero_mul,Nat.add_zero,zb] at r8
 have HR8:=zL (hO.doA r8)
 clear hO r8
 go_still_tail 12,(by kernel_rfl)
 go_upto_region 24 with fail
 refine kbD (fun wz=>Tri (parM k) w F H n a b wz ⟨cn,xs.set i z,some (ks.map some)⟩ ⟨ca,y4.take (y4.length - 1),some ka⟩ ⟨cb+1,x::xb,some kb⟩) HR8.out ?_
 clear N2 z2 hlen s0 s1 s2 s3 s6 s7 ck HR8 HT
 rintro w10 hT
 have HT:=zL hT
 clear hT
 obtain ⟨ln,la,lb,hO⟩:=HT.out.open na nb ab
 have C1:=hO.atA.c1
 have z1:=hO.atA.fz 1
 have s1:Ij.wrap (ca - 1)=ca - 1:=zh _ (by omega)
 have r8:=(zm hO.atA).setCnt (ca - 1)
 have HR8:=zL (hO.doA r8)
 clear hO r8
 go_upto_region 25 with fail
 refine kbD (fun wz=>Tri (parM k) w F H n a b wz ⟨cn,xs.set i z,some (ks.map some)⟩ ⟨ca - 1,y4.take (y4.length - 1),some ka⟩ ⟨cb+1,x::xb,some kb⟩) HR8.out ?_
 clear C1 z1 s1 HR8 HT
 intro w11 hT
 have HT:=zL hT
 clear hT
 have eI:y4.take (y4.length - 1)=xa.take (xa.length - 1):=by rw [hly4.out,hy4.out]
 rw [eI] at HT
 clear eI
 obtain ⟨x5,hx5⟩:∃x5,x5=xa.take (xa.length - 1):=⟨_,rfl⟩
 rw [←hx5] at HT
 replace hx5:=zL hx5
 obtain ⟨ln,la,lb,hO⟩:=HT.out.open na nb ab
 have n3:=hO.atA.c3s rfl
 have lacc:=la.cc
 clear hO
 go_wp2_with (go_at_call 51;refine (kcJ _ (some ⟨la.cc,0,none⟩) _ ?_).mono ?_;(focus go_simp);rintro e w' ⟨rfl,rfl⟩)
 go_upto_region 26 with fail
 refine kbD (fun wz=>Tri (parM k) w F H n a b wz ⟨cn,xs.set i z,some (ks.map some)⟩ ⟨ca - 1,x5,some ka⟩ ⟨cb+1,(x::xb),some kb⟩) (HT.out.still (zK _ _)) ?_
 clear n3 HT
 intro w12 hT
 have HT:=zL hT
 clear hT
 obtain ⟨ln,la,lb,hO⟩:=HT.out.open na nb ab
 have hkx:=hO.atB.d2 (by simp)
 have B3:=hO.atB.c3s (ks:=kb) rfl
 have BC:=hO.atB.cc (ks:=kb) rfl
 have za:=hO.atB.ccz (ks:=kb) rfl 0
 have alt:=World.block_lt_of_cell? _ _ BC
 have hlen:kb.length≤lb.ck:=hO.atB.klen (ks:=kb) rfl
 have arow:=(hO.atB.kid (ks:=kb) rfl).2
 have HO:=zL hO
 have HKX:=zL hkx
 obtain ⟨i0,hi0,hz0,hz1,hz2⟩:=info_parts infoNode
 clear hO hkx
 refine kcS (fun w'=>w'.cell? ⟨b,3,none⟩=some (Ip (some ⟨lb.cc,0,none⟩))∧w'.cell? ⟨lb.cc,0,none⟩=some (Is (some ⟨lb.cb,lb.co,none⟩) kb.length lb.ck))
  12 [0,1,2,3,4,5,6,7,8,9] [10,11] (by kernel_rfl) (by kernel_rfl) (fun _ _ _ _ _ h=>h) rfl rfl ⟨B3,BC⟩ ?_
 simp only [kbK,zX,zY,zD,zE]
 iterate 10
  refine kbR ?_ rfl ?_ ?_
  rotate_left
  ·intro w' hS
   obtain ⟨a1,a2⟩:=hS
   go_simp
   try with_reducible rfl
  simp only [Act.put,zA,zB,zC]
 refine kbS ?_
 have hca:Chg (fun _ _=>False) w12 (w12.alloc (Ic #[Ip none] 97)).drew:=((zK _ _).alloc _).drew
 refine kbN (fun K hK=>?_)
 go_simp
 refine hK _ _ ⟨hca.q B3,hca.q BC⟩ ?_
 iterate 0 go_keep
 clear hK K
 refine kbN (fun K hK=>?_)
 refine kcC _ _ _ (by rfl) 97 i0 _ 1 8 Try.underlying111 hi0 hz0 hz1 hz2 rfl lb.cb lb.co kb.length lb.ck (by rfl) (kb.map kidV) (by rw [Nat.mul_one];exact (arow.alloc _).drew) (by simp) ⟨w12.heap.size,0,none⟩ 1 _ (by rfl) [Ip none] (by rfl) (World.news_of_block (cs:=#[Ip none]) (t:=97) (fr:=(0,0)) (heap_alloc_new w12 _)) (by simp [Value.oneCell']) (by unfold maxLen;omega) (by omega) ?_
 intro b' o1 cap' w7 happ
 have hch:=happ.chg
 have B3':=hch.cell (a:=⟨b,3,none⟩) (fun h=>HKX.out.2.1 h.1.symm) (hca.q B3)
 have BC':=hch.cell (a:=⟨lb.cc,0,none⟩) (fun h=>HKX.out.2.2.2.2 h.1.symm) (hca.q BC)
 have z2':w7.frozen? ⟨lb.cc,0,none⟩=false:=by rw [hch.frozen (Nat.lt_of_lt_of_le alt hca.size),hca.frozen alt];exact za
 have r8:=((zm HO.out.atB).still hca).appendKids (ks:=kb) rfl [none] happ (zK _ _)
 have hT8:=HO.out.doB r8
 have HT8:=zL hT8
 refine hK _ _ ⟨B3',BC'⟩ ?_
 clear hK K B3 BC r8 hT8 hch
 simp only [kdC,za,zb,Act.put,zA,zB,zC]
 go_upto_region 27 with fail
 refine kbD (fun wz=>∃ya,ya=kb++[none]∧Tri (parM k) w F H n a b wz ⟨cn,xs.set i z,some (ks.map some)⟩ ⟨ca - 1,x5,some ka⟩ ⟨cb+1,(x::xb),some ya⟩) ⟨_,rfl,HT8.out⟩ ?_
 clear B3' BC' z2' happ hca za alt hlen arow HO HT8 HT HKX hi0 hz0 hz1 hz2 i0
 rintro w13 ⟨k1,hk1,hT⟩
 replace hk1:=zL hk1
 have HT:=zL hT
 clear hT
 obtain ⟨ln,la,lb,hO⟩:=HT.out.open na nb ab
 have B3:=hO.atB.c3s (ks:=k1) rfl
 have BC:=hO.atB.cc (ks:=k1) rfl
 have hlen:k1.length≤lb.ck:=hO.atB.klen (ks:=k1) rfl
 have hle0:kb.length+1≤k1.length:=by rw [hk1.out];simp
 have hge0:k1.length≤kb.length+1:=by rw [hk1.out];simp
 have s4:(1:Int)≤(k1.length:Int):=by omega
 have s5:1≤k1.length:=by omega
 obtain ⟨od,hif,hod,hod2⟩:∃od,(if lb.ck=1 then some (⟨lb.cb,lb.co,none⟩:Addr) else some ⟨lb.cb,lb.co+1,none⟩)=some ⟨lb.cb,od,none⟩∧(0 < kb.length→od=lb.co+(0+1))∧(od=lb.co∨od=lb.co+(0+1)):=by
  by_cases h:lb.ck=1
  ·exact ⟨lb.co,by rw [if_pos h],fun h2=>by omega,.inl rfl⟩
  ·exact ⟨lb.co+1,by rw [if_neg h],fun _=>by simp,.inr (by simp)⟩
 have HSP:=zL hod
 have HSP2:=zL hod2
 have HL:=zL (And.intro hle0 hge0)
 have HO:=zL hO
 clear hO hod hod2 hle0 hge0
 go_still_tail 13,(by kernel_rfl)
 refine wpList_shiftKids (p:=parM k) (by rfl) _ _ _ _ (by rfl) 97 (by kernel_rfl) kgH ((zm HO.out.atB).still ((zK _ _).drew)) kb none (by rw [←hk1.out]) 0 od _ _ _ _ (Nat.zero_le _) HSP.out HSP2.out (by rfl) lb.co (by rfl) (by simp) (by have:=HL.out;omega) (by have:=HL.out;omega) ?_
 intro w8 hc8 r8
 clear s4 s5 hif B3 BC hlen HSP HSP2
 go_upto_region 28 with fail
 refine kbD (fun wz=>∃ys,kb.length+1≤ys.length∧ys.length≤kb.length+1∧(∀x,ys.set 0 x=x::kb)∧Tri (parM k) w F H n a b wz ⟨cn,xs.set i z,some (ks.map some)⟩ ⟨ca - 1,x5,some ka⟩ ⟨cb+1,x::xb,some ys⟩) ⟨_,Nat.le_of_eq (kfT _ _ _ (Nat.zero_le _)).symm,Nat.le_of_eq (kfT _ _ _ (Nat.zero_le _)),fun x=>by rw [upList_set _ _ _ _ (Nat.zero_le _)];rfl,HO.out.doB r8⟩ ?_
 clear r8 hc8 HO HT HL
 rintro w14 ⟨k2,hlk2,hmk2,hk2,hT⟩
 replace hk2:=zL hk2
 have HT:=zL hT
 clear hT
 obtain ⟨ln,la,lb,hO⟩:=HT.out.open na nb ab
 have A3:=hO.atA.c3s (ks:=ka) rfl
 have AC:=hO.atA.cc (ks:=ka) rfl
 have B3:=hO.atB.c3s (ks:=k2) rfl
 have BC:=hO.atB.cc (ks:=k2) rfl
 have BK:=hO.atA.kidc (ks:=ka) rfl HKL.out
 simp only [kidV] at BK
 have j2:(0:Int) < (k2.length:Int):=by omega
 have j3:0 < k2.length:=by omega
 obtain ⟨y6,hy6⟩:∃y,k2[0]?=some y:=⟨_,zH j3⟩
 have iv:=hO.atB.kidc (ks:=k2) rfl hy6
 have z0:=hO.atB.kidz (ks:=k2) rfl lb.co
 simp only [Nat.add_zero] at iv
 have s0:(0:Int)≤(ka.length:Int) - 1:=by omega
 have s2:(ka.length:Int) - 1 < (ka.length:Int):=by omega
 have s3:((ka.length:Int) - 1).toNat=ka.length - 1:=by omega
 have s1:Ij.wrap ((ka.length:Int) - 1)=(ka.length:Int) - 1:=zh _ (by omega)
 have s6:¬((ka.length:Int) < 1):=by omega
 have s7:(1:Int)≤(ka.length:Int):=by omega
 have r8:=((zm hO.atB).still ((zK _ _).drew)).setKid (ks:=k2) rfl 0 (some c) j3
 simp only [Nat.add_zero] at r8
 have HR8:=zL (hO.doB r8)
 clear hO r8 hy6
 go_still_tail 22,(by kernel_rfl)
 go_upto_region 29 with fail
 refine kbD (fun wz=>Tri (parM k) w F H n a b wz ⟨cn,xs.set i z,some (ks.map some)⟩ ⟨ca - 1,x5,some ka⟩ ⟨cb+1,x::xb,some (k2.set 0 (some c))⟩) HR8.out ?_
 clear A3 AC B3 BC BK iv z0 j2 j3 s0 s1 s2 s3 s6 s7 HR8 HT y6
 intro w15 hT
 have HT:=zL hT
 clear hT
 rw [hk2.out] at HT
 have hyb:1≤ka.length∧ka.length≤1002:=by skip;omega
 obtain ⟨ln,la,lb,hO⟩:=HT.out.open na nb ab
 have N3:=hO.atA.c3s (ks:=ka) rfl
 have NC:=hO.atA.cc (ks:=ka) rfl
 have hlen:ka.length≤la.ck:=hO.atA.klen (ks:=ka) rfl
 have s0:(0:Int)≤(ka.length:Int) - 1:=by omega
 have s2:(ka.length:Int) - 1 < (ka.length:Int):=by omega
 have s3:((ka.length:Int) - 1).toNat=ka.length - 1:=by omega
 have s1:Ij.wrap ((ka.length:Int) - 1)=(ka.length:Int) - 1:=zh _ (by omega)
 have hlt:ka.length - 1 < ka.length:=by omega
 have z0:=hO.atA.kidz (ks:=ka) rfl (la.co+(ka.length - 1))
 obtain ⟨y6,hy6⟩:∃y,ka[ka.length - 1]?=some y:=⟨_,zH hlt⟩
 have iv:=hO.atA.kidc (ks:=ka) rfl hy6
 have r8:=((zm hO.atA).still ((zK _ _).drew)).setKid (ks:=ka) rfl (ka.length - 1) none hlt
 have HR8:=zL (hO.doA r8)
 clear hO hy6 r8
 go_still_tail 14,(by kernel_rfl)
 go_upto_region 30 with fail
 refine kbD (fun wz=>∃ys,ys.length=ka.length∧ys.take (ka.length - 1)=ka.take (ka.length - 1)∧Tri (parM k) w F H n a b wz ⟨cn,xs.set i z,some (ks.map some)⟩ ⟨ca - 1,x5,some ys⟩ ⟨cb+1,x::xb,some (some c::kb)⟩) ⟨_,zW,kdB _ _ _,HR8.out⟩ ?_
 clear N3 NC hlen s0 s1 s2 s3 hlt z0 iv HR8 HT y6
 rintro w16 ⟨k3,hlk3,hk3,hT⟩
 replace hlk3:=zL hlk3
 replace hk3:=zL hk3
 have HT:=zL hT
 clear hT
 have hyb:1≤k3.length∧k3.length≤1002:=by rw [hlk3.out];omega
 obtain ⟨ln,la,lb,hO⟩:=HT.out.open na nb ab
 have N3:=hO.atA.c3s (ks:=k3) rfl
 have NC:=hO.atA.cc (ks:=k3) rfl
 have z2:=hO.atA.ccz (ks:=k3) rfl 0
 have hlen:k3.length≤la.ck:=hO.atA.klen (ks:=k3) rfl
 have s0:(0:Int)≤(k3.length:Int) - 1:=by omega
 have s2:(k3.length:Int) - 1≤(la.ck:Int):=by omega
 have s3:((k3.length:Int) - 1).toNat=k3.length - 1:=by omega
 have s1:Ij.wrap ((k3.length:Int) - 1)=(k3.length:Int) - 1:=zh _ (by omega)
 have ck:¬la.ck=0:=by omega
 have s6:¬((k3.length:Int) < 1):=by omega
 have s7:(1:Int)≤(k3.length:Int):=by omega
 have r8:=((zm hO.atA).still ((zK _ _).drew)).cutKids (ks:=k3) rfl 0 (k3.length - 1) la.ck (by omega) (by omega) (by omega)
 simp only [Nat.add_zero,zb] at r8
 have s7:(1:Int)≤(k3.length:Int):=by omega
 have HR8:=zL (hO.doA r8)
 clear hO r8
 go_still_tail 19,(by kernel_rfl)
 go_upto_region 31 with fail
 refine kbD (fun wz=>Tri (parM k) w F H n a b wz ⟨cn,xs.set i z,some (ks.map some)⟩ ⟨ca - 1,x5,some (k3.take (k3.length - 1))⟩ ⟨cb+1,x::xb,some (some c::kb)⟩) HR8.out ?_
 clear N3 NC z2 hlen s0 s1 s2 s3 s6 s7 ck HR8 HT
 rintro w17 hT
 have HT:=zL hT
 clear hT
 have eK:k3.take (k3.length - 1)=ka.take (ka.length - 1):=by rw [hlk3.out,hk3.out]
 rw [eK] at HT
 clear eK
 obtain ⟨k5,hk5⟩:∃k5,k5=ka.take (ka.length - 1):=⟨_,rfl⟩
 rw [←hk5] at HT
 replace hk5:=zL hk5
 obtain ⟨k6,hk6⟩:∃k6,k6=some c::kb:=⟨_,rfl⟩
 rw [←hk6] at HT
 have hkl6:1≤k6.length∧k6.length≤1002:=by rw [hk6];simp;omega
 have HKF:Hid (k6[0]?=some (some c)):=zL (by rw [hk6];rfl)
 replace hk6:=zL hk6
 obtain ⟨ln,la,lb,hO⟩:=HT.out.open na nb ab
 have C1:=hO.atA.c1
 have B3:=hO.atB.c3s (ks:=k6) rfl
 have BC:=hO.atB.cc (ks:=k6) rfl
 have BK:=hO.atB.kidc (ks:=k6) rfl (j:=0) HKF.out
 simp only [kidV,Nat.add_zero] at BK
 have CC:=HT.out.other HCC.out cN cA cB
 have z1:=hO.atA.fz 1
 have j2:(0:Int) < (k6.length:Int):=by omega
 have j3:0 < k6.length:=by omega
 have s9:Ij.wrap (ca - 1 - sc.cnt)=ca - 1 - sc.cnt:=zh _ (by omega)
 have r8:=((zm hO.atA).still ((zK _ _).drew)).setCnt (ca - 1 - sc.cnt)
 have HR8:=zL (hO.doA r8)
 clear hO r8
 go_still_tail 16,(by kernel_rfl)
 go_upto_region 32 with fail
 refine kbD (fun wz=>Tri (parM k) w F H n a b wz ⟨cn,xs.set i z,some (ks.map some)⟩ ⟨ca - 1 - sc.cnt,x5,some k5⟩ ⟨cb+1,x::xb,some k6⟩) HR8.out ?_
 clear C1 B3 BC BK CC z1 j2 j3 s9 HR8 HT
 intro w18 hT
 have HT:=zL hT
 clear hT
 obtain ⟨ln,la,lb,hO⟩:=HT.out.open na nb ab
 have C1:=hO.atB.c1
 have B3:=hO.atB.c3s (ks:=k6) rfl
 have BC:=hO.atB.cc (ks:=k6) rfl
 have BK:=hO.atB.kidc (ks:=k6) rfl (j:=0) HKF.out
 simp only [kidV,Nat.add_zero] at BK
 have CC:=HT.out.other HCC.out cN cA cB
 have z1:=hO.atB.fz 1
 have j2:(0:Int) < (k6.length:Int):=by omega
 have j3:0 < k6.length:=by omega
 have s9:Ij.wrap (cb+1+sc.cnt)=cb+1+sc.cnt:=zh _ (by omega)
 have r8:=((zm hO.atB).still ((zK _ _).drew)).setCnt (cb+1+sc.cnt)
 have HR8:=zL (hO.doB r8)
 clear hO r8
 go_still_tail 16,(by kernel_rfl)
 rw [hx5.out,hk5.out,hk6.out] at HR8
 go_wp2_with fail
 refine bodyPost_end (v:=Iu #[]) (by simp [results,Try.results80,go_sem]) rfl ⟨rfl,?_⟩
 exact HR8.out
end
end Go.Proofs.Ytnohimhihombmaa
