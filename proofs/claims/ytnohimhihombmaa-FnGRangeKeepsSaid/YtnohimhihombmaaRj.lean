/- nodeRebalance, where an item of the right child goes to the left one: branches. -/
import Derived.Test.YtnohimhihombmaaT1
import Derived.Test.YtnohimhihombmaaR1
namespace Go.Proofs.Ytnohimhihombmaa
set_option linter.unusedSimpArgs false
set_option linter.unusedVariables false
set_option maxRecDepth 100000
set_option maxHeartbeats 40000000
open Value renaming int → Ii, pointer → Ip, slice → Is, tuple → Iu
open IntKind renaming i64 → Ij
open Obj renaming cells → Ic
open Ending renaming returned → Ir
open Option.some renaming inj → Iq
open _root_.Go.Proofs.Try renaming prog → Tp
open List renaming setIfInBounds_toArray → zA, set_cons_zero → zB, set_cons_succ → zC, getElem?_cons_zero → zD, getElem?_cons_succ → zE, getElem?_eq_some_iff → zG, getElem?_eq_getElem → zH, length_set → zW, filterMap_cons → zX, filterMap_nil → zY, drop_succ_cons → za, drop_zero → zb
open Chg renaming refl → zK
open Lib renaming hid → zL
open IntWalk renaming i64_in → zh
open Run renaming start → zm
section
open Go.RowKit
variable {ord:List Int}
theorem reb_left_kids {k:Kc ord} {mn mx:Nat} {w:World} {F:Nat→Prop} {H:HN ord} {t n a b i:Nat} {cn ca cb:Int} {xs xa xb:List (It ord)} {ka kb:List (Option Nat)} {ks:List Nat} {c:Nat} {sc:NodeR (It ord)} {x y:It ord}
  (hF:Fam (parM k) w F H) (hm:MapAt k mn mx w t) (hout:∀b,MOwn k t b→¬F b) (hn:H n=some ⟨cn,xs,some (ks.map some)⟩) (hk:ks.length=xs.length+1) (ha:H a=some ⟨ca,xa,some ka⟩) (hb:H b=some ⟨cb,xb,some kb⟩)
  (hia:ks[i]?=some a) (hib:ks[i+1]?=some b) (na:n≠a) (nb:n≠b) (ab:a≠b) (hx:xs[i]?=some x) (hy:xb[0]?=some y) (hi:i < xs.length) (hxl:xs.length≤1000) (hmx:mx≤1000)
  (hsum:mx≤xa.length+xb.length) (hlt:xa.length < xb.length) (hxb:xb.length≤1000) (hca:0≤ca∧ca≤100000000000000) (hcb:0≤cb∧cb≤100000000000000) (hc0:kb[0]?=some (some c)) (hcc:H c=some sc) (cN:c≠n) (cA:c≠a) (cB:c≠b) (hcs:0≤sc.cnt∧sc.cnt≤100000000000000) (hkal:ka.length≤1001) (hkbl:kb.length≤1001) :
  Calls Tp 80 #[Ip (some ⟨t,0,none⟩),Ip (some ⟨n,0,none⟩),Ii Ij i] w
   (RebPost k w F H n a b ⟨cn,xs.set i y,some (ks.map some)⟩ ⟨ca+1+sc.cnt,xa++[x],some (ka++[some c])⟩ ⟨cb - 1 - sc.cnt,xb.tail,some kb.tail⟩):=by
 have hne:((i:Int) == (xs.length:Int))=false:=by simp;omega
 have hla:¬((xa.length:Int)+(xb.length:Int) < (mx:Int)):=by omega
 have hgt:¬xb.length < xa.length:=by omega
 have hl1:(0:Int)≤(xa.length:Int):=by omega
 have hl2:(0:Int)≤(xb.length:Int):=by omega
 have hl3:(xa.length:Int)≤1000:=by omega
 have hl4:(xb.length:Int)≤1000:=by omega
 have HY:=zL hy
 have HC0:=zL hc0
 have HCC:=zL hcc
 clear hy hc0 hcc
 have hc0:=zK (fun _ _=>False) w
 have HT0:=zL (Tri.start (p:=parM k) hF hc0 hn ha hb)
 obtain ⟨ln0,la0,lb0,hO0⟩:=HT0.out.open na nb ab
 have N2:=hO0.atN.c2
 have N3:=hO0.atN.c3s (ks:=ks.map some) rfl
 have NC:=hO0.atN.cc (ks:=ks.map some) rfl
 rw [List.length_map] at NC
 have Ka:w.cell? ⟨ln0.cb,ln0.co+i,none⟩=some (Ip (some ⟨a,0,none⟩)):=hO0.atN.kidc (ks:=ks.map some) rfl (j:=i) (o:=some a) (by simp [hia])
 have Kb:w.cell? ⟨ln0.cb,ln0.co+(i+1),none⟩=some (Ip (some ⟨b,0,none⟩)):=hO0.atN.kidc (ks:=ks.map some) rfl (j:=i+1) (o:=some b) (by simp [hib])
 have a0:w.cell? ⟨a,0,none⟩=some (.int .u64 k.iso):=hO0.atA.c0
 have b0:w.cell? ⟨b,0,none⟩=some (.int .u64 k.iso):=hO0.atB.c0
 have t0:=hm.c0
 have A2:=hO0.atA.c2
 have B2:=hO0.atB.c2
 have t7:=hm.c7
 have i0':(0:Int)≤(i:Int):=by omega
 have i1':(i:Int) < (ks.length:Int):=by omega
 have i2':(i:Int)+1 < (ks.length:Int):=by omega
 have i3':(0:Int)≤(i:Int)+1:=by omega
 have i4':((i:Int)+1).toNat=i+1:=by omega
 have i5':Ij.wrap ((i:Int)+1)=(i:Int)+1:=zh _ (by omega)
 have HNL:=zL hk
 have HIA:=zL hia
 have HIB:=zL hib
 have HM:=zL hm
 have HX:=zL hx
 clear hO0 hn ha hb hF hk hia hib hm hx hc0
 go_enter Try.func80,Try.ntmps80
 skip
 go_wp2_with fail
 refine (kcD t a k _ true _ Ka a0 t0).mono ?_
 rintro e w1 ⟨rfl,m1,hw1⟩
 have hc1:Chg (fun _ _=>False) w w1:=by rw [hw1];exact (zK _ _).drewN _
 clear hw1
 replace N3:=hc1.q N3
 replace NC:=hc1.q NC
 replace Kb:=hc1.q Kb
 replace b0:=hc1.q b0
 replace t0:=hc1.q t0
 replace A2:=hc1.q A2
 replace B2:=hc1.q B2
 replace t7:=hc1.q t7
 clear N2 Ka a0
 go_wp2_with fail
 refine (kcD t b k _ true _ Kb b0 t0).mono ?_
 rintro e w2 ⟨rfl,m2,hw2⟩
 have hc12:Chg (fun _ _=>False) w1 w2:=by rw [hw2];exact (zK _ _).drewN _
 have hc2:=hc1.trans hc12
 clear hw2
 replace A2:=hc12.q A2
 replace B2:=hc12.q B2
 replace t7:=hc12.q t7
 clear N3 NC Kb b0 t0 hc12 hc1
 go_wp2_with fail
 go_quiet (fail)
 go_upto_region 16 with fail
 go_quiet (fail)
 go_upto_region 33 with fail
 refine kbD (fun w3=>Chg (fun _ _=>False) w w3) ((hc2.drewN _).drewN _) ?_
 intro w3 hc3
 have HT:=zL (HT0.out.still hc3)
 clear A2 B2 t7 hc2 HT0
 obtain ⟨ln,la,lb,hO⟩:=HT.out.open na nb ab
 have A2:w3.cell? ⟨a,2,none⟩=some (Is (some ⟨la.ib,la.io,none⟩) xa.length la.ic):=hO.atA.c2
 have N2:w3.cell? ⟨n,2,none⟩=some (Is (some ⟨ln.ib,ln.io,none⟩) xs.length ln.ic):=hO.atN.c2
 have iv:=hO.atN.mval (j:=i) HX.out
 have ik:=hO.atN.mkey (j:=i) HX.out
 have za:=hO.atA.fz 2
 have alt:=World.block_lt_of_cell? _ _ A2
 have hlen:xa.length≤la.ic:=hO.atA.len
 have arow:=hO.atA.row
 have j0:(0:Int)≤(i:Int):=by omega
 have j1:(i:Int) < (xs.length:Int):=by omega
 have e1:∀B O,(B=la.ib∧la.io+xa.length * 2≤O∧O < la.io+la.ic * 2)→Ext (parM k) a ⟨ca,xa,some ka⟩ la B O:=fun B O h=>NodeAt.extRow (m:=xa.length * 2) h
 have E1:=zL e1
 have HO:=zL hO
 obtain ⟨i0,hi0,hz0,hz1,hz2⟩:=info_parts kfS
 clear hO e1
 refine kcS (fun w'=>w'.cell? ⟨a,2,none⟩=some (Is (some ⟨la.ib,la.io,none⟩) xa.length la.ic)∧w'.cell? ⟨n,2,none⟩=some (Is (some ⟨ln.ib,ln.io,none⟩) xs.length ln.ic)∧w'.cell? ⟨ln.ib,ln.io+i * 2,none⟩=some (Ii Ij x.1)∧w'.cell? ⟨ln.ib,ln.io+i * 2+1,none⟩=some (Ii Ij x.2))
  14 [0,1,2,3,4,5,6,7,8,9,10,11] [12,13] (by kernel_rfl) (by kernel_rfl) (fun _ _ _ _ _ h=>h) rfl rfl ⟨A2,N2,iv,ik⟩ ?_
 simp only [kbK,zX,zY,zD,zE]
 iterate 12
  refine kbR ?_ rfl ?_ ?_
  rotate_left
  ·intro w' hS
   obtain ⟨a1,a2,a3,a4⟩:=hS
   go_simp
   try with_reducible rfl
  simp only [Act.put,zA,zB,zC]
 refine kbS ?_
 have hca:Chg (fun _ _=>False) w3 (w3.alloc (Ic #[Ii Ij x.1,Ii Ij x.2] 27)).drew:=((zK _ _).alloc _).drew
 refine kbN (fun K hK=>?_)
 go_simp
 refine hK _ _ ⟨hca.q A2,hca.q N2,hca.q iv,hca.q ik⟩ ?_
 iterate 0 go_keep
 clear hK K
 refine kbN (fun K hK=>?_)
 refine kcC _ _ _ (by rfl) 27 i0 _ 2 16 Try.underlying25 hi0 hz0 hz1 hz2 rfl la.ib la.io xa.length la.ic (by rfl) (flat (parM k) xa) ((arow.alloc _).drew) (kcW _ _) ⟨w3.heap.size,0,none⟩ 1 _ (by rfl) [Ii Ij x.1,Ii Ij x.2] (by rfl) (World.news_of_block (cs:=#[Ii Ij x.1,Ii Ij x.2]) (t:=27) (fr:=(0,0)) (heap_alloc_new w3 _)) (by simp [Value.oneCell']) (by unfold maxLen;omega) (by omega) ?_
 intro b' o1 cap' w7 happ
 have hch:=happ.chg
 have nib:a≠la.ib:=Ne.symm HO.out.atA.d1
 have A2':=hch.cell (a:=⟨a,2,none⟩) (fun h=>nib h.1) (hca.q A2)
 have N2':=hch.cell (a:=⟨n,2,none⟩) (fun h=>HO.out.na _ _ (.inl rfl) (E1.out _ _ h)) (hca.q N2)
 have iv':=hch.cell (a:=⟨ln.ib,ln.io+i * 2,none⟩) (fun h=>HO.out.na _ _ (HO.out.atN.extItem (j:=i) (q:=0) hi (show 0 < 2 by decide)) (E1.out _ _ h)) (hca.q iv)
 have ik':=hch.cell (a:=⟨ln.ib,ln.io+i * 2+1,none⟩) (fun h=>HO.out.na _ _ (HO.out.atN.extItem (j:=i) (q:=1) hi (show 1 < 2 by decide)) (E1.out _ _ h)) (hca.q ik)
 have z2':w7.frozen? ⟨a,2,none⟩=false:=by rw [hch.frozen (Nat.lt_of_lt_of_le alt hca.size),hca.frozen alt];exact za
 have r8:=((zm HO.out.atA).still hca).append [x] happ (zK _ _)
 have hT8:=HO.out.doA r8
 have HT8:=zL hT8
 refine hK _ _ ⟨A2',N2',iv',ik'⟩ ?_
 clear hK K A2 N2 iv ik r8 hT8 hch
 simp only [kdC,za,zb,Act.put,zA,zB,zC]
 go_upto_region 34 with fail
 refine kbD (fun wz=>∃ya,ya=xa++[x]∧Tri (parM k) w F H n a b wz ⟨cn,xs,some (ks.map some)⟩ ⟨ca,ya,some ka⟩ ⟨cb,xb,some kb⟩) ⟨_,rfl,HT8.out⟩ ?_
 clear A2' N2' iv' ik' z2' happ hca za alt hlen arow nib HO E1 HT8 HT hi0 hz0 hz1 hz2 i0 j0 j1
 rintro w4 ⟨y1,hy1,hT⟩
 replace hy1:=zL hy1
 have HT:=zL hT
 clear hT
 obtain ⟨ln,la,lb,hO⟩:=HT.out.open na nb ab
 have C1:=hO.atA.c1
 have z1:=hO.atA.fz 1
 have s1:Ij.wrap (ca+1)=ca+1:=zh _ (by omega)
 have r8:=(zm hO.atA).setCnt (ca+1)
 have HR8:=zL (hO.doA r8)
 clear hO r8
 go_upto_region 35 with fail
 refine kbD (fun wz=>Tri (parM k) w F H n a b wz ⟨cn,xs,some (ks.map some)⟩ ⟨ca+1,y1,some ka⟩ ⟨cb,xb,some kb⟩) HR8.out ?_
 clear C1 z1 s1 HR8 HT
 intro w5 hT
 have HT:=zL hT
 clear hT
 obtain ⟨ln,la,lb,hO⟩:=HT.out.open na nb ab
 have N2:w5.cell? ⟨n,2,none⟩=some (Is (some ⟨ln.ib,ln.io,none⟩) xs.length ln.ic):=hO.atN.c2
 have B2:w5.cell? ⟨b,2,none⟩=some (Is (some ⟨lb.ib,lb.io,none⟩) xb.length lb.ic):=hO.atB.c2
 have bv:=hO.atB.mval (j:=0) HY.out
 have bk:=hO.atB.mkey (j:=0) HY.out
 simp only [Nat.zero_mul,Nat.add_zero] at bv bk
 have iv:=hO.atN.mval (j:=i) HX.out
 have ik:=hO.atN.mkey (j:=i) HX.out
 have z0:=hO.atN.ifz (ln.io+i * 2)
 have z1:=hO.atN.ifz (ln.io+i * 2+1)
 have j0:(0:Int)≤(i:Int):=by omega
 have j1:(i:Int) < (xs.length:Int):=by omega
 have j2:(0:Int) < (xb.length:Int):=by omega
 have j3:0 < xb.length:=by omega
 have r8:=((zm hO.atN).still ((zK _ _).drew)).setItemM i y hi
 have HR8:=zL (hO.doN r8)
 clear hO r8
 go_still_tail 11,(by kernel_rfl)
 go_upto_region 36 with fail
 refine kbD (fun wz=>Tri (parM k) w F H n a b wz ⟨cn,xs.set i y,some (ks.map some)⟩ ⟨ca+1,y1,some ka⟩ ⟨cb,xb,some kb⟩) HR8.out ?_
 clear N2 B2 bv bk iv ik z0 z1 j0 j1 j2 j3 HR8 HT
 intro w6 hT
 have HT:=zL hT
 clear hT
 obtain ⟨ln,la,lb,hO⟩:=HT.out.open na nb ab
 have N2:w6.cell? ⟨b,2,none⟩=some (Is (some ⟨lb.ib,lb.io,none⟩) xb.length lb.ic):=hO.atB.c2
 have hlen:xb.length≤lb.ic:=hO.atB.len
 have s4:(1:Int)≤(xb.length:Int):=by omega
 have s5:1≤xb.length:=by omega
 obtain ⟨sp,hif,hsp⟩:∃sp,(if lb.ic=1 then some (⟨lb.ib,lb.io,none⟩:Addr) else some ⟨lb.ib,lb.io+2,none⟩)=some sp∧(0+1 < xb.length→sp=⟨lb.ib,lb.io+(0+1) * 2,none⟩):=by
  by_cases h:lb.ic=1
  ·exact ⟨_,by rw [if_pos h],fun h2=>by omega⟩
  ·exact ⟨_,by rw [if_neg h],fun _=>by simp⟩
 have HSP:=zL hsp
 have HO:=zL hO
 clear hO hsp
 go_still_tail 9,(by kernel_rfl)
 refine kfQ (p:=parM k) (by rfl) _ _ _ _ (by rfl) 27 (by kernel_rfl) kdD ((zm HO.out.atB).still ((zK _ _).drew)) 0 lb.io _ _ _ _ (by show 0 < xb.length;omega) (by simp) (by rfl) sp (by rfl) (by simpa [parM] using HSP.out) (by first | rfl | simp) (by first | rfl | simp) ?_
 intro w8 ys r8 hys1 hys2
 replace hys1:=zL hys1
 replace hys2:=zL hys2
 clear s4 s5 hif N2 hlen HSP
 go_upto_region 37 with fail
 refine kbD (fun wz=>∃ys,ys.length=xb.length∧ys.take (xb.length - 1)=xb.drop 1∧Tri (parM k) w F H n a b wz ⟨cn,xs.set i y,some (ks.map some)⟩ ⟨ca+1,y1,some ka⟩ ⟨cb,ys,some kb⟩) ⟨ys,hys1.out,hys2.out,HO.out.doB r8⟩ ?_
 clear r8 hys1 hys2 HO HT
 rintro w7 ⟨y3,hly3,hy3,hT⟩
 replace hly3:=zL hly3
 replace hy3:=zL hy3
 have HT:=zL hT
 clear hT
 have hyb:1≤y3.length∧y3.length≤1001:=by rw [hly3.out];omega
 obtain ⟨ln,la,lb,hO⟩:=HT.out.open na nb ab
 have N2:w7.cell? ⟨b,2,none⟩=some (Is (some ⟨lb.ib,lb.io,none⟩) y3.length lb.ic):=hO.atB.c2
 have hm1:=HM.out.chg HT.out.chg (fun b o hm h=>hout b hm h)
 have e4:=hm1.c4
 have e5:=hm1.c5
 have hlen:y3.length≤lb.ic:=hO.atB.len
 have s0:(0:Int)≤(y3.length:Int) - 1:=by omega
 have s2:(y3.length:Int) - 1 < (y3.length:Int):=by omega
 have s3:((y3.length:Int) - 1).toNat=y3.length - 1:=by omega
 have s1:Ij.wrap ((y3.length:Int) - 1)=(y3.length:Int) - 1:=zh _ (by omega)
 have hlt:y3.length - 1 < y3.length:=by omega
 have z0:=hO.atB.ifz (lb.io+(y3.length - 1) * 2)
 have z1:=hO.atB.ifz (lb.io+(y3.length - 1) * 2+1)
 obtain ⟨y6,hy6⟩:∃y,y3[y3.length - 1]?=some y:=⟨_,zH hlt⟩
 have iv:=hO.atB.mval (j:=y3.length - 1) hy6
 have ik:=hO.atB.mkey (j:=y3.length - 1) hy6
 have r8:=((zm hO.atB).still ((zK _ _).drew)).setItemM (y3.length - 1) ((0,0):Int×Int) hlt
 have HR8:=zL (hO.doB r8)
 clear hO hm1 hy6 r8
 go_still_tail 14,(by kernel_rfl)
 go_upto_region 38 with fail
 refine kbD (fun wz=>∃ys,ys.length=y3.length∧ys.take (y3.length - 1)=y3.take (y3.length - 1)∧Tri (parM k) w F H n a b wz ⟨cn,xs.set i y,some (ks.map some)⟩ ⟨ca+1,y1,some ka⟩ ⟨cb,ys,some kb⟩) ⟨_,zW,kdB _ _ _,HR8.out⟩ ?_
 clear N2 e4 e5 hlen s0 s1 s2 s3 hlt z0 z1 iv ik HR8 HT y6
 rintro w8 ⟨y4,hly4,hy4,hT⟩
 replace hly4:=zL hly4
 replace hy4:=zL hy4
 have HT:=zL hT
 clear hT
 have hyb:1≤y4.length∧y4.length≤1001:=by rw [hly4.out,hly3.out];omega
 obtain ⟨ln,la,lb,hO⟩:=HT.out.open na nb ab
 have N2:w8.cell? ⟨b,2,none⟩=some (Is (some ⟨lb.ib,lb.io,none⟩) y4.length lb.ic):=hO.atB.c2
 have z2:=hO.atB.fz 2
 have hlen:y4.length≤lb.ic:=hO.atB.len
 have s0:(0:Int)≤(y4.length:Int) - 1:=by omega
 have s2:(y4.length:Int) - 1≤(lb.ic:Int):=by omega
 have s3:((y4.length:Int) - 1).toNat=y4.length - 1:=by omega
 have s1:Ij.wrap ((y4.length:Int) - 1)=(y4.length:Int) - 1:=zh _ (by omega)
 have ck:¬lb.ic=0:=by omega
 have s6:¬((y4.length:Int) < 1):=by omega
 have s7:(1:Int)≤(y4.length:Int):=by omega
 have r8:=((zm hO.atB).still ((zK _ _).drew)).cut 0 (y4.length - 1) lb.ic (by show 0+(y4.length - 1)≤y4.length;omega) (by omega) (by omega)
 simp only [Nat.zero_mul,Nat.add_zero,zb] at r8
 have HR8:=zL (hO.doB r8)
 clear hO r8
 go_still_tail 12,(by kernel_rfl)
 go_upto_region 39 with fail
 refine kbD (fun wz=>Tri (parM k) w F H n a b wz ⟨cn,xs.set i y,some (ks.map some)⟩ ⟨ca+1,y1,some ka⟩ ⟨cb,y4.take (y4.length - 1),some kb⟩) HR8.out ?_
 clear N2 z2 hlen s0 s1 s2 s3 s6 s7 ck HR8 HT
 rintro w9 hT
 have HT:=zL hT
 clear hT
 obtain ⟨ln,la,lb,hO⟩:=HT.out.open na nb ab
 have C1:=hO.atB.c1
 have z1:=hO.atB.fz 1
 have s1:Ij.wrap (cb - 1)=cb - 1:=zh _ (by omega)
 have r8:=(zm hO.atB).setCnt (cb - 1)
 have HR8:=zL (hO.doB r8)
 clear hO r8
 go_upto_region 40 with fail
 refine kbD (fun wz=>Tri (parM k) w F H n a b wz ⟨cn,xs.set i y,some (ks.map some)⟩ ⟨ca+1,y1,some ka⟩ ⟨cb - 1,y4.take (y4.length - 1),some kb⟩) HR8.out ?_
 clear C1 z1 s1 HR8 HT
 intro w10 hT
 have HT:=zL hT
 clear hT
 have eI:y4.take (y4.length - 1)=xb.drop 1:=by rw [hly4.out,hy4.out,hly3.out,hy3.out]
 rw [eI] at HT
 clear eI
 obtain ⟨x5,hx5⟩:∃x5,x5=xb.drop 1:=⟨_,rfl⟩
 rw [←hx5] at HT
 replace hx5:=zL hx5
 obtain ⟨ln,la,lb,hO⟩:=HT.out.open na nb ab
 have n3:=hO.atA.c3s rfl
 have lacc:=la.cc
 clear hO
 go_wp2_with (go_at_call 51;refine (kcJ _ (some ⟨la.cc,0,none⟩) _ ?_).mono ?_;(focus go_simp);rintro e w' ⟨rfl,rfl⟩)
 go_upto_region 41 with fail
 refine kbD (fun wz=>Tri (parM k) w F H n a b wz ⟨cn,xs.set i y,some (ks.map some)⟩ ⟨ca+1,y1,some ka⟩ ⟨cb - 1,x5,some kb⟩) (HT.out.still (zK _ _)) ?_
 clear n3 HT
 intro w11 hT
 have HT:=zL hT
 clear hT
 obtain ⟨ln,la,lb,hO⟩:=HT.out.open na nb ab
 have hkx:=hO.atA.d2 (by simp)
 have hkb0:0 < kb.length:=(zG.1 HC0.out).1
 have A3:=hO.atA.c3s (ks:=ka) rfl
 have AC:=hO.atA.cc (ks:=ka) rfl
 have B3:=hO.atB.c3s (ks:=kb) rfl
 have BC:=hO.atB.cc (ks:=kb) rfl
 have BK:=hO.atB.kidc (ks:=kb) rfl HC0.out
 simp only [Nat.add_zero,kidV] at BK
 have za:=hO.atA.ccz (ks:=ka) rfl 0
 have alt:=World.block_lt_of_cell? _ _ AC
 have hlen:ka.length≤la.ck:=hO.atA.klen (ks:=ka) rfl
 have arow:=(hO.atA.kid (ks:=ka) rfl).2
 have j2:(0:Int) < (kb.length:Int):=by omega
 have e1:∀B O,(B=la.cb∧la.co+ka.length * 1≤O∧O < la.co+la.ck * 1)→Ext (parM k) a ⟨ca+1,y1,some ka⟩ la B O:=fun B O h=>NodeAt.extKid (m:=ka.length) (by simp) ⟨h.1,by omega,by omega⟩
 have E1:=zL e1
 have HO:=zL hO
 have HKX:=zL hkx
 obtain ⟨i0,hi0,hz0,hz1,hz2⟩:=info_parts infoNode
 clear hO e1 hkx
 refine kcS (fun w'=>w'.cell? ⟨a,3,none⟩=some (Ip (some ⟨la.cc,0,none⟩))∧w'.cell? ⟨la.cc,0,none⟩=some (Is (some ⟨la.cb,la.co,none⟩) ka.length la.ck)∧w'.cell? ⟨b,3,none⟩=some (Ip (some ⟨lb.cc,0,none⟩))∧w'.cell? ⟨lb.cc,0,none⟩=some (Is (some ⟨lb.cb,lb.co,none⟩) kb.length lb.ck)∧w'.cell? ⟨lb.cb,lb.co,none⟩=some (Ip (some ⟨c,0,none⟩)))
  20 [0,1,2,3,4,5,6,7,8,9,10,11,12,13,14,15,16,17] [18,19] (by kernel_rfl) (by kernel_rfl) (fun _ _ _ _ _ h=>h) rfl rfl ⟨A3,AC,B3,BC,BK⟩ ?_
 simp only [kbK,zX,zY,zD,zE]
 iterate 18
  refine kbR ?_ rfl ?_ ?_
  rotate_left
  ·intro w' hS
   obtain ⟨a1,a2,a3,a4,a5⟩:=hS
   go_simp
   try with_reducible rfl
  simp only [Act.put,zA,zB,zC]
 refine kbS ?_
 have hca:Chg (fun _ _=>False) w11 (w11.alloc (Ic #[Ip (some ⟨c,0,none⟩)] 97)).drew:=((zK _ _).alloc _).drew
 refine kbN (fun K hK=>?_)
 go_simp
 refine hK _ _ ⟨hca.q A3,hca.q AC,hca.q B3,hca.q BC,hca.q BK⟩ ?_
 iterate 0 go_keep
 clear hK K
 refine kbN (fun K hK=>?_)
 refine kcC _ _ _ (by rfl) 97 i0 _ 1 8 Try.underlying111 hi0 hz0 hz1 hz2 rfl la.cb la.co ka.length la.ck (by rfl) (ka.map kidV) (by rw [Nat.mul_one];exact (arow.alloc _).drew) (by simp) ⟨w11.heap.size,0,none⟩ 1 _ (by rfl) [Ip (some ⟨c,0,none⟩)] (by rfl) (World.news_of_block (cs:=#[Ip (some ⟨c,0,none⟩)]) (t:=97) (fr:=(0,0)) (heap_alloc_new w11 _)) (by simp [Value.oneCell']) (by unfold maxLen;omega) (by omega) ?_
 intro b' o1 cap' w7 happ
 have hch:=happ.chg
 have A3':=hch.cell (a:=⟨a,3,none⟩) (fun h=>HKX.out.2.1 h.1.symm) (hca.q A3)
 have AC':=hch.cell (a:=⟨la.cc,0,none⟩) (fun h=>HKX.out.2.2.2.2 h.1.symm) (hca.q AC)
 have B3':=hch.cell (a:=⟨b,3,none⟩) (fun h=>HO.out.ab _ _ (E1.out _ _ h) (.inl rfl)) (hca.q B3)
 have BC':=hch.cell (a:=⟨lb.cc,0,none⟩) (fun h=>HO.out.ab _ _ (E1.out _ _ h) (.inr (.inr ⟨by simp,.inl rfl⟩))) (hca.q BC)
 have hlb:kb.length≤lb.ck:=HO.out.atB.klen (ks:=kb) rfl
 have BK':=hch.cell (a:=⟨lb.cb,lb.co,none⟩) (fun h=>HO.out.ab _ _ (E1.out _ _ h) (.inr (.inr ⟨by simp,.inr ⟨rfl,Nat.le_refl _,(show lb.co < lb.co+lb.ck by omega)⟩⟩))) (hca.q BK)
 have z2':w7.frozen? ⟨la.cc,0,none⟩=false:=by rw [hch.frozen (Nat.lt_of_lt_of_le alt hca.size),hca.frozen alt];exact za
 have r8:=((zm HO.out.atA).still hca).appendKids (ks:=ka) rfl [some c] happ (zK _ _)
 have hT8:=HO.out.doA r8
 have HT8:=zL hT8
 refine hK _ _ ⟨A3',AC',B3',BC',BK'⟩ ?_
 clear hK K A3 AC B3 BC BK r8 hT8 hch hlb j2
 simp only [kdC,za,zb,Act.put,zA,zB,zC]
 go_upto_region 42 with fail
 refine kbD (fun wz=>∃ya,ya=ka++[some c]∧Tri (parM k) w F H n a b wz ⟨cn,xs.set i y,some (ks.map some)⟩ ⟨ca+1,y1,some ya⟩ ⟨cb - 1,x5,some kb⟩) ⟨_,rfl,HT8.out⟩ ?_
 clear A3' AC' B3' BC' BK' z2' happ hca za alt hlen arow HO E1 HT8 HT HKX hi0 hz0 hz1 hz2 i0 hkb0
 rintro w12 ⟨k1,hk1,hT⟩
 replace hk1:=zL hk1
 have HT:=zL hT
 clear hT
 obtain ⟨ln,la,lb,hO⟩:=HT.out.open na nb ab
 have hkb0:0 < kb.length:=(zG.1 HC0.out).1
 have N3:=hO.atB.c3s (ks:=kb) rfl
 have NC:=hO.atB.cc (ks:=kb) rfl
 have hlen:kb.length≤lb.ck:=hO.atB.klen (ks:=kb) rfl
 have s4:(1:Int)≤(kb.length:Int):=by omega
 have s5:1≤kb.length:=by omega
 obtain ⟨sp,hif,hsp⟩:∃sp,(if lb.ck=1 then some (⟨lb.cb,lb.co,none⟩:Addr) else some ⟨lb.cb,lb.co+1,none⟩)=some sp∧(0+1 < kb.length→sp=⟨lb.cb,lb.co+(0+1),none⟩):=by
  by_cases h:lb.ck=1
  ·exact ⟨_,by rw [if_pos h],fun h2=>by omega⟩
  ·exact ⟨_,by rw [if_neg h],fun _=>by simp⟩
 have HSP:=zL hsp
 have HO:=zL hO
 clear hO hsp
 go_still_tail 13,(by kernel_rfl)
 refine kgS (p:=parM k) (by rfl) _ _ _ _ (by rfl) 97 (by kernel_rfl) kgH ((zm HO.out.atB).still ((zK _ _).drew)) (kb) rfl 0 lb.co _ _ _ _ hkb0 rfl (by rfl) sp (by rfl) HSP.out (by first | rfl | simp) (by first | rfl | simp) ?_
 intro w8 ys r8 hys1 hys2
 replace hys1:=zL hys1
 replace hys2:=zL hys2
 clear s4 s5 hif N3 NC hlen HSP
 go_upto_region 43 with fail
 refine kbD (fun wz=>∃ys,ys.length=kb.length∧ys.take (kb.length - 1)=kb.drop 1∧Tri (parM k) w F H n a b wz ⟨cn,xs.set i y,some (ks.map some)⟩ ⟨ca+1,y1,some k1⟩ ⟨cb - 1,x5,some ys⟩) ⟨ys,hys1.out,hys2.out,HO.out.doB r8⟩ ?_
 clear r8 hys1 hys2 HO HT hkb0
 rintro w13 ⟨k2,hlk2,hk2,hT⟩
 replace hlk2:=zL hlk2
 replace hk2:=zL hk2
 have HT:=zL hT
 clear hT
 have hkb0:0 < kb.length:=(zG.1 HC0.out).1
 have hyb:1≤k2.length∧k2.length≤1002:=by rw [hlk2.out];omega
 obtain ⟨ln,la,lb,hO⟩:=HT.out.open na nb ab
 have N3:=hO.atB.c3s (ks:=k2) rfl
 have NC:=hO.atB.cc (ks:=k2) rfl
 have hlen:k2.length≤lb.ck:=hO.atB.klen (ks:=k2) rfl
 have s0:(0:Int)≤(k2.length:Int) - 1:=by omega
 have s2:(k2.length:Int) - 1 < (k2.length:Int):=by omega
 have s3:((k2.length:Int) - 1).toNat=k2.length - 1:=by omega
 have s1:Ij.wrap ((k2.length:Int) - 1)=(k2.length:Int) - 1:=zh _ (by omega)
 have hlt:k2.length - 1 < k2.length:=by omega
 have z0:=hO.atB.kidz (ks:=k2) rfl (lb.co+(k2.length - 1))
 obtain ⟨y6,hy6⟩:∃y,k2[k2.length - 1]?=some y:=⟨_,zH hlt⟩
 have iv:=hO.atB.kidc (ks:=k2) rfl hy6
 have r8:=((zm hO.atB).still ((zK _ _).drew)).setKid (ks:=k2) rfl (k2.length - 1) none hlt
 have HR8:=zL (hO.doB r8)
 clear hO hy6 r8
 go_still_tail 14,(by kernel_rfl)
 go_upto_region 44 with fail
 refine kbD (fun wz=>∃ys,ys.length=k2.length∧ys.take (k2.length - 1)=k2.take (k2.length - 1)∧Tri (parM k) w F H n a b wz ⟨cn,xs.set i y,some (ks.map some)⟩ ⟨ca+1,y1,some k1⟩ ⟨cb - 1,x5,some ys⟩) ⟨_,zW,kdB _ _ _,HR8.out⟩ ?_
 clear N3 NC hlen s0 s1 s2 s3 hlt z0 iv HR8 HT y6
 rintro w14 ⟨k3,hlk3,hk3,hT⟩
 replace hlk3:=zL hlk3
 replace hk3:=zL hk3
 have HT:=zL hT
 clear hT
 have hyb:1≤k3.length∧k3.length≤1002:=by rw [hlk3.out,hlk2.out];omega
 obtain ⟨ln,la,lb,hO⟩:=HT.out.open na nb ab
 have N3:=hO.atB.c3s (ks:=k3) rfl
 have NC:=hO.atB.cc (ks:=k3) rfl
 have z2:=hO.atB.ccz (ks:=k3) rfl 0
 have hlen:k3.length≤lb.ck:=hO.atB.klen (ks:=k3) rfl
 have s0:(0:Int)≤(k3.length:Int) - 1:=by omega
 have s2:(k3.length:Int) - 1≤(lb.ck:Int):=by omega
 have s3:((k3.length:Int) - 1).toNat=k3.length - 1:=by omega
 have s1:Ij.wrap ((k3.length:Int) - 1)=(k3.length:Int) - 1:=zh _ (by omega)
 have ck:¬lb.ck=0:=by omega
 have s6:¬((k3.length:Int) < 1):=by omega
 have s7:(1:Int)≤(k3.length:Int):=by omega
 have r8:=((zm hO.atB).still ((zK _ _).drew)).cutKids (ks:=k3) rfl 0 (k3.length - 1) lb.ck (by omega) (by omega) (by omega)
 simp only [Nat.add_zero,zb] at r8
 have s7:(1:Int)≤(k3.length:Int):=by omega
 have HR8:=zL (hO.doB r8)
 clear hO r8
 go_still_tail 19,(by kernel_rfl)
 go_upto_region 45 with fail
 refine kbD (fun wz=>Tri (parM k) w F H n a b wz ⟨cn,xs.set i y,some (ks.map some)⟩ ⟨ca+1,y1,some k1⟩ ⟨cb - 1,x5,some (k3.take (k3.length - 1))⟩) HR8.out ?_
 clear N3 NC z2 hlen s0 s1 s2 s3 s6 s7 ck HR8 HT
 rintro w15 hT
 have HT:=zL hT
 clear hT
 have eK:k3.take (k3.length - 1)=kb.drop 1:=by rw [hlk3.out,hk3.out,hlk2.out,hk2.out]
 rw [eK] at HT
 clear eK
 obtain ⟨k5,hk5⟩:∃k5,k5=kb.drop 1:=⟨_,rfl⟩
 rw [←hk5] at HT
 replace hk5:=zL hk5
 have hkl1:1≤k1.length∧k1.length≤1002:=by rw [hk1.out];simp;omega
 have HKL:Hid (k1[k1.length - 1]?=some (some c)):=zL (by rw [hk1.out];simp)
 obtain ⟨ln,la,lb,hO⟩:=HT.out.open na nb ab
 have C1:=hO.atA.c1
 have A3:=hO.atA.c3s (ks:=k1) rfl
 have AC:=hO.atA.cc (ks:=k1) rfl
 have BK:=hO.atA.kidc (ks:=k1) rfl HKL.out
 simp only [kidV] at BK
 have CC:=HT.out.other HCC.out cN cA cB
 have z1:=hO.atA.fz 1
 have s0:(0:Int)≤(k1.length:Int) - 1:=by omega
 have s2:(k1.length:Int) - 1 < (k1.length:Int):=by omega
 have s3:((k1.length:Int) - 1).toNat=k1.length - 1:=by omega
 have s1:Ij.wrap ((k1.length:Int) - 1)=(k1.length:Int) - 1:=zh _ (by omega)
 have s6:¬((k1.length:Int) < 1):=by omega
 have s7:(1:Int)≤(k1.length:Int):=by omega
 have s9:Ij.wrap (ca+1+sc.cnt)=ca+1+sc.cnt:=zh _ (by omega)
 have r8:=((zm hO.atA).still ((zK _ _).drew)).setCnt (ca+1+sc.cnt)
 have HR8:=zL (hO.doA r8)
 clear hO r8
 go_still_tail 24,(by kernel_rfl)
 go_upto_region 46 with fail
 refine kbD (fun wz=>Tri (parM k) w F H n a b wz ⟨cn,xs.set i y,some (ks.map some)⟩ ⟨ca+1+sc.cnt,y1,some k1⟩ ⟨cb - 1,x5,some k5⟩) HR8.out ?_
 clear C1 A3 AC BK CC z1 s0 s1 s2 s3 s6 s7 s9 HR8 HT
 intro w16 hT
 have HT:=zL hT
 clear hT
 obtain ⟨ln,la,lb,hO⟩:=HT.out.open na nb ab
 have C1:=hO.atB.c1
 have A3:=hO.atA.c3s (ks:=k1) rfl
 have AC:=hO.atA.cc (ks:=k1) rfl
 have BK:=hO.atA.kidc (ks:=k1) rfl HKL.out
 simp only [kidV] at BK
 have CC:=HT.out.other HCC.out cN cA cB
 have z1:=hO.atB.fz 1
 have s0:(0:Int)≤(k1.length:Int) - 1:=by omega
 have s2:(k1.length:Int) - 1 < (k1.length:Int):=by omega
 have s3:((k1.length:Int) - 1).toNat=k1.length - 1:=by omega
 have s1:Ij.wrap ((k1.length:Int) - 1)=(k1.length:Int) - 1:=zh _ (by omega)
 have s6:¬((k1.length:Int) < 1):=by omega
 have s7:(1:Int)≤(k1.length:Int):=by omega
 have s9:Ij.wrap (cb - 1 - sc.cnt)=cb - 1 - sc.cnt:=zh _ (by omega)
 have r8:=((zm hO.atB).still ((zK _ _).drew)).setCnt (cb - 1 - sc.cnt)
 have HR8:=zL (hO.doB r8)
 clear hO r8
 go_still_tail 24,(by kernel_rfl)
 rw [hy1.out,hk1.out,hx5.out,hk5.out,List.drop_one,List.drop_one] at HR8
 go_wp2_with fail
 refine bodyPost_end (v:=Iu #[]) (by simp [results,Try.results80,go_sem]) rfl ⟨rfl,?_⟩
 exact HR8.out
end
end Go.Proofs.Ytnohimhihombmaa
