/- nodeRebalance, where an item of the right child goes to the left one: leaves. -/
import Derived.Deep.Cut
import Derived.Deep.CutRange
import Derived.Test.YtnohimhihombmaaA2
import Derived.Test.YtnohimhihombmaaA4
import Derived.Test.YtnohimhihombmaaT1
namespace Go.Proofs.Ytnohimhihombmaa
set_option linter.unusedSimpArgs false
set_option linter.unusedVariables false
set_option maxRecDepth 100000
set_option maxHeartbeats 40000000
open Value renaming int → Ii, pointer → Ip, slice → Is, tuple → Iu
open IntKind renaming i64 → Ij
open Obj renaming cells → Ic
open Ending renaming returned → Ir
open Option.some renaming inj → Iq
open _root_.Go.Proofs.Try renaming prog → Tp
open List renaming setIfInBounds_toArray → zA, set_cons_zero → zB, set_cons_succ → zC, getElem?_cons_zero → zD, getElem?_cons_succ → zE, getElem?_eq_getElem → zH, length_map → zU, length_set → zW, filterMap_cons → zX, filterMap_nil → zY, drop_succ_cons → za, drop_zero → zb
open Chg renaming refl → zK
open Lib renaming hid → zL
open World renaming block_lt_of_cell? → zg
open IntWalk renaming i64_in → zh
open Run renaming start → zm
section
open Go.RowKit
variable {α:Type} {r:NodeR α} {p:Par α} {n:Nat} {l:Lay}
theorem NodeAt.extRow {b o m:Nat} (h:b=l.ib∧l.io+m≤o∧o < l.io+l.ic * p.es):Ext p n r l b o:=.inr (.inl ⟨h.1,by omega,h.2.2⟩)
theorem NodeAt.extKid {b o m:Nat} (hk:r.kids≠none) (h:b=l.cb∧l.co+m≤o∧o < l.co+l.ck * 1):Ext p n r l b o:=.inr (.inr ⟨hk,.inr ⟨h.1,by omega,by omega⟩⟩)
theorem NodeAt.extItem {w:World} (h:NodeAt p w n r l) {j q:Nat} (hj:j < r.items.length) (hq:q < p.es):Ext p n r l l.ib (l.io+(j * p.es+q)):=by
 have h1:=h.len
 have h2:(j+1) * p.es≤l.ic * p.es:=Nat.mul_le_mul_right _ (by omega)
 rw [Nat.add_mul] at h2
 exact .inr (.inl ⟨rfl,by omega,by omega⟩)
def RebPost {ord:List Int} (k:Kc ord) (w:World) (F:Nat→Prop) (H:HN ord) (n a b:Nat) (rn ra rb:NodeR (It ord)) (e:Ending) (w':World):Prop :=
 e=Ir (Iu #[])∧Tri (parM k) w F H n a b w' rn ra rb
variable {ord:List Int}
theorem reb_merge_leaf {k:Kc ord} {mn mx:Nat} {w:World} {F:Nat→Prop} {H:HN ord} {t n a b i:Nat} {cn ca cb:Int} {xs xa xb:List (It ord)} {ks:List Nat} {x:It ord}
  (hF:Fam (parM k) w F H) (hm:MapAt k mn mx w t) (hout:∀b,MOwn k t b→¬F b) (hn:H n=some ⟨cn,xs,some (ks.map some)⟩) (hk:ks.length=xs.length+1) (ha:H a=some ⟨ca,xa,none⟩) (hb:H b=some ⟨cb,xb,none⟩)
  (hia:ks[i]?=some a) (hib:ks[i+1]?=some b) (na:n≠a) (nb:n≠b) (ab:a≠b) (hx:xs[i]?=some x) (hi:i < xs.length) {z:Nat} (hz:i=z∨(xs.length=z∧xs.length=i+1)) (hxl:xs.length≤1000) (hmx:mx≤1000)
  (hsum:xa.length+xb.length < mx) (hca:0≤ca∧ca≤100000000000000) (hcb:0≤cb∧cb≤100000000000000) :
  Calls Tp 80 #[Ip (some ⟨t,0,none⟩),Ip (some ⟨n,0,none⟩),Ii Ij z] w
   (RebPost k w F H n a b ⟨cn,xs.take i++xs.drop (i+1),some ((ks.map some).take (i+1)++(ks.map some).drop (i+1+1))⟩ ⟨ca+(cb+1),xa++x::xb,none⟩ ⟨cb,xb,none⟩):=by
 rcases hz with hz | ⟨hz,hxi⟩
 all_goals subst hz
 case' inl=>have hne:((i:Int) == (xs.length:Int))=false:=by simp;omega
 case' inr =>
  have hne:Ij.wrap ((xs.length:Int) - 1)=(i:Int):=by rw [zh _ (by omega)];omega
  clear hxi
 all_goals
  have hla:(xa.length:Int)+(xb.length:Int) < (mx:Int):=by omega
  have hl1:(0:Int)≤(xa.length:Int):=by omega
  have hl2:(0:Int)≤(xb.length:Int):=by omega
  have hl3:(xa.length:Int)≤1000:=by omega
  have hl4:(xb.length:Int)≤1000:=by omega
  have hc0:=zK (fun _ _=>False) w
  have HT0:=zL (Tri.start (p:=parM k) hF hc0 hn ha hb)
  obtain ⟨ln0,la0,lb0,hO0⟩:=HT0.out.open na nb ab
  have N2:=hO0.atN.c2
  have N3:=hO0.atN.c3s (ks:=ks.map some) rfl
  have NC:=hO0.atN.cc (ks:=ks.map some) rfl
  rw [zU] at NC
  have Ka:w.cell? ⟨ln0.cb,ln0.co+i,none⟩=some (Ip (some ⟨a,0,none⟩)):=hO0.atN.kidc (ks:=ks.map some) rfl (j:=i) (o:=some a) (by simp [hia])
  have Kb:w.cell? ⟨ln0.cb,ln0.co+(i+1),none⟩=some (Ip (some ⟨b,0,none⟩)):=hO0.atN.kidc (ks:=ks.map some) rfl (j:=i+1) (o:=some b) (by simp [hib])
  have a0:w.cell? ⟨a,0,none⟩=some (.int .u64 k.iso):=hO0.atA.c0
  have b0:w.cell? ⟨b,0,none⟩=some (.int .u64 k.iso):=hO0.atB.c0
  have t0:=hm.c0
  have A2:=hO0.atA.c2
  have B2:=hO0.atB.c2
  have t7:=hm.c7
  have i0':(0:Int)≤(i:Int):=by omega
  have i1':(i:Int) < (ks.length:Int):=by omega
  have i2':(i:Int)+1 < (ks.length:Int):=by omega
  have i3':(0:Int)≤(i:Int)+1:=by omega
  have i4':((i:Int)+1).toNat=i+1:=by omega
  have i5':Ij.wrap ((i:Int)+1)=(i:Int)+1:=zh _ (by omega)
  have HNL:=zL hk
  have HIA:=zL hia
  have HIB:=zL hib
  have HM:=zL hm
  have HX:=zL hx
  clear hO0 hn ha hb hF hk hia hib hm hx hc0
  go_enter Try.func80,Try.ntmps80
  skip
  go_wp2_with fail
  refine (kcD t a k _ true _ Ka a0 t0).mono ?_
  rintro e w1 ⟨rfl,m1,hw1⟩
  have hc1:Chg (fun _ _=>False) w w1:=by rw [hw1];exact (zK _ _).drewN _
  clear hw1
  replace N3:=hc1.q N3
  replace NC:=hc1.q NC
  replace Kb:=hc1.q Kb
  replace b0:=hc1.q b0
  replace t0:=hc1.q t0
  replace A2:=hc1.q A2
  replace B2:=hc1.q B2
  replace t7:=hc1.q t7
  clear N2 Ka a0
  go_wp2_with fail
  refine (kcD t b k _ true _ Kb b0 t0).mono ?_
  rintro e w2 ⟨rfl,m2,hw2⟩
  have hc12:Chg (fun _ _=>False) w1 w2:=by rw [hw2];exact (zK _ _).drewN _
  have hc2:=hc1.trans hc12
  clear hw2
  replace A2:=hc12.q A2
  replace B2:=hc12.q B2
  replace t7:=hc12.q t7
  clear N3 NC Kb b0 t0 hc12 hc1
  go_wp2_with fail
  go_quiet (fail)
  go_upto_region 5 with fail
  refine kbD (fun w3=>Chg (fun _ _=>False) w w3) (hc2.drewN _) ?_
  intro w3 hc3
  have HT:=zL (HT0.out.still hc3)
  clear A2 B2 t7 hc2 HT0
  obtain ⟨ln,la,lb,hO⟩:=HT.out.open na nb ab
  have A2:w3.cell? ⟨a,2,none⟩=some (Is (some ⟨la.ib,la.io,none⟩) xa.length la.ic):=hO.atA.c2
  have N2:w3.cell? ⟨n,2,none⟩=some (Is (some ⟨ln.ib,ln.io,none⟩) xs.length ln.ic):=hO.atN.c2
  have iv:=hO.atN.mval (j:=i) HX.out
  have ik:=hO.atN.mkey (j:=i) HX.out
  have za:=hO.atA.fz 2
  have alt:=zg _ _ A2
  have hlen:xa.length≤la.ic:=hO.atA.len
  have arow:=hO.atA.row
  have j0:(0:Int)≤(i:Int):=by omega
  have j1:(i:Int) < (xs.length:Int):=by omega
  have e1:∀B O,(B=la.ib∧la.io+xa.length * 2≤O∧O < la.io+la.ic * 2)→Ext (parM k) a ⟨ca,xa,none⟩ la B O:=fun B O h=>NodeAt.extRow (m:=xa.length * 2) h
  have E1:=zL e1
  have HO:=zL hO
  obtain ⟨i0,hi0,hz0,hz1,hz2⟩:=info_parts kfS
  clear hO e1
  refine kcS (fun w'=>w'.cell? ⟨a,2,none⟩=some (Is (some ⟨la.ib,la.io,none⟩) xa.length la.ic)∧w'.cell? ⟨n,2,none⟩=some (Is (some ⟨ln.ib,ln.io,none⟩) xs.length ln.ic)∧w'.cell? ⟨ln.ib,ln.io+i * 2,none⟩=some (Ii Ij x.1)∧w'.cell? ⟨ln.ib,ln.io+i * 2+1,none⟩=some (Ii Ij x.2))
   14 [0,1,2,3,4,5,6,7,8,9,10,11] [12,13] (by kernel_rfl) (by kernel_rfl) (fun _ _ _ _ _ h=>h) rfl rfl ⟨A2,N2,iv,ik⟩ ?_
  simp only [kbK,zX,zY,zD,zE]
  iterate 12
   refine kbR ?_ rfl ?_ ?_
   rotate_left
   ·intro w' hS
    obtain ⟨a1,a2,a3,a4⟩:=hS
    go_simp
    try with_reducible rfl
   simp only [Act.put,zA,zB,zC]
  refine kbS ?_
  have hca:Chg (fun _ _=>False) w3 (w3.alloc (Ic #[Ii Ij x.1,Ii Ij x.2] 27)).drew:=((zK _ _).alloc _).drew
  refine kbN (fun K hK=>?_)
  go_simp
  refine hK _ _ ⟨hca.q A2,hca.q N2,hca.q iv,hca.q ik⟩ ?_
  iterate 0 go_keep
  clear hK K
  refine kbN (fun K hK=>?_)
  refine kcC _ _ _ (by rfl) 27 i0 _ 2 16 Try.underlying25 hi0 hz0 hz1 hz2 rfl la.ib la.io xa.length la.ic (by rfl) (flat (parM k) xa) ((arow.alloc _).drew) (kcW _ _) ⟨w3.heap.size,0,none⟩ 1 _ (by rfl) [Ii Ij x.1,Ii Ij x.2] (by rfl) (World.news_of_block (cs:=#[Ii Ij x.1,Ii Ij x.2]) (t:=27) (fr:=(0,0)) (heap_alloc_new w3 _)) (by simp [Value.oneCell']) (by unfold maxLen;omega) (by omega) ?_
  intro b' o1 cap' w7 happ
  have hch:=happ.chg
  have nib:a≠la.ib:=Ne.symm HO.out.atA.d1
  have A2':=hch.cell (a:=⟨a,2,none⟩) (fun h=>nib h.1) (hca.q A2)
  have N2':=hch.cell (a:=⟨n,2,none⟩) (fun h=>HO.out.na _ _ (.inl rfl) (E1.out _ _ h)) (hca.q N2)
  have iv':=hch.cell (a:=⟨ln.ib,ln.io+i * 2,none⟩) (fun h=>HO.out.na _ _ (HO.out.atN.extItem (j:=i) (q:=0) hi (show 0 < 2 by decide)) (E1.out _ _ h)) (hca.q iv)
  have ik':=hch.cell (a:=⟨ln.ib,ln.io+i * 2+1,none⟩) (fun h=>HO.out.na _ _ (HO.out.atN.extItem (j:=i) (q:=1) hi (show 1 < 2 by decide)) (E1.out _ _ h)) (hca.q ik)
  have z2':w7.frozen? ⟨a,2,none⟩=false:=by rw [hch.frozen (Nat.lt_of_lt_of_le alt hca.size),hca.frozen alt];exact za
  have r8:=((zm HO.out.atA).still hca).append [x] happ (zK _ _)
  have hT8:=HO.out.doA r8
  have HT8:=zL hT8
  refine hK _ _ ⟨A2',N2',iv',ik'⟩ ?_
  clear hK K A2 N2 iv ik r8 hT8 hch
  simp only [kdC,za,zb,Act.put,zA,zB,zC]
  go_upto_region 6 with fail
  refine kbD (fun wz=>∃ya,ya=xa++[x]∧Tri (parM k) w F H n a b wz ⟨cn,xs,some (ks.map some)⟩ ⟨ca,ya,none⟩ ⟨cb,xb,none⟩) ⟨_,rfl,HT8.out⟩ ?_
  clear A2' N2' iv' ik' z2' happ hca za alt hlen arow nib HO E1 HT8 HT hi0 hz0 hz1 hz2 i0 j0 j1
  rintro w4 ⟨y1,hy1,hT⟩
  replace hy1:=zL hy1
  have HT:=zL hT
  clear hT
  have hy1b:y1.length≤1001:=by rw [hy1.out];simp;omega
  obtain ⟨ln,la,lb,hO⟩:=HT.out.open na nb ab
  have A2:w4.cell? ⟨a,2,none⟩=some (Is (some ⟨la.ib,la.io,none⟩) y1.length la.ic):=hO.atA.c2
  have B2:w4.cell? ⟨b,2,none⟩=some (Is (some ⟨lb.ib,lb.io,none⟩) xb.length lb.ic):=hO.atB.c2
  have za:=hO.atA.fz 2
  have alt:=zg _ _ A2
  have hlen:y1.length≤la.ic:=hO.atA.len
  have hlenb:xb.length≤lb.ic:=hO.atB.len
  have arow:=hO.atA.row
  have hbc:∀(j:Nat) (u:Value),(flat (parM k) xb)[j]?=some u→w4.drew.cell? (Addr.add ⟨lb.ib,lb.io,none⟩ j)=some u:=by
   intro j u hj
   rw [kdS,World.cell?_drew]
   exact hO.atB.row.cell hj
  have e1:∀B O,(B=la.ib∧la.io+y1.length * 2≤O∧O < la.io+la.ic * 2)→Ext (parM k) a ⟨ca,y1,none⟩ la B O:=fun B O h=>NodeAt.extRow (m:=y1.length * 2) h
  have E1:=zL e1
  have HO:=zL hO
  obtain ⟨i0,hi0,hz0,hz1,hz2⟩:=info_parts kfS
  clear hO e1
  refine kcS (fun w'=>w'.cell? ⟨a,2,none⟩=some (Is (some ⟨la.ib,la.io,none⟩) y1.length la.ic)∧w'.cell? ⟨b,2,none⟩=some (Is (some ⟨lb.ib,lb.io,none⟩) xb.length lb.ic))
   10 [0,1,2,3,4,5,6,7,8] [9] (by kernel_rfl) (by kernel_rfl) (fun _ _ _ _ _ h=>h) rfl rfl ⟨A2,B2⟩ ?_
  simp only [kbK,zX,zY,zD,zE]
  iterate 9
   refine kbR ?_ rfl ?_ ?_
   rotate_left
   ·intro w' hS
    obtain ⟨a1,a2⟩:=hS
    go_simp
    try with_reducible rfl
   simp only [Act.put,zA,zB,zC]
  refine kbS ?_
  refine kbN (fun K hK=>?_)
  refine kcC _ _ _ (by rfl) 27 i0 _ 2 16 Try.underlying25 hi0 hz0 hz1 hz2 rfl la.ib la.io y1.length la.ic (by rfl) (flat (parM k) y1) (arow.drew) (kcW _ _) ⟨lb.ib,lb.io,none⟩ xb.length _ (by rfl) (flat (parM k) xb) (kcW _ _) hbc (flat_one _ _) (by unfold maxLen;omega) (by omega) ?_
  intro b' o1 cap' w7 happ
  have hch:=happ.chg
  have nib:a≠la.ib:=Ne.symm HO.out.atA.d1
  have A2':=hch.cell (a:=⟨a,2,none⟩) (fun h=>nib h.1) (by rw [World.cell?_drew];exact A2)
  have B2':=hch.cell (a:=⟨b,2,none⟩) (fun h=>HO.out.ab _ _ (E1.out _ _ h) (.inl rfl)) (by rw [World.cell?_drew];exact B2)
  have z2':w7.frozen? ⟨a,2,none⟩=false:=by rw [hch.frozen (by simpa using alt),World.frozen?_drew];exact za
  have r8:=((zm HO.out.atA).still ((zK _ _).drew)).append xb happ (zK _ _)
  have hT8:=HO.out.doA r8
  have HT8:=zL hT8
  refine hK _ _ ⟨A2',B2'⟩ ?_
  clear hK K A2 B2 r8 hT8 hch hbc
  simp only [kdC,za,zb,Act.put,zA,zB,zC]
  go_upto_region 7 with fail
  refine kbD (fun wz=>∃ya,ya=y1++xb∧Tri (parM k) w F H n a b wz ⟨cn,xs,some (ks.map some)⟩ ⟨ca,ya,none⟩ ⟨cb,xb,none⟩) ⟨_,rfl,HT8.out⟩ ?_
  clear A2' B2' z2' happ za alt hlen hlenb arow nib HO E1 HT8 HT hi0 hz0 hz1 hz2 i0
  rintro w5 ⟨y2,hy2,hT⟩
  replace hy2:=zL hy2
  have HT:=zL hT
  clear hT
  have hy2b:y2.length≤1000:=by rw [hy2.out,hy1.out];simp;omega
  obtain ⟨ln,la,lb,hO⟩:=HT.out.open na nb ab
  have n3:=hO.atA.c3n rfl
  clear hO
  go_wp2_with (go_at_call 51;refine (kcJ _ none _ ?_).mono ?_;(focus go_simp);rintro e w' ⟨rfl,rfl⟩)
  go_upto_region 9 with fail
  refine kbD (fun wz=>Tri (parM k) w F H n a b wz ⟨cn,xs,some (ks.map some)⟩ ⟨ca,y2,none⟩ ⟨cb,xb,none⟩) (HT.out.still (zK _ _)) ?_
  clear n3 HT
  intro w6 hT
  have HT:=zL hT
  clear hT
  obtain ⟨ln,la,lb,hO⟩:=HT.out.open na nb ab
  have A1:=hO.atA.c1
  have B1:=hO.atB.c1
  have z1:=hO.atA.fz 1
  have s1:Ij.wrap (cb+1)=cb+1:=zh _ (by omega)
  have s2:Ij.wrap (ca+(cb+1))=ca+(cb+1):=zh _ (by omega)
  have HO:=zL hO
  clear hO
  go_still_tail 10,(by kernel_rfl)
  go_upto_region 10 with fail
  have r8:=((zm HO.out.atA).still ((zK _ _).drew)).setCnt (ca+(cb+1))
  refine kbD (fun wz=>Tri (parM k) w F H n a b wz ⟨cn,xs,some (ks.map some)⟩ ⟨ca+(cb+1),y2,none⟩ ⟨cb,xb,none⟩) (HO.out.doA r8) ?_
  clear A1 B1 z1 s1 s2 HO HT r8
  intro w7 hT
  have HT:=zL hT
  clear hT
  obtain ⟨ln,la,lb,hO⟩:=HT.out.open na nb ab
  have N2:w7.cell? ⟨n,2,none⟩=some (Is (some ⟨ln.ib,ln.io,none⟩) xs.length ln.ic):=hO.atN.c2
  have hlen:xs.length≤ln.ic:=hO.atN.len
  have s0:(0:Int)≤(i:Int):=by omega
  have s2:(0:Int)≤(i:Int)+1:=by omega
  have s3:((i:Int)+1).toNat=i+1:=by omega
  have s4:(i:Int)≤(xs.length:Int):=by omega
  have s5:(i:Int)+1≤(xs.length:Int):=by omega
  have hck2:¬ln.ic=i:=by omega
  obtain ⟨sp,hif,hsp⟩:∃sp,(if ln.ic=i+1 then some (⟨ln.ib,ln.io,none⟩:Addr) else some ⟨ln.ib,ln.io+(i+1) * 2,none⟩)=some sp∧(i+1 < xs.length→sp=⟨ln.ib,ln.io+(i+1) * 2,none⟩):=by
   by_cases h:ln.ic=i+1
   ·exact ⟨_,by rw [if_pos h],fun h2=>by omega⟩
   ·exact ⟨_,by rw [if_neg h],fun _=>rfl⟩
  have s1:Ij.wrap ((i:Int)+1)=(i:Int)+1:=zh _ (by omega)
  have HSP:=zL hsp
  have HO:=zL hO
  clear hO hsp
  go_still_tail 13,(by kernel_rfl)
  refine kfQ (p:=parM k) (by rfl) _ _ _ _ (by rfl) 27 (by kernel_rfl) kdD ((zm HO.out.atN).still ((zK _ _).drew)) i (ln.io+i * 2) _ _ _ _ (by first | omega | (show i < xs.length;omega)) (by simp [parM]) (by rfl) sp (by rfl) (by simpa [parM] using HSP.out) (by first | rfl | simp) (by first | rfl | simp) ?_
  intro w8 ys r8 hys1 hys2
  replace hys1:=zL hys1
  replace hys2:=zL hys2
  clear s0 s1 s2 s3 s4 s5 hck2 hif N2 hlen HSP
  go_upto_region 11 with fail
  refine kbD (fun wz=>∃ys,ys.length=xs.length∧ys.take (xs.length - 1)=xs.take i++xs.drop (i+1)∧Tri (parM k) w F H n a b wz ⟨cn,ys,some (ks.map some)⟩ ⟨ca+(cb+1),y2,none⟩ ⟨cb,xb,none⟩) ⟨ys,hys1.out,hys2.out,HO.out.doN r8⟩ ?_
  clear r8 hys1 hys2 HO HT
  rintro w8 ⟨y3,hly3,hy3,hT⟩
  replace hly3:=zL hly3
  replace hy3:=zL hy3
  have HT:=zL hT
  clear hT
  have hyb:1≤y3.length∧y3.length≤1001:=by rw [hly3.out];omega
  obtain ⟨ln,la,lb,hO⟩:=HT.out.open na nb ab
  have N2:w8.cell? ⟨n,2,none⟩=some (Is (some ⟨ln.ib,ln.io,none⟩) y3.length ln.ic):=hO.atN.c2
  have hm1:=HM.out.chg HT.out.chg (fun b o hm h=>hout b hm h)
  have e4:=hm1.c4
  have e5:=hm1.c5
  have hlen:y3.length≤ln.ic:=hO.atN.len
  have s0:(0:Int)≤(y3.length:Int) - 1:=by omega
  have s2:(y3.length:Int) - 1 < (y3.length:Int):=by omega
  have s3:((y3.length:Int) - 1).toNat=y3.length - 1:=by omega
  have s1:Ij.wrap ((y3.length:Int) - 1)=(y3.length:Int) - 1:=zh _ (by omega)
  have hlt:y3.length - 1 < y3.length:=by omega
  have z0:=hO.atN.ifz (ln.io+(y3.length - 1) * 2)
  have z1:=hO.atN.ifz (ln.io+(y3.length - 1) * 2+1)
  obtain ⟨y6,hy6⟩:∃y,y3[y3.length - 1]?=some y:=⟨_,zH hlt⟩
  have iv:=hO.atN.mval (j:=y3.length - 1) hy6
  have ik:=hO.atN.mkey (j:=y3.length - 1) hy6
  have r8:=((zm hO.atN).still ((zK _ _).drew)).setItemM (y3.length - 1) ((0,0):Int×Int) hlt
  have HR8:=zL (hO.doN r8)
  clear hO hm1 hy6 r8
  go_still_tail 14,(by kernel_rfl)
  go_upto_region 12 with fail
  refine kbD (fun wz=>∃ys,ys.length=y3.length∧ys.take (y3.length - 1)=y3.take (y3.length - 1)∧Tri (parM k) w F H n a b wz ⟨cn,ys,some (ks.map some)⟩ ⟨ca+(cb+1),y2,none⟩ ⟨cb,xb,none⟩) ⟨_,zW,kdB _ _ _,HR8.out⟩ ?_
  clear N2 e4 e5 hlen s0 s1 s2 s3 hlt z0 z1 iv ik HR8 HT y6
  rintro w9 ⟨y4,hly4,hy4,hT⟩
  replace hly4:=zL hly4
  replace hy4:=zL hy4
  have HT:=zL hT
  clear hT
  have hyb:1≤y4.length∧y4.length≤1001:=by rw [hly4.out,hly3.out];omega
  obtain ⟨ln,la,lb,hO⟩:=HT.out.open na nb ab
  have N2:w9.cell? ⟨n,2,none⟩=some (Is (some ⟨ln.ib,ln.io,none⟩) y4.length ln.ic):=hO.atN.c2
  have z2:=hO.atN.fz 2
  have hlen:y4.length≤ln.ic:=hO.atN.len
  have s0:(0:Int)≤(y4.length:Int) - 1:=by omega
  have s2:(y4.length:Int) - 1≤(ln.ic:Int):=by omega
  have s3:((y4.length:Int) - 1).toNat=y4.length - 1:=by omega
  have s1:Ij.wrap ((y4.length:Int) - 1)=(y4.length:Int) - 1:=zh _ (by omega)
  have ck:¬ln.ic=0:=by omega
  have s6:¬((y4.length:Int) < 1):=by omega
  have s7:(1:Int)≤(y4.length:Int):=by omega
  have r8:=((zm hO.atN).still ((zK _ _).drew)).cut 0 (y4.length - 1) ln.ic (by show 0+(y4.length - 1)≤y4.length;omega) (by omega) (by omega)
  simp only [Nat.zero_mul,Nat.add_zero,zb] at r8
  have HR8:=zL (hO.doN r8)
  clear hO r8
  go_still_tail 12,(by kernel_rfl)
  go_upto_region 13 with fail
  refine kbD (fun wz=>Tri (parM k) w F H n a b wz ⟨cn,y4.take (y4.length - 1),some (ks.map some)⟩ ⟨ca+(cb+1),y2,none⟩ ⟨cb,xb,none⟩) HR8.out ?_
  clear N2 z2 hlen s0 s1 s2 s3 s6 s7 ck HR8 HT
  rintro w10 hT
  have HT:=zL hT
  clear hT
  obtain ⟨ln,la,lb,hO⟩:=HT.out.open na nb ab
  have N3:=hO.atN.c3s (ks:=ks.map some) rfl
  have NC:w10.cell? ⟨ln.cc,0,none⟩=some (Is (some ⟨ln.cb,ln.co,none⟩) ks.length ln.ck):=by rw [←zU some];exact hO.atN.cc (ks:=ks.map some) rfl
  have hlen:ks.length≤ln.ck:=by rw [←zU some];exact hO.atN.klen (ks:=ks.map some) rfl
  have s0:(0:Int)≤(i:Int)+1:=by omega
  have s2:(0:Int)≤(i:Int)+2:=by omega
  have s3:((i:Int)+1).toNat=i+1:=by omega
  have s7:((i:Int)+2).toNat=i+2:=by omega
  have s4:(i:Int)+1≤(ks.length:Int):=by omega
  have s5:(i:Int)+2≤(ks.length:Int):=by omega
  have hck2:¬ln.ck=i+1:=by omega
  obtain ⟨sp,hif,hsp⟩:∃sp,(if ln.ck=i+2 then some (⟨ln.cb,ln.co,none⟩:Addr) else some ⟨ln.cb,ln.co+(i+2),none⟩)=some sp∧(i+2 < ks.length→sp=⟨ln.cb,ln.co+(i+2),none⟩):=by
   by_cases h:ln.ck=i+2
   ·exact ⟨_,by rw [if_pos h],fun h2=>by omega⟩
   ·exact ⟨_,by rw [if_neg h],fun _=>rfl⟩
  have s1:Ij.wrap ((i:Int)+1)=(i:Int)+1:=zh _ (by omega)
  have s8:Ij.wrap ((i:Int)+2)=(i:Int)+2:=zh _ (by omega)
  have HSP:=zL hsp
  have HO:=zL hO
  clear hO hsp
  go_still_tail 18,(by kernel_rfl)
  refine kgS (p:=parM k) (by rfl) _ _ _ _ (by rfl) 97 (by kernel_rfl) kgH ((zm HO.out.atN).still ((zK _ _).drew)) (ks.map some) rfl (i+1) (ln.co+(i+1)) _ _ _ _ (by rw [zU];omega) rfl (by rfl) sp (by rfl) (by rw [zU];exact HSP.out) (by simp) (by simp) ?_
  intro w8 ys r8 hys1 hys2
  replace hys1:=zL hys1
  replace hys2:=zL hys2
  clear s0 s1 s2 s3 s4 s5 s7 s8 hck2 hif N3 NC hlen HSP
  go_upto_region 14 with fail
  refine kbD (fun wz=>∃ys,ys.length=(ks.map some).length∧ys.take ((ks.map some).length - 1)=(ks.map some).take (i+1)++(ks.map some).drop (i+1+1)∧Tri (parM k) w F H n a b wz ⟨cn,y4.take (y4.length - 1),some ys⟩ ⟨ca+(cb+1),y2,none⟩ ⟨cb,xb,none⟩) ⟨ys,hys1.out,hys2.out,HO.out.doN r8⟩ ?_
  clear r8 hys1 hys2 HO HT
  rintro w11 ⟨k1,hlk1,hk1,hT⟩
  replace hlk1:=zL hlk1
  replace hk1:=zL hk1
  have HT:=zL hT
  clear hT
  have hyb:1≤k1.length∧k1.length≤1002:=by rw [hlk1.out,zU,HNL.out];omega
  obtain ⟨ln,la,lb,hO⟩:=HT.out.open na nb ab
  have N3:=hO.atN.c3s (ks:=k1) rfl
  have NC:=hO.atN.cc (ks:=k1) rfl
  have hlen:k1.length≤ln.ck:=hO.atN.klen (ks:=k1) rfl
  have s0:(0:Int)≤(k1.length:Int) - 1:=by omega
  have s2:(k1.length:Int) - 1 < (k1.length:Int):=by omega
  have s3:((k1.length:Int) - 1).toNat=k1.length - 1:=by omega
  have s1:Ij.wrap ((k1.length:Int) - 1)=(k1.length:Int) - 1:=zh _ (by omega)
  have hlt:k1.length - 1 < k1.length:=by omega
  have z0:=hO.atN.kidz (ks:=k1) rfl (ln.co+(k1.length - 1))
  obtain ⟨y6,hy6⟩:∃y,k1[k1.length - 1]?=some y:=⟨_,zH hlt⟩
  have iv:=hO.atN.kidc (ks:=k1) rfl hy6
  have r8:=((zm hO.atN).still ((zK _ _).drew)).setKid (ks:=k1) rfl (k1.length - 1) none hlt
  have HR8:=zL (hO.doN r8)
  clear hO hy6 r8
  go_still_tail 14,(by kernel_rfl)
  go_upto_region 15 with fail
  refine kbD (fun wz=>∃ys,ys.length=k1.length∧ys.take (k1.length - 1)=k1.take (k1.length - 1)∧Tri (parM k) w F H n a b wz ⟨cn,y4.take (y4.length - 1),some ys⟩ ⟨ca+(cb+1),y2,none⟩ ⟨cb,xb,none⟩) ⟨_,zW,kdB _ _ _,HR8.out⟩ ?_
  clear N3 NC hlen s0 s1 s2 s3 hlt z0 iv HR8 HT y6
  rintro w12 ⟨k2,hlk2,hk2,hT⟩
  replace hlk2:=zL hlk2
  replace hk2:=zL hk2
  have HT:=zL hT
  clear hT
  have hyb:1≤k2.length∧k2.length≤1002:=by rw [hlk2.out,hlk1.out,zU,HNL.out];omega
  obtain ⟨ln,la,lb,hO⟩:=HT.out.open na nb ab
  have N3:=hO.atN.c3s (ks:=k2) rfl
  have NC:=hO.atN.cc (ks:=k2) rfl
  have z2:=hO.atN.ccz (ks:=k2) rfl 0
  have hlen:k2.length≤ln.ck:=hO.atN.klen (ks:=k2) rfl
  have s0:(0:Int)≤(k2.length:Int) - 1:=by omega
  have s2:(k2.length:Int) - 1≤(ln.ck:Int):=by omega
  have s3:((k2.length:Int) - 1).toNat=k2.length - 1:=by omega
  have s1:Ij.wrap ((k2.length:Int) - 1)=(k2.length:Int) - 1:=zh _ (by omega)
  have ck:¬ln.ck=0:=by omega
  have s6:¬((k2.length:Int) < 1):=by omega
  have s7:(1:Int)≤(k2.length:Int):=by omega
  have r8:=((zm hO.atN).still ((zK _ _).drew)).cutKids (ks:=k2) rfl 0 (k2.length - 1) ln.ck (by omega) (by omega) (by omega)
  simp only [Nat.add_zero,zb] at r8
  have s7:(1:Int)≤(k2.length:Int):=by omega
  have HR8:=zL (hO.doN r8)
  clear hO r8
  go_still_tail 19,(by kernel_rfl)
  have eI:y4.take (y4.length - 1)=xs.take i++xs.drop (i+1):=by rw [hly4.out,hy4.out,hly3.out,hy3.out]
  have eK:k2.take (k2.length - 1)=(ks.map some).take (i+1)++(ks.map some).drop (i+1+1):=by rw [hlk2.out,hk2.out,hlk1.out,hk1.out]
  have e2:y2=xa++x::xb:=by rw [hy2.out,hy1.out];simp
  rw [eI,eK,e2] at HR8
  clear eI eK e2
  go_wp2_with fail
  refine bodyPost_end (v:=Iu #[]) (by simp [results,Try.results80,go_sem]) rfl ⟨rfl,?_⟩
  exact HR8.out
end
section
open Go.RowKit
variable {ord:List Int}
theorem reb_left_leaf {k:Kc ord} {mn mx:Nat} {w:World} {F:Nat→Prop} {H:HN ord} {t n a b i:Nat} {cn ca cb:Int} {xs xa xb:List (It ord)} {ks:List Nat} {x y:It ord}
  (hF:Fam (parM k) w F H) (hm:MapAt k mn mx w t) (hout:∀b,MOwn k t b→¬F b) (hn:H n=some ⟨cn,xs,some (ks.map some)⟩) (hk:ks.length=xs.length+1) (ha:H a=some ⟨ca,xa,none⟩) (hb:H b=some ⟨cb,xb,none⟩)
  (hia:ks[i]?=some a) (hib:ks[i+1]?=some b) (na:n≠a) (nb:n≠b) (ab:a≠b) (hx:xs[i]?=some x) (hy:xb[0]?=some y) (hi:i < xs.length) (hxl:xs.length≤1000) (hmx:mx≤1000)
  (hsum:mx≤xa.length+xb.length) (hlt:xa.length < xb.length) (hxb:xb.length≤1000) (hca:0≤ca∧ca≤100000000000000) (hcb:0≤cb∧cb≤100000000000000) :
  Calls Tp 80 #[Ip (some ⟨t,0,none⟩),Ip (some ⟨n,0,none⟩),Ii Ij i] w
   (RebPost k w F H n a b ⟨cn,xs.set i y,some (ks.map some)⟩ ⟨ca+1,xa++[x],none⟩ ⟨cb - 1,xb.drop 1,none⟩):=by
 have hne:((i:Int) == (xs.length:Int))=false:=by simp;omega
 have hla:¬((xa.length:Int)+(xb.length:Int) < (mx:Int)):=by omega
 have hgt:¬xb.length < xa.length:=by omega
 have hl1:(0:Int)≤(xa.length:Int):=by omega
 have hl2:(0:Int)≤(xb.length:Int):=by omega
 have hl3:(xa.length:Int)≤1000:=by omega
 have hl4:(xb.length:Int)≤1000:=by omega
 have HY:=zL hy
 clear hy
 have hc0:=zK (fun _ _=>False) w
 have HT0:=zL (Tri.start (p:=parM k) hF hc0 hn ha hb)
 obtain ⟨ln0,la0,lb0,hO0⟩:=HT0.out.open na nb ab
 have N2:=hO0.atN.c2
 have N3:=hO0.atN.c3s (ks:=ks.map some) rfl
 have NC:=hO0.atN.cc (ks:=ks.map some) rfl
 rw [zU] at NC
 have Ka:w.cell? ⟨ln0.cb,ln0.co+i,none⟩=some (Ip (some ⟨a,0,none⟩)):=hO0.atN.kidc (ks:=ks.map some) rfl (j:=i) (o:=some a) (by simp [hia])
 have Kb:w.cell? ⟨ln0.cb,ln0.co+(i+1),none⟩=some (Ip (some ⟨b,0,none⟩)):=hO0.atN.kidc (ks:=ks.map some) rfl (j:=i+1) (o:=some b) (by simp [hib])
 have a0:w.cell? ⟨a,0,none⟩=some (.int .u64 k.iso):=hO0.atA.c0
 have b0:w.cell? ⟨b,0,none⟩=some (.int .u64 k.iso):=hO0.atB.c0
 have t0:=hm.c0
 have A2:=hO0.atA.c2
 have B2:=hO0.atB.c2
 have t7:=hm.c7
 have i0':(0:Int)≤(i:Int):=by omega
 have i1':(i:Int) < (ks.length:Int):=by omega
 have i2':(i:Int)+1 < (ks.length:Int):=by omega
 have i3':(0:Int)≤(i:Int)+1:=by omega
 have i4':((i:Int)+1).toNat=i+1:=by omega
 have i5':Ij.wrap ((i:Int)+1)=(i:Int)+1:=zh _ (by omega)
 have HNL:=zL hk
 have HIA:=zL hia
 have HIB:=zL hib
 have HM:=zL hm
 have HX:=zL hx
 clear hO0 hn ha hb hF hk hia hib hm hx hc0
 go_enter Try.func80,Try.ntmps80
 skip
 go_wp2_with fail
 refine (kcD t a k _ true _ Ka a0 t0).mono ?_
 rintro e w1 ⟨rfl,m1,hw1⟩
 have hc1:Chg (fun _ _=>False) w w1:=by rw [hw1];exact (zK _ _).drewN _
 clear hw1
 replace N3:=hc1.q N3
 replace NC:=hc1.q NC
 replace Kb:=hc1.q Kb
 replace b0:=hc1.q b0
 replace t0:=hc1.q t0
 replace A2:=hc1.q A2
 replace B2:=hc1.q B2
 replace t7:=hc1.q t7
 clear N2 Ka a0
 go_wp2_with fail
 refine (kcD t b k _ true _ Kb b0 t0).mono ?_
 rintro e w2 ⟨rfl,m2,hw2⟩
 have hc12:Chg (fun _ _=>False) w1 w2:=by rw [hw2];exact (zK _ _).drewN _
 have hc2:=hc1.trans hc12
 clear hw2
 replace A2:=hc12.q A2
 replace B2:=hc12.q B2
 replace t7:=hc12.q t7
 clear N3 NC Kb b0 t0 hc12 hc1
 go_wp2_with fail
 go_quiet (fail)
 go_upto_region 16 with fail
 go_quiet (fail)
 go_upto_region 33 with fail
 refine kbD (fun w3=>Chg (fun _ _=>False) w w3) ((hc2.drewN _).drewN _) ?_
 intro w3 hc3
 have HT:=zL (HT0.out.still hc3)
 clear A2 B2 t7 hc2 HT0
 obtain ⟨ln,la,lb,hO⟩:=HT.out.open na nb ab
 have A2:w3.cell? ⟨a,2,none⟩=some (Is (some ⟨la.ib,la.io,none⟩) xa.length la.ic):=hO.atA.c2
 have N2:w3.cell? ⟨n,2,none⟩=some (Is (some ⟨ln.ib,ln.io,none⟩) xs.length ln.ic):=hO.atN.c2
 have iv:=hO.atN.mval (j:=i) HX.out
 have ik:=hO.atN.mkey (j:=i) HX.out
 have za:=hO.atA.fz 2
 have alt:=zg _ _ A2
 have hlen:xa.length≤la.ic:=hO.atA.len
 have arow:=hO.atA.row
 have j0:(0:Int)≤(i:Int):=by omega
 have j1:(i:Int) < (xs.length:Int):=by omega
 have e1:∀B O,(B=la.ib∧la.io+xa.length * 2≤O∧O < la.io+la.ic * 2)→Ext (parM k) a ⟨ca,xa,none⟩ la B O:=fun B O h=>NodeAt.extRow (m:=xa.length * 2) h
 have E1:=zL e1
 have HO:=zL hO
 obtain ⟨i0,hi0,hz0,hz1,hz2⟩:=info_parts kfS
 clear hO e1
 refine kcS (fun w'=>w'.cell? ⟨a,2,none⟩=some (Is (some ⟨la.ib,la.io,none⟩) xa.length la.ic)∧w'.cell? ⟨n,2,none⟩=some (Is (some ⟨ln.ib,ln.io,none⟩) xs.length ln.ic)∧w'.cell? ⟨ln.ib,ln.io+i * 2,none⟩=some (Ii Ij x.1)∧w'.cell? ⟨ln.ib,ln.io+i * 2+1,none⟩=some (Ii Ij x.2))
  14 [0,1,2,3,4,5,6,7,8,9,10,11] [12,13] (by kernel_rfl) (by kernel_rfl) (fun _ _ _ _ _ h=>h) rfl rfl ⟨A2,N2,iv,ik⟩ ?_
 simp only [kbK,zX,zY,zD,zE]
 iterate 12
  refine kbR ?_ rfl ?_ ?_
  rotate_left
  ·intro w' hS
   obtain ⟨a1,a2,a3,a4⟩:=hS
   go_simp
   try with_reducible rfl
  simp only [Act.put,zA,zB,zC]
 refine kbS ?_
 have hca:Chg (fun _ _=>False) w3 (w3.alloc (Ic #[Ii Ij x.1,Ii Ij x.2] 27)).drew:=((zK _ _).alloc _).drew
 refine kbN (fun K hK=>?_)
 go_simp
 refine hK _ _ ⟨hca.q A2,hca.q N2,hca.q iv,hca.q ik⟩ ?_
 iterate 0 go_keep
 clear hK K
 refine kbN (fun K hK=>?_)
 refine kcC _ _ _ (by rfl) 27 i0 _ 2 16 Try.underlying25 hi0 hz0 hz1 hz2 rfl la.ib la.io xa.length la.ic (by rfl) (flat (parM k) xa) ((arow.alloc _).drew) (kcW _ _) ⟨w3.heap.size,0,none⟩ 1 _ (by rfl) [Ii Ij x.1,Ii Ij x.2] (by rfl) (World.news_of_block (cs:=#[Ii Ij x.1,Ii Ij x.2]) (t:=27) (fr:=(0,0)) (heap_alloc_new w3 _)) (by simp [Value.oneCell']) (by unfold maxLen;omega) (by omega) ?_
 intro b' o1 cap' w7 happ
 have hch:=happ.chg
 have nib:a≠la.ib:=Ne.symm HO.out.atA.d1
 have A2':=hch.cell (a:=⟨a,2,none⟩) (fun h=>nib h.1) (hca.q A2)
 have N2':=hch.cell (a:=⟨n,2,none⟩) (fun h=>HO.out.na _ _ (.inl rfl) (E1.out _ _ h)) (hca.q N2)
 have iv':=hch.cell (a:=⟨ln.ib,ln.io+i * 2,none⟩) (fun h=>HO.out.na _ _ (HO.out.atN.extItem (j:=i) (q:=0) hi (show 0 < 2 by decide)) (E1.out _ _ h)) (hca.q iv)
 have ik':=hch.cell (a:=⟨ln.ib,ln.io+i * 2+1,none⟩) (fun h=>HO.out.na _ _ (HO.out.atN.extItem (j:=i) (q:=1) hi (show 1 < 2 by decide)) (E1.out _ _ h)) (hca.q ik)
 have z2':w7.frozen? ⟨a,2,none⟩=false:=by rw [hch.frozen (Nat.lt_of_lt_of_le alt hca.size),hca.frozen alt];exact za
 have r8:=((zm HO.out.atA).still hca).append [x] happ (zK _ _)
 have hT8:=HO.out.doA r8
 have HT8:=zL hT8
 refine hK _ _ ⟨A2',N2',iv',ik'⟩ ?_
 clear hK K A2 N2 iv ik r8 hT8 hch
 simp only [kdC,za,zb,Act.put,zA,zB,zC]
 go_upto_region 34 with fail
 refine kbD (fun wz=>∃ya,ya=xa++[x]∧Tri (parM k) w F H n a b wz ⟨cn,xs,some (ks.map some)⟩ ⟨ca,ya,none⟩ ⟨cb,xb,none⟩) ⟨_,rfl,HT8.out⟩ ?_
 clear A2' N2' iv' ik' z2' happ hca za alt hlen arow nib HO E1 HT8 HT hi0 hz0 hz1 hz2 i0 j0 j1
 rintro w4 ⟨y1,hy1,hT⟩
 replace hy1:=zL hy1
 have HT:=zL hT
 clear hT
 obtain ⟨ln,la,lb,hO⟩:=HT.out.open na nb ab
 have C1:=hO.atA.c1
 have z1:=hO.atA.fz 1
 have s1:Ij.wrap (ca+1)=ca+1:=zh _ (by omega)
 have r8:=(zm hO.atA).setCnt (ca+1)
 have HR8:=zL (hO.doA r8)
 clear hO r8
 go_upto_region 35 with fail
 refine kbD (fun wz=>Tri (parM k) w F H n a b wz ⟨cn,xs,some (ks.map some)⟩ ⟨ca+1,y1,none⟩ ⟨cb,xb,none⟩) HR8.out ?_
 clear C1 z1 s1 HR8 HT
 intro w5 hT
 have HT:=zL hT
 clear hT
 obtain ⟨ln,la,lb,hO⟩:=HT.out.open na nb ab
 have N2:w5.cell? ⟨n,2,none⟩=some (Is (some ⟨ln.ib,ln.io,none⟩) xs.length ln.ic):=hO.atN.c2
 have B2:w5.cell? ⟨b,2,none⟩=some (Is (some ⟨lb.ib,lb.io,none⟩) xb.length lb.ic):=hO.atB.c2
 have bv:=hO.atB.mval (j:=0) HY.out
 have bk:=hO.atB.mkey (j:=0) HY.out
 simp only [Nat.zero_mul,Nat.add_zero] at bv bk
 have iv:=hO.atN.mval (j:=i) HX.out
 have ik:=hO.atN.mkey (j:=i) HX.out
 have z0:=hO.atN.ifz (ln.io+i * 2)
 have z1:=hO.atN.ifz (ln.io+i * 2+1)
 have j0:(0:Int)≤(i:Int):=by omega
 have j1:(i:Int) < (xs.length:Int):=by omega
 have j2:(0:Int) < (xb.length:Int):=by omega
 have j3:0 < xb.length:=by omega
 have r8:=((zm hO.atN).still ((zK _ _).drew)).setItemM i y hi
 have HR8:=zL (hO.doN r8)
 clear hO r8
 go_still_tail 11,(by kernel_rfl)
 go_upto_region 36 with fail
 refine kbD (fun wz=>Tri (parM k) w F H n a b wz ⟨cn,xs.set i y,some (ks.map some)⟩ ⟨ca+1,y1,none⟩ ⟨cb,xb,none⟩) HR8.out ?_
 clear N2 B2 bv bk iv ik z0 z1 j0 j1 j2 j3 HR8 HT
 intro w6 hT
 have HT:=zL hT
 clear hT
 obtain ⟨ln,la,lb,hO⟩:=HT.out.open na nb ab
 have N2:w6.cell? ⟨b,2,none⟩=some (Is (some ⟨lb.ib,lb.io,none⟩) xb.length lb.ic):=hO.atB.c2
 have hlen:xb.length≤lb.ic:=hO.atB.len
 have s4:(1:Int)≤(xb.length:Int):=by omega
 have s5:1≤xb.length:=by omega
 obtain ⟨sp,hif,hsp⟩:∃sp,(if lb.ic=1 then some (⟨lb.ib,lb.io,none⟩:Addr) else some ⟨lb.ib,lb.io+2,none⟩)=some sp∧(0+1 < xb.length→sp=⟨lb.ib,lb.io+(0+1) * 2,none⟩):=by
  by_cases h:lb.ic=1
  ·exact ⟨_,by rw [if_pos h],fun h2=>by omega⟩
  ·exact ⟨_,by rw [if_neg h],fun _=>by simp⟩
 have HSP:=zL hsp
 have HO:=zL hO
 clear hO hsp
 go_still_tail 9,(by kernel_rfl)
 refine kfQ (p:=parM k) (by rfl) _ _ _ _ (by rfl) 27 (by kernel_rfl) kdD ((zm HO.out.atB).still ((zK _ _).drew)) 0 lb.io _ _ _ _ (by show 0 < xb.length;omega) (by simp) (by rfl) sp (by rfl) (by simpa [parM] using HSP.out) (by first | rfl | simp) (by first | rfl | simp) ?_
 intro w8 ys r8 hys1 hys2
 replace hys1:=zL hys1
 replace hys2:=zL hys2
 clear s4 s5 hif N2 hlen HSP
 go_upto_region 37 with fail
 refine kbD (fun wz=>∃ys,ys.length=xb.length∧ys.take (xb.length - 1)=xb.drop 1∧Tri (parM k) w F H n a b wz ⟨cn,xs.set i y,some (ks.map some)⟩ ⟨ca+1,y1,none⟩ ⟨cb,ys,none⟩) ⟨ys,hys1.out,hys2.out,HO.out.doB r8⟩ ?_
 clear r8 hys1 hys2 HO HT
 rintro w7 ⟨y3,hly3,hy3,hT⟩
 replace hly3:=zL hly3
 replace hy3:=zL hy3
 have HT:=zL hT
 clear hT
 have hyb:1≤y3.length∧y3.length≤1001:=by rw [hly3.out];omega
 obtain ⟨ln,la,lb,hO⟩:=HT.out.open na nb ab
 have N2:w7.cell? ⟨b,2,none⟩=some (Is (some ⟨lb.ib,lb.io,none⟩) y3.length lb.ic):=hO.atB.c2
 have hm1:=HM.out.chg HT.out.chg (fun b o hm h=>hout b hm h)
 have e4:=hm1.c4
 have e5:=hm1.c5
 have hlen:y3.length≤lb.ic:=hO.atB.len
 have s0:(0:Int)≤(y3.length:Int) - 1:=by omega
 have s2:(y3.length:Int) - 1 < (y3.length:Int):=by omega
 have s3:((y3.length:Int) - 1).toNat=y3.length - 1:=by omega
 have s1:Ij.wrap ((y3.length:Int) - 1)=(y3.length:Int) - 1:=zh _ (by omega)
 have hlt:y3.length - 1 < y3.length:=by omega
 have z0:=hO.atB.ifz (lb.io+(y3.length - 1) * 2)
 have z1:=hO.atB.ifz (lb.io+(y3.length - 1) * 2+1)
 obtain ⟨y6,hy6⟩:∃y,y3[y3.length - 1]?=some y:=⟨_,zH hlt⟩
 have iv:=hO.atB.mval (j:=y3.length - 1) hy6
 have ik:=hO.atB.mkey (j:=y3.length - 1) hy6
 have r8:=((zm hO.atB).still ((zK _ _).drew)).setItemM (y3.length - 1) ((0,0):Int×Int) hlt
 have HR8:=zL (hO.doB r8)
 clear hO hm1 hy6 r8
 go_still_tail 14,(by kernel_rfl)
 go_upto_region 38 with fail
 refine kbD (fun wz=>∃ys,ys.length=y3.length∧ys.take (y3.length - 1)=y3.take (y3.length - 1)∧Tri (parM k) w F H n a b wz ⟨cn,xs.set i y,some (ks.map some)⟩ ⟨ca+1,y1,none⟩ ⟨cb,ys,none⟩) ⟨_,zW,kdB _ _ _,HR8.out⟩ ?_
 clear N2 e4 e5 hlen s0 s1 s2 s3 hlt z0 z1 iv ik HR8 HT y6
 rintro w8 ⟨y4,hly4,hy4,hT⟩
 replace hly4:=zL hly4
 replace hy4:=zL hy4
 have HT:=zL hT
 clear hT
 have hyb:1≤y4.length∧y4.length≤1001:=by rw [hly4.out,hly3.out];omega
 obtain ⟨ln,la,lb,hO⟩:=HT.out.open na nb ab
 have N2:w8.cell? ⟨b,2,none⟩=some (Is (some ⟨lb.ib,lb.io,none⟩) y4.length lb.ic):=hO.atB.c2
 have z2:=hO.atB.fz 2
 have hlen:y4.length≤lb.ic:=hO.atB.len
 have s0:(0:Int)≤(y4.length:Int) - 1:=by omega
 have s2:(y4.length:Int) - 1≤(lb.ic:Int):=by omega
 have s3:((y4.length:Int) - 1).toNat=y4.length - 1:=by omega
 have s1:Ij.wrap ((y4.length:Int) - 1)=(y4.length:Int) - 1:=zh _ (by omega)
 have ck:¬lb.ic=0:=by omega
 have s6:¬((y4.length:Int) < 1):=by omega
 have s7:(1:Int)≤(y4.length:Int):=by omega
 have r8:=((zm hO.atB).still ((zK _ _).drew)).cut 0 (y4.length - 1) lb.ic (by show 0+(y4.length - 1)≤y4.length;omega) (by omega) (by omega)
 simp only [Nat.zero_mul,Nat.add_zero,zb] at r8
 have HR8:=zL (hO.doB r8)
 clear hO r8
 go_still_tail 12,(by kernel_rfl)
 go_upto_region 39 with fail
 refine kbD (fun wz=>Tri (parM k) w F H n a b wz ⟨cn,xs.set i y,some (ks.map some)⟩ ⟨ca+1,y1,none⟩ ⟨cb,y4.take (y4.length - 1),none⟩) HR8.out ?_
 clear N2 z2 hlen s0 s1 s2 s3 s6 s7 ck HR8 HT
 rintro w9 hT
 have HT:=zL hT
 clear hT
 obtain ⟨ln,la,lb,hO⟩:=HT.out.open na nb ab
 have C1:=hO.atB.c1
 have z1:=hO.atB.fz 1
 have s1:Ij.wrap (cb - 1)=cb - 1:=zh _ (by omega)
 have r8:=(zm hO.atB).setCnt (cb - 1)
 have HR8:=zL (hO.doB r8)
 clear hO r8
 go_upto_region 40 with fail
 refine kbD (fun wz=>Tri (parM k) w F H n a b wz ⟨cn,xs.set i y,some (ks.map some)⟩ ⟨ca+1,y1,none⟩ ⟨cb - 1,y4.take (y4.length - 1),none⟩) HR8.out ?_
 clear C1 z1 s1 HR8 HT
 intro w10 hT
 have HT:=zL hT
 clear hT
 obtain ⟨ln,la,lb,hO⟩:=HT.out.open na nb ab
 have n3:=hO.atA.c3n rfl
 clear hO
 have eI:y4.take (y4.length - 1)=xb.drop 1:=by rw [hly4.out,hy4.out,hly3.out,hy3.out]
 rw [eI,hy1.out] at HT
 clear eI
 go_wp2_with (go_at_call 51;refine (kcJ _ none _ ?_).mono ?_;(focus go_simp);rintro e w' ⟨rfl,rfl⟩)
 refine bodyPost_end (v:=Iu #[]) (by simp [results,Try.results80,go_sem]) rfl ⟨rfl,?_⟩
 exact HT.out
end
end Go.Proofs.Ytnohimhihombmaa
