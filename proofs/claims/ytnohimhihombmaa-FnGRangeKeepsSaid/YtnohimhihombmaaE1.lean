/- delete at a branch: the item stands there. -/
import Derived.Deep.Cut
import Derived.Test.YtnohimhihombmaaA2
import Derived.Test.YtnohimhihombmaaA4
import Derived.Test.YtnohimhihombmaaT1
import Derived.Test.YtnohimhihombmaaA13
namespace Go.Proofs.Ytnohimhihombmaa
set_option linter.unusedSimpArgs false
set_option linter.unusedVariables false
set_option maxRecDepth 100000
set_option maxHeartbeats 40000000
open Value renaming int → Ii, pointer → Ip, slice → Is, tuple → Iu
open IntKind renaming i64 → Ij
open Obj renaming cells → Ic
open Ending renaming returned → Ir
open Option.some renaming inj → Iq
open _root_.Go.Proofs.Try renaming prog → Tp
open List renaming setIfInBounds_toArray → zA, set_cons_zero → zB, set_cons_succ → zC, getElem?_cons_zero → zD, getElem?_cons_succ → zE, getElem?_toArray → zF, getElem?_eq_some_iff → zG, getElem?_eq_getElem → zH, length_map → zU, length_set → zW, filterMap_cons → zX, filterMap_nil → zY, drop_zero → zb
open Region renaming wanted → zI
open Act renaming put → zJ
open Chg renaming refl → zK, setCell → zd, drew → ze, drewN → zf
open Lib renaming hid → zL
open World renaming block_lt_of_cell? → zg
open IntWalk renaming i64_in → zh
open Nat renaming le_refl → zi, lt_of_lt_of_le → zk, le_add_right → zl
open Run renaming start → zm
section
open Go.RowKit
variable {ord:List Int}
def DelPost (k:Kc ord) (F:Nat→Prop) (hv:Option Nat) (Z:(HN ord)→Option (It ord)→Prop) (w:World) (e:Ending) (w':World):Prop :=
 ∃H' o,e=Ir (lastV o)∧Fam (parM k) w' (grow F w w') H'∧Chg (fun b _=>F b∨hv=some b) w w'∧HintO hv w'∧Z H' o
theorem delete_leaf_hit {k:Kc ord} {mn mx t n d:Nat} {pa:Addr} {x y:It ord} {i:Nat} {r:NodeR (It ord)} {w:World} {F:Nat→Prop} {H:HN ord} {hv:Option Nat} (hF:Fam (parM k) w F H) (ht:MapAt k mn mx w t) (htF:∀b,MOwn k t b→¬F b) (hn:H n=some r)
  (hpa:w.cell? pa=some (Ip (some ⟨n,0,none⟩))) (hs:Srt ltM r.items) (hlen:r.items.length≤1000) (hk:r.kids=none) (hy:HitAt ltM r.items x i y) (hc0:0≤r.cnt∧r.cnt≤100000000000000)
  (hh:HintO hv w) (hvF:∀b,hv=some b→¬F b) (hvt:∀b,hv=some b→¬MOwn k t b) (hd:d≤1000000000000) :
  Calls Tp 70 #[Ip (some ⟨t,0,none⟩),Ip (some pa),.bool false,aggM x,hintV hv,Ii Ij d] w (DelPost k F hv (fun H' o=>o=some y∧H'=upd H n ⟨r.cnt - 1,r.items.take i++r.items.drop (i+1),r.kids⟩) w):=by
 have hpos:1≤r.items.length:=by have:=(zG.1 hy.at_).1;omega
 obtain ⟨l0,hn0⟩:=hF.node hn
 have t0:=ht.c0
 have n0:=hn0.c0
 have hpk:(parM k).k=k.iso:=rfl
 rw [hpk] at n0
 have nlt:n < w.heap.size:=zg w _ n0
 have tlt:t < w.heap.size:=zg w _ t0
 have plt:=zg w _ hpa
 have hpa2:∀o o',((w.alloc o).alloc o').cell? pa=some (Ip (some ⟨n,0,none⟩)):=fun o o'=>by rw [World.cell?_alloc_lt _ _ _ (by simp;omega),World.cell?_alloc_lt w _ _ plt];exact hpa
 have hn1:∀o o',((w.alloc o).alloc o').cell? ⟨n,0,none⟩=some (.int .u64 k.iso):=fun o o'=>((hn0.chg (((zK (fun _ _=>False) w).alloc o).alloc o') i3).c0)
 have ht1:∀o o',((w.alloc o).alloc o').cell? ⟨t,0,none⟩=some (.int .u64 k.iso):=fun o o'=>((ht.chg (((zK (fun _ _=>False) w).alloc o).alloc o') i3).c0)
 skip
 unfold aggM hintV
 go_enter Try.func70,Try.ntmps70
 go_wp2_with (go_at_call 48;refine (kcD _ n k _ _ _ ?_ ?_ ?_).mono ?_;(focus go_simp);(focus go_simp);(focus go_simp);rintro e w' ⟨rfl,m,rfl⟩)
 refine kbW (fun w1=>Chg (fun _ _=>False) w w1∧w1.heap[w.heap.size]?=some (Ic #[Ii Ij x.1,Ii Ij x.2] 27 (0,0))∧w1.heap[w.heap.size+1]?=some (Ic #[Ii Ij 0,Ii Ij 0] 27 (0,0))) ⟨?_,?_,?_⟩ ?_
 ·exact (((zK _ _).alloc _).alloc _).drewN _
 ·rw [kcB,kcZ _ _ (by simp)];exact kbT _ _ rfl
 ·rw [kcB];exact kbT _ _ (by simp)
 rintro w1 ⟨hc1,hb1,hb2⟩
 have hna1:=hn0.chg hc1 i3
 have ht1':=ht.chg hc1 (by simp)
 clear hn1 ht1 hpa2 t0 n0 hn0
 refine (find_o hv t d x ht1' hna1 hs (by omega) hpos (hh.keep hc1) hd).mono ?_
 rintro e w2 ⟨i',f,rfl,hw2,hh2,hf⟩
 have hnv:∀b,w.heap.size≤b→¬hv=some b:=fun b hb e=>by have:=hh.lt e;omega
 have hb1':w2.heap[w.heap.size]?=some (Ic #[Ii Ij x.1,Ii Ij x.2] 27 (0,0)):=by rw [hw2.block (kbF hb1) (fun _=>hnv _ (zi _))];exact hb1
 have hb2':w2.heap[w.heap.size+1]?=some (Ic #[Ii Ij 0,Ii Ij 0] 27 (0,0)):=by rw [hw2.block (kbF hb2) (fun _=>hnv _ (zl _ _))];exact hb2
 have hcw2:Chg (fun b _=>hv=some b) w w2:=(hc1.mono (fun _ _ _ h=>h.elim)).trans hw2
 have hF2:=hF.chg hcw2 (fun b _ hb e=>hvF b e hb)
 have htt2:=ht.chg hcw2 (fun b _ hb e=>hvt b e hb)
 have hlw2:=kbF hb2'
 have hfi:f=true∧i=i':=by
  rcases hf with ⟨h1,y',h2⟩ | ⟨h1,h2⟩
  ·exact ⟨h1,(hit_same h2 hy).symm⟩
  ·exact absurd hy.n2 (by rw [h2.right i y (hit_le h2 hy) hy.at_];simp)
 obtain ⟨rfl,rfl⟩:=hfi
 have hi:=(zG.1 hy.at_).1
 have HY:=zL hy.at_
 clear hb1 hb2 hb1' hw2 hf ht1' hna1 ht hy
 have nF:∀b,w.heap.size≤b→¬F b:=fun b hb h=>Nat.lt_irrefl _ (zk (hF.lt h) hb)
 obtain ⟨l0,hna0⟩:=hF2.node hn
 have n3:=hna0.c3n hk
 have n2:=hna0.c2
 have iv:=hna0.mval (j:=i) HY.out
 have ik:=hna0.mkey (j:=i) HY.out
 have j0:(0:Int)≤(i:Int):=by omega
 have j1:(i:Int) < (r.items.length:Int):=by omega
 clear hna0
 go_wp2_with (go_at_call 51;refine (kcJ _ none _ n3).mono ?_;rintro e w' ⟨rfl,rfl⟩)
 refine kbD (fun w3=>Chg (fun _ _=>False) w2 w3∧w2.heap.size < w3.heap.size∧w3.heap[w2.heap.size]?=some (Ic #[Ii Ij y.1,Ii Ij y.2] 27 (0,0))) ⟨(zK _ _).alloc _,by simp,kbT _ _ rfl⟩ ?_
 rintro w3 ⟨hc3,hz3,hb3⟩
 have hsz2:=hcw2.size
 have hcw3:Chg (fun b _=>hv=some b) w w3:=hcw2.trans (hc3.mono (fun _ _ _ h=>h.elim))
 have hF3:=hF2.chg hc3 i3
 obtain ⟨l,hna,hb,ho,cl⟩:=hF3.work hn
 have HM:=zL (htt2.chg hc3 i3)
 have HR:=zL (zm hna)
 have HB2:=zL (show w3.heap[w.heap.size+1]?=some (Ic #[Ii Ij 0,Ii Ij 0] 27 (0,0)) by rw [hc3.block hlw2 (fun _ h=>h)];exact hb2')
 have HB3:=zL hb3
 have HH3:=zL (hh2.keep hc3)
 have HCW:=zL hcw3
 have HZ:=zL (And.intro hsz2 hz3)
 have HCL:=zL cl
 have HO:=zL ho
 have HBF:=zL hb
 clear n2 n3 iv ik j0 j1 hb3 hz3 hsz2 hcw2 hcw3 hc3 hF2 hF3 hna htt2 hh2 hb2' cl ho
 have N2:w3.cell? ⟨n,2,none⟩=some (Is (some ⟨l.ib,l.io,none⟩) r.items.length l.ic):=HR.out.at_.c2
 have hlenc:r.items.length≤l.ic:=HR.out.at_.len
 have s0:(0:Int)≤(i:Int):=by omega
 have s2:(0:Int)≤(i:Int)+1:=by omega
 have s3:((i:Int)+1).toNat=i+1:=by omega
 have s4:(i:Int)≤(r.items.length:Int):=by omega
 have s5:(i:Int)+1≤(r.items.length:Int):=by omega
 have hck2:¬l.ic=i:=by omega
 obtain ⟨sp,hif,hsp⟩:∃sp,(if l.ic=i+1 then some (⟨l.ib,l.io,none⟩:Addr) else some ⟨l.ib,l.io+(i+1) * 2,none⟩)=some sp∧(i+1 < r.items.length→sp=⟨l.ib,l.io+(i+1) * 2,none⟩):=by
  by_cases h:l.ic=i+1
  ·exact ⟨_,by rw [if_pos h],fun h2=>by omega⟩
  ·exact ⟨_,by rw [if_neg h],fun _=>rfl⟩
 have s1:Ij.wrap ((i:Int)+1)=(i:Int)+1:=zh _ (by omega)
 have HSP:=zL hsp
 clear hsp
 go_still_tail 13,(by kernel_rfl)
 refine kfQ (p:=parM k) (by rfl) _ _ _ _ (by rfl) 27 (by kernel_rfl) kdD (HR.out.still ((zK _ _).drew)) i (l.io+i * 2) _ _ _ _ (show i < r.items.length by omega) (by simp [parM]) (by rfl) sp (by rfl) (by simpa [parM] using HSP.out) (by first | rfl | simp) (by first | rfl | simp) ?_
 intro w8 ys r8 hys1 hys2
 replace hys1:=zL hys1
 replace hys2:=zL hys2
 clear s0 s1 s2 s3 s4 s5 hck2 hif N2 hlenc HSP
 go_upto_region 11 with fail
 refine kbD (fun wz=>∃ys,ys.length=r.items.length∧ys.take (r.items.length - 1)=r.items.take i++r.items.drop (i+1)∧Run (parM k) w3 n r l wz { r with items:=ys } l) ⟨ys,hys1.out,hys2.out,r8⟩ ?_
 clear r8 hys1 hys2 HR
 rintro w4 ⟨y3,hly3,hy3,hR⟩
 replace hly3:=zL hly3
 replace hy3:=zL hy3
 have HR:=zL hR
 clear hR
 have hyb:1≤y3.length∧y3.length≤1001:=by rw [hly3.out];omega
 have N2:w4.cell? ⟨n,2,none⟩=some (Is (some ⟨l.ib,l.io,none⟩) y3.length l.ic):=HR.out.at_.c2
 have hm1:=HM.out.chg HR.out.chg (fun b o hm h=>htF b hm (hb _ h.blk))
 have e4:=hm1.c4
 have e5:=hm1.c5
 have hlenc:y3.length≤l.ic:=HR.out.at_.len
 have s0:(0:Int)≤(y3.length:Int) - 1:=by omega
 have s2:(y3.length:Int) - 1 < (y3.length:Int):=by omega
 have s3:((y3.length:Int) - 1).toNat=y3.length - 1:=by omega
 have s1:Ij.wrap ((y3.length:Int) - 1)=(y3.length:Int) - 1:=zh _ (by omega)
 have hlt:y3.length - 1 < y3.length:=by omega
 have z0:=HR.out.at_.ifz (l.io+(y3.length - 1) * 2)
 have z1:=HR.out.at_.ifz (l.io+(y3.length - 1) * 2+1)
 obtain ⟨y6,hy6⟩:∃y,y3[y3.length - 1]?=some y:=⟨_,zH hlt⟩
 have iv:=HR.out.at_.mval (j:=y3.length - 1) hy6
 have ik:=HR.out.at_.mkey (j:=y3.length - 1) hy6
 have r8:=(HR.out.still ((zK _ _).drew)).setItemM (y3.length - 1) ((0,0):Int×Int) hlt
 have HR8:=zL r8
 clear hm1 hy6 r8
 go_still_tail 14,(by kernel_rfl)
 go_upto_region 12 with fail
 refine kbD (fun wz=>∃ys,ys.length=y3.length∧ys.take (y3.length - 1)=y3.take (y3.length - 1)∧Run (parM k) w3 n r l wz { r with items:=ys } l) ⟨_,zW,kdB _ _ _,HR8.out⟩ ?_
 clear N2 e4 e5 hlenc s0 s1 s2 s3 hlt z0 z1 iv ik HR8 HR y6
 rintro w5 ⟨y4,hly4,hy4,hR⟩
 replace hly4:=zL hly4
 replace hy4:=zL hy4
 have HR:=zL hR
 clear hR
 have hyb:1≤y4.length∧y4.length≤1001:=by rw [hly4.out,hly3.out];omega
 have N2:w5.cell? ⟨n,2,none⟩=some (Is (some ⟨l.ib,l.io,none⟩) y4.length l.ic):=HR.out.at_.c2
 have z2:=HR.out.at_.fz 2
 have hlenc:y4.length≤l.ic:=HR.out.at_.len
 have s0:(0:Int)≤(y4.length:Int) - 1:=by omega
 have s2:(y4.length:Int) - 1≤(l.ic:Int):=by omega
 have s3:((y4.length:Int) - 1).toNat=y4.length - 1:=by omega
 have s1:Ij.wrap ((y4.length:Int) - 1)=(y4.length:Int) - 1:=zh _ (by omega)
 have ck:¬l.ic=0:=by omega
 have s6:¬((y4.length:Int) < 1):=by omega
 have s7:(1:Int)≤(y4.length:Int):=by omega
 have r8:=(HR.out.still ((zK _ _).drew)).cut 0 (y4.length - 1) l.ic (by show 0+(y4.length - 1)≤y4.length;omega) (by omega) (by omega)
 simp only [Nat.zero_mul,Nat.add_zero,zb] at r8
 have HR8:=zL r8
 clear r8
 go_still_tail 12,(by kernel_rfl)
 go_upto_region 13 with fail
 refine kbD (fun wz=>Run (parM k) w3 n r l wz { r with items:=y4.take (y4.length - 1) } l) HR8.out ?_
 clear N2 z2 hlenc s0 s1 s2 s3 s6 s7 ck HR8 HR
 rintro w6 hR
 have HR:=zL hR
 clear hR
 have C1:=HR.out.at_.c1
 have z1:=HR.out.at_.fz 1
 have s1:Ij.wrap (r.cnt - 1)=r.cnt - 1:=zh _ (by omega)
 have hsz:=HR.out.chg.size
 have r8:=HR.out.setCnt (r.cnt - 1)
 go_upto_region 14 with fail
 refine kbD (fun wz=>Run (parM k) w3 n r l wz ⟨r.cnt - 1,y4.take (y4.length - 1),r.kids⟩ l) r8 ?_
 clear C1 z1 s1 r8 hsz
 rintro w7 hR7
 have hit:y4.take (y4.length - 1)=r.items.take i++r.items.drop (i+1):=by
  have h1:=hy3.out
  have h2:=hy4.out
  rw [←hly3.out,←h2,←hly4.out] at h1
  exact h1
 rw [hit] at hR7
 have hc37:=hR7.chg
 have hext:∀b o,Ext (parM k) n r l b o→F b:=fun b o h=>HBF.out b h.blk
 obtain ⟨hz1,hz2⟩:=HZ.out
 have hb12:w7.heap[w.heap.size+1]?=some (Ic #[Ii Ij 0,Ii Ij 0] 27 (0,0)):=by
  rw [hc37.block (kbF HB2.out) (fun o h=>nF _ (zl _ _) (hext _ _ h))];exact HB2.out
 have hb17:w7.heap[w2.heap.size]?=some (Ic #[Ii Ij y.1,Ii Ij y.2] 27 (0,0)):=by
  rw [hc37.block (kbF HB3.out) (fun o h=>nF _ hz1 (hext _ _ h))];exact HB3.out
 obtain ⟨f7,g7⟩:=HCL.out _ _ _ hR7
 have hsz37:=hc37.size
 have hl12:=kbF HB2.out
 have hh7:HintO hv w7:=HH3.out.chg g7 (fun b _ e=>hvF b e)
 have hc07:Chg (fun b _=>F b∨hv=some b) w w7:=(HCW.out.mono (fun _ _ _ h=>.inr h)).trans (g7.mono (fun _ _ _ h=>.inl h))
 clear hR7 hc37 hit HR hly3 hly4 hy3 hy4
 have y0:=kbC hb12 0
 have y1:=kbC hb12 1
 have p0:=kbB hb12 0
 have p1:=kbB hb12 1
 simp only [zF,zD,zE] at p0 p1
 have x0:=kbC hb17 0
 have x1:=kbC hb17 1
 have r0:=kbB hb17 0
 have r1:=kbB hb17 1
 simp only [zF,zD,zE] at r0 r1
 go_wp2_with fail
 refine kbQ (fun wl=>Chg (fun b _=>b=w.heap.size+1) w7 wl∧wl.heap[w.heap.size+1]?=some (Ic #[Ii Ij y.1,Ii Ij y.2] 27 (0,0))) ⟨?_,blk2 hb12 _ _⟩ ?_
 ·repeat (first | refine ze ?_ | refine zf ?_ _ | refine zd ?_ (.inl rfl) _ | exact zK _ _)
 clear p0 p1 r0 r1
 rintro wl ⟨hcl,hbl⟩
 have p0:=kbB hbl 0
 have p1:=kbB hbl 1
 simp only [zF,zD,zE] at p0 p1
 refine bodyPost_ret (v:=Iu #[.agg #[Ii Ij y.1,Ii Ij y.2],.bool true]) (by simp [results,Try.results70,go_sem,p0,p1]) rfl ?_
 have f9:=f7.chg hcl (fun b o hb e=>by
  rcases hb with hb | hb
  ·exact nF b (by omega) hb
  ·have h1:=hb.1;omega)
 refine ⟨_,some y,rfl,f9.mono (fun b hb=>?_) (fun b hb=>?_),hc07.trans' hcl i3 (fun b o hb e=>by omega),hh7.chg hcl (fun b _ e e2=>by have:=hh.lt e;omega),rfl,rfl⟩
 ·rcases hb with hb | hb
  ·exact .inl hb
  ·exact .inr ⟨by have:=hb.1;omega,zk hb.2 hcl.size⟩
 ·rcases hb with hb | hb
  ·exact f9.lt (.inl hb)
  ·exact hb.2
end
section
open Go.RowKit
variable {ord:List Int}
theorem delete_leaf_miss {k:Kc ord} {mn mx t n d:Nat} {pa:Addr} {x:It ord} {i:Nat} {r:NodeR (It ord)} {w:World} {F:Nat→Prop} {H:HN ord} {hv:Option Nat} (hF:Fam (parM k) w F H) (ht:MapAt k mn mx w t) (hn:H n=some r)
  (hpa:w.cell? pa=some (Ip (some ⟨n,0,none⟩))) (hs:Srt ltM r.items) (hlen:r.items.length≤1000) (hpos:1≤r.items.length) (hk:r.kids=none) (hy:PosAt ltM r.items x i)
  (hh:HintO hv w) (hvF:∀b,hv=some b→¬F b) (hvt:∀b,hv=some b→¬MOwn k t b) (hd:d≤1000000000000) :
  Calls Tp 70 #[Ip (some ⟨t,0,none⟩),Ip (some pa),.bool false,aggM x,hintV hv,Ii Ij d] w (DelPost k F hv (fun H' o=>o=none∧H'=H) w):=by
 obtain ⟨l0,hn0⟩:=hF.node hn
 have t0:=ht.c0
 have n0:=hn0.c0
 have hpk:(parM k).k=k.iso:=rfl
 rw [hpk] at n0
 have nlt:n < w.heap.size:=zg w _ n0
 have tlt:t < w.heap.size:=zg w _ t0
 have plt:=zg w _ hpa
 have hpa2:∀o o',((w.alloc o).alloc o').cell? pa=some (Ip (some ⟨n,0,none⟩)):=fun o o'=>by rw [World.cell?_alloc_lt _ _ _ (by simp;omega),World.cell?_alloc_lt w _ _ plt];exact hpa
 have hn1:∀o o',((w.alloc o).alloc o').cell? ⟨n,0,none⟩=some (.int .u64 k.iso):=fun o o'=>((hn0.chg (((zK (fun _ _=>False) w).alloc o).alloc o') i3).c0)
 have ht1:∀o o',((w.alloc o).alloc o').cell? ⟨t,0,none⟩=some (.int .u64 k.iso):=fun o o'=>((ht.chg (((zK (fun _ _=>False) w).alloc o).alloc o') i3).c0)
 skip
 unfold aggM hintV
 go_enter Try.func70,Try.ntmps70
 go_wp2_with (go_at_call 48;refine (kcD _ n k _ _ _ ?_ ?_ ?_).mono ?_;(focus go_simp);(focus go_simp);(focus go_simp);rintro e w' ⟨rfl,m,rfl⟩)
 refine kbW (fun w1=>Chg (fun _ _=>False) w w1∧w1.heap[w.heap.size]?=some (Ic #[Ii Ij x.1,Ii Ij x.2] 27 (0,0))∧w1.heap[w.heap.size+1]?=some (Ic #[Ii Ij 0,Ii Ij 0] 27 (0,0))) ⟨?_,?_,?_⟩ ?_
 ·exact (((zK _ _).alloc _).alloc _).drewN _
 ·rw [kcB,kcZ _ _ (by simp)];exact kbT _ _ rfl
 ·rw [kcB];exact kbT _ _ (by simp)
 rintro w1 ⟨hc1,hb1,hb2⟩
 have hna1:=hn0.chg hc1 i3
 have ht1':=ht.chg hc1 (by simp)
 clear hn1 ht1 hpa2 t0 n0 hn0
 refine (find_o hv t d x ht1' hna1 hs (by omega) hpos (hh.keep hc1) hd).mono ?_
 rintro e w2 ⟨i',f,rfl,hw2,hh2,hf⟩
 have hnv:∀b,w.heap.size≤b→¬hv=some b:=fun b hb e=>by have:=hh.lt e;omega
 have hb1':w2.heap[w.heap.size]?=some (Ic #[Ii Ij x.1,Ii Ij x.2] 27 (0,0)):=by rw [hw2.block (kbF hb1) (fun _=>hnv _ (zi _))];exact hb1
 have hb2':w2.heap[w.heap.size+1]?=some (Ic #[Ii Ij 0,Ii Ij 0] 27 (0,0)):=by rw [hw2.block (kbF hb2) (fun _=>hnv _ (zl _ _))];exact hb2
 have hcw2:Chg (fun b _=>hv=some b) w w2:=(hc1.mono (fun _ _ _ h=>h.elim)).trans hw2
 have hF2:=hF.chg hcw2 (fun b _ hb e=>hvF b e hb)
 have htt2:=ht.chg hcw2 (fun b _ hb e=>hvt b e hb)
 have hlw2:=kbF hb2'
 have hfi:f=false:=by
  rcases hf with ⟨h1,y',h2⟩ | ⟨h1,h2⟩
  ·exact absurd h2.n2 (by rw [hy.right i' y' (hit_le hy h2) h2.at_];simp)
  ·exact h1
 obtain rfl:=hfi
 obtain ⟨l,hna⟩:=hF2.node hn
 have n3:=hna.c3n hk
 have e4:=htt2.c4
 have e5:=htt2.c5
 have hh3:=zL hh2
 have HB2:=zL hb2'
 have y0:=kbC hb2' 0
 have y1:=kbC hb2' 1
 have p0:=kbB hb2' 0
 have p1:=kbB hb2' 1
 simp only [zF,zD,zE] at p0 p1
 clear hb1 hb2 hb1' hb2' hw2 hf ht1' hna1 ht hy hna htt2 hh2
 go_wp2_with (go_at_call 51;refine (kcJ _ none _ n3).mono ?_;rintro e w' ⟨rfl,rfl⟩)
 refine kbQ (fun wl=>Chg (fun b _=>b=w.heap.size+1) w2 wl∧wl.heap[w.heap.size+1]?=some (Ic #[Ii Ij 0,Ii Ij 0] 27 (0,0))) ⟨?_,blk2 HB2.out _ _⟩ ?_
 ·repeat (first | refine ze ?_ | refine zf ?_ _ | refine zd ?_ (.inl rfl) _ | exact zK _ _)
 clear p0 p1
 rintro wl ⟨hcl,hbl⟩
 have p0:=kbB hbl 0
 have p1:=kbB hbl 1
 simp only [zF,zD,zE] at p0 p1
 refine bodyPost_ret (v:=Iu #[.agg #[Ii Ij 0,Ii Ij 0],.bool false]) (by simp [results,Try.results70,go_sem,p0,p1]) rfl ?_
 have f9:=(hF2.chg hcl (fun b o hb e=>by have:=hF.lt hb;omega)).mono (F':=grow F w wl) (fun _ h=>.inl h) (fun b hb=>?_)
 ·exact ⟨H,none,rfl,f9,(hcw2.mono (fun _ _ _ h=>.inr h)).trans' hcl i3 (fun b o hb e=>by omega),hh3.out.chg hcl (fun b _ e e2=>by have:=hh.lt e;omega),rfl,rfl⟩
 ·rcases hb with hb | hb
  ·exact zk (hF.lt hb) (hcw2.trans' hcl (B:=fun _ _=>True) (fun _ _ _ _=>trivial) (fun _ _ _ _=>trivial)).size
  ·exact hb.2
theorem delete_leaf_max {k:Kc ord} {mn mx t n:Nat} {pa:Addr} {y:It ord} {i:Nat} {r:NodeR (It ord)} {w:World} {F:Nat→Prop} {H:HN ord} (hF:Fam (parM k) w F H) (ht:MapAt k mn mx w t) (htF:∀b,MOwn k t b→¬F b) (hn:H n=some r)
  (hpa:w.cell? pa=some (Ip (some ⟨n,0,none⟩))) (hlen:r.items.length≤1000) (hk:r.kids=none) (hy:r.items[i]?=some y) (hil:r.items.length=i+1) (hc0:0≤r.cnt∧r.cnt≤100000000000000) :
  Calls Tp 70 #[Ip (some ⟨t,0,none⟩),Ip (some pa),.bool true,.agg #[Ii Ij 0,Ii Ij 0],Ip none,Ii Ij 0] w (DelPost k F none (fun H' o=>o=some y∧H'=upd H n ⟨r.cnt - 1,r.items.take i++r.items.drop (i+1),r.kids⟩) w):=by
 have hi:i < r.items.length:=by omega
 obtain ⟨l0,hn0⟩:=hF.node hn
 have t0:=ht.c0
 have n0:=hn0.c0
 have hpk:(parM k).k=k.iso:=rfl
 rw [hpk] at n0
 have nlt:n < w.heap.size:=zg w _ n0
 have tlt:t < w.heap.size:=zg w _ t0
 have plt:=zg w _ hpa
 have hpa2:∀o o',((w.alloc o).alloc o').cell? pa=some (Ip (some ⟨n,0,none⟩)):=fun o o'=>by rw [World.cell?_alloc_lt _ _ _ (by simp;omega),World.cell?_alloc_lt w _ _ plt];exact hpa
 have hn1:∀o o',((w.alloc o).alloc o').cell? ⟨n,0,none⟩=some (.int .u64 k.iso):=fun o o'=>((hn0.chg (((zK (fun _ _=>False) w).alloc o).alloc o') i3).c0)
 have ht1:∀o o',((w.alloc o).alloc o').cell? ⟨t,0,none⟩=some (.int .u64 k.iso):=fun o o'=>((ht.chg (((zK (fun _ _=>False) w).alloc o).alloc o') i3).c0)
 have hn2:∀o o',((w.alloc o).alloc o').cell? ⟨n,2,none⟩=some (Is (some ⟨l0.ib,l0.io,none⟩) r.items.length l0.ic):=fun o o'=>((hn0.chg (((zK (fun _ _=>False) w).alloc o).alloc o') i3).c2);have s1:Ij.wrap ((r.items.length:Int) - 1)=(i:Int):=(by rw [zh _ (by omega)];omega);replace hil:=zL hil
 skip
 go_enter Try.func70,Try.ntmps70
 go_wp2_with (go_at_call 48;refine (kcD _ n k _ _ _ ?_ ?_ ?_).mono ?_;(focus go_simp);(focus go_simp);(focus go_simp);rintro e w' ⟨rfl,m,rfl⟩)
 refine kbW (fun w1=>Chg (fun _ _=>False) w w1∧w1.heap[w.heap.size]?=some (Ic #[Ii Ij 0,Ii Ij 0] 27 (0,0))∧w1.heap[w.heap.size+1]?=some (Ic #[Ii Ij 0,Ii Ij 0] 27 (0,0))) ⟨?_,?_,?_⟩ ?_
 ·exact (((zK _ _).alloc _).alloc _).drewN _
 ·rw [kcB,kcZ _ _ (by simp)];exact kbT _ _ rfl
 ·rw [kcB];exact kbT _ _ (by simp)
 rintro w2 ⟨hc1,hb1,hb2⟩
 have hna1:=hn0.chg hc1 i3
 have ht1':=ht.chg hc1 (by simp)
 clear hn1 ht1 hpa2 t0 n0 hn0 hn2 s1
 have hh:HintO none w:=HintO.none w
 have hvF:∀b,(none:Option Nat)=some b→¬F b:=fun b e=>by cases e
 have hcw2:Chg (fun b _=>(none:Option Nat)=some b) w w2:=hc1.mono (fun _ _ _ h=>h.elim)
 have hF2:=hF.chg hc1 i3
 have htt2:=ht.chg hc1 i3
 have hb2':=hb2
 have hlw2:=kbF hb2
 have hh2:=hh.keep hc1
 have HY:=zL hy
 have HT:=zL ht1'
 clear hb1 hb2 ht1' hna1 hy hc1
 have nF:∀b,w.heap.size≤b→¬F b:=fun b hb h=>Nat.lt_irrefl _ (zk (hF.lt h) hb)
 obtain ⟨l0,hna0⟩:=hF2.node hn
 have n3:=hna0.c3n hk
 have n2:=hna0.c2
 have iv:=hna0.mval (j:=i) HY.out
 have ik:=hna0.mkey (j:=i) HY.out
 have j0:(0:Int)≤(i:Int):=by omega
 have j1:(i:Int) < (r.items.length:Int):=by omega
 clear hna0
 go_wp2_with (go_at_call 51;refine (kcJ _ none _ n3).mono ?_;rintro e w' ⟨rfl,rfl⟩)
 refine kbD (fun w3=>Chg (fun _ _=>False) w2 w3∧w2.heap.size < w3.heap.size∧w3.heap[w2.heap.size]?=some (Ic #[Ii Ij y.1,Ii Ij y.2] 27 (0,0))) ⟨(zK _ _).alloc _,by simp,kbT _ _ rfl⟩ ?_
 rintro w3 ⟨hc3,hz3,hb3⟩
 have hsz2:=hcw2.size
 have hcw3:Chg (fun b _=>(none:Option Nat)=some b) w w3:=hcw2.trans (hc3.mono (fun _ _ _ h=>h.elim))
 have hF3:=hF2.chg hc3 i3
 obtain ⟨l,hna,hb,ho,cl⟩:=hF3.work hn
 have HM:=zL (htt2.chg hc3 i3)
 have HR:=zL (zm hna)
 have HB2:=zL (show w3.heap[w.heap.size+1]?=some (Ic #[Ii Ij 0,Ii Ij 0] 27 (0,0)) by rw [hc3.block hlw2 (fun _ h=>h)];exact hb2')
 have HB3:=zL hb3
 have HH3:=zL (hh2.keep hc3)
 have HCW:=zL hcw3
 have HZ:=zL (And.intro hsz2 hz3)
 have HCL:=zL cl
 have HO:=zL ho
 have HBF:=zL hb
 clear n2 n3 iv ik j0 j1 hb3 hz3 hsz2 hcw2 hcw3 hc3 hF2 hF3 hna htt2 hh2 hb2' cl ho
 have N2:w3.cell? ⟨n,2,none⟩=some (Is (some ⟨l.ib,l.io,none⟩) r.items.length l.ic):=HR.out.at_.c2
 have hlenc:r.items.length≤l.ic:=HR.out.at_.len
 have s0:(0:Int)≤(i:Int):=by omega
 have s2:(0:Int)≤(i:Int)+1:=by omega
 have s3:((i:Int)+1).toNat=i+1:=by omega
 have s4:(i:Int)≤(r.items.length:Int):=by omega
 have s5:(i:Int)+1≤(r.items.length:Int):=by omega
 have hck2:¬l.ic=i:=by omega
 obtain ⟨sp,hif,hsp⟩:∃sp,(if l.ic=i+1 then some (⟨l.ib,l.io,none⟩:Addr) else some ⟨l.ib,l.io+(i+1) * 2,none⟩)=some sp∧(i+1 < r.items.length→sp=⟨l.ib,l.io+(i+1) * 2,none⟩):=by
  by_cases h:l.ic=i+1
  ·exact ⟨_,by rw [if_pos h],fun h2=>by omega⟩
  ·exact ⟨_,by rw [if_neg h],fun _=>rfl⟩
 have s1:Ij.wrap ((i:Int)+1)=(i:Int)+1:=zh _ (by omega)
 have HSP:=zL hsp
 clear hsp
 go_still_tail 13,(by kernel_rfl)
 refine kfQ (p:=parM k) (by rfl) _ _ _ _ (by rfl) 27 (by kernel_rfl) kdD (HR.out.still ((zK _ _).drew)) i (l.io+i * 2) _ _ _ _ (show i < r.items.length by omega) (by simp [parM]) (by rfl) sp (by rfl) (by simpa [parM] using HSP.out) (by first | rfl | simp) (by first | rfl | simp) ?_
 intro w8 ys r8 hys1 hys2
 replace hys1:=zL hys1
 replace hys2:=zL hys2
 clear s0 s1 s2 s3 s4 s5 hck2 hif N2 hlenc HSP
 go_upto_region 11 with fail
 refine kbD (fun wz=>∃ys,ys.length=r.items.length∧ys.take (r.items.length - 1)=r.items.take i++r.items.drop (i+1)∧Run (parM k) w3 n r l wz { r with items:=ys } l) ⟨ys,hys1.out,hys2.out,r8⟩ ?_
 clear r8 hys1 hys2 HR
 rintro w4 ⟨y3,hly3,hy3,hR⟩
 replace hly3:=zL hly3
 replace hy3:=zL hy3
 have HR:=zL hR
 clear hR
 have hyb:1≤y3.length∧y3.length≤1001:=by rw [hly3.out];omega
 have N2:w4.cell? ⟨n,2,none⟩=some (Is (some ⟨l.ib,l.io,none⟩) y3.length l.ic):=HR.out.at_.c2
 have hm1:=HM.out.chg HR.out.chg (fun b o hm h=>htF b hm (hb _ h.blk))
 have e4:=hm1.c4
 have e5:=hm1.c5
 have hlenc:y3.length≤l.ic:=HR.out.at_.len
 have s0:(0:Int)≤(y3.length:Int) - 1:=by omega
 have s2:(y3.length:Int) - 1 < (y3.length:Int):=by omega
 have s3:((y3.length:Int) - 1).toNat=y3.length - 1:=by omega
 have s1:Ij.wrap ((y3.length:Int) - 1)=(y3.length:Int) - 1:=zh _ (by omega)
 have hlt:y3.length - 1 < y3.length:=by omega
 have z0:=HR.out.at_.ifz (l.io+(y3.length - 1) * 2)
 have z1:=HR.out.at_.ifz (l.io+(y3.length - 1) * 2+1)
 obtain ⟨y6,hy6⟩:∃y,y3[y3.length - 1]?=some y:=⟨_,zH hlt⟩
 have iv:=HR.out.at_.mval (j:=y3.length - 1) hy6
 have ik:=HR.out.at_.mkey (j:=y3.length - 1) hy6
 have r8:=(HR.out.still ((zK _ _).drew)).setItemM (y3.length - 1) ((0,0):Int×Int) hlt
 have HR8:=zL r8
 clear hm1 hy6 r8
 go_still_tail 14,(by kernel_rfl)
 go_upto_region 12 with fail
 refine kbD (fun wz=>∃ys,ys.length=y3.length∧ys.take (y3.length - 1)=y3.take (y3.length - 1)∧Run (parM k) w3 n r l wz { r with items:=ys } l) ⟨_,zW,kdB _ _ _,HR8.out⟩ ?_
 clear N2 e4 e5 hlenc s0 s1 s2 s3 hlt z0 z1 iv ik HR8 HR y6
 rintro w5 ⟨y4,hly4,hy4,hR⟩
 replace hly4:=zL hly4
 replace hy4:=zL hy4
 have HR:=zL hR
 clear hR
 have hyb:1≤y4.length∧y4.length≤1001:=by rw [hly4.out,hly3.out];omega
 have N2:w5.cell? ⟨n,2,none⟩=some (Is (some ⟨l.ib,l.io,none⟩) y4.length l.ic):=HR.out.at_.c2
 have z2:=HR.out.at_.fz 2
 have hlenc:y4.length≤l.ic:=HR.out.at_.len
 have s0:(0:Int)≤(y4.length:Int) - 1:=by omega
 have s2:(y4.length:Int) - 1≤(l.ic:Int):=by omega
 have s3:((y4.length:Int) - 1).toNat=y4.length - 1:=by omega
 have s1:Ij.wrap ((y4.length:Int) - 1)=(y4.length:Int) - 1:=zh _ (by omega)
 have ck:¬l.ic=0:=by omega
 have s6:¬((y4.length:Int) < 1):=by omega
 have s7:(1:Int)≤(y4.length:Int):=by omega
 have r8:=(HR.out.still ((zK _ _).drew)).cut 0 (y4.length - 1) l.ic (by show 0+(y4.length - 1)≤y4.length;omega) (by omega) (by omega)
 simp only [Nat.zero_mul,Nat.add_zero,zb] at r8
 have HR8:=zL r8
 clear r8
 go_still_tail 12,(by kernel_rfl)
 go_upto_region 13 with fail
 refine kbD (fun wz=>Run (parM k) w3 n r l wz { r with items:=y4.take (y4.length - 1) } l) HR8.out ?_
 clear N2 z2 hlenc s0 s1 s2 s3 s6 s7 ck HR8 HR
 rintro w6 hR
 have HR:=zL hR
 clear hR
 have C1:=HR.out.at_.c1
 have z1:=HR.out.at_.fz 1
 have s1:Ij.wrap (r.cnt - 1)=r.cnt - 1:=zh _ (by omega)
 have hsz:=HR.out.chg.size
 have r8:=HR.out.setCnt (r.cnt - 1)
 go_upto_region 14 with fail
 refine kbD (fun wz=>Run (parM k) w3 n r l wz ⟨r.cnt - 1,y4.take (y4.length - 1),r.kids⟩ l) r8 ?_
 clear C1 z1 s1 r8 hsz
 rintro w7 hR7
 have hit:y4.take (y4.length - 1)=r.items.take i++r.items.drop (i+1):=by
  have h1:=hy3.out
  have h2:=hy4.out
  rw [←hly3.out,←h2,←hly4.out] at h1
  exact h1
 rw [hit] at hR7
 have hc37:=hR7.chg
 have hext:∀b o,Ext (parM k) n r l b o→F b:=fun b o h=>HBF.out b h.blk
 obtain ⟨hz1,hz2⟩:=HZ.out
 have hb12:w7.heap[w.heap.size+1]?=some (Ic #[Ii Ij 0,Ii Ij 0] 27 (0,0)):=by
  rw [hc37.block (kbF HB2.out) (fun o h=>nF _ (zl _ _) (hext _ _ h))];exact HB2.out
 have hb17:w7.heap[w2.heap.size]?=some (Ic #[Ii Ij y.1,Ii Ij y.2] 27 (0,0)):=by
  rw [hc37.block (kbF HB3.out) (fun o h=>nF _ hz1 (hext _ _ h))];exact HB3.out
 obtain ⟨f7,g7⟩:=HCL.out _ _ _ hR7
 have hsz37:=hc37.size
 have hl12:=kbF HB2.out
 have hh7:HintO (none:Option Nat) w7:=HH3.out.chg g7 (fun b _ e=>hvF b e)
 have hc07:Chg (fun b _=>F b∨(none:Option Nat)=some b) w w7:=(HCW.out.mono (fun _ _ _ h=>.inr h)).trans (g7.mono (fun _ _ _ h=>.inl h))
 clear hR7 hc37 hit HR hly3 hly4 hy3 hy4
 have y0:=kbC hb12 0
 have y1:=kbC hb12 1
 have p0:=kbB hb12 0
 have p1:=kbB hb12 1
 simp only [zF,zD,zE] at p0 p1
 have x0:=kbC hb17 0
 have x1:=kbC hb17 1
 have r0:=kbB hb17 0
 have r1:=kbB hb17 1
 simp only [zF,zD,zE] at r0 r1
 go_wp2_with fail
 refine kbQ (fun wl=>Chg (fun b _=>b=w.heap.size+1) w7 wl∧wl.heap[w.heap.size+1]?=some (Ic #[Ii Ij y.1,Ii Ij y.2] 27 (0,0))) ⟨?_,blk2 hb12 _ _⟩ ?_
 ·repeat (first | refine ze ?_ | refine zf ?_ _ | refine zd ?_ (.inl rfl) _ | exact zK _ _)
 clear p0 p1 r0 r1
 rintro wl ⟨hcl,hbl⟩
 have p0:=kbB hbl 0
 have p1:=kbB hbl 1
 simp only [zF,zD,zE] at p0 p1
 refine bodyPost_ret (v:=Iu #[.agg #[Ii Ij y.1,Ii Ij y.2],.bool true]) (by simp [results,Try.results70,go_sem,p0,p1]) rfl ?_
 have f9:=f7.chg hcl (fun b o hb e=>by
  rcases hb with hb | hb
  ·exact nF b (by omega) hb
  ·have h1:=hb.1;omega)
 refine ⟨_,some y,rfl,f9.mono (fun b hb=>?_) (fun b hb=>?_),hc07.trans' hcl i3 (fun b o hb e=>by omega),hh7.chg hcl (fun b _ e e2=>by have:=hh.lt e;omega),rfl,rfl⟩
 ·rcases hb with hb | hb
  ·exact .inl hb
  ·exact .inr ⟨by have:=hb.1;omega,zk hb.2 hcl.size⟩
 ·rcases hb with hb | hb
  ·exact f9.lt (.inl hb)
  ·exact hb.2
end
section
open Go.RowKit
variable {ord:List Int}
theorem Fam.mono' {p:Par (It ord)} {w w0:World} {F F':Nat→Prop} {H H0:HN ord} (h:Fam p w F H) (h1:∀b,F b→F' b) (h2:Fam p w0 F' H0) (h3:w0.heap.size≤w.heap.size):Fam p w F' H :=
 h.mono h1 (fun b hb=>zk (h2.lt hb) h3)
def RebPost' (k:Kc ord) (F:Nat→Prop) (Z:(HN ord)→Prop) (w:World) (e:Ending) (w':World):Prop :=
 e=Ir (Iu #[])∧∃H',Fam (parM k) w' (grow F w w') H'∧Chg (fun b _=>F b) w w'∧Z H'
theorem delete_kid {k:Kc ord} {mn mx t n d c:Nat} {pa:Addr} {x:It ord} {i:Nat} {r:NodeR (It ord)} {w:World} {F:Nat→Prop} {H:HN ord} {hv:Option Nat} {kl:List Nat} (hF:Fam (parM k) w F H) (ht:MapAt k mn mx w t) (htF:∀b,MOwn k t b→¬F b) (hn:H n=some r)
  (hpa:w.cell? pa=some (Ip (some ⟨n,0,none⟩))) (hs:Srt ltM r.items) (hlen:r.items.length≤1000) (hpos:1≤r.items.length) (hk:r.kids=some (kl.map some)) (hc:kl[i]?=some c) (hcn:c≠n) (hy:PosAt ltM r.items x i) (hc0:0≤r.cnt∧r.cnt≤100000000000000)
  (hh:HintO hv w) (hvF:∀b,hv=some b→¬F b) (hvt:∀b,hv=some b→¬MOwn k t b) (hd:d≤1000000000000)
  (Z Z2:(HN ord)→Option (It ord)→Prop)
  (hcall:∀w1 pa1,Chg (fun b _=>hv=some b) w w1→Fam (parM k) w1 F H→MapAt k mn mx w1 t→HintO hv w1→w1.cell? pa1=some (Ip (some ⟨c,0,none⟩))→Calls Tp 70 #[Ip (some ⟨t,0,none⟩),Ip (some pa1),.bool false,aggM x,hintV hv,Ii Ij ((d:Int)+1)] w1 (DelPost k F hv Z w1))
  (hZ:∀H' o,Z H' o→H' n=some r∧∃rc,H' c=some rc∧rc.items.length≤1000)
  (hno:∀H',Z H' none→Z2 H' none)
  (hok:∀H' y rc,Z H' (some y)→H' c=some rc→mn≤rc.items.length→Z2 (upd H' n ⟨r.cnt - 1,r.items,r.kids⟩) (some y))
  (hreb:∀H' y rc w1 F1,Z H' (some y)→H' c=some rc→rc.items.length < mn→Fam (parM k) w1 F1 (upd H' n ⟨r.cnt - 1,r.items,r.kids⟩)→MapAt k mn mx w1 t→(∀b,MOwn k t b→¬F1 b)→Calls Tp 80 #[Ip (some ⟨t,0,none⟩),Ip (some ⟨n,0,none⟩),Ii Ij i] w1 (RebPost' k F1 (fun H''=>Z2 H'' (some y)) w1)) :
  Calls Tp 70 #[Ip (some ⟨t,0,none⟩),Ip (some pa),.bool false,aggM x,hintV hv,Ii Ij d] w (DelPost k F hv Z2 w):=by
 obtain ⟨l0,hn0⟩:=hF.node hn
 have t0:=ht.c0
 have n0:=hn0.c0
 have hpk:(parM k).k=k.iso:=rfl
 rw [hpk] at n0
 have nlt:n < w.heap.size:=zg w _ n0
 have tlt:t < w.heap.size:=zg w _ t0
 have plt:=zg w _ hpa
 have hpa2:∀o o',((w.alloc o).alloc o').cell? pa=some (Ip (some ⟨n,0,none⟩)):=fun o o'=>by rw [World.cell?_alloc_lt _ _ _ (by simp;omega),World.cell?_alloc_lt w _ _ plt];exact hpa
 have hn1:∀o o',((w.alloc o).alloc o').cell? ⟨n,0,none⟩=some (.int .u64 k.iso):=fun o o'=>((hn0.chg (((zK (fun _ _=>False) w).alloc o).alloc o') i3).c0)
 have ht1:∀o o',((w.alloc o).alloc o').cell? ⟨t,0,none⟩=some (.int .u64 k.iso):=fun o o'=>((ht.chg (((zK (fun _ _=>False) w).alloc o).alloc o') i3).c0)
 skip
 unfold aggM hintV
 go_enter Try.func70,Try.ntmps70
 go_wp2_with (go_at_call 48;refine (kcD _ n k _ _ _ ?_ ?_ ?_).mono ?_;(focus go_simp);(focus go_simp);(focus go_simp);rintro e w' ⟨rfl,m,rfl⟩)
 refine kbW (fun w1=>Chg (fun _ _=>False) w w1∧w1.heap[w.heap.size]?=some (Ic #[Ii Ij x.1,Ii Ij x.2] 27 (0,0))∧w1.heap[w.heap.size+1]?=some (Ic #[Ii Ij 0,Ii Ij 0] 27 (0,0))) ⟨?_,?_,?_⟩ ?_
 ·exact (((zK _ _).alloc _).alloc _).drewN _
 ·rw [kcB,kcZ _ _ (by simp)];exact kbT _ _ rfl
 ·rw [kcB];exact kbT _ _ (by simp)
 rintro w1 ⟨hc1,hb1,hb2⟩
 have hna1:=hn0.chg hc1 i3
 have ht1':=ht.chg hc1 (by simp)
 clear hn1 ht1 hpa2 t0 n0 hn0
 refine (find_o hv t d x ht1' hna1 hs (by omega) hpos (hh.keep hc1) hd).mono ?_
 rintro e w2 ⟨i',f,rfl,hw2,hh2,hf⟩
 have hnv:∀b,w.heap.size≤b→¬hv=some b:=fun b hb e=>by have:=hh.lt e;omega
 have hb1':w2.heap[w.heap.size]?=some (Ic #[Ii Ij x.1,Ii Ij x.2] 27 (0,0)):=by rw [hw2.block (kbF hb1) (fun _=>hnv _ (zi _))];exact hb1
 have hb2':w2.heap[w.heap.size+1]?=some (Ic #[Ii Ij 0,Ii Ij 0] 27 (0,0)):=by rw [hw2.block (kbF hb2) (fun _=>hnv _ (zl _ _))];exact hb2
 have hcw2:Chg (fun b _=>hv=some b) w w2:=(hc1.mono (fun _ _ _ h=>h.elim)).trans hw2
 have hF2:=hF.chg hcw2 (fun b _ hb e=>hvF b e hb)
 have htt2:=ht.chg hcw2 (fun b _ hb e=>hvt b e hb)
 have hlw2:=kbF hb2'
 have hfi:f=false∧i=i':=by
  rcases hf with ⟨h1,y',h2⟩ | ⟨h1,h2⟩
  ·exact absurd h2.n2 (by rw [hy.right i' y' (hit_le hy h2) h2.at_];simp)
  ·exact ⟨h1,(pos_same h2 hy swoM).symm⟩
 obtain ⟨rfl,rfl⟩:=hfi
 have hil:=hy.le
 clear hb1 hb2 hw2 hf ht1' hna1 hy
 obtain ⟨l,hna,hbl,ho,cl⟩:=hF2.work hn
 have HB1:=zL hb1'
 have HB2:=zL hb2'
 have HH2:=zL hh2
 have q0:=kbB hb1' 0
 have q1:=kbB hb1' 1
 simp only [zF,zD,zE] at q0 q1
 have n3:=hna.c3s hk
 have hkl:=(zG.1 hc).1
 have g1:=hna.cc hk
 rw [zU] at g1
 have g2:=hna.kidc hk (j:=i) (o:=some c) (by simp [hc])
 clear hna hb1' hb2' hh2
 go_wp2_with (go_at_call 51;refine (kcJ _ (some ⟨l.cc,0,none⟩) _ ?_).mono ?_;(focus go_simp);rintro e w' ⟨rfl,rfl⟩)
 refine kbD (fun w3=>Chg (fun _ _=>False) w2 w3∧w3.heap[w2.heap.size]?=some (Ic #[Ii Ij 0,Ii Ij 0] 27 (0,0))) ⟨(zK _ _).alloc _,kbT _ _ rfl⟩ ?_
 rintro w3 ⟨hc3,hb18⟩
 replace q0:=hc3.q q0
 replace q1:=hc3.q q1
 replace n3:=hc3.q n3
 replace g1:=hc3.q g1
 replace g2:=hc3.q g2
 have hcw3:=hcw2.trans (hc3.mono (fun _ _ _ h=>h.elim))
 have j0:(0:Int)≤(i:Int):=by omega
 have j1:(i:Int) < (kl.length:Int):=by omega
 have HB18:=zL hb18
 have hl18:=kbF hb18
 clear hb18
 have s1:Ij.wrap ((d:Int)+1)=(d:Int)+1:=zh _ (by omega)
 refine kfN (fun w'=>w'.cell? ⟨w.heap.size,0,none⟩=some (Ii Ij x.1)∧w'.cell? ⟨w.heap.size,1,none⟩=some (Ii Ij x.2)∧w'.cell? ⟨n,3,none⟩=some (Ip (some ⟨l.cc,0,none⟩))∧w'.cell? ⟨l.cc,0,none⟩=some (Is (some ⟨l.cb,l.co,none⟩) kl.length l.ck))
  14 [0,1,2,3,4,5,6,7,8,9,10,11,12,13] _ [(15,true),(16,true),(17,true),(18,false),(19,true)] (by kernel_rfl) (by kernel_rfl) (fun _ _ _ _ _ h=>h) rfl rfl ⟨q0,q1,n3,g1⟩ ?_
 simp only [kbK,zX,zY,zD,zE]
 iterate 14
  refine kbR ?_ rfl ?_ ?_
  rotate_left
  ·intro w' hS
   try obtain ⟨a1,a2,a3,a4⟩:=hS
   go_simp
   try with_reducible rfl
  simp only [zJ,zA,zB,zC]
 refine kbS ?_
 refine wp_hide (fun K hK=>?_)
 go_simp
 go_at_call 70
 have hc13:=hcw3.drew
 refine (hcall _ _ hc13 (hF.chg hc13 (fun b _ hb e=>hvF b e hb)) (ht.chg hc13 (fun b _ hb e=>hvt b e hb)) ((HH2.out.keep hc3).keep (zK _ _).drew) g2).mono ?_
 rintro e w4 ⟨H',o,rfl,hF4,hc4',hh4,hz4⟩
 have hc4:Chg (fun b _=>F b∨hv=some b) w3 w4:=((zK _ _).drew).trans hc4'
 clear hc4' q0 q1 n3 g1 g2 j0 j1 s1
 have nF:∀b,w.heap.size≤b→¬F b:=fun b hb h=>Nat.lt_irrefl _ (zk (hF.lt h) hb)
 have hsz2:=hcw2.size
 have hsz3:=hc3.size
 have hb18:w4.heap[w2.heap.size]?=some (Ic #[Ii Ij 0,Ii Ij 0] 27 (0,0)):=by
  rw [hc4.block (by simpa using hl18) (fun _ h=>by
   rcases h with h | h
   ·exact nF _ hsz2 h
   ·exact hnv _ hsz2 h)]
  exact HB18.out
 have y0:=kbC hb18 0
 have y1:=kbC hb18 1
 have p0:=kbB hb18 0
 have p1:=kbB hb18 1
 simp only [zF,zD,zE] at p0 p1
 have HB18':=zL hb18
 have HF4:=zL hF4
 have HC4:=zL hc4
 clear hb18 HB18 hF4 hc4
 refine hK _ _ ?_
 clear hK K
 rcases o with _ | y
 ·unfold lastV
  iterate 3
   refine kcN (by rfl) ?_ (by simp [zI,yielded]) ?_ ?_
   rotate_left
   ·intro w' hS
    try obtain ⟨a1⟩:=hS
    go_simp
    try with_reducible rfl
   simp only [zJ,zA,zB,zC]
  refine kcR (by rfl) (by simp [zI,yielded]) (fun K hK=>?_)
  go_simp
  refine hK _ _ (fun _=>trivial) ?_
  clear hK K
  refine kcN (by rfl) ?_ (by simp [zI,yielded]) ?_ ?_
  rotate_left
  ·intro w' hS
   try obtain ⟨a1⟩:=hS
   go_simp
   try with_reducible rfl
  simp only [zJ,zA,zB,zC]
  refine kdQ ?_
  refine kbQ (fun w5=>Chg (fun b _=>b=w2.heap.size) w4 w5∧w5.heap[w2.heap.size]?=some (Ic #[Ii Ij 0,Ii Ij 0] 27 (0,0))) ⟨?_,blk2 HB18'.out _ _⟩ ?_
  ·repeat (first | refine ze ?_ | refine zf ?_ _ | refine zd ?_ (.inl rfl) _ | exact zK _ _)
  clear p0 p1 y0 y1 HB18'
  rintro w5 ⟨hc5,hb18⟩
  have hsz4:=HC4.out.size
  have hszd:w3.drew.heap.size=w3.heap.size:=rfl
  have hc05:Chg (fun b _=>F b∨hv=some b) w w5:=((hcw3.mono (fun _ _ _ h=>.inr h)).trans (HC4.out.mono i3)).trans' hc5 i3 (fun b o hb e=>by omega)
  have hF5:=HF4.out.chg hc5 (fun b o hb e=>by
   rcases hb with hb | hb
   ·exact nF b (by omega) hb
   ·have h1:=hb.1;omega)
  have hh5:HintO hv w5:=hh4.chg hc5 (fun b _ e e2=>by have:=hh.lt e;omega)
  have ht5:=ht.chg hc05 (fun b _ hm e=>by
   rcases e with e | e
   ·exact htF b hm e
   ·exact hvt b e hm)
  have hb12:w5.heap[w.heap.size+1]?=some (Ic #[Ii Ij 0,Ii Ij 0] 27 (0,0)):=by
   rw [hc5.block (by omega) (fun _ e=>by omega),HC4.out.block (by omega) (fun _ h=>by
    rcases h with h | h
    ·exact nF _ (zl _ _) h
    ·exact hnv _ (zl _ _) h),hc3.block hlw2 (fun _ h=>h)]
   exact HB2.out
  have e4:=ht5.c4
  have e5:=ht5.c5
  have HB12:=zL hb12
  have HF5:=zL hF5
  have HH5:=zL hh5
  have HC05:=zL hc05
  have y0:=kbC hb12 0
  have y1:=kbC hb12 1
  have p0:=kbB hb12 0
  have p1:=kbB hb12 1
  simp only [zF,zD,zE] at p0 p1
  clear hb12 hb18 hF5 hh5 hc05 ht5
  go_wp2_with fail
  refine kbQ (fun wl=>Chg (fun b _=>b=w.heap.size+1) w5 wl∧wl.heap[w.heap.size+1]?=some (Ic #[Ii Ij 0,Ii Ij 0] 27 (0,0))) ⟨?_,blk2 HB12.out _ _⟩ ?_
  ·repeat (first | refine ze ?_ | refine zf ?_ _ | refine zd ?_ (.inl rfl) _ | exact zK _ _)
  clear p0 p1
  rintro wl ⟨hcl,hbl⟩
  have p0:=kbB hbl 0
  have p1:=kbB hbl 1
  simp only [zF,zD,zE] at p0 p1
  refine bodyPost_ret (v:=Iu #[.agg #[Ii Ij 0,Ii Ij 0],.bool false]) (by simp [results,Try.results70,go_sem,p0,p1]) rfl ?_
  have f9:=HF5.out.chg hcl (fun b o hb e=>by
   rcases hb with hb | hb
   ·exact nF b (by omega) hb
   ·have h1:=hb.1;omega)
  refine ⟨H',none,rfl,f9.mono (fun b hb=>?_) (fun b hb=>?_),HC05.out.trans' hcl i3 (fun b o hb e=>by omega),HH5.out.chg hcl (fun b _ e e2=>by have:=hh.lt e;omega),hno H' hz4⟩
  ·have hbl:=f9.lt hb
   rcases hb with hb | hb
   ·exact .inl hb
   ·exact .inr ⟨by have:=hb.1;omega,hbl⟩
  ·rcases hb with hb | hb
   ·exact zk (hF.lt hb) (HC05.out.trans' hcl (B:=fun _ _=>True) (fun _ _ _ _=>trivial) (fun _ _ _ _=>trivial)).size
   ·exact hb.2
 ·unfold lastV
  iterate 3
   refine kcN (by rfl) ?_ (by simp [zI,yielded]) ?_ ?_
   rotate_left
   ·intro w' hS
    try obtain ⟨a1⟩:=hS
    go_simp
    try with_reducible rfl
   simp only [zJ,zA,zB,zC]
  refine kcR (by rfl) (by simp [zI,yielded]) (fun K hK=>?_)
  go_simp
  refine hK _ _ (fun _=>trivial) ?_
  clear hK K
  refine kcN (by rfl) ?_ (by simp [zI,yielded]) ?_ ?_
  rotate_left
  ·intro w' hS
   try obtain ⟨a1⟩:=hS
   go_simp
   try with_reducible rfl
  simp only [zJ,zA,zB,zC]
  refine kdQ ?_
  refine kbQ (fun w5=>Chg (fun b _=>b=w2.heap.size) w4 w5∧w5.heap[w2.heap.size]?=some (Ic #[Ii Ij y.1,Ii Ij y.2] 27 (0,0))) ⟨?_,blk2 HB18'.out _ _⟩ ?_
  ·repeat (first | refine ze ?_ | refine zf ?_ _ | refine zd ?_ (.inl rfl) _ | exact zK _ _)
  clear p0 p1 y0 y1 HB18'
  rintro w5 ⟨hc5,hb18⟩
  have hsz4:=HC4.out.size
  have hszd:w3.drew.heap.size=w3.heap.size:=rfl
  have hc05:Chg (fun b _=>F b∨hv=some b) w w5:=((hcw3.mono (fun _ _ _ h=>.inr h)).trans (HC4.out.mono i3)).trans' hc5 i3 (fun b o hb e=>by omega)
  have hF5:=HF4.out.chg hc5 (fun b o hb e=>by
   rcases hb with hb | hb
   ·exact nF b (by omega) hb
   ·have h1:=hb.1;omega)
  have hh5:HintO hv w5:=hh4.chg hc5 (fun b _ e e2=>by have:=hh.lt e;omega)
  have ht5:=ht.chg hc05 (fun b _ hm e=>by
   rcases e with e | e
   ·exact htF b hm e
   ·exact hvt b e hm)
  have hb12:w5.heap[w.heap.size+1]?=some (Ic #[Ii Ij 0,Ii Ij 0] 27 (0,0)):=by
   rw [hc5.block (by omega) (fun _ e=>by omega),HC4.out.block (by omega) (fun _ h=>by
    rcases h with h | h
    ·exact nF _ (zl _ _) h
    ·exact hnv _ (zl _ _) h),hc3.block hlw2 (fun _ h=>h)]
   exact HB2.out
  have hGo:∀b,b < w3.heap.size→w.heap.size≤b→¬(grow F w3.drew w4) b:=fun b h1 h2 h=>by
   rcases h with h | h
   ·exact nF b h2 h
   ·have h3:=h.1;skip;omega
  have hG0:∀b,(grow F w3.drew w4) b→F b∨w.heap.size≤b:=fun b h=>by
   rcases h with h | h
   ·exact .inl h
   ·exact .inr (by have h3:=h.1;skip;omega)
  obtain ⟨hn4,rc,hrc,hrl⟩:=hZ _ _ hz4
  obtain ⟨l4,hna4,hb4,ho4,cl4⟩:=hF5.work hn4
  have C1:=hna4.c1
  have z1:=hna4.fz 1
  have s1:Ij.wrap (r.cnt - 1)=r.cnt - 1:=zh _ (by omega)
  have r8:=(zm hna4).setCnt (r.cnt - 1)
  have HB12:=zL hb12
  have HB18:=zL hb18
  have HC05:=zL hc05
  have HH5:=zL hh5
  have HT5:=zL ht5
  have hl12:=kbF hb12
  have hl5:=kbF hb18
  clear hb12 hb18 hc05 hh5 ht5 hna4
  go_upto_region 30 with fail
  refine kbD (fun w6=>w6.heap.size=w5.heap.size∧Fam (parM k) w6 (grow (grow F w3.drew w4) w5 w6) (upd H' n ⟨r.cnt - 1,r.items,r.kids⟩)∧Chg (fun b _=>(grow F w3.drew w4) b) w5 w6) ⟨by simp,(cl4 _ _ _ r8).1,(cl4 _ _ _ r8).2⟩ ?_
  clear C1 z1 s1 r8 cl4 ho4 hb4
  rintro w6 ⟨hz6,hF6,hc6⟩
  have hb12:w6.heap[w.heap.size+1]?=some (Ic #[Ii Ij 0,Ii Ij 0] 27 (0,0)):=by rw [hc6.block hl12 (fun _ h=>hGo _ (by omega) (zl _ _) h)];exact HB12.out
  have hb18:w6.heap[w2.heap.size]?=some (Ic #[Ii Ij y.1,Ii Ij y.2] 27 (0,0)):=by rw [hc6.block hl5 (fun _ h=>hGo _ hl18 hsz2 h)];exact HB18.out
  have hc06:Chg (fun b _=>F b∨hv=some b) w w6:=HC05.out.trans' hc6 i3 (fun b o hb h=>(hG0 b h).elim .inl (fun h=>by omega))
  have hh6:HintO hv w6:=HH5.out.chg hc6 (fun b _ e h=>(hG0 b h).elim (hvF b e) (fun h=>by have:=hh.lt e;omega))
  have ht6:=ht.chg hc06 (fun b _ hm e=>by
   rcases e with e | e
   ·exact htF b hm e
   ·exact hvt b e hm)
  have hF7:Fam (parM k) w6 (grow F w3.drew w4) (upd H' n ⟨r.cnt - 1,r.items,r.kids⟩):=hF6.mono' (fun b h=>by rcases h with h | h;exact h;have h1:=h.1;have h2:=h.2;omega) hF5 (by omega)
  obtain ⟨ln,hn6⟩:=hF7.node (kbX _ _ _)
  obtain ⟨lc,hc6'⟩:=hF7.node ((kcP _ _ hcn).trans hrc)
  have n3:=hn6.c3s hk
  have g1:=hn6.cc hk
  rw [zU] at g1
  have g2:=hn6.kidc hk (j:=i) (o:=some c) (by simp [hc])
  have d2:=hc6'.c2
  have e9:=ht6.c6
  have j0:(0:Int)≤(i:Int):=by omega
  have j1:(i:Int) < (kl.length:Int):=by omega
  have HB12':=zL hb12
  have HB18':=zL hb18
  have HH6:=zL hh6
  have HC06:=zL hc06
  have HT6:=zL ht6
  have HF7:=zL hF7
  clear hb12 hb18 hh6 hc06 ht6 hF7 hF6 hn6 hc6' hF5 HB12 HB18 HC05 HH5 HT5 hc6
  refine kbM (fun w'=>w'.cell? ⟨n,3,none⟩=some (Ip (some ⟨ln.cc,0,none⟩))∧w'.cell? ⟨ln.cc,0,none⟩=some (Is (some ⟨ln.cb,ln.co,none⟩) kl.length ln.ck)∧w'.cell? ⟨ln.cb,ln.co+i,none⟩=some (Ip (some ⟨c,0,none⟩))∧w'.cell? ⟨c,2,none⟩=some (Is (some ⟨lc.ib,lc.io,none⟩) rc.items.length lc.ic)∧w'.cell? ⟨t,10,none⟩=some (Ii Ij mn)) (.soft 0 (.soft 1 (.soft 2 (.soft 3 (.soft 4 (.soft 5 (.soft 6 (.soft 7 (.soft 8 (.soft 9 (.soft 10 (.soft 11 (.soft 12 (.soft 13 (.soft 14 (.soft 15 (.soft 16 (.soft 17 .nil)))))))))))))))))) (by kernel_rfl) (by kernel_rfl) (fun _ _ _ _ _ h=>h) ⟨n3,g1,g2,d2,e9⟩ ?_
  repeat (first | (refine kbH (by rfl) ?_ ?_ ?_ ?_;rotate_left;(· simp [zI,yielded];done);(· intro w' hS;try obtain ⟨a1,a2,a3,a4,a5⟩:=hS;go_simp;try with_reducible rfl);simp only [zJ,zA,zB,zC]) | (refine kbJ (by rfl) ?_ ?_;(· simp [zI,yielded];done);simp only [zJ,zA,zB,zC]))
  refine kcT ?_
  clear n3 g1 g2 d2 e9
  by_cases hlt:rc.items.length < mn
  ·have hlt':(rc.items.length:Int) < (mn:Int):=by omega
   have hGM:∀b,MOwn k t b→¬(grow F w3.drew w4) b:=fun b hm h=>(hG0 b h).elim (htF b hm) (fun h=>by have:=ht.lt hm;omega)
   have HRB:=zL (hreb _ _ _ _ _ hz4 hrc hlt (HF7.out.chg ((zK (fun _ _=>False) w6).drew) i3) (HT6.out.chg ((zK (fun _ _=>False) w6).drew) i3) hGM)
   go_wp2_with fail
   refine HRB.out.mono ?_
   rintro e w8 ⟨rfl,H'',f8,g8,z8⟩
   have hszd6:w6.drew.heap.size=w6.heap.size:=rfl
   have hsz8:=g8.size
   have hb12:w8.heap[w.heap.size+1]?=some (Ic #[Ii Ij 0,Ii Ij 0] 27 (0,0)):=by rw [g8.block (by omega) (fun _ h=>hGo _ (by omega) (zl _ _) h),kbZ];exact HB12'.out
   have hb18:w8.heap[w2.heap.size]?=some (Ic #[Ii Ij y.1,Ii Ij y.2] 27 (0,0)):=by rw [g8.block (by omega) (fun _ h=>hGo _ hl18 hsz2 h),kbZ];exact HB18'.out
   have y0:=kbC hb12 0
   have y1:=kbC hb12 1
   have p0:=kbB hb12 0
   have p1:=kbB hb12 1
   simp only [zF,zD,zE] at p0 p1
   have x0:=kbC hb18 0
   have x1:=kbC hb18 1
   have r0:=kbB hb18 0
   have r1:=kbB hb18 1
   simp only [zF,zD,zE] at r0 r1
   have hc08:Chg (fun b _=>F b∨hv=some b) w w8:=HC06.out.drew.trans' g8 i3 (fun b o hb h=>(hG0 b h).elim .inl (fun h=>by omega))
   have hh8:HintO hv w8:=(HH6.out.keep ((zK (fun _ _=>False) w6).drew)).chg g8 (fun b _ e h=>(hG0 b h).elim (hvF b e) (fun h=>by have:=hh.lt e;omega))
   have HF8:=zL f8
   have HC08:=zL hc08
   have HH8:=zL hh8
   have HZ8:=zL z8
   have HBB:=zL hb12
   clear f8 g8 hc08 hh8 z8 hb12 hb18 HRB
   go_wp2_with fail
   refine kbQ (fun wl=>Chg (fun b _=>b=w.heap.size+1) w8 wl∧wl.heap[w.heap.size+1]?=some (Ic #[Ii Ij y.1,Ii Ij y.2] 27 (0,0))) ⟨?_,blk2 HBB.out _ _⟩ ?_
   ·repeat (first | refine ze ?_ | refine zf ?_ _ | refine zd ?_ (.inl rfl) _ | exact zK _ _)
   clear p0 p1 r0 r1
   rintro wl ⟨hcl,hbl⟩
   have p0:=kbB hbl 0
   have p1:=kbB hbl 1
   simp only [zF,zD,zE] at p0 p1
   refine bodyPost_ret (v:=Iu #[.agg #[Ii Ij y.1,Ii Ij y.2],.bool true]) (by simp [results,Try.results70,go_sem,p0,p1]) rfl ?_
   have f9:=HF8.out.chg hcl (fun b o hb e=>by
    rcases hb with hb | hb
    ·exact hGo b (by omega) (by omega) hb
    ·have h1:=hb.1;omega)
   refine ⟨H'',some y,rfl,f9.mono (fun b hb=>?_) (fun b hb=>?_),HC08.out.trans' hcl i3 (fun b o hb e=>by omega),HH8.out.chg hcl (fun b _ e e2=>by have:=hh.lt e;omega),HZ8.out⟩
   ·have hbl:=zk (HF8.out.lt hb) hcl.size
    rcases hb with hb | hb
    ·exact (hG0 b hb).elim .inl (fun h=>.inr ⟨h,hbl⟩)
    ·exact .inr ⟨by have:=hb.1;omega,hbl⟩
   ·rcases hb with hb | hb
    ·exact zk (hF.lt hb) (HC08.out.trans' hcl (B:=fun _ _=>True) (fun _ _ _ _=>trivial) (fun _ _ _ _=>trivial)).size
    ·exact hb.2
  ·have hlt':¬(rc.items.length:Int) < (mn:Int):=by omega
   have HOK:=zL (hok _ _ _ hz4 hrc (by omega))
   have y0:=kbC HB12'.out 0
   have y1:=kbC HB12'.out 1
   have p0:=kbB HB12'.out 0
   have p1:=kbB HB12'.out 1
   simp only [zF,zD,zE] at p0 p1
   have x0:=kbC HB18'.out 0
   have x1:=kbC HB18'.out 1
   have r0:=kbB HB18'.out 0
   have r1:=kbB HB18'.out 1
   simp only [zF,zD,zE] at r0 r1
   go_wp2_with fail
   refine kbQ (fun wl=>Chg (fun b _=>b=w.heap.size+1) w6 wl∧wl.heap[w.heap.size+1]?=some (Ic #[Ii Ij y.1,Ii Ij y.2] 27 (0,0))) ⟨?_,blk2 HB12'.out _ _⟩ ?_
   ·repeat (first | refine ze ?_ | refine zf ?_ _ | refine zd ?_ (.inl rfl) _ | exact zK _ _)
   clear p0 p1 r0 r1
   rintro wl ⟨hcl,hbl⟩
   have p0:=kbB hbl 0
   have p1:=kbB hbl 1
   simp only [zF,zD,zE] at p0 p1
   refine bodyPost_ret (v:=Iu #[.agg #[Ii Ij y.1,Ii Ij y.2],.bool true]) (by simp [results,Try.results70,go_sem,p0,p1]) rfl ?_
   have f9:=HF7.out.chg hcl (fun b o hb e=>hGo b (by omega) (by omega) hb)
   refine ⟨_,some y,rfl,f9.mono (fun b hb=>?_) (fun b hb=>?_),HC06.out.trans' hcl i3 (fun b o hb e=>by omega),HH6.out.chg hcl (fun b _ e e2=>by have:=hh.lt e;omega),HOK.out⟩
   ·have hbl:=f9.lt hb
    exact (hG0 b hb).elim .inl (fun h=>.inr ⟨h,hbl⟩)
   ·rcases hb with hb | hb
    ·exact zk (hF.lt hb) (HC06.out.trans' hcl (B:=fun _ _=>True) (fun _ _ _ _=>trivial) (fun _ _ _ _=>trivial)).size
    ·exact hb.2
end
section
open Go.RowKit
variable {ord:List Int}
theorem delete_kid_max {k:Kc ord} {mn mx t n c:Nat} {pa:Addr} {j i:Nat} {r:NodeR (It ord)} {w:World} {F:Nat→Prop} {H:HN ord} {kl:List Nat} (hF:Fam (parM k) w F H) (ht:MapAt k mn mx w t) (htF:∀b,MOwn k t b→¬F b) (hn:H n=some r)
  (hpa:w.cell? pa=some (Ip (some ⟨n,0,none⟩))) (hlen:r.items.length≤1000) (hil:r.items.length=j+1) (hij:i=j+1) (hk:r.kids=some (kl.map some)) (hc:kl[i]?=some c) (hcn:c≠n) (hc0:0≤r.cnt∧r.cnt≤100000000000000)
  (Z Z2:(HN ord)→Option (It ord)→Prop)
  (hcall:∀w1 pa1,Chg (fun _ _=>False) w w1→Fam (parM k) w1 F H→MapAt k mn mx w1 t→w1.cell? pa1=some (Ip (some ⟨c,0,none⟩))→Calls Tp 70 #[Ip (some ⟨t,0,none⟩),Ip (some pa1),.bool true,.agg #[Ii Ij 0,Ii Ij 0],Ip none,Ii Ij 0] w1 (DelPost k F none Z w1))
  (hZ:∀H' o,Z H' o→H' n=some r∧∃rc,H' c=some rc∧rc.items.length≤1000)
  (hZ0:∀H',¬Z H' none)
  (hok:∀H' y rc,Z H' (some y)→H' c=some rc→mn≤rc.items.length→Z2 (upd H' n ⟨r.cnt - 1,r.items,r.kids⟩) (some y))
  (hreb:∀H' y rc w1 F1,Z H' (some y)→H' c=some rc→rc.items.length < mn→Fam (parM k) w1 F1 (upd H' n ⟨r.cnt - 1,r.items,r.kids⟩)→MapAt k mn mx w1 t→(∀b,MOwn k t b→¬F1 b)→Calls Tp 80 #[Ip (some ⟨t,0,none⟩),Ip (some ⟨n,0,none⟩),Ii Ij i] w1 (RebPost' k F1 (fun H''=>Z2 H'' (some y)) w1)) :
  Calls Tp 70 #[Ip (some ⟨t,0,none⟩),Ip (some pa),.bool true,.agg #[Ii Ij 0,Ii Ij 0],Ip none,Ii Ij 0] w (DelPost k F none Z2 w):=by
 obtain ⟨hv,hvn⟩:∃hv:Option Nat,hv=none:=⟨_,rfl⟩
 have e:DelPost k F none Z2 w=DelPost k F hv Z2 w:=by rw [hvn]
 rw [e]
 clear e
 have hh:HintO hv w:=by rw [hvn];exact HintO.none w
 have hvF:∀b,hv=some b→¬F b:=fun b e=>by rw [hvn] at e;cases e
 have hvt:∀b,hv=some b→¬MOwn k t b:=fun b e=>by rw [hvn] at e;cases e
 replace hvn:=zL hvn
 have s2:Ij.wrap ((j:Int)+1)=(i:Int):=(by rw [zh _ (by omega)];omega)
 have hkl0:=(zG.1 hc).1
 replace hij:=zL hij
 obtain ⟨l0,hn0⟩:=hF.node hn
 have t0:=ht.c0
 have n0:=hn0.c0
 have hpk:(parM k).k=k.iso:=rfl
 rw [hpk] at n0
 have nlt:n < w.heap.size:=zg w _ n0
 have tlt:t < w.heap.size:=zg w _ t0
 have plt:=zg w _ hpa
 have hpa2:∀o o',((w.alloc o).alloc o').cell? pa=some (Ip (some ⟨n,0,none⟩)):=fun o o'=>by rw [World.cell?_alloc_lt _ _ _ (by simp;omega),World.cell?_alloc_lt w _ _ plt];exact hpa
 have hn1:∀o o',((w.alloc o).alloc o').cell? ⟨n,0,none⟩=some (.int .u64 k.iso):=fun o o'=>((hn0.chg (((zK (fun _ _=>False) w).alloc o).alloc o') i3).c0)
 have ht1:∀o o',((w.alloc o).alloc o').cell? ⟨t,0,none⟩=some (.int .u64 k.iso):=fun o o'=>((ht.chg (((zK (fun _ _=>False) w).alloc o).alloc o') i3).c0)
 have hn2:∀o o',((w.alloc o).alloc o').cell? ⟨n,2,none⟩=some (Is (some ⟨l0.ib,l0.io,none⟩) r.items.length l0.ic):=fun o o'=>((hn0.chg (((zK (fun _ _=>False) w).alloc o).alloc o') i3).c2);have s1:Ij.wrap ((r.items.length:Int) - 1)=(j:Int):=(by rw [zh _ (by omega)];omega);replace hil:=zL hil
 skip
 go_enter Try.func70,Try.ntmps70
 go_wp2_with (go_at_call 48;refine (kcD _ n k _ _ _ ?_ ?_ ?_).mono ?_;(focus go_simp);(focus go_simp);(focus go_simp);rintro e w' ⟨rfl,m,rfl⟩)
 refine kbW (fun w1=>Chg (fun _ _=>False) w w1∧w1.heap[w.heap.size]?=some (Ic #[Ii Ij 0,Ii Ij 0] 27 (0,0))∧w1.heap[w.heap.size+1]?=some (Ic #[Ii Ij 0,Ii Ij 0] 27 (0,0))) ⟨?_,?_,?_⟩ ?_
 ·exact (((zK _ _).alloc _).alloc _).drewN _
 ·rw [kcB,kcZ _ _ (by simp)];exact kbT _ _ rfl
 ·rw [kcB];exact kbT _ _ (by simp)
 rintro w2 ⟨hc1,hb1,hb2⟩
 have hna1:=hn0.chg hc1 i3
 have ht1':=ht.chg hc1 (by simp)
 clear hn1 ht1 hpa2 t0 n0 hn0 hn2 s1
 have hcw2:Chg (fun b _=>hv=some b) w w2:=hc1.mono (fun _ _ _ h=>h.elim)
 have hF2:=hF.chg hc1 i3
 have htt2:=ht.chg hc1 i3
 have hb1':=hb1
 have hb2':=hb2
 have hlw2:=kbF hb2
 have hh2:=hh.keep hc1
 have hcn2:=hc1
 have hnv:∀b,w.heap.size≤b→¬hv=some b:=fun b hb e=>by have:=hh.lt e;omega
 clear hb1 hb2 ht1' hna1 hc1
 obtain ⟨l,hna,hbl,ho,cl⟩:=hF2.work hn
 have HB1:=zL hb1'
 have HB2:=zL hb2'
 have HH2:=zL hh2
 have q0:=kbB hb1' 0
 have q1:=kbB hb1' 1
 simp only [zF,zD,zE] at q0 q1
 have n3:=hna.c3s hk
 have hkl:=(zG.1 hc).1
 have g1:=hna.cc hk
 rw [zU] at g1
 have g2:=hna.kidc hk (j:=i) (o:=some c) (by simp [hc])
 clear hna hb1' hb2' hh2
 go_wp2_with (go_at_call 51;refine (kcJ _ (some ⟨l.cc,0,none⟩) _ ?_).mono ?_;(focus go_simp);rintro e w' ⟨rfl,rfl⟩)
 refine kbD (fun w3=>Chg (fun _ _=>False) w2 w3∧w3.heap[w2.heap.size]?=some (Ic #[Ii Ij 0,Ii Ij 0] 27 (0,0))) ⟨(zK _ _).alloc _,kbT _ _ rfl⟩ ?_
 rintro w3 ⟨hc3,hb18⟩
 replace q0:=hc3.q q0
 replace q1:=hc3.q q1
 replace n3:=hc3.q n3
 replace g1:=hc3.q g1
 replace g2:=hc3.q g2
 have hcw3:=hcw2.trans (hc3.mono (fun _ _ _ h=>h.elim))
 have j0:(0:Int)≤(i:Int):=by omega
 have j1:(i:Int) < (kl.length:Int):=by omega
 have HB18:=zL hb18
 have hl18:=kbF hb18
 clear hb18
 have ht3:=htt2.chg hc3 i3
 have e4:=ht3.c4
 have e5:=ht3.c5
 refine kfN (fun w'=>w'.cell? ⟨t,7,none⟩=some (Ii Ij 0)∧w'.cell? ⟨t,8,none⟩=some (Ii Ij 0)∧w'.cell? ⟨n,3,none⟩=some (Ip (some ⟨l.cc,0,none⟩))∧w'.cell? ⟨l.cc,0,none⟩=some (Is (some ⟨l.cb,l.co,none⟩) kl.length l.ck))
  13 [0,1,2,3,4,5,6,7,8,9,10,11,12] _ [(14,true),(15,true),(16,true),(17,false),(18,true)] (by kernel_rfl) (by kernel_rfl) (fun _ _ _ _ _ h=>h) rfl rfl ⟨e4,e5,n3,g1⟩ ?_
 simp only [kbK,zX,zY,zD,zE]
 iterate 13
  refine kbR ?_ rfl ?_ ?_
  rotate_left
  ·intro w' hS
   try obtain ⟨a1,a2,a3,a4⟩:=hS
   go_simp
   try with_reducible rfl
  simp only [zJ,zA,zB,zC]
 refine kbS ?_
 refine wp_hide (fun K hK=>?_)
 go_simp
 go_at_call 70
 have hcn3:=(hcn2.trans hc3).drew
 refine (hcall _ _ hcn3 (hF.chg hcn3 i3) (ht.chg hcn3 i3) g2).mono ?_
 rintro e w4 ⟨H',o,rfl,hF4,hc4',_,hz4⟩
 have hc4:Chg (fun b _=>F b∨hv=some b) w3 w4:=((zK _ _).drew).trans (hc4'.mono (fun _ _ _ h=>h.elim .inl (fun e=>by cases e)))
 have hh4:HintO hv w4:=by rw [hvn.out];exact HintO.none w4
 clear hc4' q0 q1 n3 g1 g2 j0 j1 e4 e5 ht3
 have nF:∀b,w.heap.size≤b→¬F b:=fun b hb h=>Nat.lt_irrefl _ (zk (hF.lt h) hb)
 have hsz2:=hcw2.size
 have hsz3:=hc3.size
 have hb18:w4.heap[w2.heap.size]?=some (Ic #[Ii Ij 0,Ii Ij 0] 27 (0,0)):=by
  rw [hc4.block (by simpa using hl18) (fun _ h=>by
   rcases h with h | h
   ·exact nF _ hsz2 h
   ·exact hnv _ hsz2 h)]
  exact HB18.out
 have y0:=kbC hb18 0
 have y1:=kbC hb18 1
 have p0:=kbB hb18 0
 have p1:=kbB hb18 1
 simp only [zF,zD,zE] at p0 p1
 have HB18':=zL hb18
 have HF4:=zL hF4
 have HC4:=zL hc4
 clear hb18 HB18 hF4 hc4
 refine hK _ _ ?_
 clear hK K
 rcases o with _ | y
 ·exact absurd hz4 (hZ0 H')
 ·unfold lastV
  iterate 3
   refine kcN (by rfl) ?_ (by simp [zI,yielded]) ?_ ?_
   rotate_left
   ·intro w' hS
    try obtain ⟨a1⟩:=hS
    go_simp
    try with_reducible rfl
   simp only [zJ,zA,zB,zC]
  refine kcR (by rfl) (by simp [zI,yielded]) (fun K hK=>?_)
  go_simp
  refine hK _ _ (fun _=>trivial) ?_
  clear hK K
  refine kcN (by rfl) ?_ (by simp [zI,yielded]) ?_ ?_
  rotate_left
  ·intro w' hS
   try obtain ⟨a1⟩:=hS
   go_simp
   try with_reducible rfl
  simp only [zJ,zA,zB,zC]
  refine kdQ ?_
  refine kbQ (fun w5=>Chg (fun b _=>b=w2.heap.size) w4 w5∧w5.heap[w2.heap.size]?=some (Ic #[Ii Ij y.1,Ii Ij y.2] 27 (0,0))) ⟨?_,blk2 HB18'.out _ _⟩ ?_
  ·repeat (first | refine ze ?_ | refine zf ?_ _ | refine zd ?_ (.inl rfl) _ | exact zK _ _)
  clear p0 p1 y0 y1 HB18'
  rintro w5 ⟨hc5,hb18⟩
  have hsz4:=HC4.out.size
  have hszd:w3.drew.heap.size=w3.heap.size:=rfl
  have hc05:Chg (fun b _=>F b∨hv=some b) w w5:=((hcw3.mono (fun _ _ _ h=>.inr h)).trans (HC4.out.mono i3)).trans' hc5 i3 (fun b o hb e=>by omega)
  have hF5:=HF4.out.chg hc5 (fun b o hb e=>by
   rcases hb with hb | hb
   ·exact nF b (by omega) hb
   ·have h1:=hb.1;omega)
  have hh5:HintO hv w5:=hh4.chg hc5 (fun b _ e e2=>by have:=hh.lt e;omega)
  have ht5:=ht.chg hc05 (fun b _ hm e=>by
   rcases e with e | e
   ·exact htF b hm e
   ·exact hvt b e hm)
  have hb12:w5.heap[w.heap.size+1]?=some (Ic #[Ii Ij 0,Ii Ij 0] 27 (0,0)):=by
   rw [hc5.block (by omega) (fun _ e=>by omega),HC4.out.block (by omega) (fun _ h=>by
    rcases h with h | h
    ·exact nF _ (zl _ _) h
    ·exact hnv _ (zl _ _) h),hc3.block hlw2 (fun _ h=>h)]
   exact HB2.out
  have hGo:∀b,b < w3.heap.size→w.heap.size≤b→¬(grow F w3.drew w4) b:=fun b h1 h2 h=>by
   rcases h with h | h
   ·exact nF b h2 h
   ·have h3:=h.1;skip;omega
  have hG0:∀b,(grow F w3.drew w4) b→F b∨w.heap.size≤b:=fun b h=>by
   rcases h with h | h
   ·exact .inl h
   ·exact .inr (by have h3:=h.1;skip;omega)
  obtain ⟨hn4,rc,hrc,hrl⟩:=hZ _ _ hz4
  obtain ⟨l4,hna4,hb4,ho4,cl4⟩:=hF5.work hn4
  have C1:=hna4.c1
  have z1:=hna4.fz 1
  have s1:Ij.wrap (r.cnt - 1)=r.cnt - 1:=zh _ (by omega)
  have r8:=(zm hna4).setCnt (r.cnt - 1)
  have HB12:=zL hb12
  have HB18:=zL hb18
  have HC05:=zL hc05
  have HH5:=zL hh5
  have HT5:=zL ht5
  have hl12:=kbF hb12
  have hl5:=kbF hb18
  clear hb12 hb18 hc05 hh5 ht5 hna4
  go_upto_region 30 with fail
  refine kbD (fun w6=>w6.heap.size=w5.heap.size∧Fam (parM k) w6 (grow (grow F w3.drew w4) w5 w6) (upd H' n ⟨r.cnt - 1,r.items,r.kids⟩)∧Chg (fun b _=>(grow F w3.drew w4) b) w5 w6) ⟨by simp,(cl4 _ _ _ r8).1,(cl4 _ _ _ r8).2⟩ ?_
  clear C1 z1 s1 r8 cl4 ho4 hb4
  rintro w6 ⟨hz6,hF6,hc6⟩
  have hb12:w6.heap[w.heap.size+1]?=some (Ic #[Ii Ij 0,Ii Ij 0] 27 (0,0)):=by rw [hc6.block hl12 (fun _ h=>hGo _ (by omega) (zl _ _) h)];exact HB12.out
  have hb18:w6.heap[w2.heap.size]?=some (Ic #[Ii Ij y.1,Ii Ij y.2] 27 (0,0)):=by rw [hc6.block hl5 (fun _ h=>hGo _ hl18 hsz2 h)];exact HB18.out
  have hc06:Chg (fun b _=>F b∨hv=some b) w w6:=HC05.out.trans' hc6 i3 (fun b o hb h=>(hG0 b h).elim .inl (fun h=>by omega))
  have hh6:HintO hv w6:=HH5.out.chg hc6 (fun b _ e h=>(hG0 b h).elim (hvF b e) (fun h=>by have:=hh.lt e;omega))
  have ht6:=ht.chg hc06 (fun b _ hm e=>by
   rcases e with e | e
   ·exact htF b hm e
   ·exact hvt b e hm)
  have hF7:Fam (parM k) w6 (grow F w3.drew w4) (upd H' n ⟨r.cnt - 1,r.items,r.kids⟩):=hF6.mono' (fun b h=>by rcases h with h | h;exact h;have h1:=h.1;have h2:=h.2;omega) hF5 (by omega)
  obtain ⟨ln,hn6⟩:=hF7.node (kbX _ _ _)
  obtain ⟨lc,hc6'⟩:=hF7.node ((kcP _ _ hcn).trans hrc)
  have n3:=hn6.c3s hk
  have g1:=hn6.cc hk
  rw [zU] at g1
  have g2:=hn6.kidc hk (j:=i) (o:=some c) (by simp [hc])
  have d2:=hc6'.c2
  have e9:=ht6.c6
  have j0:(0:Int)≤(i:Int):=by omega
  have j1:(i:Int) < (kl.length:Int):=by omega
  have HB12':=zL hb12
  have HB18':=zL hb18
  have HH6:=zL hh6
  have HC06:=zL hc06
  have HT6:=zL ht6
  have HF7:=zL hF7
  clear hb12 hb18 hh6 hc06 ht6 hF7 hF6 hn6 hc6' hF5 HB12 HB18 HC05 HH5 HT5 hc6
  refine kbM (fun w'=>w'.cell? ⟨n,3,none⟩=some (Ip (some ⟨ln.cc,0,none⟩))∧w'.cell? ⟨ln.cc,0,none⟩=some (Is (some ⟨ln.cb,ln.co,none⟩) kl.length ln.ck)∧w'.cell? ⟨ln.cb,ln.co+i,none⟩=some (Ip (some ⟨c,0,none⟩))∧w'.cell? ⟨c,2,none⟩=some (Is (some ⟨lc.ib,lc.io,none⟩) rc.items.length lc.ic)∧w'.cell? ⟨t,10,none⟩=some (Ii Ij mn)) (.soft 0 (.soft 1 (.soft 2 (.soft 3 (.soft 4 (.soft 5 (.soft 6 (.soft 7 (.soft 8 (.soft 9 (.soft 10 (.soft 11 (.soft 12 (.soft 13 (.soft 14 (.soft 15 (.soft 16 (.soft 17 .nil)))))))))))))))))) (by kernel_rfl) (by kernel_rfl) (fun _ _ _ _ _ h=>h) ⟨n3,g1,g2,d2,e9⟩ ?_
  repeat (first | (refine kbH (by rfl) ?_ ?_ ?_ ?_;rotate_left;(· simp [zI,yielded];done);(· intro w' hS;try obtain ⟨a1,a2,a3,a4,a5⟩:=hS;go_simp;try with_reducible rfl);simp only [zJ,zA,zB,zC]) | (refine kbJ (by rfl) ?_ ?_;(· simp [zI,yielded];done);simp only [zJ,zA,zB,zC]))
  refine kcT ?_
  clear n3 g1 g2 d2 e9
  by_cases hlt:rc.items.length < mn
  ·have hlt':(rc.items.length:Int) < (mn:Int):=by omega
   have hGM:∀b,MOwn k t b→¬(grow F w3.drew w4) b:=fun b hm h=>(hG0 b h).elim (htF b hm) (fun h=>by have:=ht.lt hm;omega)
   have HRB:=zL (hreb _ _ _ _ _ hz4 hrc hlt (HF7.out.chg ((zK (fun _ _=>False) w6).drew) i3) (HT6.out.chg ((zK (fun _ _=>False) w6).drew) i3) hGM)
   go_wp2_with fail
   refine HRB.out.mono ?_
   rintro e w8 ⟨rfl,H'',f8,g8,z8⟩
   have hszd6:w6.drew.heap.size=w6.heap.size:=rfl
   have hsz8:=g8.size
   have hb12:w8.heap[w.heap.size+1]?=some (Ic #[Ii Ij 0,Ii Ij 0] 27 (0,0)):=by rw [g8.block (by omega) (fun _ h=>hGo _ (by omega) (zl _ _) h),kbZ];exact HB12'.out
   have hb18:w8.heap[w2.heap.size]?=some (Ic #[Ii Ij y.1,Ii Ij y.2] 27 (0,0)):=by rw [g8.block (by omega) (fun _ h=>hGo _ hl18 hsz2 h),kbZ];exact HB18'.out
   have y0:=kbC hb12 0
   have y1:=kbC hb12 1
   have p0:=kbB hb12 0
   have p1:=kbB hb12 1
   simp only [zF,zD,zE] at p0 p1
   have x0:=kbC hb18 0
   have x1:=kbC hb18 1
   have r0:=kbB hb18 0
   have r1:=kbB hb18 1
   simp only [zF,zD,zE] at r0 r1
   have hc08:Chg (fun b _=>F b∨hv=some b) w w8:=HC06.out.drew.trans' g8 i3 (fun b o hb h=>(hG0 b h).elim .inl (fun h=>by omega))
   have hh8:HintO hv w8:=(HH6.out.keep ((zK (fun _ _=>False) w6).drew)).chg g8 (fun b _ e h=>(hG0 b h).elim (hvF b e) (fun h=>by have:=hh.lt e;omega))
   have HF8:=zL f8
   have HC08:=zL hc08
   have HH8:=zL hh8
   have HZ8:=zL z8
   have HBB:=zL hb12
   clear f8 g8 hc08 hh8 z8 hb12 hb18 HRB
   go_wp2_with fail
   refine kbQ (fun wl=>Chg (fun b _=>b=w.heap.size+1) w8 wl∧wl.heap[w.heap.size+1]?=some (Ic #[Ii Ij y.1,Ii Ij y.2] 27 (0,0))) ⟨?_,blk2 HBB.out _ _⟩ ?_
   ·repeat (first | refine ze ?_ | refine zf ?_ _ | refine zd ?_ (.inl rfl) _ | exact zK _ _)
   clear p0 p1 r0 r1
   rintro wl ⟨hcl,hbl⟩
   have p0:=kbB hbl 0
   have p1:=kbB hbl 1
   simp only [zF,zD,zE] at p0 p1
   refine bodyPost_ret (v:=Iu #[.agg #[Ii Ij y.1,Ii Ij y.2],.bool true]) (by simp [results,Try.results70,go_sem,p0,p1]) rfl ?_
   have f9:=HF8.out.chg hcl (fun b o hb e=>by
    rcases hb with hb | hb
    ·exact hGo b (by omega) (by omega) hb
    ·have h1:=hb.1;omega)
   refine ⟨H'',some y,rfl,f9.mono (fun b hb=>?_) (fun b hb=>?_),HC08.out.trans' hcl i3 (fun b o hb e=>by omega),HH8.out.chg hcl (fun b _ e e2=>by have:=hh.lt e;omega),HZ8.out⟩
   ·have hbl:=zk (HF8.out.lt hb) hcl.size
    rcases hb with hb | hb
    ·exact (hG0 b hb).elim .inl (fun h=>.inr ⟨h,hbl⟩)
    ·exact .inr ⟨by have:=hb.1;omega,hbl⟩
   ·rcases hb with hb | hb
    ·exact zk (hF.lt hb) (HC08.out.trans' hcl (B:=fun _ _=>True) (fun _ _ _ _=>trivial) (fun _ _ _ _=>trivial)).size
    ·exact hb.2
  ·have hlt':¬(rc.items.length:Int) < (mn:Int):=by omega
   have HOK:=zL (hok _ _ _ hz4 hrc (by omega))
   have y0:=kbC HB12'.out 0
   have y1:=kbC HB12'.out 1
   have p0:=kbB HB12'.out 0
   have p1:=kbB HB12'.out 1
   simp only [zF,zD,zE] at p0 p1
   have x0:=kbC HB18'.out 0
   have x1:=kbC HB18'.out 1
   have r0:=kbB HB18'.out 0
   have r1:=kbB HB18'.out 1
   simp only [zF,zD,zE] at r0 r1
   go_wp2_with fail
   refine kbQ (fun wl=>Chg (fun b _=>b=w.heap.size+1) w6 wl∧wl.heap[w.heap.size+1]?=some (Ic #[Ii Ij y.1,Ii Ij y.2] 27 (0,0))) ⟨?_,blk2 HB12'.out _ _⟩ ?_
   ·repeat (first | refine ze ?_ | refine zf ?_ _ | refine zd ?_ (.inl rfl) _ | exact zK _ _)
   clear p0 p1 r0 r1
   rintro wl ⟨hcl,hbl⟩
   have p0:=kbB hbl 0
   have p1:=kbB hbl 1
   simp only [zF,zD,zE] at p0 p1
   refine bodyPost_ret (v:=Iu #[.agg #[Ii Ij y.1,Ii Ij y.2],.bool true]) (by simp [results,Try.results70,go_sem,p0,p1]) rfl ?_
   have f9:=HF7.out.chg hcl (fun b o hb e=>hGo b (by omega) (by omega) hb)
   refine ⟨_,some y,rfl,f9.mono (fun b hb=>?_) (fun b hb=>?_),HC06.out.trans' hcl i3 (fun b o hb e=>by omega),HH6.out.chg hcl (fun b _ e e2=>by have:=hh.lt e;omega),HOK.out⟩
   ·have hbl:=f9.lt hb
    exact (hG0 b hb).elim .inl (fun h=>.inr ⟨h,hbl⟩)
   ·rcases hb with hb | hb
    ·exact zk (hF.lt hb) (HC06.out.trans' hcl (B:=fun _ _=>True) (fun _ _ _ _=>trivial) (fun _ _ _ _=>trivial)).size
    ·exact hb.2
end
section
open Go.RowKit
variable {ord:List Int}
theorem infoPairZero:(Try.prog.info? 27).map (·.zero)=some (some (.agg #[Ii Ij 0,Ii Ij 0])):=by kernel_rfl
theorem delete_kid_hit {k:Kc ord} {mn mx t n d c:Nat} {pa:Addr} {x y:It ord} {i:Nat} {r:NodeR (It ord)} {w:World} {F:Nat→Prop} {H:HN ord} {hv:Option Nat} {kl:List Nat} (hF:Fam (parM k) w F H) (ht:MapAt k mn mx w t) (htF:∀b,MOwn k t b→¬F b) (hn:H n=some r)
  (hpa:w.cell? pa=some (Ip (some ⟨n,0,none⟩))) (hs:Srt ltM r.items) (hlen:r.items.length≤1000) (hk:r.kids=some (kl.map some)) (hc:kl[i]?=some c) (hcn:c≠n) (hy:HitAt ltM r.items x i y) (hc0:0≤r.cnt∧r.cnt≤100000000000000)
  (hh:HintO hv w) (hvF:∀b,hv=some b→¬F b) (hvt:∀b,hv=some b→¬MOwn k t b) (hd:d≤1000000000000)
  (Z Z2:(HN ord)→Option (It ord)→Prop)
  (hcall:∀w1 pa1,Chg (fun b _=>hv=some b) w w1→Fam (parM k) w1 F H→MapAt k mn mx w1 t→w1.cell? pa1=some (Ip (some ⟨c,0,none⟩))→Calls Tp 70 #[Ip (some ⟨t,0,none⟩),Ip (some pa1),.bool true,.agg #[Ii Ij 0,Ii Ij 0],Ip none,Ii Ij 0] w1 (DelPost k F none Z w1))
  (hZ:∀H' o,Z H' o→H' n=some r∧∃rc,H' c=some rc∧rc.items.length≤1000)
  (hZ0:∀H',¬Z H' none)
  (hok:∀H' z rc,Z H' (some z)→H' c=some rc→mn≤rc.items.length→Z2 (upd (upd H' n ⟨r.cnt,r.items.set i z,r.kids⟩) n ⟨r.cnt - 1,r.items.set i z,r.kids⟩) (some y))
  (hreb:∀H' z rc w1 F1,Z H' (some z)→H' c=some rc→rc.items.length < mn→Fam (parM k) w1 F1 (upd (upd H' n ⟨r.cnt,r.items.set i z,r.kids⟩) n ⟨r.cnt - 1,r.items.set i z,r.kids⟩)→MapAt k mn mx w1 t→(∀b,MOwn k t b→¬F1 b)→Calls Tp 80 #[Ip (some ⟨t,0,none⟩),Ip (some ⟨n,0,none⟩),Ii Ij i] w1 (RebPost' k F1 (fun H''=>Z2 H'' (some y)) w1)) :
  Calls Tp 70 #[Ip (some ⟨t,0,none⟩),Ip (some pa),.bool false,aggM x,hintV hv,Ii Ij d] w (DelPost k F hv Z2 w):=by
 have hpos:1≤r.items.length:=by have:=(zG.1 hy.at_).1;omega
 obtain ⟨l0,hn0⟩:=hF.node hn
 have t0:=ht.c0
 have n0:=hn0.c0
 have hpk:(parM k).k=k.iso:=rfl
 rw [hpk] at n0
 have nlt:n < w.heap.size:=zg w _ n0
 have tlt:t < w.heap.size:=zg w _ t0
 have plt:=zg w _ hpa
 have hpa2:∀o o',((w.alloc o).alloc o').cell? pa=some (Ip (some ⟨n,0,none⟩)):=fun o o'=>by rw [World.cell?_alloc_lt _ _ _ (by simp;omega),World.cell?_alloc_lt w _ _ plt];exact hpa
 have hn1:∀o o',((w.alloc o).alloc o').cell? ⟨n,0,none⟩=some (.int .u64 k.iso):=fun o o'=>((hn0.chg (((zK (fun _ _=>False) w).alloc o).alloc o') i3).c0)
 have ht1:∀o o',((w.alloc o).alloc o').cell? ⟨t,0,none⟩=some (.int .u64 k.iso):=fun o o'=>((ht.chg (((zK (fun _ _=>False) w).alloc o).alloc o') i3).c0)
 skip
 unfold aggM hintV
 go_enter Try.func70,Try.ntmps70
 go_wp2_with (go_at_call 48;refine (kcD _ n k _ _ _ ?_ ?_ ?_).mono ?_;(focus go_simp);(focus go_simp);(focus go_simp);rintro e w' ⟨rfl,m,rfl⟩)
 refine kbW (fun w1=>Chg (fun _ _=>False) w w1∧w1.heap[w.heap.size]?=some (Ic #[Ii Ij x.1,Ii Ij x.2] 27 (0,0))∧w1.heap[w.heap.size+1]?=some (Ic #[Ii Ij 0,Ii Ij 0] 27 (0,0))) ⟨?_,?_,?_⟩ ?_
 ·exact (((zK _ _).alloc _).alloc _).drewN _
 ·rw [kcB,kcZ _ _ (by simp)];exact kbT _ _ rfl
 ·rw [kcB];exact kbT _ _ (by simp)
 rintro w1 ⟨hc1,hb1,hb2⟩
 have hna1:=hn0.chg hc1 i3
 have ht1':=ht.chg hc1 (by simp)
 clear hn1 ht1 hpa2 t0 n0 hn0
 refine (find_o hv t d x ht1' hna1 hs (by omega) hpos (hh.keep hc1) hd).mono ?_
 rintro e w2 ⟨i',f,rfl,hw2,hh2,hf⟩
 have hnv:∀b,w.heap.size≤b→¬hv=some b:=fun b hb e=>by have:=hh.lt e;omega
 have hb1':w2.heap[w.heap.size]?=some (Ic #[Ii Ij x.1,Ii Ij x.2] 27 (0,0)):=by rw [hw2.block (kbF hb1) (fun _=>hnv _ (zi _))];exact hb1
 have hb2':w2.heap[w.heap.size+1]?=some (Ic #[Ii Ij 0,Ii Ij 0] 27 (0,0)):=by rw [hw2.block (kbF hb2) (fun _=>hnv _ (zl _ _))];exact hb2
 have hcw2:Chg (fun b _=>hv=some b) w w2:=(hc1.mono (fun _ _ _ h=>h.elim)).trans hw2
 have hF2:=hF.chg hcw2 (fun b _ hb e=>hvF b e hb)
 have htt2:=ht.chg hcw2 (fun b _ hb e=>hvt b e hb)
 have hlw2:=kbF hb2'
 have hfi:f=true∧i=i':=by
  rcases hf with ⟨h1,y',h2⟩ | ⟨h1,h2⟩
  ·exact ⟨h1,(hit_same h2 hy).symm⟩
  ·exact absurd hy.n2 (by rw [h2.right i y (hit_le h2 hy) hy.at_];simp)
 obtain ⟨rfl,rfl⟩:=hfi
 have hi:=(zG.1 hy.at_).1
 have HI:=zL hi
 have hyi:=hy.at_
 have HYI:=zL hyi
 obtain ⟨l0,hna0⟩:=hF2.node hn
 have n2:=hna0.c2
 have iv:=hna0.mval (j:=i) hyi
 have ik:=hna0.mkey (j:=i) hyi
 have nlt2:n < w2.heap.size:=zg _ _ n2
 have iblt2:l0.ib < w2.heap.size:=zg _ _ iv
 have i0:(0:Int)≤(i:Int):=by omega
 have i1:(i:Int) < (r.items.length:Int):=by omega
 clear hb1 hb2 hw2 hf ht1' hna1 hy hyi hna0
 obtain ⟨l,hna,hbl,ho,cl⟩:=hF2.work hn
 have HB1:=zL hb1'
 have HB2:=zL hb2'
 have HH2:=zL hh2
 have q0:=kbB hb1' 0
 have q1:=kbB hb1' 1
 simp only [zF,zD,zE] at q0 q1
 have n3:=hna.c3s hk
 have hkl:=(zG.1 hc).1
 have g1:=hna.cc hk
 rw [zU] at g1
 have g2:=hna.kidc hk (j:=i) (o:=some c) (by simp [hc])
 clear hna hb1' hb2' hh2
 go_wp2_with (go_at_call 51;refine (kcJ _ (some ⟨l.cc,0,none⟩) _ ?_).mono ?_;(focus go_simp);rintro e w' ⟨rfl,rfl⟩)
 refine kbD (fun w3=>Chg (fun _ _=>False) w2 w3∧w3.heap[w2.heap.size]?=some (Ic #[Ii Ij y.1,Ii Ij y.2] 27 (0,0))) ⟨(zK _ _).alloc _,kbT _ _ rfl⟩ ?_
 rintro w3 ⟨hc3,hb18⟩
 replace q0:=hc3.q q0
 replace q1:=hc3.q q1
 replace n3:=hc3.q n3
 replace g1:=hc3.q g1
 replace g2:=hc3.q g2
 have hcw3:=hcw2.trans (hc3.mono (fun _ _ _ h=>h.elim))
 have j0:(0:Int)≤(i:Int):=by omega
 have j1:(i:Int) < (kl.length:Int):=by omega
 have HB18:=zL hb18
 have hl18:=kbF hb18
 clear hb18
 clear n2 iv ik i0 i1
 have ht3:=htt2.chg hc3 i3
 have e4:=ht3.c4
 have e5:=ht3.c5
 refine wp_region_callb (fun w'=>w'.cell? ⟨t,7,none⟩=some (Ii Ij 0)∧w'.cell? ⟨t,8,none⟩=some (Ii Ij 0)∧w'.cell? ⟨n,3,none⟩=some (Ip (some ⟨l.cc,0,none⟩))∧w'.cell? ⟨l.cc,0,none⟩=some (Is (some ⟨l.cb,l.co,none⟩) kl.length l.ck))
  13 17 [0,1,2,3,4,5,6,7,8,9,10,11,12] (.fork 13 17 (.soft 14 (.soft 15 (.soft 16 (.hard 17 (.hard 18 (.soft 19 .nil)))))) (.hard 13 (.soft 14 (.soft 15 (.soft 16 (.hard 18 (.soft 19 .nil))))))) (by kernel_rfl) (by kernel_rfl) (fun _ _ _ _ _ h=>h) rfl (by rfl) (by rfl) (by rfl) infoPairZero
  (fun w' o h=>by
   obtain ⟨a1,a2,a3,a4⟩:=h
   have hca:=(zK (fun _ _=>False) w').alloc o
   exact ⟨hca.q a1,hca.q a2,hca.q a3,hca.q a4⟩) ⟨e4,e5,n3,g1⟩ ?_
 simp only [kbK,zX,zY,zD,zE]
 iterate 13
  refine kbR ?_ rfl ?_ ?_
  rotate_left
  ·intro w' hS
   try obtain ⟨a1,a2,a3,a4⟩:=hS
   go_simp
   try with_reducible rfl
  simp only [zJ,zA,zB,zC]
 refine kbS ?_
 have nF:∀b,w.heap.size≤b→¬F b:=fun b hb h=>Nat.lt_irrefl _ (zk (hF.lt h) hb)
 have hsz2:=hcw2.size
 have hsz3:=hc3.size
 have hc13:=hcw3.drew
 have hh3:=(HH2.out.keep hc3).keep ((zK (fun _ _=>False) w3).drew)
 have hszd:w3.drew.heap.size=w3.heap.size:=rfl
 clear n3 q0 q1 e4 e5 j0 j1
 refine scr_fork (by rfl) (by rfl) rfl rfl (fun K hK=>?_) (fun K hK=>?_)
 ·go_simp
  go_at_call 70
  refine (hcall _ _ hc13 (hF.chg hc13 (fun b _ hb e=>hvF b e hb)) (ht.chg hc13 (fun b _ hb e=>hvt b e hb)) g2).mono ?_
  rintro e w4 ⟨H',o,rfl,hF4,hc4',_,hz4⟩
  rcases o with _ | z
  ·exact absurd hz4 (hZ0 H')
  unfold lastV
  have hc4:Chg (fun b _=>F b) w3 w4:=((zK _ _).drew).trans (hc4'.mono (fun _ _ _ h=>h.elim id (fun e=>by cases e)))
  have hh4:HintO hv w4:=hh3.chg hc4' (fun b _ e h=>h.elim (hvF b e) (fun e=>by cases e))
  have hsz4:=hc4.size
  clear hc4' g1 g2
  refine hK _ _ trivial ?_
  clear hK K
  repeat (first | (refine kbH (by rfl) ?_ ?_ ?_ ?_;rotate_left;(· simp [zI,yielded];done);(· intro w' hS;try obtain ⟨a1⟩:=hS;go_simp;try with_reducible rfl);simp only [zJ,zA,zB,zC]) | (refine kbJ (by rfl) ?_ ?_;(· simp [zI,yielded];done);simp only [zJ,zA,zB,zC]))
  iterate 2
   refine kbY (by rfl) (by simp [zI,yielded]) (fun K hK=>?_)
   go_simp
   refine hK _ _ trivial ?_
   clear hK K
  repeat (first | (refine kbH (by rfl) ?_ ?_ ?_ ?_;rotate_left;(· simp [zI,yielded];done);(· intro w' hS;try obtain ⟨a1⟩:=hS;go_simp;try with_reducible rfl);simp only [zJ,zA,zB,zC]) | (refine kbJ (by rfl) ?_ ?_;(· simp [zI,yielded];done);simp only [zJ,zA,zB,zC]))
  refine kcT ?_
  refine kbQ (fun w45=>Chg (fun _ _=>False) w4 w45∧w45.heap[w4.heap.size]?=some (Ic #[Ii Ij z.1,Ii Ij z.2] 27 (0,0))) ⟨?_,by first | exact kbT _ _ rfl | exact blk2 (kbT _ _ rfl) _ _⟩ ?_
  ·repeat (first | refine ze ?_ | refine zf ?_ _ | refine zd ?_ (.inr (zi _)) _ | refine Chg.alloc ?_ _ | exact zK _ _)
  rintro w45 ⟨hc45,hb20⟩
  have hF45:=hF4.chg hc45 i3
  have hh45:=hh4.keep hc45
  have hc045:Chg (fun b _=>F b∨hv=some b) w w45:=(hcw3.mono (fun _ _ _ h=>.inr h)).trans ((hc4.mono (fun _ _ _ h=>.inl h)).trans (hc45.mono (fun _ _ _ h=>h.elim)))
  have hb12:w45.heap[w.heap.size+1]?=some (Ic #[Ii Ij 0,Ii Ij 0] 27 (0,0)):=by
   rw [hc45.block (by omega) (fun _ h=>h),hc4.block (by omega) (fun _ h=>nF _ (zl _ _) h),hc3.block hlw2 (fun _ h=>h)];exact HB2.out
  have hb18:w45.heap[w2.heap.size]?=some (Ic #[Ii Ij y.1,Ii Ij y.2] 27 (0,0)):=by
   rw [hc45.block (by omega) (fun _ h=>h),hc4.block hl18 (fun _ h=>nF _ hsz2 h)];exact HB18.out
  have hGo:∀b,b < w3.heap.size→w.heap.size≤b→¬(grow F w3.drew w4) b:=fun b h1 h2 h=>by
   rcases h with h | h
   ·exact nF b h2 h
   ·have h3:=h.1;skip;omega
  have hG0:∀b,(grow F w3.drew w4) b→F b∨w.heap.size≤b:=fun b h=>by
   rcases h with h | h
   ·exact .inl h
   ·exact .inr (by have h3:=h.1;skip;omega)
  clear hF4 hc4 hh4 hc45
  obtain ⟨hn0,rc0,hrc0,hrl0⟩:=hZ _ _ hz4
  obtain ⟨l5,hna5,hbk5,ho5,cl5⟩:=hF45.work hn0
  have n2:=hna5.c2
  have z0:=hna5.ifz (l5.io+i * 2)
  have z1:=hna5.ifz (l5.io+i * 2+1)
  have iv:=hna5.mval (j:=i) HYI.out
  have ik:=hna5.mkey (j:=i) HYI.out
  have u0:=kbB hb20 0
  have u1:=kbB hb20 1
  simp only [zF,zD,zE] at u0 u1
  have hit:i < r.items.length:=HI.out
  have k0:(0:Int)≤(i:Int):=by omega
  have k1:(i:Int) < (r.items.length:Int):=by omega
  have r8:=((zm hna5).still ((zK _ _).drew)).setItemM i z hit
  have HR8:=zL r8
  have HCL5:=zL cl5
  have HZ45:=zL (kbF hb18)
  have HZ45':=zL (kbF hb12)
  have HB12:=zL hb12
  have HB18:=zL hb18
  have HC45:=zL hc045
  have HH45:=zL hh45
  have HF45:=zL hF45
  clear hna5 r8 cl5 ho5 hbk5 hb12 hb18 hb20 hc045 hh45 hF45
  go_wp2_with fail
  go_still_tail 6,(by kernel_rfl)
  go_upto_region 29 with fail
  refine kbD (fun w5=>w5.heap.size=w45.heap.size∧Fam (parM k) w5 (grow (grow F w3.drew w4) w45 w5) (upd H' n ⟨r.cnt,r.items.set i z,r.kids⟩)∧Chg (fun b _=>(grow F w3.drew w4) b) w45 w5) ⟨by simp,(HCL5.out _ _ _ HR8.out).1,(HCL5.out _ _ _ HR8.out).2⟩ ?_
  clear n2 z0 z1 u0 u1 k0 k1 iv ik HR8 HCL5
  rintro w5 ⟨hz5,hF5',hc5⟩
  have hl45:=HZ45.out
  have hl45':=HZ45'.out
  have hF5:Fam (parM k) w5 (grow F w3.drew w4) (upd H' n ⟨r.cnt,r.items.set i z,r.kids⟩):=hF5'.mono' (fun b h=>by rcases h with h | h;exact h;have h1:=h.1;have h2:=h.2;omega) HF45.out (by omega)
  have hb12:w5.heap[w.heap.size+1]?=some (Ic #[Ii Ij 0,Ii Ij 0] 27 (0,0)):=by rw [hc5.block hl45' (fun _ h=>hGo _ (by omega) (zl _ _) h)];exact HB12.out
  have hb18:w5.heap[w2.heap.size]?=some (Ic #[Ii Ij y.1,Ii Ij y.2] 27 (0,0)):=by rw [hc5.block hl45 (fun _ h=>hGo _ hl18 hsz2 h)];exact HB18.out
  have hc05:Chg (fun b _=>F b∨hv=some b) w w5:=HC45.out.trans' hc5 i3 (fun b o hb h=>(hG0 b h).elim .inl (fun h=>by omega))
  have hh5:HintO hv w5:=HH45.out.chg hc5 (fun b _ e h=>(hG0 b h).elim (hvF b e) (fun h=>by have:=hh.lt e;omega))
  have ht5:=ht.chg hc05 (fun b _ hm e=>by
   rcases e with e | e
   ·exact htF b hm e
   ·exact hvt b e hm)
  clear hc5 hF5' HB12 HB18 HC45 HH45 HF45 HZ45 HZ45'
  obtain ⟨hn4,rc,hrc,hrl⟩:=(show (upd H' n ⟨r.cnt,r.items.set i z,r.kids⟩) n=some ⟨r.cnt,r.items.set i z,r.kids⟩∧∃rc,(upd H' n ⟨r.cnt,r.items.set i z,r.kids⟩) c=some rc∧rc.items.length≤1000 from ⟨kbX _ _ _,rc0,(kcP _ _ hcn).trans hrc0,hrl0⟩)
  obtain ⟨l4,hna4,hb4,ho4,cl4⟩:=hF5.work hn4
  have C1:=hna4.c1
  have z1:=hna4.fz 1
  have s1:Ij.wrap (r.cnt - 1)=r.cnt - 1:=zh _ (by omega)
  have r8:=(zm hna4).setCnt (r.cnt - 1)
  have HB12:=zL hb12
  have HB18:=zL hb18
  have HC05:=zL hc05
  have HH5:=zL hh5
  have HT5:=zL ht5
  have hl12:=kbF hb12
  have hl5:=kbF hb18
  clear hb12 hb18 hc05 hh5 ht5 hna4
  go_upto_region 30 with fail
  refine kbD (fun w6=>w6.heap.size=w5.heap.size∧Fam (parM k) w6 (grow (grow F w3.drew w4) w5 w6) (upd (upd H' n ⟨r.cnt,r.items.set i z,r.kids⟩) n ⟨r.cnt - 1,r.items.set i z,r.kids⟩)∧Chg (fun b _=>(grow F w3.drew w4) b) w5 w6) ⟨by simp,(cl4 _ _ _ r8).1,(cl4 _ _ _ r8).2⟩ ?_
  clear C1 z1 s1 r8 cl4 ho4 hb4
  rintro w6 ⟨hz6,hF6,hc6⟩
  have hb12:w6.heap[w.heap.size+1]?=some (Ic #[Ii Ij 0,Ii Ij 0] 27 (0,0)):=by rw [hc6.block hl12 (fun _ h=>hGo _ (by omega) (zl _ _) h)];exact HB12.out
  have hb18:w6.heap[w2.heap.size]?=some (Ic #[Ii Ij y.1,Ii Ij y.2] 27 (0,0)):=by rw [hc6.block hl5 (fun _ h=>hGo _ hl18 hsz2 h)];exact HB18.out
  have hc06:Chg (fun b _=>F b∨hv=some b) w w6:=HC05.out.trans' hc6 i3 (fun b o hb h=>(hG0 b h).elim .inl (fun h=>by omega))
  have hh6:HintO hv w6:=HH5.out.chg hc6 (fun b _ e h=>(hG0 b h).elim (hvF b e) (fun h=>by have:=hh.lt e;omega))
  have ht6:=ht.chg hc06 (fun b _ hm e=>by
   rcases e with e | e
   ·exact htF b hm e
   ·exact hvt b e hm)
  have hF7:Fam (parM k) w6 (grow F w3.drew w4) (upd (upd H' n ⟨r.cnt,r.items.set i z,r.kids⟩) n ⟨r.cnt - 1,r.items.set i z,r.kids⟩):=hF6.mono' (fun b h=>by rcases h with h | h;exact h;have h1:=h.1;have h2:=h.2;omega) hF5 (by omega)
  obtain ⟨ln,hn6⟩:=hF7.node (kbX _ _ _)
  obtain ⟨lc,hc6'⟩:=hF7.node ((kcP _ _ hcn).trans hrc)
  have n3:=hn6.c3s hk
  have g1:=hn6.cc hk
  rw [zU] at g1
  have g2:=hn6.kidc hk (j:=i) (o:=some c) (by simp [hc])
  have d2:=hc6'.c2
  have e9:=ht6.c6
  have j0:(0:Int)≤(i:Int):=by omega
  have j1:(i:Int) < (kl.length:Int):=by omega
  have HB12':=zL hb12
  have HB18':=zL hb18
  have HH6:=zL hh6
  have HC06:=zL hc06
  have HT6:=zL ht6
  have HF7:=zL hF7
  clear hb12 hb18 hh6 hc06 ht6 hF7 hF6 hn6 hc6' hF5 HB12 HB18 HC05 HH5 HT5 hc6
  refine kbM (fun w'=>w'.cell? ⟨n,3,none⟩=some (Ip (some ⟨ln.cc,0,none⟩))∧w'.cell? ⟨ln.cc,0,none⟩=some (Is (some ⟨ln.cb,ln.co,none⟩) kl.length ln.ck)∧w'.cell? ⟨ln.cb,ln.co+i,none⟩=some (Ip (some ⟨c,0,none⟩))∧w'.cell? ⟨c,2,none⟩=some (Is (some ⟨lc.ib,lc.io,none⟩) rc.items.length lc.ic)∧w'.cell? ⟨t,10,none⟩=some (Ii Ij mn)) (.soft 0 (.soft 1 (.soft 2 (.soft 3 (.soft 4 (.soft 5 (.soft 6 (.soft 7 (.soft 8 (.soft 9 (.soft 10 (.soft 11 (.soft 12 (.soft 13 (.soft 14 (.soft 15 (.soft 16 (.soft 17 .nil)))))))))))))))))) (by kernel_rfl) (by kernel_rfl) (fun _ _ _ _ _ h=>h) ⟨n3,g1,g2,d2,e9⟩ ?_
  repeat (first | (refine kbH (by rfl) ?_ ?_ ?_ ?_;rotate_left;(· simp [zI,yielded];done);(· intro w' hS;try obtain ⟨a1,a2,a3,a4,a5⟩:=hS;go_simp;try with_reducible rfl);simp only [zJ,zA,zB,zC]) | (refine kbJ (by rfl) ?_ ?_;(· simp [zI,yielded];done);simp only [zJ,zA,zB,zC]))
  refine kcT ?_
  clear n3 g1 g2 d2 e9
  by_cases hlt:rc.items.length < mn
  ·have hlt':(rc.items.length:Int) < (mn:Int):=by omega
   have hGM:∀b,MOwn k t b→¬(grow F w3.drew w4) b:=fun b hm h=>(hG0 b h).elim (htF b hm) (fun h=>by have:=ht.lt hm;omega)
   have HRB:=zL (hreb _ _ _ _ _ hz4 ((kcP _ _ hcn).symm.trans hrc) hlt (HF7.out.chg ((zK (fun _ _=>False) w6).drew) i3) (HT6.out.chg ((zK (fun _ _=>False) w6).drew) i3) hGM)
   go_wp2_with fail
   refine HRB.out.mono ?_
   rintro e w8 ⟨rfl,H'',f8,g8,z8⟩
   have hszd6:w6.drew.heap.size=w6.heap.size:=rfl
   have hsz8:=g8.size
   have hb12:w8.heap[w.heap.size+1]?=some (Ic #[Ii Ij 0,Ii Ij 0] 27 (0,0)):=by rw [g8.block (by omega) (fun _ h=>hGo _ (by omega) (zl _ _) h),kbZ];exact HB12'.out
   have hb18:w8.heap[w2.heap.size]?=some (Ic #[Ii Ij y.1,Ii Ij y.2] 27 (0,0)):=by rw [g8.block (by omega) (fun _ h=>hGo _ hl18 hsz2 h),kbZ];exact HB18'.out
   have y0:=kbC hb12 0
   have y1:=kbC hb12 1
   have p0:=kbB hb12 0
   have p1:=kbB hb12 1
   simp only [zF,zD,zE] at p0 p1
   have x0:=kbC hb18 0
   have x1:=kbC hb18 1
   have r0:=kbB hb18 0
   have r1:=kbB hb18 1
   simp only [zF,zD,zE] at r0 r1
   have hc08:Chg (fun b _=>F b∨hv=some b) w w8:=HC06.out.drew.trans' g8 i3 (fun b o hb h=>(hG0 b h).elim .inl (fun h=>by omega))
   have hh8:HintO hv w8:=(HH6.out.keep ((zK (fun _ _=>False) w6).drew)).chg g8 (fun b _ e h=>(hG0 b h).elim (hvF b e) (fun h=>by have:=hh.lt e;omega))
   have HF8:=zL f8
   have HC08:=zL hc08
   have HH8:=zL hh8
   have HZ8:=zL z8
   have HBB:=zL hb12
   clear f8 g8 hc08 hh8 z8 hb12 hb18 HRB
   go_wp2_with fail
   refine kbQ (fun wl=>Chg (fun b _=>b=w.heap.size+1) w8 wl∧wl.heap[w.heap.size+1]?=some (Ic #[Ii Ij y.1,Ii Ij y.2] 27 (0,0))) ⟨?_,blk2 HBB.out _ _⟩ ?_
   ·repeat (first | refine ze ?_ | refine zf ?_ _ | refine zd ?_ (.inl rfl) _ | exact zK _ _)
   clear p0 p1 r0 r1
   rintro wl ⟨hcl,hbl⟩
   have p0:=kbB hbl 0
   have p1:=kbB hbl 1
   simp only [zF,zD,zE] at p0 p1
   refine bodyPost_ret (v:=Iu #[.agg #[Ii Ij y.1,Ii Ij y.2],.bool true]) (by simp [results,Try.results70,go_sem,p0,p1]) rfl ?_
   have f9:=HF8.out.chg hcl (fun b o hb e=>by
    rcases hb with hb | hb
    ·exact hGo b (by omega) (by omega) hb
    ·have h1:=hb.1;omega)
   refine ⟨H'',some y,rfl,f9.mono (fun b hb=>?_) (fun b hb=>?_),HC08.out.trans' hcl i3 (fun b o hb e=>by omega),HH8.out.chg hcl (fun b _ e e2=>by have:=hh.lt e;omega),HZ8.out⟩
   ·have hbl:=zk (HF8.out.lt hb) hcl.size
    rcases hb with hb | hb
    ·exact (hG0 b hb).elim .inl (fun h=>.inr ⟨h,hbl⟩)
    ·exact .inr ⟨by have:=hb.1;omega,hbl⟩
   ·rcases hb with hb | hb
    ·exact zk (hF.lt hb) (HC08.out.trans' hcl (B:=fun _ _=>True) (fun _ _ _ _=>trivial) (fun _ _ _ _=>trivial)).size
    ·exact hb.2
  ·have hlt':¬(rc.items.length:Int) < (mn:Int):=by omega
   have HOK:=zL (hok _ _ _ hz4 ((kcP _ _ hcn).symm.trans hrc) (by omega))
   have y0:=kbC HB12'.out 0
   have y1:=kbC HB12'.out 1
   have p0:=kbB HB12'.out 0
   have p1:=kbB HB12'.out 1
   simp only [zF,zD,zE] at p0 p1
   have x0:=kbC HB18'.out 0
   have x1:=kbC HB18'.out 1
   have r0:=kbB HB18'.out 0
   have r1:=kbB HB18'.out 1
   simp only [zF,zD,zE] at r0 r1
   go_wp2_with fail
   refine kbQ (fun wl=>Chg (fun b _=>b=w.heap.size+1) w6 wl∧wl.heap[w.heap.size+1]?=some (Ic #[Ii Ij y.1,Ii Ij y.2] 27 (0,0))) ⟨?_,blk2 HB12'.out _ _⟩ ?_
   ·repeat (first | refine ze ?_ | refine zf ?_ _ | refine zd ?_ (.inl rfl) _ | exact zK _ _)
   clear p0 p1 r0 r1
   rintro wl ⟨hcl,hbl⟩
   have p0:=kbB hbl 0
   have p1:=kbB hbl 1
   simp only [zF,zD,zE] at p0 p1
   refine bodyPost_ret (v:=Iu #[.agg #[Ii Ij y.1,Ii Ij y.2],.bool true]) (by simp [results,Try.results70,go_sem,p0,p1]) rfl ?_
   have f9:=HF7.out.chg hcl (fun b o hb e=>hGo b (by omega) (by omega) hb)
   refine ⟨_,some y,rfl,f9.mono (fun b hb=>?_) (fun b hb=>?_),HC06.out.trans' hcl i3 (fun b o hb e=>by omega),HH6.out.chg hcl (fun b _ e e2=>by have:=hh.lt e;omega),HOK.out⟩
   ·have hbl:=f9.lt hb
    exact (hG0 b hb).elim .inl (fun h=>.inr ⟨h,hbl⟩)
   ·rcases hb with hb | hb
    ·exact zk (hF.lt hb) (HC06.out.trans' hcl (B:=fun _ _=>True) (fun _ _ _ _=>trivial) (fun _ _ _ _=>trivial)).size
    ·exact hb.2
 ·go_simp
  refine hK _ _ trivial ?_
  clear hK K
  refine kbY (by rfl) (by simp [zI,yielded]) (fun K hK=>?_)
  go_simp
  go_at_call 70
  have hc13a:=hc13.alloc (Ic #[Ii Ij 0,Ii Ij 0] 27)
  have hca3:=(zK (fun _ _=>False) w3.drew).alloc (Ic #[Ii Ij 0,Ii Ij 0] 27)
  refine (hcall _ _ hc13a (hF.chg hc13a (fun b _ hb e=>hvF b e hb)) (ht.chg hc13a (fun b _ hb e=>hvt b e hb)) (hca3.q g2)).mono ?_
  rintro e w4 ⟨H',o,rfl,hF4,hc4',_,hz4⟩
  rcases o with _ | z
  ·exact absurd hz4 (hZ0 H')
  unfold lastV
  have hc4:Chg (fun b _=>F b) (w3.drew.alloc (Ic #[Ii Ij 0,Ii Ij 0] 27)) w4:=hc4'.mono (fun _ _ _ h=>h.elim id (fun e=>by cases e))
  have hh4:HintO hv w4:=(hh3.keep hca3).chg hc4' (fun b _ e h=>h.elim (hvF b e) (fun e=>by cases e))
  have hsza:(w3.drew.alloc (Ic #[Ii Ij 0,Ii Ij 0] 27)).heap.size=w3.heap.size+1:=by simp
  have hsz4:=hc4.size
  have hb20:w4.heap[w3.heap.size]?=some (Ic #[Ii Ij 0,Ii Ij 0] 27 (0,0)):=by
   rw [hc4.block (by omega) (fun _ h=>nF _ (by omega) h)];exact kbT _ _ (by simp)
  have y0:=kbC hb20 0
  have y1:=kbC hb20 1
  have p0:=kbB hb20 0
  have p1:=kbB hb20 1
  simp only [zF,zD,zE] at p0 p1
  have HB20:=zL hb20
  clear hc4' g1 g2 hb20
  refine hK _ _ trivial ?_
  clear hK K
  repeat (first | (refine kbH (by rfl) ?_ ?_ ?_ ?_;rotate_left;(· simp [zI,yielded];done);(· intro w' hS;try obtain ⟨a1⟩:=hS;go_simp;try with_reducible rfl);simp only [zJ,zA,zB,zC]) | (refine kbJ (by rfl) ?_ ?_;(· simp [zI,yielded];done);simp only [zJ,zA,zB,zC]))
  refine kbY (by rfl) (by simp [zI,yielded]) (fun K hK=>?_)
  go_simp
  refine hK _ _ trivial ?_
  clear hK K
  repeat (first | (refine kbH (by rfl) ?_ ?_ ?_ ?_;rotate_left;(· simp [zI,yielded];done);(· intro w' hS;try obtain ⟨a1⟩:=hS;go_simp;try with_reducible rfl);simp only [zJ,zA,zB,zC]) | (refine kbJ (by rfl) ?_ ?_;(· simp [zI,yielded];done);simp only [zJ,zA,zB,zC]))
  refine kcT ?_
  refine kbQ (fun w45=>Chg (fun b _=>b=w3.heap.size) w4 w45∧w45.heap[w3.heap.size]?=some (Ic #[Ii Ij z.1,Ii Ij z.2] 27 (0,0))) ⟨?_,blk2 HB20.out _ _⟩ ?_
  ·repeat (first | refine ze ?_ | refine zf ?_ _ | refine zd ?_ (.inl rfl) _ | exact zK _ _)
  clear p0 p1 y0 y1 HB20
  rintro w45 ⟨hc45,hb20⟩
  have hGo:∀b,b < w3.heap.size→w.heap.size≤b→¬(grow F (w3.drew.alloc (Ic #[Ii Ij 0,Ii Ij 0] 27)) w4) b:=fun b h1 h2 h=>by
   rcases h with h | h
   ·exact nF b h2 h
   ·have h3:=h.1;simp at h3;omega
  have hG0:∀b,(grow F (w3.drew.alloc (Ic #[Ii Ij 0,Ii Ij 0] 27)) w4) b→F b∨w.heap.size≤b:=fun b h=>by
   rcases h with h | h
   ·exact .inl h
   ·exact .inr (by have h3:=h.1;simp at h3;omega)
  have hF45:=hF4.chg hc45 (fun b _ hb e=>by
   rcases hb with hb | hb
   ·exact nF b (by omega) hb
   ·have h1:=hb.1;omega)
  have hh45:HintO hv w45:=hh4.chg hc45 (fun b _ e e2=>by have:=hh.lt e;omega)
  have hc045:Chg (fun b _=>F b∨hv=some b) w w45:=((hc13a.mono (fun _ _ _ h=>.inr h)).trans (hc4.mono (fun _ _ _ h=>.inl h))).trans' hc45 i3 (fun b o hb e=>by omega)
  have hb12:w45.heap[w.heap.size+1]?=some (Ic #[Ii Ij 0,Ii Ij 0] 27 (0,0)):=by
   rw [hc45.block (by omega) (fun _ e=>by omega),hc4.block (by omega) (fun _ h=>nF _ (zl _ _) h),kcZ _ _ (by omega),kbZ,hc3.block hlw2 (fun _ h=>h)];exact HB2.out
  have hb18:w45.heap[w2.heap.size]?=some (Ic #[Ii Ij y.1,Ii Ij y.2] 27 (0,0)):=by
   rw [hc45.block (by omega) (fun _ e=>by omega),hc4.block (by omega) (fun _ h=>nF _ hsz2 h),kcZ _ _ (by omega),kbZ];exact HB18.out
  clear hF4 hc4 hh4 hc45
  obtain ⟨hn0,rc0,hrc0,hrl0⟩:=hZ _ _ hz4
  obtain ⟨l5,hna5,hbk5,ho5,cl5⟩:=hF45.work hn0
  have n2:=hna5.c2
  have z0:=hna5.ifz (l5.io+i * 2)
  have z1:=hna5.ifz (l5.io+i * 2+1)
  have iv:=hna5.mval (j:=i) HYI.out
  have ik:=hna5.mkey (j:=i) HYI.out
  have u0:=kbB hb20 0
  have u1:=kbB hb20 1
  simp only [zF,zD,zE] at u0 u1
  have hit:i < r.items.length:=HI.out
  have k0:(0:Int)≤(i:Int):=by omega
  have k1:(i:Int) < (r.items.length:Int):=by omega
  have r8:=((zm hna5).still ((zK _ _).drew)).setItemM i z hit
  have HR8:=zL r8
  have HCL5:=zL cl5
  have HZ45:=zL (kbF hb18)
  have HZ45':=zL (kbF hb12)
  have HB12:=zL hb12
  have HB18:=zL hb18
  have HC45:=zL hc045
  have HH45:=zL hh45
  have HF45:=zL hF45
  clear hna5 r8 cl5 ho5 hbk5 hb12 hb18 hb20 hc045 hh45 hF45
  go_wp2_with fail
  go_still_tail 6,(by kernel_rfl)
  go_upto_region 29 with fail
  refine kbD (fun w5=>w5.heap.size=w45.heap.size∧Fam (parM k) w5 (grow (grow F (w3.drew.alloc (Ic #[Ii Ij 0,Ii Ij 0] 27)) w4) w45 w5) (upd H' n ⟨r.cnt,r.items.set i z,r.kids⟩)∧Chg (fun b _=>(grow F (w3.drew.alloc (Ic #[Ii Ij 0,Ii Ij 0] 27)) w4) b) w45 w5) ⟨by simp,(HCL5.out _ _ _ HR8.out).1,(HCL5.out _ _ _ HR8.out).2⟩ ?_
  clear n2 z0 z1 u0 u1 k0 k1 iv ik HR8 HCL5
  rintro w5 ⟨hz5,hF5',hc5⟩
  have hl45:=HZ45.out
  have hl45':=HZ45'.out
  have hF5:Fam (parM k) w5 (grow F (w3.drew.alloc (Ic #[Ii Ij 0,Ii Ij 0] 27)) w4) (upd H' n ⟨r.cnt,r.items.set i z,r.kids⟩):=hF5'.mono' (fun b h=>by rcases h with h | h;exact h;have h1:=h.1;have h2:=h.2;omega) HF45.out (by omega)
  have hb12:w5.heap[w.heap.size+1]?=some (Ic #[Ii Ij 0,Ii Ij 0] 27 (0,0)):=by rw [hc5.block hl45' (fun _ h=>hGo _ (by omega) (zl _ _) h)];exact HB12.out
  have hb18:w5.heap[w2.heap.size]?=some (Ic #[Ii Ij y.1,Ii Ij y.2] 27 (0,0)):=by rw [hc5.block hl45 (fun _ h=>hGo _ hl18 hsz2 h)];exact HB18.out
  have hc05:Chg (fun b _=>F b∨hv=some b) w w5:=HC45.out.trans' hc5 i3 (fun b o hb h=>(hG0 b h).elim .inl (fun h=>by omega))
  have hh5:HintO hv w5:=HH45.out.chg hc5 (fun b _ e h=>(hG0 b h).elim (hvF b e) (fun h=>by have:=hh.lt e;omega))
  have ht5:=ht.chg hc05 (fun b _ hm e=>by
   rcases e with e | e
   ·exact htF b hm e
   ·exact hvt b e hm)
  clear hc5 hF5' HB12 HB18 HC45 HH45 HF45 HZ45 HZ45'
  obtain ⟨hn4,rc,hrc,hrl⟩:=(show (upd H' n ⟨r.cnt,r.items.set i z,r.kids⟩) n=some ⟨r.cnt,r.items.set i z,r.kids⟩∧∃rc,(upd H' n ⟨r.cnt,r.items.set i z,r.kids⟩) c=some rc∧rc.items.length≤1000 from ⟨kbX _ _ _,rc0,(kcP _ _ hcn).trans hrc0,hrl0⟩)
  obtain ⟨l4,hna4,hb4,ho4,cl4⟩:=hF5.work hn4
  have C1:=hna4.c1
  have z1:=hna4.fz 1
  have s1:Ij.wrap (r.cnt - 1)=r.cnt - 1:=zh _ (by omega)
  have r8:=(zm hna4).setCnt (r.cnt - 1)
  have HB12:=zL hb12
  have HB18:=zL hb18
  have HC05:=zL hc05
  have HH5:=zL hh5
  have HT5:=zL ht5
  have hl12:=kbF hb12
  have hl5:=kbF hb18
  clear hb12 hb18 hc05 hh5 ht5 hna4
  go_upto_region 30 with fail
  refine kbD (fun w6=>w6.heap.size=w5.heap.size∧Fam (parM k) w6 (grow (grow F (w3.drew.alloc (Ic #[Ii Ij 0,Ii Ij 0] 27)) w4) w5 w6) (upd (upd H' n ⟨r.cnt,r.items.set i z,r.kids⟩) n ⟨r.cnt - 1,r.items.set i z,r.kids⟩)∧Chg (fun b _=>(grow F (w3.drew.alloc (Ic #[Ii Ij 0,Ii Ij 0] 27)) w4) b) w5 w6) ⟨by simp,(cl4 _ _ _ r8).1,(cl4 _ _ _ r8).2⟩ ?_
  clear C1 z1 s1 r8 cl4 ho4 hb4
  rintro w6 ⟨hz6,hF6,hc6⟩
  have hb12:w6.heap[w.heap.size+1]?=some (Ic #[Ii Ij 0,Ii Ij 0] 27 (0,0)):=by rw [hc6.block hl12 (fun _ h=>hGo _ (by omega) (zl _ _) h)];exact HB12.out
  have hb18:w6.heap[w2.heap.size]?=some (Ic #[Ii Ij y.1,Ii Ij y.2] 27 (0,0)):=by rw [hc6.block hl5 (fun _ h=>hGo _ hl18 hsz2 h)];exact HB18.out
  have hc06:Chg (fun b _=>F b∨hv=some b) w w6:=HC05.out.trans' hc6 i3 (fun b o hb h=>(hG0 b h).elim .inl (fun h=>by omega))
  have hh6:HintO hv w6:=HH5.out.chg hc6 (fun b _ e h=>(hG0 b h).elim (hvF b e) (fun h=>by have:=hh.lt e;omega))
  have ht6:=ht.chg hc06 (fun b _ hm e=>by
   rcases e with e | e
   ·exact htF b hm e
   ·exact hvt b e hm)
  have hF7:Fam (parM k) w6 (grow F (w3.drew.alloc (Ic #[Ii Ij 0,Ii Ij 0] 27)) w4) (upd (upd H' n ⟨r.cnt,r.items.set i z,r.kids⟩) n ⟨r.cnt - 1,r.items.set i z,r.kids⟩):=hF6.mono' (fun b h=>by rcases h with h | h;exact h;have h1:=h.1;have h2:=h.2;omega) hF5 (by omega)
  obtain ⟨ln,hn6⟩:=hF7.node (kbX _ _ _)
  obtain ⟨lc,hc6'⟩:=hF7.node ((kcP _ _ hcn).trans hrc)
  have n3:=hn6.c3s hk
  have g1:=hn6.cc hk
  rw [zU] at g1
  have g2:=hn6.kidc hk (j:=i) (o:=some c) (by simp [hc])
  have d2:=hc6'.c2
  have e9:=ht6.c6
  have j0:(0:Int)≤(i:Int):=by omega
  have j1:(i:Int) < (kl.length:Int):=by omega
  have HB12':=zL hb12
  have HB18':=zL hb18
  have HH6:=zL hh6
  have HC06:=zL hc06
  have HT6:=zL ht6
  have HF7:=zL hF7
  clear hb12 hb18 hh6 hc06 ht6 hF7 hF6 hn6 hc6' hF5 HB12 HB18 HC05 HH5 HT5 hc6
  refine kbM (fun w'=>w'.cell? ⟨n,3,none⟩=some (Ip (some ⟨ln.cc,0,none⟩))∧w'.cell? ⟨ln.cc,0,none⟩=some (Is (some ⟨ln.cb,ln.co,none⟩) kl.length ln.ck)∧w'.cell? ⟨ln.cb,ln.co+i,none⟩=some (Ip (some ⟨c,0,none⟩))∧w'.cell? ⟨c,2,none⟩=some (Is (some ⟨lc.ib,lc.io,none⟩) rc.items.length lc.ic)∧w'.cell? ⟨t,10,none⟩=some (Ii Ij mn)) (.soft 0 (.soft 1 (.soft 2 (.soft 3 (.soft 4 (.soft 5 (.soft 6 (.soft 7 (.soft 8 (.soft 9 (.soft 10 (.soft 11 (.soft 12 (.soft 13 (.soft 14 (.soft 15 (.soft 16 (.soft 17 .nil)))))))))))))))))) (by kernel_rfl) (by kernel_rfl) (fun _ _ _ _ _ h=>h) ⟨n3,g1,g2,d2,e9⟩ ?_
  repeat (first | (refine kbH (by rfl) ?_ ?_ ?_ ?_;rotate_left;(· simp [zI,yielded];done);(· intro w' hS;try obtain ⟨a1,a2,a3,a4,a5⟩:=hS;go_simp;try with_reducible rfl);simp only [zJ,zA,zB,zC]) | (refine kbJ (by rfl) ?_ ?_;(· simp [zI,yielded];done);simp only [zJ,zA,zB,zC]))
  refine kcT ?_
  clear n3 g1 g2 d2 e9
  by_cases hlt:rc.items.length < mn
  ·have hlt':(rc.items.length:Int) < (mn:Int):=by omega
   have hGM:∀b,MOwn k t b→¬(grow F (w3.drew.alloc (Ic #[Ii Ij 0,Ii Ij 0] 27)) w4) b:=fun b hm h=>(hG0 b h).elim (htF b hm) (fun h=>by have:=ht.lt hm;omega)
   have HRB:=zL (hreb _ _ _ _ _ hz4 ((kcP _ _ hcn).symm.trans hrc) hlt (HF7.out.chg ((zK (fun _ _=>False) w6).drew) i3) (HT6.out.chg ((zK (fun _ _=>False) w6).drew) i3) hGM)
   go_wp2_with fail
   refine HRB.out.mono ?_
   rintro e w8 ⟨rfl,H'',f8,g8,z8⟩
   have hszd6:w6.drew.heap.size=w6.heap.size:=rfl
   have hsz8:=g8.size
   have hb12:w8.heap[w.heap.size+1]?=some (Ic #[Ii Ij 0,Ii Ij 0] 27 (0,0)):=by rw [g8.block (by omega) (fun _ h=>hGo _ (by omega) (zl _ _) h),kbZ];exact HB12'.out
   have hb18:w8.heap[w2.heap.size]?=some (Ic #[Ii Ij y.1,Ii Ij y.2] 27 (0,0)):=by rw [g8.block (by omega) (fun _ h=>hGo _ hl18 hsz2 h),kbZ];exact HB18'.out
   have y0:=kbC hb12 0
   have y1:=kbC hb12 1
   have p0:=kbB hb12 0
   have p1:=kbB hb12 1
   simp only [zF,zD,zE] at p0 p1
   have x0:=kbC hb18 0
   have x1:=kbC hb18 1
   have r0:=kbB hb18 0
   have r1:=kbB hb18 1
   simp only [zF,zD,zE] at r0 r1
   have hc08:Chg (fun b _=>F b∨hv=some b) w w8:=HC06.out.drew.trans' g8 i3 (fun b o hb h=>(hG0 b h).elim .inl (fun h=>by omega))
   have hh8:HintO hv w8:=(HH6.out.keep ((zK (fun _ _=>False) w6).drew)).chg g8 (fun b _ e h=>(hG0 b h).elim (hvF b e) (fun h=>by have:=hh.lt e;omega))
   have HF8:=zL f8
   have HC08:=zL hc08
   have HH8:=zL hh8
   have HZ8:=zL z8
   have HBB:=zL hb12
   clear f8 g8 hc08 hh8 z8 hb12 hb18 HRB
   go_wp2_with fail
   refine kbQ (fun wl=>Chg (fun b _=>b=w.heap.size+1) w8 wl∧wl.heap[w.heap.size+1]?=some (Ic #[Ii Ij y.1,Ii Ij y.2] 27 (0,0))) ⟨?_,blk2 HBB.out _ _⟩ ?_
   ·repeat (first | refine ze ?_ | refine zf ?_ _ | refine zd ?_ (.inl rfl) _ | exact zK _ _)
   clear p0 p1 r0 r1
   rintro wl ⟨hcl,hbl⟩
   have p0:=kbB hbl 0
   have p1:=kbB hbl 1
   simp only [zF,zD,zE] at p0 p1
   refine bodyPost_ret (v:=Iu #[.agg #[Ii Ij y.1,Ii Ij y.2],.bool true]) (by simp [results,Try.results70,go_sem,p0,p1]) rfl ?_
   have f9:=HF8.out.chg hcl (fun b o hb e=>by
    rcases hb with hb | hb
    ·exact hGo b (by omega) (by omega) hb
    ·have h1:=hb.1;omega)
   refine ⟨H'',some y,rfl,f9.mono (fun b hb=>?_) (fun b hb=>?_),HC08.out.trans' hcl i3 (fun b o hb e=>by omega),HH8.out.chg hcl (fun b _ e e2=>by have:=hh.lt e;omega),HZ8.out⟩
   ·have hbl:=zk (HF8.out.lt hb) hcl.size
    rcases hb with hb | hb
    ·exact (hG0 b hb).elim .inl (fun h=>.inr ⟨h,hbl⟩)
    ·exact .inr ⟨by have:=hb.1;omega,hbl⟩
   ·rcases hb with hb | hb
    ·exact zk (hF.lt hb) (HC08.out.trans' hcl (B:=fun _ _=>True) (fun _ _ _ _=>trivial) (fun _ _ _ _=>trivial)).size
    ·exact hb.2
  ·have hlt':¬(rc.items.length:Int) < (mn:Int):=by omega
   have HOK:=zL (hok _ _ _ hz4 ((kcP _ _ hcn).symm.trans hrc) (by omega))
   have y0:=kbC HB12'.out 0
   have y1:=kbC HB12'.out 1
   have p0:=kbB HB12'.out 0
   have p1:=kbB HB12'.out 1
   simp only [zF,zD,zE] at p0 p1
   have x0:=kbC HB18'.out 0
   have x1:=kbC HB18'.out 1
   have r0:=kbB HB18'.out 0
   have r1:=kbB HB18'.out 1
   simp only [zF,zD,zE] at r0 r1
   go_wp2_with fail
   refine kbQ (fun wl=>Chg (fun b _=>b=w.heap.size+1) w6 wl∧wl.heap[w.heap.size+1]?=some (Ic #[Ii Ij y.1,Ii Ij y.2] 27 (0,0))) ⟨?_,blk2 HB12'.out _ _⟩ ?_
   ·repeat (first | refine ze ?_ | refine zf ?_ _ | refine zd ?_ (.inl rfl) _ | exact zK _ _)
   clear p0 p1 r0 r1
   rintro wl ⟨hcl,hbl⟩
   have p0:=kbB hbl 0
   have p1:=kbB hbl 1
   simp only [zF,zD,zE] at p0 p1
   refine bodyPost_ret (v:=Iu #[.agg #[Ii Ij y.1,Ii Ij y.2],.bool true]) (by simp [results,Try.results70,go_sem,p0,p1]) rfl ?_
   have f9:=HF7.out.chg hcl (fun b o hb e=>hGo b (by omega) (by omega) hb)
   refine ⟨_,some y,rfl,f9.mono (fun b hb=>?_) (fun b hb=>?_),HC06.out.trans' hcl i3 (fun b o hb e=>by omega),HH6.out.chg hcl (fun b _ e e2=>by have:=hh.lt e;omega),HOK.out⟩
   ·have hbl:=f9.lt hb
    exact (hG0 b hb).elim .inl (fun h=>.inr ⟨h,hbl⟩)
   ·rcases hb with hb | hb
    ·exact zk (hF.lt hb) (HC06.out.trans' hcl (B:=fun _ _=>True) (fun _ _ _ _=>trivial) (fun _ _ _ _=>trivial)).size
    ·exact hb.2
end
end Go.Proofs.Ytnohimhihombmaa
