/- DeleteRangeReuse: an item and the child behind it, at a node of whatever form. -/
import Derived.Test.YtnohimhihombmaaX3
namespace Go.Proofs.Ytnohimhihombmaa
set_option linter.unusedSimpArgs false
set_option linter.unusedVariables false
set_option maxRecDepth 100000
set_option maxHeartbeats 40000000
open Value renaming int → Ii, pointer → Ip, slice → Is, tuple → Iu
open IntKind renaming i64 → Ij
open Obj renaming cells → Ic
open Ending renaming returned → Ir
open Option.some renaming inj → Iq
open _root_.Go.Proofs.Try renaming prog → Tp
open List renaming getElem?_cons_zero → zD, getElem?_cons_succ → zE, getElem?_toArray → zF, getElem?_eq_some_iff → zG, getElem?_eq_getElem → zH, mem_append_right → zM, mem_of_getElem? → zS, length_append → zT, length_map → zU, length_set → zW, drop_zero → zb, take_left' → zs, map_append → zv, take_append_drop → zw
open Chg renaming refl → zK
open Lib renaming hid → zL
open Option renaming some.injEq → zc
open IntWalk renaming i64_in → zh
open Nat renaming le_refl → zi, lt_of_lt_of_le → zk
open Run renaming start → zm
open Go.RowKit
section
variable {ord:List Int}{k:Kc ord}
section
variable {ord:List Int}
structure BoxK (X:DrX ord) (F:Nat→Prop) (w:World) (bx:Nat) (x:It ord):Prop where
 lt:bx<w.heap.size
 ge:X.base≤bx
 out:¬F bx
 blk:w.heap[bx]?=some (Ic #[Ii Ij x.1,Ii Ij x.2] 27 (0,0))
variable {X:DrX ord}{x:It ord}{bx:Nat}
theorem BoxK.nodes {F F':Nat→Prop}{w w':World}(h:BoxK X F w bx x)(k:Chg (fun b _=>F b) w w')(hF:∀b,F' b→F b∨w.heap.size≤b):BoxK X F' w' bx x :=
 ⟨zk h.lt k.size,h.ge,fun hb=>(hF bx hb).elim h.out (fun h1=>by have:=h.lt;omega),by rw [k.block h.lt (fun _ e=>h.out e)];exact h.blk⟩
theorem BoxK.side {F:Nat→Prop}{w w':World}{A:Nat→Nat→Prop}(h:BoxK X F w bx x)(k:Chg A w w')(hA:∀o,¬A bx o):BoxK X F w' bx x :=
 ⟨zk h.lt k.size,h.ge,h.out,by rw [k.block h.lt (fun o e=>hA o e)];exact h.blk⟩
def PairM (X:DrX ord)(w0:World)(H:HN ord)(rt:Option Nat)(cnt:Int)(p:It ord)(c:Int)(q:Value)(Dq:List (Bk ord))(st:Value)(es:List (Nat×Int))(n i:Nat)(fd:Bool)(bx:Nat)(x:It ord)(v21:Value)(r:NodeR (It ord))(a:Act)(w:World):Prop :=
 DrFr X a∧a.tmps[16]?=some st∧a.tmps[17]?=some (Ip (some ⟨n,0,none⟩))∧a.tmps[18]?=some (Ii Ij i)∧a.tmps[19]?=some (.bool fd)∧a.tmps[20]?=some (Ip (some ⟨bx,0,none⟩))∧a.tmps[21]?=some v21 ∧
  ∃F7,DrW X w0 w F7 (upd H n r) rt cnt p c q Dq st es∧BoxK X F7 w bx x
variable {es:List (Nat×Int)}{Dq:List (Bk ord)}{rt:Option Nat}{H:HN ord}{p:It ord}{st:Value}{cnt:Int}{q:Value}{c:Int}
theorem pm_end {w0 w w':World}{F7:Nat→Prop}{n bx:Nat}{r r':NodeR (It ord)}{l l':Lay}(ok:DrOk X)
  (hcl:∀w' r' l',Run (parM X.k) w n r l w' r' l'→Fam (parM X.k) w' (grow F7 w w') (upd (upd H n r) n r')∧Chg (fun b _=>F7 b) w w')(hr:Run (parM X.k) w n r l w' r' l')(hW:DrW X w0 w F7 (upd H n r) rt cnt p c q Dq st es)(hB:BoxK X F7 w bx x) :
  ∃F8,DrW X w0 w' F8 (upd H n r') rt cnt p c q Dq st es∧BoxK X F8 w' bx x:=by
 obtain ⟨f7,g7⟩:=hcl _ _ _ hr
 have h1:∀b,grow F7 w w' b→F7 b∨w.heap.size≤b:=fun b hb=>hb.elim .inl (fun h=>.inr h.1)
 have hW7:=hW.nodes ok g7 f7 h1
 rw [upd_upd] at hW7
 exact ⟨_,hW7,hB.nodes g7 h1⟩
variable {r:NodeR (It ord)}{v21:Value}{w0:World}{n i:Nat}{fd:Bool}
theorem dr_p22 (ok:DrOk X)(a:Act)(w:World)(hxl:r.items.length≤1000)(hlt:i<r.items.length)(hz:PairM X w0 H rt cnt p c q Dq st es n i fd bx x v21 r a w) :
  (cL (cR (drPair Try.f58))).wp Tp (kfZ fun a w=>∃ys,ys.length=r.items.length∧ys.take (r.items.length-1)=r.items.take i++r.items.drop (i+1)∧PairM X w0 H rt cnt p c q Dq st es n i fd bx x v21 { r with items:=ys } a w) a w:=by
 obtain ⟨hfr,s16,s17,s18,s19,s20,s21,F7,hW,hB⟩:=hz
 conv=>arg 2;whnf
 obtain ⟨f,rfl,e4,e5,e7,e10,e11,e13,e14,e15⟩:=hfr.lit
 unfold kdJ at *
 simp only [zF,zE,zD,zc] at s16 s17 s18 s19 s20 s21
 have HW4:=zL hW
 have HBX:=zL hB
 obtain ⟨l,hna,hb,ho,cl⟩:=hW.fam.work (kbX _ _ _)
 have HR:=zL (zm hna)
 have HCL:=zL cl
 rw [e4,e5,e7,e10,e11,e13,e14,e15,s16,s17,s18,s19,s20,s21]
 clear hfr e4 e5 e7 e10 e11 e13 e14 e15 s16 s17 s18 s19 s20 s21 hW hB hna hb ho cl
 obtain ⟨ik,hIK⟩:∃ik,i+1=ik:=⟨_,rfl⟩
 have HIK:=zL hIK
 obtain ⟨NI,hNI⟩:∃NI,r.items.length=NI:=⟨_,rfl⟩
 have HNI:=zL hNI
 have N2:w.cell? ⟨n,2,none⟩=some (Is (some ⟨l.ib,l.io,none⟩) NI l.ic):=by have:=HR.out.at_.c2;rw [hNI] at this;exact this
 have hlenc:NI≤l.ic:=by rw [←hNI];exact HR.out.at_.len
 have s0:(0:Int)≤(i:Int):=by omega
 have s1:Ij.wrap ((i:Int)+1)=(ik:Int):=by rw [zh _ (by omega)];omega
 have s2:(0:Int)≤(ik:Int):=by omega
 have s4:(i:Int)≤(NI:Int):=by omega
 have s5:(ik:Int)≤(NI:Int):=by omega
 have hck2:¬l.ic=i:=by omega
 obtain ⟨sp,hif,hsp⟩:∃sp,(if l.ic=ik then some (⟨l.ib,l.io,none⟩:Addr) else some ⟨l.ib,l.io+(ik)*2,none⟩)=some sp∧(i+1<NI→sp=⟨l.ib,l.io+(i+1)*2,none⟩):=by
  by_cases h:l.ic=ik
  ·exact ⟨_,by rw [if_pos h],fun h2=>by omega⟩
  ·exact ⟨_,by rw [if_neg h],fun _=>by rw [hIK]⟩
 have HSP:=zL hsp
 clear hsp hIK hNI
 go_still_tail 13,(by kernel_rfl)
 refine kfQ (p:=parM X.k) (by rfl) _ _ _ _ (by rfl) 27 (by kernel_rfl) kdD (HR.out.still ((zK _ _).drew)) i (l.io+i*2) _ _ _ _ hlt (by simp [parM]) (by rfl) sp (by rfl) (fun hh=>HSP.out (by rw [←HNI.out];exact hh)) (by rw [HNI.out]) (by rw [HNI.out,HIK.out]) ?_
 intro w8 ys r8 hys1 hys2
 have HY:=zL (And.intro hys1 hys2)
 have HR8:=zL r8
 clear r8 hys1 hys2 HR s0 s1 s2 s4 s5 hck2 hif N2 hlenc HSP
 go_wp2_with fail
 have hR7:=HR8.out
 obtain ⟨F8,hW7,hB7⟩:=pm_end ok HCL.out hR7 HW4.out HBX.out
 exact ⟨ys,HY.out.1,HY.out.2,⟨rfl,rfl,rfl,rfl,rfl,rfl,rfl,rfl,rfl,rfl⟩,rfl,rfl,rfl,rfl,rfl,rfl,_,hW7,hB7⟩
theorem dr_p23 (ok:DrOk X)(a:Act)(w:World)(hxl:r.items.length≤1000)(h1:1≤r.items.length)(hz:PairM X w0 H rt cnt p c q Dq st es n i fd bx x v21 r a w) :
  (cL (cR (cR (drPair Try.f58)))).wp Tp (kfZ fun a w=>∃ys,ys.length=r.items.length∧ys.take (r.items.length-1)=r.items.take (r.items.length-1)∧PairM X w0 H rt cnt p c q Dq st es n i fd bx x v21 { r with items:=ys } a w) a w:=by
 obtain ⟨hfr,s16,s17,s18,s19,s20,s21,F7,hW,hB⟩:=hz
 conv=>arg 2;whnf
 obtain ⟨f,rfl,e4,e5,e7,e10,e11,e13,e14,e15⟩:=hfr.lit
 unfold kdJ at *
 simp only [zF,zE,zD,zc] at s16 s17 s18 s19 s20 s21
 have HW4:=zL hW
 have HBX:=zL hB
 obtain ⟨l,hna,hb,ho,cl⟩:=hW.fam.work (kbX _ _ _)
 have HR:=zL (zm hna)
 have HCL:=zL cl
 rw [e4,e5,e7,e10,e11,e13,e14,e15,s16,s17,s18,s19,s20,s21]
 clear hfr e4 e5 e7 e10 e11 e13 e14 e15 s16 s17 s18 s19 s20 s21 hW hB hna hb ho cl
 obtain ⟨NI,hNI⟩:∃NI,r.items.length=NI:=⟨_,rfl⟩
 have HNI:=zL hNI
 obtain ⟨m,hm⟩:∃m,NI-1=m:=⟨_,rfl⟩
 have N2:w.cell? ⟨n,2,none⟩=some (Is (some ⟨l.ib,l.io,none⟩) NI l.ic):=by have:=HR.out.at_.c2;rw [hNI] at this;exact this
 have hlenc:NI≤l.ic:=by rw [←hNI];exact HR.out.at_.len
 have x5:=kbB HW4.out.x5 0
 simp only [zF,zD] at x5
 have h4:=HW4.out.mb.at_.c4
 have h5:=HW4.out.mb.at_.c5
 have s0:(0:Int)≤(m:Int):=by omega
 have s2:(m:Int)<(NI:Int):=by omega
 have s1:Ij.wrap ((NI:Int)-1)=(m:Int):=by rw [zh _ (by omega)];omega
 have hlt:m<r.items.length:=by omega
 have z0:=HR.out.at_.ifz (l.io+m*2)
 have z1:=HR.out.at_.ifz (l.io+m*2+1)
 obtain ⟨y6,hy6⟩:∃y,r.items[m]?=some y:=⟨_,zH hlt⟩
 have iv:=HR.out.at_.mval (j:=m) hy6
 have ik:=HR.out.at_.mkey (j:=m) hy6
 have r8:=(HR.out.still ((zK _ _).drew)).setItemM m ((0,0):It ord) hlt
 have HR8:=zL r8
 have HM:=zL hm
 clear hy6 r8 hm hNI
 go_still_tail 14,(by kernel_rfl)
 go_wp2_with fail
 have hR7:=HR8.out
 obtain ⟨F8,hW7,hB7⟩:=pm_end ok HCL.out hR7 HW4.out HBX.out
 have e:(r.items.set m (0,0)).take (r.items.length-1)=r.items.take (r.items.length-1):=by rw [List.take_set_of_le (by rw [HNI.out,HM.out];exact zi _)]
 exact ⟨_,zW,e,⟨rfl,rfl,rfl,rfl,rfl,rfl,rfl,rfl,rfl,rfl⟩,rfl,rfl,rfl,rfl,rfl,rfl,_,hW7,hB7⟩
theorem dr_p24 (ok:DrOk X)(a:Act)(w:World)(hxl:r.items.length≤1000)(h1:1≤r.items.length)(hz:PairM X w0 H rt cnt p c q Dq st es n i fd bx x v21 r a w) :
  (cL (cR (cR (cR (drPair Try.f58))))).wp Tp (kfZ (PairM X w0 H rt cnt p c q Dq st es n i fd bx x v21 { r with items:=r.items.take (r.items.length-1) })) a w:=by
 obtain ⟨hfr,s16,s17,s18,s19,s20,s21,F7,hW,hB⟩:=hz
 conv=>arg 2;whnf
 obtain ⟨f,rfl,e4,e5,e7,e10,e11,e13,e14,e15⟩:=hfr.lit
 unfold kdJ at *
 simp only [zF,zE,zD,zc] at s16 s17 s18 s19 s20 s21
 have HW4:=zL hW
 have HBX:=zL hB
 obtain ⟨l,hna,hb,ho,cl⟩:=hW.fam.work (kbX _ _ _)
 have HR:=zL (zm hna)
 have HCL:=zL cl
 rw [e4,e5,e7,e10,e11,e13,e14,e15,s16,s17,s18,s19,s20,s21]
 clear hfr e4 e5 e7 e10 e11 e13 e14 e15 s16 s17 s18 s19 s20 s21 hW hB hna hb ho cl
 obtain ⟨NI,hNI⟩:∃NI,r.items.length=NI:=⟨_,rfl⟩
 have HNI:=zL hNI
 obtain ⟨m,hm⟩:∃m,NI-1=m:=⟨_,rfl⟩
 have N2:w.cell? ⟨n,2,none⟩=some (Is (some ⟨l.ib,l.io,none⟩) NI l.ic):=by have:=HR.out.at_.c2;rw [hNI] at this;exact this
 have z2:=HR.out.at_.fz 2
 have hlenc:NI≤l.ic:=by rw [←hNI];exact HR.out.at_.len
 have s0:(0:Int)≤(m:Int):=by omega
 have s2:(m:Int)≤(l.ic:Int):=by omega
 have s1:Ij.wrap ((NI:Int)-1)=(m:Int):=by rw [zh _ (by omega)];omega
 have ck:¬l.ic=0:=by omega
 have r8:=(HR.out.still ((zK _ _).drew)).cut 0 m l.ic (by show 0+m≤r.items.length;omega) (by omega) (by omega)
 simp only [Nat.zero_mul,Nat.add_zero,zb] at r8
 have HR8:=zL r8
 have HM:=zL hm
 clear r8 hm hNI
 go_still_tail 12,(by kernel_rfl)
 go_wp2_with fail
 have hR7:=HR8.out
 rw [←HM.out,←HNI.out] at hR7
 obtain ⟨F8,hW7,hB7⟩:=pm_end ok HCL.out hR7 HW4.out HBX.out
 rw [←HM.out,←HNI.out]
 exact ⟨⟨rfl,rfl,rfl,rfl,rfl,rfl,rfl,rfl,rfl,rfl⟩,rfl,rfl,rfl,rfl,rfl,rfl,_,hW7,hB7⟩
end
end
section
variable {ord:List Int}{k:Kc ord}
section
variable {ord:List Int}
def drP25 (f:Func):Code:=cR (cR (cR (cR (drPair f))))
variable {ks:List (Option Nat)}{es:List (Nat×Int)}{Dq:List (Bk ord)}{r:NodeR (It ord)}{rt:Option Nat}{X:DrX ord}{v21:Value}{w0:World}{H:HN ord}{p:It ord}{st:Value}{x:It ord}{cnt:Int}{q:Value}{fd:Bool}{bx:Nat}{c:Int}
theorem dr_p25 (ok:DrOk X)(a:Act)(w:World){n i nd:Nat}(hks:r.kids=some ks)(hkl:ks.length≤1001)(hnd:ks[i+1]?=some (some nd))(hz:PairM X w0 H rt cnt p c q Dq st es n i fd bx x v21 r a w) :
  (cL (drP25 Try.f58)).wp Tp (kfZ (PairM X w0 H rt cnt p c q Dq st es n i fd bx x (Ip (some ⟨nd,0,none⟩)) r)) a w:=by
 obtain ⟨hfr,s16,s17,s18,s19,s20,s21,F7,hW,hB⟩:=hz
 conv=>arg 2;whnf
 obtain ⟨f,rfl,e4,e5,e7,e10,e11,e13,e14,e15⟩:=hfr.lit
 unfold kdJ at *
 simp only [zF,zE,zD,zc] at s16 s17 s18 s19 s20 s21
 have HW4:=zL hW
 have HBX:=zL hB
 obtain ⟨l,hna,hb,ho,cl⟩:=hW.fam.work (kbX _ _ _)
 have HR:=zL (zm hna)
 have HCL:=zL cl
 rw [e4,e5,e7,e10,e11,e13,e14,e15,s16,s17,s18,s19,s20,s21]
 clear hfr e4 e5 e7 e10 e11 e13 e14 e15 s16 s17 s18 s19 s20 s21 hW hB hna hb ho cl
 have hlt:=(zG.1 hnd).1
 obtain ⟨ik,hIK⟩:∃ik,i+1=ik:=⟨_,rfl⟩
 rw [hIK] at hnd hlt
 obtain ⟨NK,hNK⟩:∃NK,ks.length=NK:=⟨_,rfl⟩
 have N3:=HR.out.at_.c3s hks
 have NC:w.cell? ⟨l.cc,0,none⟩=some (Is (some ⟨l.cb,l.co,none⟩) NK l.ck):=by have:=HR.out.at_.cc hks;rw [hNK] at this;exact this
 have iv:w.cell? ⟨l.cb,l.co+ik,none⟩=some (Ip (some ⟨nd,0,none⟩)):=HR.out.at_.kidc hks hnd
 have s0:(0:Int)≤(ik:Int):=by omega
 have s1:Ij.wrap ((i:Int)+1)=(ik:Int):=by rw [zh _ (by omega)];omega
 have s2:(ik:Int)<(NK:Int):=by omega
 clear hnd hlt hIK hNK hks hkl
 go_wp2_with fail
 exact ⟨⟨rfl,rfl,rfl,rfl,rfl,rfl,rfl,rfl,rfl,rfl⟩,rfl,rfl,rfl,rfl,rfl,rfl,F7,HW4.out,HBX.out⟩
variable {n i:Nat}
theorem dr_p26 (ok:DrOk X)(a:Act)(w:World)(hks:r.kids=some ks)(hkl:ks.length≤1001)(hlt:i+1<ks.length)(hz:PairM X w0 H rt cnt p c q Dq st es n i fd bx x v21 r a w) :
  (cL (cR (drP25 Try.f58))).wp Tp (kfZ fun a w=>∃ys,ys.length=ks.length∧ys.take (ks.length-1)=ks.take (i+1)++ks.drop (i+2)∧PairM X w0 H rt cnt p c q Dq st es n i fd bx x v21 { r with kids:=some ys } a w) a w:=by
 obtain ⟨hfr,s16,s17,s18,s19,s20,s21,F7,hW,hB⟩:=hz
 conv=>arg 2;whnf
 obtain ⟨f,rfl,e4,e5,e7,e10,e11,e13,e14,e15⟩:=hfr.lit
 unfold kdJ at *
 simp only [zF,zE,zD,zc] at s16 s17 s18 s19 s20 s21
 have HW4:=zL hW
 have HBX:=zL hB
 obtain ⟨l,hna,hb,ho,cl⟩:=hW.fam.work (kbX _ _ _)
 have HR:=zL (zm hna)
 have HCL:=zL cl
 rw [e4,e5,e7,e10,e11,e13,e14,e15,s16,s17,s18,s19,s20,s21]
 clear hfr e4 e5 e7 e10 e11 e13 e14 e15 s16 s17 s18 s19 s20 s21 hW hB hna hb ho cl
 obtain ⟨ik,hIK⟩:∃ik,i+1=ik:=⟨_,rfl⟩
 obtain ⟨ij,hIJ⟩:∃ij,ik+1=ij:=⟨_,rfl⟩
 have HIK:=zL hIK
 have HIJ:=zL hIJ
 obtain ⟨NI,hNI⟩:∃NI,ks.length=NI:=⟨_,rfl⟩
 have HNI:=zL hNI
 have N3:=HR.out.at_.c3s hks
 have NC:w.cell? ⟨l.cc,0,none⟩=some (Is (some ⟨l.cb,l.co,none⟩) NI l.ck):=by have:=HR.out.at_.cc hks;rw [hNI] at this;exact this
 have hlenc:NI≤l.ck:=by rw [←hNI];exact HR.out.at_.klen hks
 have s0:(0:Int)≤(ik:Int):=by omega
 have s1:Ij.wrap ((i:Int)+1)=(ik:Int):=by rw [zh _ (by omega)];omega
 have s6:Ij.wrap ((i:Int)+2)=(ij:Int):=by rw [zh _ (by omega)];omega
 have s2:(0:Int)≤(ij:Int):=by omega
 have s4:(ik:Int)≤(NI:Int):=by omega
 have s5:(ij:Int)≤(NI:Int):=by omega
 have hck2:¬l.ck=ik:=by omega
 obtain ⟨sp,hif,hsp⟩:∃sp,(if l.ck=ij then some (⟨l.cb,l.co,none⟩:Addr) else some ⟨l.cb,l.co+ij,none⟩)=some sp∧(ik+1<NI→sp=⟨l.cb,l.co+(ik+1),none⟩):=by
  by_cases h:l.ck=ij
  ·exact ⟨_,by rw [if_pos h],fun h2=>by omega⟩
  ·exact ⟨_,by rw [if_neg h],fun _=>by rw [hIJ]⟩
 have HSP:=zL hsp
 have hlt2:ik<ks.length:=by omega
 clear hsp hIK hIJ hNI hkl hlt
 go_still_tail 18,(by kernel_rfl)
 refine kgS (p:=parM X.k) (by rfl) _ _ _ _ (by rfl) 97 (by kernel_rfl) kgH (HR.out.still ((zK _ _).drew)) ks hks ik (l.co+ik) _ _ _ _ hlt2 rfl (by rfl) sp (by rfl) (fun hh=>HSP.out (by rw [←HNI.out];exact hh)) (by rw [HNI.out]) (by rw [HNI.out,HIJ.out]) ?_
 intro w8 ys r8 hys1 hys2
 have HY:=zL (And.intro hys1 hys2)
 have HR8:=zL r8
 clear r8 hys1 hys2 HR s0 s1 s2 s4 s5 s6 hck2 hif N3 NC hlenc HSP
 go_wp2_with fail
 have hR7:=HR8.out
 obtain ⟨F8,hW7,hB7⟩:=pm_end ok HCL.out hR7 HW4.out HBX.out
 have hy2:=HY.out.2
 rw [←HIK.out] at hy2
 exact ⟨ys,HY.out.1,hy2,⟨rfl,rfl,rfl,rfl,rfl,rfl,rfl,rfl,rfl,rfl⟩,rfl,rfl,rfl,rfl,rfl,rfl,_,hW7,hB7⟩
theorem dr_p27 (ok:DrOk X)(a:Act)(w:World)(hks:r.kids=some ks)(hkl:ks.length≤1001)(h1:1≤ks.length)(hz:PairM X w0 H rt cnt p c q Dq st es n i fd bx x v21 r a w) :
  (cL (cR (cR (drP25 Try.f58)))).wp Tp (kfZ fun a w=>∃ys,ys.length=ks.length∧ys.take (ks.length-1)=ks.take (ks.length-1)∧PairM X w0 H rt cnt p c q Dq st es n i fd bx x v21 { r with kids:=some ys } a w) a w:=by
 obtain ⟨hfr,s16,s17,s18,s19,s20,s21,F7,hW,hB⟩:=hz
 conv=>arg 2;whnf
 obtain ⟨f,rfl,e4,e5,e7,e10,e11,e13,e14,e15⟩:=hfr.lit
 unfold kdJ at *
 simp only [zF,zE,zD,zc] at s16 s17 s18 s19 s20 s21
 have HW4:=zL hW
 have HBX:=zL hB
 obtain ⟨l,hna,hb,ho,cl⟩:=hW.fam.work (kbX _ _ _)
 have HR:=zL (zm hna)
 have HCL:=zL cl
 rw [e4,e5,e7,e10,e11,e13,e14,e15,s16,s17,s18,s19,s20,s21]
 clear hfr e4 e5 e7 e10 e11 e13 e14 e15 s16 s17 s18 s19 s20 s21 hW hB hna hb ho cl
 obtain ⟨NI,hNI⟩:∃NI,ks.length=NI:=⟨_,rfl⟩
 have HNI:=zL hNI
 obtain ⟨m,hm⟩:∃m,NI-1=m:=⟨_,rfl⟩
 have N3:=HR.out.at_.c3s hks
 have NC:w.cell? ⟨l.cc,0,none⟩=some (Is (some ⟨l.cb,l.co,none⟩) NI l.ck):=by have:=HR.out.at_.cc hks;rw [hNI] at this;exact this
 have hlenc:NI≤l.ck:=by rw [←hNI];exact HR.out.at_.klen hks
 have s0:(0:Int)≤(m:Int):=by omega
 have s2:(m:Int)<(NI:Int):=by omega
 have s1:Ij.wrap ((NI:Int)-1)=(m:Int):=by rw [zh _ (by omega)];omega
 have hlt:m<ks.length:=by omega
 have z0:=HR.out.at_.kidz hks (l.co+m)
 obtain ⟨y6,hy6⟩:∃y,ks[m]?=some y:=⟨_,zH hlt⟩
 have iv:=HR.out.at_.kidc hks hy6
 have r8:=(HR.out.still ((zK _ _).drew)).setKid hks m none hlt
 have HR8:=zL r8
 have HM:=zL hm
 clear hy6 r8 hm hNI hkl hks
 go_still_tail 14,(by kernel_rfl)
 go_wp2_with fail
 have hR7:=HR8.out
 obtain ⟨F8,hW7,hB7⟩:=pm_end ok HCL.out hR7 HW4.out HBX.out
 have e:(ks.set m none).take (ks.length-1)=ks.take (ks.length-1):=by rw [List.take_set_of_le (by rw [HNI.out,HM.out];exact zi _)]
 exact ⟨_,zW,e,⟨rfl,rfl,rfl,rfl,rfl,rfl,rfl,rfl,rfl,rfl⟩,rfl,rfl,rfl,rfl,rfl,rfl,_,hW7,hB7⟩
theorem dr_p28 (ok:DrOk X)(a:Act)(w:World)(hks:r.kids=some ks)(hkl:ks.length≤1001)(h1:1≤ks.length)(hz:PairM X w0 H rt cnt p c q Dq st es n i fd bx x v21 r a w) :
  (cL (cR (cR (cR (drP25 Try.f58))))).wp Tp (kfZ (PairM X w0 H rt cnt p c q Dq st es n i fd bx x v21 { r with kids:=some (ks.take (ks.length-1)) })) a w:=by
 obtain ⟨hfr,s16,s17,s18,s19,s20,s21,F7,hW,hB⟩:=hz
 conv=>arg 2;whnf
 obtain ⟨f,rfl,e4,e5,e7,e10,e11,e13,e14,e15⟩:=hfr.lit
 unfold kdJ at *
 simp only [zF,zE,zD,zc] at s16 s17 s18 s19 s20 s21
 have HW4:=zL hW
 have HBX:=zL hB
 obtain ⟨l,hna,hb,ho,cl⟩:=hW.fam.work (kbX _ _ _)
 have HR:=zL (zm hna)
 have HCL:=zL cl
 rw [e4,e5,e7,e10,e11,e13,e14,e15,s16,s17,s18,s19,s20,s21]
 clear hfr e4 e5 e7 e10 e11 e13 e14 e15 s16 s17 s18 s19 s20 s21 hW hB hna hb ho cl
 obtain ⟨NI,hNI⟩:∃NI,ks.length=NI:=⟨_,rfl⟩
 have HNI:=zL hNI
 obtain ⟨m,hm⟩:∃m,NI-1=m:=⟨_,rfl⟩
 have N3:=HR.out.at_.c3s hks
 have NC:w.cell? ⟨l.cc,0,none⟩=some (Is (some ⟨l.cb,l.co,none⟩) NI l.ck):=by have:=HR.out.at_.cc hks;rw [hNI] at this;exact this
 have hlenc:NI≤l.ck:=by rw [←hNI];exact HR.out.at_.klen hks
 have z2:=HR.out.at_.ccz hks 0
 have s0:(0:Int)≤(m:Int):=by omega
 have s2:(m:Int)≤(l.ck:Int):=by omega
 have s1:Ij.wrap ((NI:Int)-1)=(m:Int):=by rw [zh _ (by omega)];omega
 have ck:¬l.ck=0:=by omega
 have r8:=(HR.out.still ((zK _ _).drew)).cutKids hks 0 m l.ck (by omega) (by omega) (by omega)
 simp only [Nat.add_zero,zb] at r8
 have HR8:=zL r8
 have HM:=zL hm
 clear r8 hm hNI hkl hks
 go_still_tail 19,(by kernel_rfl)
 go_wp2_with fail
 have hR7:=HR8.out
 rw [←HM.out,←HNI.out] at hR7
 obtain ⟨F8,hW7,hB7⟩:=pm_end ok HCL.out hR7 HW4.out HBX.out
 rw [←HM.out,←HNI.out]
 exact ⟨⟨rfl,rfl,rfl,rfl,rfl,rfl,rfl,rfl,rfl,rfl⟩,rfl,rfl,rfl,rfl,rfl,rfl,_,hW7,hB7⟩
end
end
section
variable {ord:List Int}{k:Kc ord}
section
variable {ord:List Int}
variable {r:NodeR (It ord)}
theorem upd_self' {H:HN ord}{n:Nat}(h:H n=some r):upd H n r=H:=by
 funext m
 by_cases e:m=n
 ·subst e;rw [kbX,h]
 ·rw [kcP _ _ e]
theorem box_new (w:World)(T:TypeId)(v0 v1:Value) :
  Chg (fun _ _=>False) w (w.alloc (Ic #[v0,v1] T))∧(w.alloc (Ic #[v0,v1] T)).heap[w.heap.size]?=some (Ic #[v0,v1] T (0,0))∧w.heap.size<(w.alloc (Ic #[v0,v1] T)).heap.size:=by
 have h:=kbT w (Ic #[v0,v1] T) rfl
 exact ⟨(zK _ _).alloc _,h,kbF h⟩
variable {Dq:List (Bk ord)}{rt:Option Nat}{es:List (Nat×Int)}{X:DrX ord}{w0:World}{p:It ord}{st:Value}{x:It ord}{c:Int}{cnt:Int}{q:Value}{n i:Nat}{fd:Bool}
theorem dr_p21 (ok:DrOk X)(a:Act)(w:World){F:Nat→Prop}{H:HN ord}
  (hfr:DrFr X a)(s16:a.tmps[16]?=some st)(s17:a.tmps[17]?=some (Ip (some ⟨n,0,none⟩)))(s18:a.tmps[18]?=some (Ii Ij i))(s19:a.tmps[19]?=some (.bool fd))(hr:H n=some r)(hx:r.items[i]?=some x)(hW:DrW X w0 w F H rt cnt p c q Dq st es) :
  (cL (drPair Try.f58)).wp Tp (kfZ fun a w=>∃bx v21,PairM X w0 H rt cnt p c q Dq st es n i fd bx x v21 r a w) a w:=by
 conv=>arg 2;whnf
 obtain ⟨f,rfl,e4,e5,e7,e10,e11,e13,e14,e15⟩:=hfr.lit
 unfold kdJ at *
 simp only [zF,zE,zD,zc] at s16 s17 s18 s19
 have HW4:=zL hW
 obtain ⟨l,hna⟩:=hW.fam.node hr
 have hlt:=(zG.1 hx).1
 obtain ⟨NI,hNI⟩:∃NI,r.items.length=NI:=⟨_,rfl⟩
 have N2:w.cell? ⟨n,2,none⟩=some (Is (some ⟨l.ib,l.io,none⟩) NI l.ic):=by have:=hna.c2;rw [hNI] at this;exact this
 have y0:=hna.mkey (j:=i) hx
 have y1:=hna.mval (j:=i) hx
 have b1:(0:Int)≤(i:Int):=by omega
 have b2:(i:Int)<(NI:Int):=by omega
 have HE:=zL (upd_self' hr)
 have hbx:=box_new w 27 (Ii Ij x.1) (Ii Ij x.2)
 have HBN:=zL hbx
 rw [e4,e5,e7,e10,e11,e13,e14,e15,s16,s17,s18,s19]
 clear hfr e4 e5 e7 e10 e11 e13 e14 e15 s16 s17 s18 s19 hW hna hr hx hlt hNI hbx
 go_wp2_with fail
 obtain ⟨g1,g2,g3⟩:=HBN.out
 refine ⟨w.heap.size,f 21,⟨rfl,rfl,rfl,rfl,rfl,rfl,rfl,rfl,rfl,rfl⟩,rfl,rfl,rfl,rfl,rfl,rfl,F,?_,g3,HW4.out.rw_,fun h=>?_,g2⟩
 ·rw [HE.out];exact HW4.out.keep g1
 ·exact Nat.lt_irrefl _ (HW4.out.fam.lt h)
def LabCp (X:DrX ord)(w0:World)(H1:HN ord)(rt:Option Nat)(cnt:Int)(p:It ord)(c:Int)(q:Value)(Dq:List (Bk ord))(st:Value)(es:List (Nat×Int))(n i:Nat)(fd:Bool)(bx:Nat)(x:It ord)(v21:Value)(a:Act)(w:World):Prop :=
 DrFr X a∧a.tmps[16]?=some st∧a.tmps[17]?=some (Ip (some ⟨n,0,none⟩))∧a.tmps[18]?=some (Ii Ij i)∧a.tmps[19]?=some (.bool fd)∧a.tmps[20]?=some (Ip (some ⟨bx,0,none⟩))∧a.tmps[21]?=some v21 ∧
  ∃F7,DrW X w0 w F7 H1 rt cnt p c q Dq st es∧BoxK X F7 w bx x
variable {H1:HN ord}
theorem DrW.ct1b {w0 w:World}{F:Nat→Prop}{p x:It ord}{q st:Value}{ns:List Nat}{m k n bx:Nat}(ok:DrOk X)(h:DrW X w0 w F (bmp H1 (ns.take k) (-(m:Int))) rt cnt p c q Dq st es)(hB:BoxK X F w bx x)(hd:ns.Nodup)(hn:ns[k]?=some n)(hr:H1 n=some r) :
  DrW X w0 (w.setCell ⟨n,1,none⟩ (Ii Ij (r.cnt-m))) F (bmp H1 (ns.take (k+1)) (-(m:Int))) rt cnt p c q Dq st es∧BoxK X F (w.setCell ⟨n,1,none⟩ (Ii Ij (r.cnt-m))) bx x:=by
 have h1:bmp H1 (ns.take k) (-(m:Int)) n=some r:=by rw [bmp_out (nodup_take hd hn)];exact hr
 obtain ⟨_,g2⟩:=h.fam.setCnt1 h1 (r.cnt-m)
 exact ⟨h.ct1 ok hd hn hr,hB.nodes g2 (fun _ hb=>.inl hb)⟩
def drPct (f:Func):Code:=cR (cR (cR (cR (drP25 f))))
theorem dr_p29 (ok:DrOk X)(a:Act)(w:World){P B:List Nat}{bx nd m:Nat}{rk:NodeR (It ord)}
  (hPB:P.length=B.length)(hP:P.length≤1000000000000)(hnd:(P++[n]).Nodup)(hrec:∀a∈P++[n],∃r,H1 a=some r∧0≤r.cnt∧r.cnt≤1000000000000)(hk:H1 nd=some rk)(hkc:rk.cnt=(m:Int))(hm:m≤1000000000000)(hno:nd∉P++[n])
  (hz:LabCp X w0 H1 rt cnt p c q Dq st (kdG P B n) n i fd bx x (Ip (some ⟨nd,0,none⟩)) a w) :
  (cL (drPct Try.f58)).wp Tp (kfZ (LabCp X w0 (bmp H1 (P++[n]) (-((m+1:Nat):Int))) rt cnt p c q Dq st (kdG P B n) n i fd bx x (Ip (some ⟨nd,0,none⟩)))) a w:=by
 obtain ⟨hfr,s16,s17,s18,s19,s20,s21,F7,hW,hB⟩:=hz
 have hsl:=stk_len (P:=P) (B:=B) n hPB
 conv=>arg 2;whnf
 obtain ⟨f,rfl,e4,e5,e7,e10,e11,e13,e14,e15⟩:=hfr.lit
 unfold kdJ at *
 simp only [zF,zE,zD,zc] at s16 s17 s18 s19 s20 s21
 obtain ⟨sa,sc,hsf⟩:=hW.so.sl.form
 subst hsf
 obtain ⟨N,hN⟩:∃N,(kdG P B n).length=N:=⟨_,rfl⟩
 obtain ⟨ns,hns⟩:∃ns,P++[n]=ns:=⟨_,rfl⟩
 rw [hns] at hnd hrec hno ⊢
 have hnl:ns.length=N:=by rw [←hns,←hN,hsl];simp
 rw [hN] at hW s16 ⊢
 have HN:=zL (And.intro hnl (And.intro hns hN))
 have HND:=zL hnd
 have HREC:=zL hrec
 have HNO:=zL (And.intro hno (And.intro hk hkc))
 have HPB:=zL hPB
 have HW:=zL (And.intro hW hB)
 have hNb:N≤1000000000001:=by omega
 rw [e4,e5,e7,e10,e11,e13,e14,e15,s16,s17,s18,s19,s20,s21]
 clear hfr e4 e5 e7 e10 e11 e13 e14 e15 s16 s17 s18 s19 s20 s21 hW hB hns hnl hN hsl hnd hrec hPB hno hk hkc
 go_wp2_with fail
 refine wp_loop (fun a w=>DrFr X a∧a.tmps[16]?=some (.slice sa N sc)∧a.tmps[17]?=some (Ip (some ⟨n,0,none⟩))∧a.tmps[18]?=some (Ii Ij i)∧a.tmps[19]?=some (.bool fd)∧a.tmps[20]?=some (Ip (some ⟨bx,0,none⟩))∧a.tmps[21]?=some (Ip (some ⟨nd,0,none⟩))∧∃k:Nat,k≤ns.length∧a.tmps[22]?=some (Ii Ij k)∧DrW X w0 w F7 (bmp H1 (ns.take k) (-((m+1:Nat):Int))) rt cnt p c q Dq (.slice sa N sc) (kdG P B n)∧BoxK X F7 w bx x) (fun a _=>N-numO (a.tmps[22]?)) ?_ ?_
 ·exact ⟨⟨rfl,rfl,rfl,rfl,rfl,rfl,rfl,rfl,rfl,rfl⟩,rfl,rfl,rfl,rfl,rfl,rfl,0,Nat.zero_le _,rfl,by rw [List.take_zero,bmp_nil];exact HW.out.1,HW.out.2⟩
 ·clear HW
  rintro a w ⟨hfr,s16,s17,s18,s19,s20,s21,k,hk,s28,hWk,hBk⟩
  obtain ⟨f,rfl,e4,e5,e7,e10,e11,e13,e14,e15⟩:=hfr.lit
  unfold kdJ at *
  simp only [zF,zE,zD,zc] at s16 s17 s18 s19 s20 s21 s28
  simp only [zF,zE,zD]
  have HWK:=zL hWk
  have HBK:=zL hBk
  have hkN:k≤N:=by rw [←HN.out.1];exact hk
  rw [e4,e5,e7,e10,e11,e13,e14,e15,s16,s17,s18,s19,s20,s21,s28]
  clear hfr hWk hBk e4 e5 e7 e10 e11 e13 e14 e15 s16 s17 s18 s19 s20 s21 s28 hk
  by_cases hlt:k<N
  ·obtain ⟨e,he⟩:∃e,(kdG P B n)[k]?=some e:=⟨_,zH (by rw [HN.out.2.2];exact hlt)⟩
   have hek:=stk_get HPB.out he
   rw [HN.out.2.1] at hek
   obtain ⟨r,hr,hr0,hr1⟩:=HREC.out e.1 (zS hek)
   obtain ⟨b,o,rfl,hcell⟩:=HWK.out.so.sl.cell he
   have g0:=hcell 0 (Ip (some ⟨e.1,0,none⟩)) rfl
   have g0':w.cell? ⟨b,o+k*2,none⟩=some (Ip (some ⟨e.1,0,none⟩)):=g0
   have hrb:bmp H1 (ns.take k) (-((m+1:Nat):Int)) e.1=some r:=by rw [bmp_out (nodup_take HND.out hek)];exact hr
   obtain ⟨lk,hnk⟩:=HWK.out.fam.node hrb
   have c1:=hnk.c1
   have z1:=hnk.fz 1
   have hkb:bmp H1 (ns.take k) (-((m+1:Nat):Int)) nd=some rk:=by rw [bmp_out (fun h=>HNO.out.1 (List.mem_of_mem_take h))];exact HNO.out.2.1
   obtain ⟨ld,hnd⟩:=HWK.out.fam.node hkb
   have c2:=hnd.c1
   rw [HNO.out.2.2] at c2
   obtain ⟨rc,hrc⟩:∃rc,r.cnt=rc:=⟨_,rfl⟩
   have hct:=(HWK.out.keep ((zK _ _).drew)).ct1b ok (HBK.out.side ((zK (fun _ _=>False) w).drew) (fun _ h=>h)) HND.out hek hr
   rw [hrc] at c1 hr0 hr1 hct
   obtain ⟨m1,hm1⟩:∃m1,m+1=m1:=⟨_,rfl⟩
   rw [hm1] at hct ⊢
   have HCT:=zL hct
   have s0:Ij.wrap ((m:Int)+1)=(m1:Int):=by rw [zh _ (by omega)];omega
   have s1:Ij.wrap (rc-(m1:Int))=rc-(m1:Int):=zh _ (by omega)
   have j0:(0:Int)≤(k:Int):=by omega
   have j1:(k:Int)<(N:Int):=by omega
   have s3:Ij.wrap ((k:Int)+1)=((k+1:Nat):Int):=(by rw [zh _ (by omega)];omega)
   clear hcell g0 hnk hnd he hek hr hrb hkb hrc hct hm1
   go_upto_region 32 with fail
   go_still_tail 14,(by kernel_rfl)
   go_upto_region 31 with fail
   refine kbD (fun wz=>DrW X w0 wz F7 (bmp H1 (ns.take (k+1)) (-(m1:Int))) rt cnt p c q Dq (Is (some ⟨b,o,none⟩) N sc) (kdG P B n)∧BoxK X F7 wz bx x) HCT.out ?_
   clear g0' c1 z1 c2 HCT
   intro wz hwz
   have HWZ:=zL hwz
   clear hwz
   go_wp2_with fail
   refine And.intro ?_ (by show N-(((k+1:Nat):Int)).toNat<N-((k:Nat):Int).toNat;omega)
   exact ⟨⟨rfl,rfl,rfl,rfl,rfl,rfl,rfl,rfl,rfl,rfl⟩,rfl,rfl,rfl,rfl,rfl,rfl,k+1,by rw [HN.out.1];omega,rfl,HWZ.out.1,HWZ.out.2⟩
  ·have hkN2:k=N:=by omega
   have hnlt:¬(k:Int)<(N:Int):=by omega
   have hW8:=HWK.out
   have ek:ns.take k=ns:=by rw [hkN2,←HN.out.1,List.take_length]
   rw [ek] at hW8
   have HW8:=zL hW8
   clear hW8 ek hkN2
   go_wp2_with fail
   exact ⟨⟨rfl,rfl,rfl,rfl,rfl,rfl,rfl,rfl,rfl,rfl⟩,rfl,rfl,rfl,rfl,rfl,rfl,F7,HW8.out,HBK.out⟩
theorem dr_p33 (ok:DrOk X)(a:Act)(w:World){bx nd m nL:Nat}{rk:NodeR (It ord)}
  (hk:H1 nd=some rk)(hkc:rk.cnt=(m:Int))(hm:m≤1000000000000)(hL:nL≤1000000000000)
  (hz:LabCp X w0 H1 rt (nL:Int) p c q Dq st es n i fd bx x (Ip (some ⟨nd,0,none⟩)) a w) :
  (cL (cR (drPct Try.f58))).wp Tp (kfZ (LabCp X w0 H1 rt ((nL:Int)-((m+1:Nat):Int)) p c q Dq st es n i fd bx x (Ip (some ⟨nd,0,none⟩)))) a w:=by
 obtain ⟨hfr,s16,s17,s18,s19,s20,s21,F7,hW,hB⟩:=hz
 conv=>arg 2;whnf
 obtain ⟨f,rfl,e4,e5,e7,e10,e11,e13,e14,e15⟩:=hfr.lit
 unfold kdJ at *
 simp only [zF,zE,zD,zc] at s16 s17 s18 s19 s20 s21
 obtain ⟨ld,hnd⟩:=hW.fam.node hk
 have c2:=hnd.c1
 rw [hkc] at c2
 have x5:=kbB hW.x5 0
 have c3:=hW.mb.c3
 have z3:=hW.mb.fz 3
 simp only [zF,zD] at x5
 obtain ⟨m1,hm1⟩:∃m1,m+1=m1:=⟨_,rfl⟩
 rw [hm1]
 have hW9:=(hW.keep ((zK _ _).drew)).count ok ((nL:Int)-(m1:Int))
 have hB9:=(hB.side ((zK (fun _ _=>False) w).drew) (fun _ h=>h)).side ((zK (fun b _=>b=X.t) w.drew).setCell (a:=⟨X.t,3,none⟩) (.inl rfl) (Ii Ij ((nL:Int)-(m1:Int)))) (fun _ e=>by have:=(ok.tl X.t MOwn.self).1;have:=hB.ge;have:=ok.o1;have:=ok.o2;have:=ok.o3;omega)
 have HW9:=zL hW9
 have HB9:=zL hB9
 have s0:Ij.wrap ((m:Int)+1)=(m1:Int):=by rw [zh _ (by omega)];omega
 have s1:Ij.wrap ((nL:Int)-(m1:Int))=(nL:Int)-(m1:Int):=zh _ (by omega)
 rw [e4,e5,e7,e10,e11,e13,e14,e15,s16,s17,s18,s19,s20,s21]
 clear hfr e4 e5 e7 e10 e11 e13 e14 e15 s16 s17 s18 s19 s20 s21 hW hB hnd hk hkc hm1 hW9 hB9
 go_still_tail 10,(by kernel_rfl)
 go_wp2_with fail
 exact ⟨⟨rfl,rfl,rfl,rfl,rfl,rfl,rfl,rfl,rfl,rfl⟩,rfl,rfl,rfl,rfl,rfl,rfl,F7,HW9.out,HB9.out⟩
end
end
section
variable {ord:List Int}{k:Kc ord}
section
variable {ord:List Int}
def blkK (x:It ord){h:Nat}(K:BT (It ord) h):Bk ord:=(x,some ⟨h,K⟩)
theorem dr_p34 {X:DrX ord}{w0:World}(ok:DrOk X)(a:Act)(w:World){H1:HN ord}{rt:Option Nat}{cnt:Int}{p:It ord}{c:Int}{q:Value}{Dq:List (Bk ord)}{st:Value}{es:List (Nat×Int)}{n i:Nat}{fd:Bool}{bx:Nat}{x:It ord}{rk:NodeR (It ord)}{h:Nat}{K:BT (It ord) h}
  (hk:H1 (rid K)=some rk)(hkc:rk.cnt=((toL h K).length:Int))(hh:kfF ltE Dq)(hD:Dq.length≤1000000000000)(hc0:0≤c)(hc1:c+(toL h K).length≤1000000000000000)
  (hz:LabCp X w0 H1 rt cnt p c q Dq st es n i fd bx x (Ip (some ⟨rid K,0,none⟩)) a w) :
  (cL (cR (cR (drPct Try.f58)))).wp Tp (kfZ (fun a w=>DrFr X a∧a.tmps[16]?=some st∧a.tmps[17]?=some (Ip (some ⟨n,0,none⟩))∧a.tmps[18]?=some (Ii Ij i)∧a.tmps[19]?=some (.bool fd)∧∃F7 q5 Dq5,Dq5.Perm (Dq++[blkK x K])∧kfF ltE Dq5∧DrW X w0 w F7 H1 rt cnt p (c+1+((toL h K).length:Nat)) q5 Dq5 st es)) a w:=by
 obtain ⟨hfr,s16,s17,s18,s19,s20,s21,F7,hW,hB⟩:=hz
 obtain ⟨lk,hnk,hbk,_⟩:=hW.fam.work hk
 have hF:F7 (rid K):=hbk _ (.inl rfl)
 have hnd:rid K≠X.d:=(fun e=>(hW.fz ok _ hF).2.2.2.2.2.2.1 e)
 have hc1':=hnk.c1
 rw [hkc] at hc1'
 have hap:=append_any (blkK x K) hW.lb hW.qo hh hW.mb.ord (by have:=ok.dl.1;have:=ok.o1;have:=ok.o2;have:=ok.o3;omega) hW.rw_ (DrOk.kb ok) hD (fun T hT=>by obtain rfl:=Iq hT;exact ⟨hnd,hc1'⟩) hc0 hc1
 have hnp:(blkK x K).npA=some ⟨rid K,0,none⟩:=rfl
 rw [hnp] at hap
 have HAP:=zL hap
 have HW:=zL hW
 have bx0:=kbB hB.blk 0
 have bx1:=kbB hB.blk 1
 simp only [zF,zD,zE] at bx0 bx1
 conv=>arg 2;whnf
 obtain ⟨f,rfl,e4,e5,e7,e10,e11,e13,e14,e15⟩:=hfr.lit
 unfold kdJ at *
 simp only [zF,zE,zD,zc] at s16 s17 s18 s19 s20 s21
 rw [e4,e5,e7,e10,e11,e13,e14,e15,s16,s17,s18,s19,s20,s21]
 clear hfr e4 e5 e7 e10 e11 e13 e14 e15 s16 s17 s18 s19 s20 s21 hW hB hap hnp hc1' hnd hF hnk hbk
 go_wp2_with fail
 refine HAP.out.mono ?_
 rintro e w4 ⟨rfl,q5,Dq5,hp4,hh4,hl4,ho4,hc4,hv4,hk4⟩
 have hdw4:=HW.out.app ok hl4 ho4 hc4 hv4 hk4
 have HW4:=zL hdw4
 have HP4:=zL (And.intro hp4 hh4)
 clear hp4 hh4 hl4 ho4 hc4 hv4 hk4 hdw4 HAP bx0 bx1 HW
 go_wp2_with fail
 exact ⟨⟨rfl,rfl,rfl,rfl,rfl,rfl,rfl,rfl,rfl,rfl⟩,rfl,rfl,rfl,rfl,F7,q5,Dq5,HP4.out.1,HP4.out.2,HW4.out⟩
end
end
section
variable {ord:List Int}{k:Kc ord}
section
variable {ord:List Int}
variable {Dq D:List (Bk ord)}{h0:Nat}{T0:BT (It ord) h0}{F:Nat→Prop}{B P:List Nat}{X:DrX ord}{off h:Nat}{H:HN ord}{p:It ord}{st:Value}{q:Value}{c:Int}
theorem DrM.lmu {w0 w:World}{a:Act}{T:BT (It ord) (h+1)}(hm:DrM X w0 w h0 T0 F H p c q Dq D st B P off (h+1) T)(s17:a.tmps[17]?=some (Ip (some ⟨rid T,0,none⟩))):lmu a w=(toL (h+1) T).length:=by
 obtain ⟨l1,hn1⟩:=hm.dw.fam.node hm.isT.root
 have n2:=hn1.c1
 unfold Proofs.Ytnohimhihombmaa.lmu
 rw [s17]
 show numO (w.cell? ⟨rid T,1,none⟩)=_
 rw [n2];rfl
theorem DrM.jmu {w0 w:World}{a:Act}{T:BT (It ord) h}(hm:DrM X w0 w h0 T0 F H p c q Dq D st B P off h T):jmu X a w≤2*(toL h0 T0).length+1:=by
 unfold Proofs.Ytnohimhihombmaa.jmu
 rw [hm.dw.cnt_eq]
 split<;>omega
def drP36 (f:Func):Code:=cR (cR (cR (drPct f)))
theorem dr_p36 {w0:World}(ok:DrOk X)(mR nL mJ:Nat)(a:Act)(w:World){T:BT (It ord) (h+1)}{i:Nat}{fd:Bool}
  (hfr:DrFr X a)(s16:a.tmps[16]?=some st)(s17:a.tmps[17]?=some (Ip (some ⟨rid T,0,none⟩)))(s18:a.tmps[18]?=some (Ii Ij i))(s19:a.tmps[19]?=some (.bool fd))(hm:DrM X w0 w h0 T0 F H p c q Dq D st B P off (h+1) T)(hmR:(toL h0 T0).length≤mR)(hmJ:2*(toL h0 T0).length+1<mJ)
  (hp1:fd=true→PosJ p (toL h0 T0) off nL (h+1) T i true)(hp2:fd=false→(toL (h+1) T).length<nL∧∃z,off≤z∧z≤off+(toL (h+1) T).length∧CutP ltM p (toL h0 T0) z) :
  (drP36 Try.f58).wp Tp (NextQ X w0 mR nL mJ) a w:=by
 conv=>arg 2;whnf
 cases fd
 ·obtain ⟨g1,g2⟩:=hp2 rfl
  refine wp_mono (Q:=fun e a w=>e=.exit 1∧(DrFr X a∧a.tmps[16]?=some st∧a.tmps[17]?=some (Ip (some ⟨rid T,0,none⟩))∧DrM X w0 w h0 T0 F H p c q Dq D st B P off (h+1) T)) ?_ ?_
  ·have HM:=zL hm
   obtain ⟨f,rfl,e4,e5,e7,e10,e11,e13,e14,e15⟩:=hfr.lit
   unfold kdJ at *
   simp only [zF,zE,zD,zc] at s16 s17 s18 s19
   rw [e4,e5,e7,e10,e11,e13,e14,e15,s16,s17,s18,s19]
   clear hfr hm e4 e5 e7 e10 e11 e13 e14 e15 s16 s17 s18 s19 hp1 hp2 g2
   go_wp2_with fail
   refine ⟨⟨rfl,rfl,rfl,rfl,rfl,rfl,rfl,rfl,rfl,rfl⟩,?_⟩
   first|exact HM.out | exact ⟨rfl,HM.out⟩ | exact ⟨rfl,rfl,HM.out⟩
  ·clear hfr s16 s17 s18 s19 hm
   rintro e a w ⟨rfl,hfr,s16,s17,hm⟩
   refine ⟨rfl,⟨hfr,h0,T0,F,H,p,c,q,Dq,D,st,B,P,off,h+1,T,s16,s17,hm,hmR,g2⟩,?_⟩
   rw [hm.lmu s17];exact g1
 ·have g1:=hp1 rfl
  refine wp_mono (Q:=fun e a w=>e=.goto 1∧(DrFr X a∧a.tmps[16]?=some st∧a.tmps[17]?=some (Ip (some ⟨rid T,0,none⟩))∧a.tmps[18]?=some (Ii Ij i)∧a.tmps[19]?=some (.bool true)∧DrM X w0 w h0 T0 F H p c q Dq D st B P off (h+1) T)) ?_ ?_
  ·have HM:=zL hm
   obtain ⟨f,rfl,e4,e5,e7,e10,e11,e13,e14,e15⟩:=hfr.lit
   unfold kdJ at *
   simp only [zF,zE,zD,zc] at s16 s17 s18 s19
   rw [e4,e5,e7,e10,e11,e13,e14,e15,s16,s17,s18,s19]
   clear hfr hm e4 e5 e7 e10 e11 e13 e14 e15 s16 s17 s18 s19 hp1 hp2 g1
   go_wp2_with fail
   go_step3
   exact ⟨rfl,⟨rfl,rfl,rfl,rfl,rfl,rfl,rfl,rfl,rfl,rfl⟩,rfl,rfl,rfl,rfl,HM.out⟩
  ·clear hfr s16 s17 s18 s19 hm
   rintro e a w ⟨rfl,hfr,s16,s17,s18,s19,hm⟩
   refine .inl ⟨rfl,⟨hfr,h0,T0,F,H,p,c,q,Dq,D,st,B,P,off,h+1,T,i,true,s16,s17,s18,s19,hm,hmR,g1⟩,?_⟩
   exact Nat.lt_of_le_of_lt hm.jmu hmJ
end
end
section
variable {ord:List Int}{k:Kc ord}
section
variable {ord:List Int}
theorem split_two {α:Type}{l:List α}{i:Nat}(h:i+1<l.length):∃X x y Y,l=X++x::y::Y∧X.length=i:=by
 obtain ⟨x,hx⟩:∃x,l[i]?=some x:=⟨_,zH (by omega)⟩
 obtain ⟨y,hy⟩:∃x,l[i+1]?=some x:=⟨_,zH h⟩
 refine ⟨l.take i,x,y,l.drop (i+2),?_,by rw [List.length_take];omega⟩
 rw [←drop_consX hy,←drop_consX hx,zw]
theorem mid_out {α:Type}{X Y:List α}{x y:α}:(X++x::y::Y).take X.length++(X++x::y::Y).drop (X.length+1)=X++y::Y:=by
 rw [zs rfl,List.drop_append]
 simp
theorem kids_out {α β:Type}(f:α→β){L R:List α}{A K:α}:((L++A::K::R).map f).take (L.length+1)++((L++A::K::R).map f).drop (L.length+2)=(L++A::R).map f:=by
 have e:(L++A::K::R).map f=((L++[A]).map f)++f K::R.map f:=by simp
 rw [e,zs (by simp),List.drop_append]
 simp
theorem flat_blk {D1 D2:List (Bk ord)}{x:It ord}{h:Nat}{K:BT (It ord) h}:(kdM (pl (D1++blkK x K::D2))).length=(kdM (pl (D1++D2))).length+1+(toL h K).length:=by
 have e:pl (D1++blkK x K::D2)=pl D1++(x,toL h K)::pl D2:=by
  show (D1++blkK x K::D2).map Bk.plain=_
  rw [zv];rfl
 rw [e,pl_app,kdZ,kdZ,kdY]
 simp only [zT,List.length_cons]
 omega
theorem dr_pairX {X:DrX ord}{w0:World}(ok:DrOk X)(mR nL mJ:Nat)(a:Act)(w:World){h0:Nat}{T0:BT (It ord) h0}{F:Nat→Prop}{H:HN ord}{p:It ord}{c:Int}{q:Value}{Dq D:List (Bk ord)}{st:Value}{B P:List Nat}{off h n:Nat}{U Y:List (It ord)}{x y:It ord}{L R:List (BT (It ord) h)}{A K:BT (It ord) h}{fd:Bool}
  (hfr:DrFr X a)(s16:a.tmps[16]?=some st)(s17:a.tmps[17]?=some (Ip (some ⟨n,0,none⟩)))(s18:a.tmps[18]?=some (Ii Ij U.length))(s19:a.tmps[19]?=some (.bool fd))(hm:DrM X w0 w h0 T0 F H p c q Dq D st B P off (h+1) ((n,U++x::y::Y,L++A::K::R):BT (It ord) (h+1)))(hmR:(toL h0 T0).length≤mR)(hmJ:2*(toL h0 T0).length≤mJ)
  (hL:L.length=U.length)(hR:R.length=Y.length+1)(hx:ltM x p=false)(hA:∀u∈(toL h0 T0).take off,ltM u p=true)(hst:∀v∈x::toL h K,X.st v=false)(hmn:P≠[]→X.mn≤(U++y::Y).length)
  (hp1:fd=true→CutP ltM p (toL h0 T0) (off+(pre U (L.map (toL h))).length+(toL h A).length))(hp2:fd=false→(toL (h+1) ((n,U++x::y::Y,L++A::K::R):BT (It ord) (h+1))).length≤nL∧∃z,off≤z∧z≤off+(pre U (L.map (toL h))).length+(toL h A).length∧CutP ltM p (toL h0 T0) z) :
  (drPair Try.f58).wp Tp (NextQ X w0 mR nL mJ) a w:=by
 obtain ⟨Tf,hPO,hrd⟩:=drs_pair hm.ds hm.rd hL hR hx hA hst hmn
 have hmx:=ok.m1000
 have hsh:=hm.sh
 have hitl:(U++x::y::Y).length≤1000:=Nat.le_trans (hm.sh.len) hmx
 have hkl:(L++A::K::R).length≤1001:=by
  have e:(L++A::K::R).length=(U++x::y::Y).length+1:=hsh.2.1
  omega
 have hr0:H n=some (kbP (h+1) ((n,U++x::y::Y,L++A::K::R):BT (It ord) (h+1))):=hm.isT.root
 have hrK:H (rid K)=some (kbP h K):=(hm.isT.2 K (by show K∈L++A::K::R;simp)).root
 obtain ⟨hro1,hro2,hro3⟩:=hm.rd.out hm.ds.di.nd
 have hKin:rid K∈(L++A::K::R).flatMap (ids h):=List.mem_flatMap.2 ⟨K,by simp,kcV K⟩
 have hKn:rid K≠n:=by
  have h1:(n::(L++A::K::R).flatMap (ids h)).Nodup:=hro2
  intro e
  exact (List.nodup_cons.1 h1).1 (e▸hKin)
 have hKP:rid K∉P:=fun hp=>(hro3 _ hp).1 (List.mem_cons_of_mem _ hKin)
 have hKno:rid K∉P++[n]:=by
  intro hp
  rcases List.mem_append.1 hp with hp | hp
  ·exact hKP hp
  ·exact hKn (List.mem_singleton.1 hp)
 have hbig:=hm.big ok
 have hsum:=hm.sum ok
 have htwo:=toL_two (mn:=X.mn) (mx:=X.mx) (n:=n) (X:=U) (x:=x) (Y:=y::Y) (A:=A) (B:=K) (L:=L) (R:=R) hL (by simpa using hR)
 have hKl:(toL h K).length+1≤(toL (h+1) ((n,U++x::y::Y,L++A::K::R):BT (It ord) (h+1))).length:=by
  rw [htwo];simp only [zT,List.length_cons];omega
 have hone:(toL (h+1) ((n,U++y::Y,L++A::R):BT (It ord) (h+1))).length+((toL h K).length+1)=(toL (h+1) ((n,U++x::y::Y,L++A::K::R):BT (It ord) (h+1))).length:=by
  rw [htwo,toL_one (Y:=y::Y) hL (by simpa using hR)]
  simp only [zT,List.length_cons];omega
 have hU2:U.length+2≤(U++x::y::Y).length:=by simp
 obtain ⟨hPl,hPd⟩:=(show P.length=B.length∧P.length≤1000000000000 from ⟨hm.rd.same.1,(hm.depth ok).2⟩)
 conv=>arg 2;whnf
 refine kdP (dr_p21 ok a w hfr s16 s17 s18 s19 hr0 (x:=x) (by show (U++x::y::Y)[U.length]?=some x;simp) hm.dw) ?_
 clear hfr s16 s17 s18 s19 a
 rintro a w2 ⟨bx,v21,hz⟩
 refine kdP (dr_p22 ok a w2 hitl (by show U.length<(U++x::y::Y).length;simp) hz) ?_
 clear hz a w2
 rintro a w2 ⟨ys1,hl1,ht1,hz⟩
 have hl1':ys1.length=(U++x::y::Y).length:=hl1
 refine kdP (dr_p23 ok a w2 (by show ys1.length≤1000;omega) (by show 1≤ys1.length;omega) hz) ?_
 clear hz a w2
 rintro a w2 ⟨ys2,hl2,ht2,hz⟩
 have hl2':ys2.length=ys1.length:=hl2
 refine kdP (dr_p24 ok a w2 (by show ys2.length≤1000;omega) (by show 1≤ys2.length;omega) hz) ?_
 have hys:ys2.take (ys2.length-1)=U++y::Y:=by
  have ht1':ys1.take ((U++x::y::Y).length-1)=(U++x::y::Y).take U.length++(U++x::y::Y).drop (U.length+1):=ht1
  have ht2':ys2.take (ys1.length-1)=ys1.take (ys1.length-1):=ht2
  rw [hl2',ht2',hl1',ht1',mid_out]
 clear hz a w2
 intro a w2 hz
 replace hz:PairM X w0 H (some (rid T0)) (toL h0 T0).length p c q Dq st (kdG P B n) n U.length fd bx x v21 ⟨(toL (h+1) ((n,U++x::y::Y,L++A::K::R):BT (It ord) (h+1))).length,U++y::Y,some ((L++A::K::R).map fun c=>some (rid c))⟩ a w2:=by
  rw [←hys];exact hz
 have hkl2:((L++A::K::R).map fun c=>some (rid c)).length≤1001:=by rw [zU];exact hkl
 have hk22:U.length+2≤((L++A::K::R).map fun c=>some (rid c)).length:=by rw [zU,zT,hL];simp
 refine kdP (dr_p25 ok a w2 (nd:=rid K) rfl hkl2 (by simp [←hL]) hz) ?_
 clear hz a w2
 intro a w2 hz
 refine kdP (dr_p26 ok a w2 rfl hkl2 (by omega) hz) ?_
 clear hz a w2
 rintro a w2 ⟨ks1,hk1,hkt1,hz⟩
 refine kdP (dr_p27 ok a w2 rfl (by omega) (by omega) hz) ?_
 clear hz a w2
 rintro a w2 ⟨ks2,hk2,hkt2,hz⟩
 refine kdP (dr_p28 ok a w2 rfl (by omega) (by omega) hz) ?_
 have hks:ks2.take (ks2.length-1)=(L++A::R).map fun c=>some (rid c):=by
  rw [hk2,hkt2,hk1,hkt1,←hL]
  exact kids_out _
 clear hz a w2
 intro a w2 hz
 obtain ⟨hnd,hrec⟩:(P++[n]).Nodup∧∀a∈P++[n],∃r,upd H n ⟨(toL (h+1) ((n,U++x::y::Y,L++A::K::R):BT (It ord) (h+1))).length,U++y::Y,some ((L++A::R).map fun c=>some (rid c))⟩ a=some r∧0≤r.cnt∧r.cnt≤1000000000000:=hm.recs ok (r1:=⟨(toL (h+1) ((n,U++x::y::Y,L++A::K::R):BT (It ord) (h+1))).length,U++y::Y,some ((L++A::R).map fun c=>some (rid c))⟩) rfl
 have hcK:=kcH K
 obtain ⟨m,hmK⟩:∃m,(toL h K).length=m:=⟨_,rfl⟩
 rw [hmK] at hcK hKl hone hPO
 have hm12:m≤1000000000000:=by omega
 have hz2:LabCp X w0 (upd H n ⟨(toL (h+1) ((n,U++x::y::Y,L++A::K::R):BT (It ord) (h+1))).length,U++y::Y,some ((L++A::R).map fun c=>some (rid c))⟩) (some (rid T0)) (toL h0 T0).length p c q Dq st (kdG P B n) n U.length fd bx x (Ip (some ⟨rid K,0,none⟩)) a w2:=by
  rw [←hks];exact hz
 refine kdP (dr_p29 ok a w2 hPl hPd hnd hrec ((kcP _ _ hKn).trans hrK) hcK hm12 hKno hz2) ?_
 have hnP:n∉P:=fun hp=>(hro3 _ hp).1 List.mem_cons_self
 have hbl:bmp (upd H n ⟨(toL (h+1) ((n,U++x::y::Y,L++A::K::R):BT (It ord) (h+1))).length,U++y::Y,some ((L++A::R).map fun c=>some (rid c))⟩) (P++[n]) (-((m+1:Nat):Int))=bmp (upd H n (kbP (h+1) ((n,U++y::Y,L++A::R):BT (It ord) (h+1)))) P (-((m+1:Nat):Int)):=by
  rw [bmp_last hnP]
  have e2:((toL (h+1) ((n,U++x::y::Y,L++A::K::R):BT (It ord) (h+1))).length:Int)+-((m+1:Nat):Int)=((toL (h+1) ((n,U++y::Y,L++A::R):BT (It ord) (h+1))).length:Nat):=by omega
  show bmp (upd H n ⟨_,_,_⟩) P _=_
  rw [e2];rfl
 have hkk:bmp (upd H n (kbP (h+1) ((n,U++y::Y,L++A::R):BT (It ord) (h+1)))) P (-((m+1:Nat):Int)) (rid K)=some (kbP h K):=by
  rw [bmp_out hKP];exact (kcP _ _ hKn).trans hrK
 rw [hbl]
 clear hz hz2 a w2
 intro a w2 hz
 refine kdP (dr_p33 ok a w2 hkk hcK hm12 hbig.1 hz) ?_
 clear hz a w2
 intro a w2 hz
 have hlf:=len_flat D
 have hpl:=hm.pm.length_eq
 have hct:=hm.ct
 refine kdP (dr_p34 ok a w2 hkk (by rw [hmK];exact hcK) hm.hp (by omega) (by omega) (by omega) hz) ?_
 clear hz a w2
 rintro a w2 ⟨hfr,s16,s17,s18,s19,F7,q5,Dq5,hq5,hh5,hW⟩
 obtain ⟨D1,D2,hD,hS⟩:=hPO.split
 have hlen:=hPO.len
 rw [show ((toL h0 T0).length:Int)-((m+1:Nat):Int)=(((toL h0 Tf).length:Nat):Int) by omega,←hPO.rid'] at hW
 have hm':DrM X w0 w2 h0 Tf F7 (bmp (upd H n (kbP (h+1) ((n,U++y::Y,L++A::R):BT (It ord) (h+1)))) P (-((m+1:Nat):Int))) p (c+1+((toL h K).length:Nat)) q5 Dq5 (D1++blkK x K::D2) st B P off (h+1) ((n,U++y::Y,L++A::R):BT (It ord) (h+1)):=by
  refine ⟨hW,hS,hh5,?_,?_,?_,hrd⟩
  ·refine hq5.trans ((hm.pm.append_right _).trans ?_)
   rw [hD]
   exact (List.perm_append_singleton _ _).trans List.perm_middle.symm
  ·rw [flat_blk,hct,hD];omega
  ·by_cases hp:P=[]
   ·rw [hPO.root hp];simp;omega
   ·rw [hPO.rest hp];exact hm.one
 have e1:(U++y::Y).take U.length=U:=zs rfl
 have e2:((L++A::R).map (toL h)).take U.length=L.map (toL h):=by rw [zv,zs (by simp [hL])]
 have e3:(((L++A::R).map (toL h))[U.length]?).getD []=toL h A:=by simp [←hL]
 have hl1:(toL (h+1) ((n,U++y::Y,L++A::R):BT (It ord) (h+1))).length=(pre U (L.map (toL h))).length+(toL h A).length+(post (y::Y) (R.map (toL h))).length:=by
  rw [toL_one (Y:=y::Y) hL (by simpa using hR)];simp only [zT]
 refine dr_p36 ok mR nL mJ a w2 (T:=((n,U++y::Y,L++A::R):BT (It ord) (h+1))) hfr s16 s17 s18 s19 hm' (by omega) (by omega) (fun hf=>?_) (fun hf=>?_)
 ·refine ⟨by show U.length<(U++y::Y).length;simp,?_⟩
  show CutP ltM p (toL h0 Tf) (off+(pre ((U++y::Y).take U.length) (((L++A::R).map (toL h)).take U.length)).length+((((L++A::R).map (toL h))[U.length]?).getD []).length)
  rw [e1,e2,e3]
  exact hPO.cut _ (zi _) (hp1 hf)
 ·obtain ⟨g1,z,g2,g3,g4⟩:=hp2 hf
  exact ⟨by omega,z,g2,by omega,hPO.cut _ g3 g4⟩
end
end
section
variable {ord:List Int}{k:Kc ord}
section
variable {ord:List Int}
theorem mem_take_le {α:Type}{L:List α}{m n:Nat}(h:m≤n){u:α}(hu:u∈L.take m):u∈L.take n:=by
 rw [←zw m (L.take n),List.take_take,Nat.min_eq_left h]
 exact List.mem_append_left _ hu
theorem dr_pair {X:DrX ord}{w0:World}(ok:DrOk X)(mR nL mJ:Nat)(a:Act)(w:World){h0:Nat}{T0:BT (It ord) h0}{F:Nat→Prop}{H:HN ord}{p:It ord}{c:Int}{q:Value}{Dq D:List (Bk ord)}{st:Value}{B P:List Nat}{off h:Nat}{T:BT (It ord) (h+1)}{i:Nat}{fd:Bool}
  (hfr:DrFr X a)(s16:a.tmps[16]?=some st)(s17:a.tmps[17]?=some (Ip (some ⟨rid T,0,none⟩)))(s18:a.tmps[18]?=some (Ii Ij i))(s19:a.tmps[19]?=some (.bool fd))(hm:DrM X w0 w h0 T0 F H p c q Dq D st B P off (h+1) T)(hmR:(toL h0 T0).length≤mR)(hmJ:2*(toL h0 T0).length≤mJ)
  (hi1:i+1<T.2.1.length)(hmn:P≠[]→X.mn<T.2.1.length){y:It ord}(hy:T.2.1[i+1]?=some y)(hyh:ltM y X.hi=true)(hpj:PosJ p (toL h0 T0) off nL (h+1) T i fd) :
  (drPair Try.f58).wp Tp (NextQ X w0 mR nL mJ) a w:=by
 have hsh:=hm.sh
 have hsrt:=hm.srt
 have hkl:T.2.2.length=T.2.1.length+1:=hsh.2.1
 obtain ⟨n,its',kids'⟩:=T
 replace hi1:i+1<its'.length:=hi1
 replace hkl:kids'.length=its'.length+1:=hkl
 replace hy:its'[i+1]?=some y:=hy
 obtain ⟨U,x,y',Y,rfl,rfl⟩:=split_two hi1
 obtain ⟨L,A,K,R,rfl,hL⟩:=split_two (l:=kids') (i:=U.length) (by omega)
 obtain rfl:y'=y:=by
  have h1:(U++x::y'::Y)[U.length+1]?=some y':=by simp
  rw [h1] at hy;exact Iq hy
 have hR:R.length=Y.length+1:=by
  simp only [zT,List.length_cons] at hkl;omega
 have hx:(U++x::y'::Y)[U.length]?=some x:=by simp
 have e1:(U++x::y'::Y).take U.length=U:=zs rfl
 have e2:((L++A::K::R).map (toL h)).take U.length=L.map (toL h):=by rw [zv,zs (by simp [hL])]
 have e3:(((L++A::K::R).map (toL h))[U.length]?).getD []=toL h A:=by simp [←hL]
 have hz0:=item_at hm.rd hm.ds.di.sh (i:=U.length) (x:=x) hx
 have e4:off+(pre ((U++x::y'::Y).take U.length) (((L++A::K::R).map (toL h)).take U.length)).length+((((L++A::K::R).map (toL h))[U.length]?).getD []).length=off+(pre U (L.map (toL h))).length+(toL h A).length:=by rw [e1,e2,e3]
 replace hz0:(toL h0 T0)[off+(pre U (L.map (toL h))).length+(toL h A).length]?=some x:=by rw [←e4];exact hz0
 have hst:∀v∈x::toL h K,X.st v=false:=by
  intro v hv
  refine X.st_below hyh (.inl ?_)
  rw [toL_two (mn:=X.mn) (mx:=X.mx) hL (by simpa using hR)] at hsrt
  obtain ⟨K2,R2,rfl⟩:∃K2 R2,R=K2::R2:=by
   cases R with
   |nil=>simp at hR
   |cons K2 R2=>exact ⟨K2,R2,rfl⟩
  obtain ⟨_,_,h3⟩:=List.pairwise_append.1 hsrt
  refine h3 v ?_ y' ?_
  ·exact zM _ (zM _ hv)
  ·rw [List.map_cons,post];simp
 have hmn':P≠[]→X.mn≤(U++y'::Y).length:=fun hp=>by
  have h1:X.mn<(U++x::y'::Y).length:=hmn hp
  simp only [zT,List.length_cons] at h1 ⊢;omega
 cases fd
 ·obtain ⟨hpos,hnL,z,hz1,hz2,hc⟩:=hpj
  have hxp:ltM x p=false:=swoM.asymm _ _ (hpos.right U.length x (zi _) hx)
  have hA:∀u∈(toL h0 T0).take off,ltM u p=true:=fun u hu=>hc.1 u (mem_take_le hz1 hu)
  refine dr_pairX ok mR nL mJ a w hfr s16 s17 s18 s19 hm hmR hmJ hL hR hxp hA hst hmn' (fun hf=>by cases hf) (fun _=>⟨hnL,z,hz1,?_,hc⟩)
  apply Nat.le_of_not_lt
  intro hlt
  obtain ⟨hzl,hze⟩:=zG.1 hz0
  have hmem:x∈(toL h0 T0).take z:=by
   refine zS (i:=off+(pre U (L.map (toL h))).length+(toL h A).length) ?_
   rw [List.getElem?_take_of_lt hlt];exact hz0
  rw [hc.1 x hmem] at hxp
  cases hxp
 ·obtain ⟨hi,hc⟩:=hpj
  have hc':CutP ltM p (toL h0 T0) (off+(pre U (L.map (toL h))).length+(toL h A).length):=by
   have e5:CutP ltM p (toL h0 T0) (off+(pre ((U++x::y'::Y).take U.length) (((L++A::K::R).map (toL h)).take U.length)).length+((((L++A::K::R).map (toL h))[U.length]?).getD []).length):=hc
   rw [e4] at e5;exact e5
  obtain ⟨_,h1,h2⟩:=cut_around hc' hz0
  exact dr_pairX ok mR nL mJ a w hfr s16 s17 s18 s19 hm hmR hmJ hL hR h2 (fun u hu=>h1 u (mem_take_le (by omega) hu)) hst hmn' (fun _=>hc') (fun hf=>by cases hf)
end
end
end Go.Proofs.Ytnohimhihombmaa
