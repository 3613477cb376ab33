/- DeleteRangeReuse: a leaf. -/
import Derived.Test.YtnohimhihombmaaX2
namespace Go.Proofs.Ytnohimhihombmaa
set_option linter.unusedSimpArgs false
set_option linter.unusedVariables false
set_option maxRecDepth 100000
set_option maxHeartbeats 40000000
open Value renaming int → Ii, pointer → Ip, slice → Is, tuple → Iu
open IntKind renaming i64 → Ij
open Obj renaming cells → Ic
open Ending renaming returned → Ir
open Option.some renaming inj → Iq
open _root_.Go.Proofs.Try renaming prog → Tp
open List renaming getElem?_cons_zero → zD, getElem?_cons_succ → zE, getElem?_toArray → zF, getElem?_eq_some_iff → zG, getElem?_eq_getElem → zH, mem_of_getElem? → zS, length_append → zT, length_take → zV, length_set → zW, drop_zero → zb, append_assoc → zu, take_append_drop → zw
open Chg renaming refl → zK
open Lib renaming hid → zL
open Option renaming some.injEq → zc
open IntWalk renaming i64_in → zh
open Go.RowKit
section
variable {ord:List Int}{k:Kc ord}
section
variable {ord:List Int}
def LabM' (X:DrX ord)(w0:World)(mR mJ:Nat)(a:Act)(w:World):Prop :=
 DrFr X a∧∃(h0:Nat) (T0:BT (It ord) h0) (F:Nat→Prop) (H:HN ord) (p:It ord) (c:Int) (q:Value) (Dq D:List (Bk ord)) (st:Value) (B P:List Nat) (off:Nat) (T:BT (It ord) 0) (i:Nat),
  a.tmps[16]?=some st∧a.tmps[17]?=some (Ip (some ⟨rid T,0,none⟩))∧a.tmps[18]?=some (Ii Ij i)∧DrM X w0 w h0 T0 F H p c q Dq D st B P off 0 T∧(toL h0 T0).length≤mR∧2*(toL h0 T0).length<mJ∧i≤T.2.length∧CutP ltM p (toL h0 T0) (off+i)
def LeafQ (X:DrX ord)(w0:World)(mR nL mJ:Nat)(N:Act→World→Prop):Exit→Act→World→Prop
 |.normal,a,w=>N a w
 |e,a,w=>NextQ X w0 mR nL mJ e a w
def kfZ (N:Act→World→Prop):Exit→Act→World→Prop
 |.normal,a,w=>N a w
 |_,_,_=>False
def LabCt (X:DrX ord)(w0:World)(F:Nat→Prop)(H1:HN ord)(rt:Option Nat)(cnt:Int)(p:It ord)(c:Int)(q:Value)(Dq:List (Bk ord))(st:Value)(es:List (Nat×Int))(ns:List Nat)(m:Nat)(sk:Nat)(S:Act→Prop)(a:Act)(w:World):Prop :=
 DrFr X a∧a.tmps[16]?=some st∧S a∧∃k:Nat,k≤ns.length∧a.tmps[sk]?=some (Ii Ij k)∧DrW X w0 w F (bmp H1 (ns.take k) (-(m:Int))) rt cnt p c q Dq st es
theorem DrW.ct1 {X:DrX ord}{w0 w:World}{F:Nat→Prop}{H1:HN ord}{rt:Option Nat}{cnt:Int}{p:It ord}{c:Int}{q st:Value}{Dq:List (Bk ord)}{es:List (Nat×Int)}{ns:List Nat}{m k n:Nat}{r:NodeR (It ord)}(ok:DrOk X)(h:DrW X w0 w F (bmp H1 (ns.take k) (-(m:Int))) rt cnt p c q Dq st es)(hd:ns.Nodup)(hn:ns[k]?=some n)(hr:H1 n=some r) :
  DrW X w0 (w.setCell ⟨n,1,none⟩ (Ii Ij (r.cnt-m))) F (bmp H1 (ns.take (k+1)) (-(m:Int))) rt cnt p c q Dq st es:=by
 have h1:bmp H1 (ns.take k) (-(m:Int)) n=some r:=by rw [bmp_out (nodup_take hd hn)];exact hr
 obtain ⟨g1,g2⟩:=h.fam.setCnt1 h1 (r.cnt-m)
 have e:upd (bmp H1 (ns.take k) (-(m:Int))) n { r with cnt:=r.cnt-m }=bmp H1 (ns.take (k+1)) (-(m:Int)):=by
  rw [take_snoc hn,←bmp_snoc hr];rfl
 rw [e] at g1
 exact h.nodes ok g2 g1 (fun _ hb=>.inl hb)
theorem DrM.recs {X:DrX ord}{w0 w:World}{h0:Nat}{T0:BT (It ord) h0}{F:Nat→Prop}{H:HN ord}{p:It ord}{c:Int}{q:Value}{Dq D:List (Bk ord)}{st:Value}{B P:List Nat}{off h:Nat}{T:BT (It ord) h}(hm:DrM X w0 w h0 T0 F H p c q Dq D st B P off h T)(ok:DrOk X){r1:NodeR (It ord)}(hr:r1.cnt=((toL h T).length:Nat)):(P++[rid T]).Nodup∧∀a∈P++[rid T],∃r,upd H (rid T) r1 a=some r∧0≤r.cnt∧r.cnt≤1000000000000:=by
 have h1:=hm.rd.nodup hm.ds.di.nd
 obtain ⟨_,_,h2,h3⟩:=hm.rd.recs hm.ds.di.isT hm.ds.di.sh
 have hb:=(hm.big ok).1
 refine ⟨h1,fun a ha=>?_⟩
 by_cases e:a=rid T
 ·subst e
  exact ⟨r1,kbX _ _ _,by omega,by omega⟩
 ·obtain ⟨r,g1,g2,g3,_⟩:=h3 a ha
  exact ⟨r,by rw [kcP _ _ e];exact g1,g2,by omega⟩
def drCut (f:Func):Code:=cR (cT (cR (cR (cI (cL (cR (cI (cI (drLoop f)))))))))
def drCt1 (f:Func):Code:=cR (cR (cR (drCut f)))
def LCutPost (X:DrX ord)(w0:World)(mR mJ i NI:Nat)(a:Act)(w:World):Prop :=
 DrFr X a∧∃(h0:Nat) (T0:BT (It ord) h0) (F:Nat→Prop) (H:HN ord) (p:It ord) (c:Int) (q:Value) (Dq D:List (Bk ord)) (st:Value) (B P:List Nat) (off:Nat) (T:BT (It ord) 0),
  a.tmps[16]?=some st∧a.tmps[17]?=some (Ip (some ⟨rid T,0,none⟩))∧a.tmps[18]?=some (Ii Ij ((i:Int)-1))∧DrM X w0 w h0 T0 F H p c q Dq D st B P off 0 T∧(toL h0 T0).length≤mR∧2*(toL h0 T0).length<mJ∧T.2.length+1=NI∧i≤T.2.length∧CutP ltM p (toL h0 T0) (off+i)
theorem dr_ct1 {X:DrX ord}{w0:World}(ok:DrOk X)(mR mJ:Nat)(a:Act)(w:World){h0:Nat}{T0:BT (It ord) h0}{F F7:Nat→Prop}{H:HN ord}{p x:It ord}{c c4:Int}{q q4:Value}{Dq D Dq4:List (Bk ord)}{st:Value}{B P:List Nat}{off:Nat}{T:BT (It ord) 0}{i:Nat}{w2:World}{U V:List (It ord)}
  (hfr:DrFr X a)(s16:a.tmps[16]?=some st)(s17:a.tmps[17]?=some (Ip (some ⟨rid T,0,none⟩)))(s18:a.tmps[18]?=some (Ii Ij i))(hm:DrM X w0 w2 h0 T0 F H p c q Dq D st B P off 0 T)(hmR:(toL h0 T0).length≤mR)(hmJ:2*(toL h0 T0).length<mJ)
  (hT:T.2=U++x::V)(hU:U.length=i)(hcut:CutP ltM p (toL h0 T0) (off+i))(hst:X.st x=false)(hmn:X.mn<T.2.length)(hq:Dq4.Perm (Dq++[lone x]))(hh:kfF ltE Dq4)(hc:c4=c+1)
  (hW:DrW X w0 w F7 (upd H (rid T) ⟨(T.2.length:Nat),U++V,none⟩) (some (rid T0)) (toL h0 T0).length p c4 q4 Dq4 st (kdG P B (rid T))) :
  (drCt1 Try.f58).wp Tp (kfZ (LCutPost X w0 mR mJ i T.2.length)) a w:=by
 have hPB:=hm.rd.same.1
 have hsl:=stk_len (P:=P) (B:=B) (rid T) hPB
 obtain ⟨hnd,hrec⟩:=hm.recs ok (r1:=⟨(T.2.length:Nat),U++V,none⟩) rfl
 have hbig:=hm.big ok
 have hdp:=(hm.depth ok).2
 obtain ⟨Tf,hPO,hrd⟩:=drs_leaf1 hm.ds hm.rd hT (by rw [hU];exact hcut) hst (fun _=>by have e:=congrArg List.length hT;simp only [zT,List.length_cons] at e ⊢;omega)
 have hbl:bmp (upd H (rid T) ⟨(T.2.length:Nat),U++V,none⟩) (P++[rid T]) (-((1:Nat):Int))=bmp (upd H (rid T) ⟨((U++V).length:Nat),U++V,none⟩) P (-1):=by
  rw [bmp_last (fun hp=>((hm.rd.out hm.ds.di.nd).2.2 _ hp).1 (kcV _))]
  have e:=congrArg List.length hT
  simp only [zT,List.length_cons] at e
  have e2:((T.2.length:Nat):Int)+-((1:Nat):Int)=(((U++V).length:Nat):Int):=by simp only [zT];omega
  rw [←e2];rfl
 conv=>arg 2;whnf
 obtain ⟨f,rfl,e4,e5,e7,e10,e11,e13,e14,e15⟩:=hfr.lit
 unfold kdJ at *
 simp only [zF,zE,zD,zc] at s16 s17 s18
 obtain ⟨sa,sc,hsf⟩:=hW.so.sl.form
 subst hsf
 obtain ⟨N,hN⟩:∃N,(kdG P B (rid T)).length=N:=⟨_,rfl⟩
 obtain ⟨ns,hns⟩:∃ns,P++[rid T]=ns:=⟨_,rfl⟩
 rw [hns] at hnd hrec hbl
 have hnl:ns.length=N:=by rw [←hns,←hN,hsl];simp
 rw [hN] at hW s16
 have HM:=zL hm
 have HN:=zL (And.intro hnl (And.intro hns hN))
 have HND:=zL hnd
 have HREC:=zL hrec
 have HPO:=zL (And.intro hPO hrd)
 have HBL:=zL hbl
 have HT:=zL (And.intro hT (And.intro hU hmn))
 have HQ:=zL (And.intro hq (And.intro hh hc))
 have HCUT:=zL hcut
 have HPB:=zL hPB
 have HW:=zL hW
 have hNb:N≤1000000000001:=by omega
 rw [e4,e5,e7,e10,e11,e13,e14,e15,s16,s17,s18]
 clear hfr hm hcut e4 e5 e7 e10 e11 e13 e14 e15 s16 s17 s18 hT hU hq hh hc hW hPO hrd hbl hns hnl hN hsl hnd hrec hPB hst hmn
 go_wp2_with fail
 refine wp_loop (LabCt X w0 F7 (upd H (rid T) ⟨(T.2.length:Nat),U++V,none⟩) (some (rid T0)) (toL h0 T0).length p c4 q4 Dq4 (.slice sa N sc) (kdG P B (rid T)) ns 1 28 (fun a=>a.tmps[17]?=some (Ip (some ⟨rid T,0,none⟩))∧a.tmps[18]?=some (Ii Ij i))) (fun a _=>N-numO (a.tmps[28]?)) ?_ ?_
 ·exact ⟨⟨rfl,rfl,rfl,rfl,rfl,rfl,rfl,rfl,rfl,rfl⟩,rfl,⟨rfl,rfl⟩,0,Nat.zero_le _,rfl,by rw [List.take_zero,bmp_nil];exact HW.out⟩
 ·clear HW
  rintro a w ⟨hfr,s16,⟨s17,s18⟩,k,hk,s28,hWk⟩
  obtain ⟨f,rfl,e4,e5,e7,e10,e11,e13,e14,e15⟩:=hfr.lit
  unfold kdJ at *
  simp only [zF,zE,zD,zc] at s16 s17 s18 s28
  simp only [zF,zE,zD]
  have HWK:=zL hWk
  have hkN:k≤N:=by rw [←HN.out.1];exact hk
  rw [e4,e5,e7,e10,e11,e13,e14,e15,s16,s17,s18,s28]
  clear hfr hWk e4 e5 e7 e10 e11 e13 e14 e15 s16 s17 s18 s28 hk
  by_cases hlt:k<N
  ·obtain ⟨e,he⟩:∃e,(kdG P B (rid T))[k]?=some e:=⟨_,zH (by rw [HN.out.2.2];exact hlt)⟩
   have hek:=stk_get HPB.out he
   rw [HN.out.2.1] at hek
   obtain ⟨r,hr,hr0,hr1⟩:=HREC.out e.1 (zS hek)
   obtain ⟨b,o,rfl,hcell⟩:=HWK.out.so.sl.cell he
   have g0:=hcell 0 (Ip (some ⟨e.1,0,none⟩)) rfl
   have g0':w.cell? ⟨b,o+k*2,none⟩=some (Ip (some ⟨e.1,0,none⟩)):=g0
   have hrb:bmp (upd H (rid T) ⟨(T.2.length:Nat),U++V,none⟩) (ns.take k) (-((1:Nat):Int)) e.1=some r:=by rw [bmp_out (nodup_take HND.out hek)];exact hr
   obtain ⟨lk,hnk⟩:=HWK.out.fam.node hrb
   have c1:=hnk.c1
   have z1:=hnk.fz 1
   obtain ⟨rc,hrc⟩:∃rc,r.cnt=rc:=⟨_,rfl⟩
   have hct:=HWK.out.ct1 ok HND.out hek hr
   rw [hrc] at c1 hr0 hr1 hct
   have HCT:=zL hct
   have s1:Ij.wrap (rc-1)=rc-1:=zh _ (by omega)
   have j0:(0:Int)≤(k:Int):=by omega
   have j1:(k:Int)<(N:Int):=by omega
   have s3:Ij.wrap ((k:Int)+1)=((k+1:Nat):Int):=(by rw [zh _ (by omega)];omega)
   clear hcell g0 hnk he hek hr hrb hrc hct
   go_upto_region 82 with fail
   refine kbD (fun wz=>DrW X w0 wz F7 (bmp (upd H (rid T) ⟨(T.2.length:Nat),U++V,none⟩) (ns.take (k+1)) (-((1:Nat):Int))) (some (rid T0)) (toL h0 T0).length p c4 q4 Dq4 (Is (some ⟨b,o,none⟩) N sc) (kdG P B (rid T))) HCT.out ?_
   clear g0' c1 z1 HCT
   intro wz hwz
   have HWZ:=zL hwz
   clear hwz
   go_wp2_with fail
   exact ⟨⟨⟨rfl,rfl,rfl,rfl,rfl,rfl,rfl,rfl,rfl,rfl⟩,rfl,⟨rfl,rfl⟩,k+1,by rw [HN.out.1];omega,rfl,HWZ.out⟩,by show N-(((k+1:Nat):Int)).toNat<N-((k:Nat):Int).toNat;omega⟩
  ·have hkN2:k=N:=by omega
   have hnlt:¬(k:Int)<(N:Int):=by omega
   have hW8:=HWK.out
   have ek:ns.take k=ns:=by rw [hkN2,←HN.out.1,List.take_length]
   rw [ek,HBL.out] at hW8
   have x5:=kbB hW8.x5 0
   have c3:=hW8.mb.c3
   have z3:=hW8.mb.fz 3
   simp only [zF,zD] at x5
   obtain ⟨nL,hnL⟩:∃nL,(toL h0 T0).length=nL:=⟨_,rfl⟩
   have hW9:=hW8.count ok (((nL:Nat):Int)-1)
   rw [hnL] at c3 hbig
   have s1:Ij.wrap ((nL:Int)-1)=(nL:Int)-1:=zh _ (by omega)
   have s2:Ij.wrap ((i:Int)-1)=(i:Int)-1:=zh _ (by have:=HT.out.2.1;have e:=congrArg List.length HT.out.1;simp only [zT,List.length_cons] at e;have:T.2.length≤X.mx:=HM.out.sh;have:=ok.m1000;omega)
   have HW9:=zL hW9
   have HNL:=zL hnL
   clear hW8 hW9 hnL hkN2 ek
   go_upto_region 85 with fail
   refine kbD (fun wz=>DrW X w0 wz F7 (bmp (upd H (rid T) ⟨((U++V).length:Nat),U++V,none⟩) P (-1)) (some (rid T0)) ((nL:Int)-1) p c4 q4 Dq4 (.slice sa N sc) (kdG P B (rid T))) HW9.out ?_
   clear x5 c3 z3 HW9
   intro wz hwz
   have HWZ:=zL hwz
   clear hwz
   go_wp2_with fail
   obtain ⟨hPO,hrd⟩:=HPO.out
   obtain ⟨D1,D2,hD,hS⟩:=hPO.split
   obtain ⟨hq1,hq2,hq3⟩:=HQ.out
   obtain ⟨hT1,hT2,hT3⟩:=HT.out
   have hlen:=hPO.len
   rw [HNL.out] at hlen
   have hnl2:=HNL.out
   have e1:=congrArg List.length hT1
   simp only [zT,List.length_cons] at e1
   have hdw:=HWZ.out
   rw [←hPO.rid',show (nL:Int)-1=(((toL h0 Tf).length:Nat):Int) by omega] at hdw
   refine ⟨⟨rfl,rfl,rfl,rfl,rfl,rfl,rfl,rfl,rfl,rfl⟩,h0,Tf,F7,_,p,c4,q4,Dq4,D1++lone x::D2,.slice sa N sc,B,P,off,(T.1,U++V),rfl,rfl,rfl,⟨hdw,hS,hq2,?_,?_,?_,hrd⟩,by omega,by omega,?_,?_,?_⟩
   ·refine hq1.trans ((HM.out.pm.append_right _).trans ?_)
    rw [hD]
    exact (List.perm_append_singleton _ _).trans List.perm_middle.symm
   ·rw [hq3,HM.out.ct,flat_lone,hD];rfl
   ·by_cases hp:P=[]
    ·rw [hPO.root hp,zT];have:=ok.m1;omega
    ·rw [hPO.rest hp];exact HM.out.one
   ·show (U++V).length+1=T.2.length
    rw [zT];omega
   ·show i≤(U++V).length
    rw [zT];omega
   ·exact hPO.cut _ (by omega) HCUT.out
end
end
section
variable {ord:List Int}{k:Kc ord}
section
variable {ord:List Int}
theorem wp_seq3 {Pr:Program}{x y z r:Code}{Q:Exit→Act→World→Prop}{a:Act}{w:World}(M:Act→World→Prop)(h:x.wp Pr (Exit.then (y.wp Pr (Exit.then (z.wp Pr (Exit.then M Q)) Q)) Q) a w)(h2:∀a w,M a w→r.wp Pr Q a w):(x.seq (y.seq (z.seq r))).wp Pr Q a w:=by
 refine wp_seq (wp_mono h fun e a w he=>?_)
 cases e with
 |normal =>
  refine wp_seq (wp_mono he fun e a w he=>?_)
  cases e with
  |normal=>exact kgF M he h2
  |_=>exact he
 |_=>exact he
theorem dr_cut {X:DrX ord}{w0:World}(ok:DrOk X)(mR mJ:Nat)(a:Act)(w4:World){h0:Nat}{T0:BT (It ord) h0}{F:Nat→Prop}{H:HN ord}{p x:It ord}{c c4:Int}{q q4:Value}{Dq D Dq4:List (Bk ord)}{st:Value}{B P:List Nat}{off:Nat}{T:BT (It ord) 0}{i:Nat}{w2:World}
  (hfr:DrFr X a)(s16:a.tmps[16]?=some st)(s17:a.tmps[17]?=some (Ip (some ⟨rid T,0,none⟩)))(s18:a.tmps[18]?=some (Ii Ij i))(hm:DrM X w0 w2 h0 T0 F H p c q Dq D st B P off 0 T)(hmR:(toL h0 T0).length≤mR)(hmJ:2*(toL h0 T0).length<mJ)
  (hy:T.2[i]?=some x)(hcut:CutP ltM p (toL h0 T0) (off+i))(hst:X.st x=false)(hmn:X.mn<T.2.length)(hq:Dq4.Perm (Dq++[lone x]))(hh:kfF ltE Dq4)(hc:c4=c+1)
  (hW:DrW X w0 w4 F H (some (rid T0)) (toL h0 T0).length p c4 q4 Dq4 st (kdG P B (rid T))) :
  (drCut Try.f58).wp Tp (kfZ (LCutPost X w0 mR mJ i T.2.length)) a w4:=by
 conv=>arg 2;whnf
 refine wp_seq3 (fun a w=>DrFr X a∧a.tmps[16]?=some st∧a.tmps[17]?=some (Ip (some ⟨rid T,0,none⟩))∧a.tmps[18]?=some (Ii Ij i)∧∃F7,DrW X w0 w F7 (upd H (rid T) ⟨(T.2.length:Nat),T.2.take i++T.2.drop (i+1),none⟩) (some (rid T0)) (toL h0 T0).length p c4 q4 Dq4 st (kdG P B (rid T))) ?_ ?_
 rotate_left
 ·rintro a7 w7 ⟨hfr7,t16,t17,t18,F7,hW7⟩
  have hsp:T.2=T.2.take i++x::T.2.drop (i+1):=by
   rw [←drop_consX hy,zw]
  have hlt:i<T.2.length:=(zG.1 hy).1
  exact dr_ct1 ok mR mJ a7 w7 hfr7 t16 t17 t18 hm hmR hmJ hsp (by rw [zV];omega) hcut hst hmn hq hh hc hW7
 obtain ⟨f,rfl,e4,e5,e7,e10,e11,e13,e14,e15⟩:=hfr.lit
 unfold kdJ at *
 simp only [zF,zE,zD,zc] at s16 s17 s18
 have hsl:T.2.length≤X.mx:=hm.sh
 have hmx:=ok.m1000
 have hlt:i<T.2.length:=(zG.1 hy).1
 have hl1000:T.2.length≤1000:=by omega
 have HIT:=zL hm.isT
 have HM:=zL hm
 have HY:=zL hy
 have HCUT:=zL hcut
 have HST:=zL (And.intro hst hmn)
 have HQ:=zL (And.intro hq (And.intro hh hc))
 have HW4:=zL hW
 obtain ⟨l,hna,hb,ho,cl⟩:=hW.fam.work hm.isT.root
 have HR:=zL (Run.start hna)
 have HBF:=zL hb
 have HCL:=zL cl
 have HMA:=zL hW.mb.at_
 have HTF:=zL (fun b (hm:MOwn X.k X.t b) (hf:F b)=>(hW.fz ok b hf).2.2.2.2.2.2.2 hm)
 have HX5:=zL (fun (wx:World) (cc:Chg (Ext (parM X.k) (rid T) (kbP 0 T) l) w4 wx)=>(show wx.cell? ⟨X.s,0,none⟩=some (Ip (some ⟨X.t,0,none⟩)) from cc.cell (fun h=>(HW4.out.fz ok _ (HBF.out _ h.blk)).1 rfl) (by have:=kbB HW4.out.x5 0;simpa using this)))
 rw [e4,e5,e7,e10,e11,e13,e14,e15,s16,s17,s18]
 clear hfr hm hcut e4 e5 e7 e10 e11 e13 e14 e15 s16 s17 s18 hy hst hmn hq hh hc hW hna hb ho cl hsl
 go_upto_region 77 with fail
 have N2:w4.cell? ⟨rid T,2,none⟩=some (Is (some ⟨l.ib,l.io,none⟩) T.2.length l.ic):=HR.out.at_.c2
 have hlenc:T.2.length≤l.ic:=HR.out.at_.len
 have s0:(0:Int)≤(i:Int):=by omega
 have s2:(0:Int)≤(i:Int)+1:=by omega
 have s3:((i:Int)+1).toNat=i+1:=by omega
 have s4:(i:Int)≤(T.2.length:Int):=by omega
 have s5:(i:Int)+1≤(T.2.length:Int):=by omega
 have hck2:¬l.ic=i:=by omega
 obtain ⟨sp,hif,hsp⟩:∃sp,(if l.ic=i+1 then some (⟨l.ib,l.io,none⟩:Addr) else some ⟨l.ib,l.io+(i+1)*2,none⟩)=some sp∧(i+1<T.2.length→sp=⟨l.ib,l.io+(i+1)*2,none⟩):=by
  by_cases h:l.ic=i+1
  ·exact ⟨_,by rw [if_pos h],fun h2=>by omega⟩
  ·exact ⟨_,by rw [if_neg h],fun _=>rfl⟩
 have s1:Ij.wrap ((i:Int)+1)=(i:Int)+1:=zh _ (by omega)
 have HSP:=zL hsp
 clear hsp
 go_still_tail 13,(by kernel_rfl)
 refine kfQ (p:=parM X.k) (by rfl) _ _ _ _ (by rfl) 27 (by kernel_rfl) kdD (HR.out.still ((zK _ _).drew)) i (l.io+i*2) _ _ _ _ (show i<T.2.length by omega) (by simp [parM]) (by rfl) sp (by rfl) (fun hh=>HSP.out hh) (by first|rfl | simp) (by first|rfl | simp) ?_
 intro w8 ys r8 hys1 hys2
 replace hys1:=zL hys1
 replace hys2:=zL hys2
 clear s0 s1 s2 s3 s4 s5 hck2 hif N2 hlenc HSP
 go_upto_region 78 with fail
 refine kbD (fun wz=>∃ys,ys.length=T.2.length∧ys.take (T.2.length-1)=T.2.take i++T.2.drop (i+1)∧Run (parM X.k) w4 (rid T) (kbP 0 T) l wz { (kbP 0 T) with items:=ys } l) ⟨ys,hys1.out,hys2.out,r8⟩ ?_
 clear r8 hys1 hys2 HR
 rintro w5 ⟨y3,hly3,hy3,hR⟩
 replace hly3:=zL hly3
 replace hy3:=zL hy3
 have HR:=zL hR
 clear hR
 have hyb:1≤y3.length∧y3.length≤1001:=by rw [hly3.out];omega
 have N2:w5.cell? ⟨rid T,2,none⟩=some (Is (some ⟨l.ib,l.io,none⟩) y3.length l.ic):=HR.out.at_.c2
 have hm1:=HMA.out.chg HR.out.chg (fun b o hm h=>HTF.out b hm (HBF.out _ h.blk))
 have e4:=hm1.c4
 have x5:=HX5.out _ HR.out.chg
 have e5:=hm1.c5
 have hlenc:y3.length≤l.ic:=HR.out.at_.len
 have s0:(0:Int)≤(y3.length:Int)-1:=by omega
 have s2:(y3.length:Int)-1<(y3.length:Int):=by omega
 have s3:((y3.length:Int)-1).toNat=y3.length-1:=by omega
 have s1:Ij.wrap ((y3.length:Int)-1)=(y3.length:Int)-1:=zh _ (by omega)
 have hlt:y3.length-1<y3.length:=by omega
 have z0:=HR.out.at_.ifz (l.io+(y3.length-1)*2)
 have z1:=HR.out.at_.ifz (l.io+(y3.length-1)*2+1)
 obtain ⟨y6,hy6⟩:∃y,y3[y3.length-1]?=some y:=⟨_,zH hlt⟩
 have iv:=HR.out.at_.mval (j:=y3.length-1) hy6
 have ik:=HR.out.at_.mkey (j:=y3.length-1) hy6
 have r8:=(HR.out.still ((zK _ _).drew)).setItemM (y3.length-1) ((0,0):It ord) hlt
 have HR8:=zL r8
 clear hm1 hy6 r8
 go_still_tail 14,(by kernel_rfl)
 go_upto_region 79 with fail
 refine kbD (fun wz=>∃ys,ys.length=y3.length∧ys.take (y3.length-1)=y3.take (y3.length-1)∧Run (parM X.k) w4 (rid T) (kbP 0 T) l wz { (kbP 0 T) with items:=ys } l) ⟨_,zW,kdB _ _ _,HR8.out⟩ ?_
 clear N2 x5 e4 e5 hlenc s0 s1 s2 s3 hlt z0 z1 iv ik HR8 HR y6
 rintro w6 ⟨y4,hly4,hy4,hR⟩
 replace hly4:=zL hly4
 replace hy4:=zL hy4
 have HR:=zL hR
 clear hR
 have hyb:1≤y4.length∧y4.length≤1001:=by rw [hly4.out,hly3.out];omega
 have N2:w6.cell? ⟨rid T,2,none⟩=some (Is (some ⟨l.ib,l.io,none⟩) y4.length l.ic):=HR.out.at_.c2
 have z2:=HR.out.at_.fz 2
 have hlenc:y4.length≤l.ic:=HR.out.at_.len
 have s0:(0:Int)≤(y4.length:Int)-1:=by omega
 have s2:(y4.length:Int)-1≤(l.ic:Int):=by omega
 have s3:((y4.length:Int)-1).toNat=y4.length-1:=by omega
 have s1:Ij.wrap ((y4.length:Int)-1)=(y4.length:Int)-1:=zh _ (by omega)
 have ck:¬l.ic=0:=by omega
 have s6:¬((y4.length:Int)<1):=by omega
 have s7:(1:Int)≤(y4.length:Int):=by omega
 have r8:=(HR.out.still ((zK _ _).drew)).cut 0 (y4.length-1) l.ic (by show 0+(y4.length-1)≤y4.length;omega) (by omega) (by omega)
 simp only [Nat.zero_mul,Nat.add_zero,zb] at r8
 have HR8:=zL r8
 clear r8
 go_still_tail 12,(by kernel_rfl)
 go_wp2_with fail
 have hit:y4.take (y4.length-1)=T.2.take i++T.2.drop (i+1):=by
  have h1:=hy3.out
  have h2:=hy4.out
  rw [←hly3.out,←h2,←hly4.out] at h1
  exact h1
 have hR7:=HR8.out
 rw [hit] at hR7
 obtain ⟨f7,g7⟩:=HCL.out _ _ _ hR7
 have hW7:=HW4.out.nodes ok g7 f7 (fun b hb=>hb.elim .inl (fun h=>.inr h.1))
 exact ⟨⟨rfl,rfl,rfl,rfl,rfl,rfl,rfl,rfl,rfl,rfl⟩,_,hW7⟩
end
end
section
variable {ord:List Int}{k:Kc ord}
section
variable {ord:List Int}
def drIt (f:Func):Code:=cI (cL (cR (cI (cI (drLoop f)))))
def drThen (f:Func):Code:=cT (cR (cR (drIt f)))
def drElse (f:Func):Code:=cE (cR (cR (drIt f)))
variable {Dq D:List (Bk ord)}{h0:Nat}{T0:BT (It ord) h0}{T:BT (It ord) 0}{F:Nat→Prop}{B P:List Nat}{p x:It ord}{X:DrX ord}{w0:World}{H:HN ord}{st:Value}{q:Value}{off:Nat}{c:Int}{i:Nat}
theorem dr_then (ok:DrOk X)(mR nL mJ:Nat)(a:Act)(w:World)
  (hfr:DrFr X a)(s16:a.tmps[16]?=some st)(s17:a.tmps[17]?=some (Ip (some ⟨rid T,0,none⟩)))(s18:a.tmps[18]?=some (Ii Ij i))(hm:DrM X w0 w h0 T0 F H p c q Dq D st B P off 0 T)(hmR:(toL h0 T0).length≤mR)(hmJ:2*(toL h0 T0).length<mJ)
  (hy:T.2[i]?=some x)(hcut:CutP ltM p (toL h0 T0) (off+i))(hst:X.st x=false)(hmn:X.mn<T.2.length):(drThen Try.f58).wp Tp (kfZ (LCutPost X w0 mR mJ i T.2.length)) a w:=by
 conv=>arg 2;whnf
 refine kgF (fun a w=>DrFr X a∧a.tmps[16]?=some st∧a.tmps[17]?=some (Ip (some ⟨rid T,0,none⟩))∧a.tmps[18]?=some (Ii Ij i)∧∃c4 q4 Dq4,Dq4.Perm (Dq++[lone x])∧kfF ltE Dq4∧c4=c+1∧DrW X w0 w F H (some (rid T0)) (toL h0 T0).length p c4 q4 Dq4 st (kdG P B (rid T))) ?_ ?_
 rotate_left
 ·rintro a7 w7 ⟨hfr7,t16,t17,t18,c4,q4,Dq4,g1,g2,g3,g4⟩
  exact dr_cut ok mR mJ a7 w7 hfr7 t16 t17 t18 hm hmR hmJ hy hcut hst hmn g1 g2 g3 g4
 obtain ⟨f,rfl,e4,e5,e7,e10,e11,e13,e14,e15⟩:=hfr.lit
 unfold kdJ at *
 simp only [zF,zE,zD,zc] at s16 s17 s18
 have hsl:T.2.length≤X.mx:=hm.sh
 have hmx:=ok.m1000
 have hlt:i<T.2.length:=(zG.1 hy).1
 have hl1000:T.2.length≤1000:=by omega
 obtain ⟨NI,hNI⟩:∃NI,(its T).length=NI:=⟨_,rfl⟩
 have hNI':T.2.length=NI:=hNI
 have HIT:=zL hm.isT
 have HNI:=zL hNI
 obtain ⟨sa,sc,hsf⟩:=hm.dw.so.sl.form
 subst hsf
 have HXA:=zL (item_leaf hm.rd hm.ds.di.sh hy)
 have HCUT:=zL hcut
 have HM:=zL hm
 have HY:=zL (show (its T)[i]?=some x from hy)
 have b1:(0:Int)≤(i:Int):=by omega
 have b2:(i:Int)<(NI:Int):=by omega
 have HW2:=zL hm.dw
 rw [e4,e5,e7,e10,e11,e13,e14,e15,s16,s17,s18]
 obtain ⟨l1,hnx⟩:=HM.out.dw.fam.node HIT.out.root
 have n2:w.cell? ⟨rid T,2,none⟩=some (Is (some ⟨l1.ib,l1.io,none⟩) NI l1.ic):=(by have:=hnx.c2;rw [kbG,HNI.out] at this;exact this)
 have y0:=hnx.mkey (j:=i) (by rw [kbG];exact HY.out)
 have y1:=hnx.mval (j:=i) (by rw [kbG];exact HY.out)
 clear hnx
 clear hfr hm hcut e4 e5 e7 e10 e11 e13 e14 e15 s16 s17 s18 hy hNI hNI' hsl
 have hlb:=HM.out.big ok
 have hap:=append_any (lone x) HW2.out.lb HW2.out.qo HM.out.hp HW2.out.mb.ord (by have:=ok.dl.1;have:=ok.o1;have:=ok.o2;have:=ok.o3;omega) HW2.out.rw_ (DrOk.kb ok) (by have:=HM.out.pm.length_eq;have:=len_flat D;omega) (fun _ h=>by cases h) (by rw [HM.out.ct];omega) (by rw [HM.out.ct];show _+0≤_;omega)
 have hnp:(lone x:Bk ord).npA=none:=rfl
 rw [hnp] at hap
 have HAP:=zL hap
 clear hap hnp hlb
 go_wp2_with fail
 refine HAP.out.mono ?_
 rintro e w4 ⟨rfl,q4,Dq4,hp4,hh4,hl4,ho4,hc4,hv4,hk4⟩
 have hdw4:=HW2.out.app ok hl4 ho4 hc4 hv4 hk4
 have HW4:=zL hdw4
 have HP4:=zL (And.intro hp4 hh4)
 clear hp4 hh4 hl4 ho4 hc4 hv4 hk4 hdw4 HAP n2 y0 y1
 go_wp2_with fail
 refine ⟨⟨rfl,rfl,rfl,rfl,rfl,rfl,rfl,rfl,rfl,rfl⟩,?_⟩
 have hfin:∃c4' q4' Dq4',Dq4'.Perm (Dq++[lone x])∧kfF ltE Dq4'∧c4'=c+1∧DrW X w0 _ F H (some (rid T0)) (toL h0 T0).length p c4' q4' Dq4' (.slice sa (kdG P B (rid T)).length sc) (kdG P B (rid T)):=⟨_,q4,Dq4,HP4.out.1,HP4.out.2,by show c+1+((0:Nat):Int)=c+1;omega,HW4.out⟩
 first|exact hfin | exact ⟨rfl,rfl,rfl,hfin⟩
theorem dr_else (ok:DrOk X)(mR nL mJ:Nat)(a:Act)(w:World)
  (hfr:DrFr X a)(s16:a.tmps[16]?=some st)(s17:a.tmps[17]?=some (Ip (some ⟨rid T,0,none⟩)))(s18:a.tmps[18]?=some (Ii Ij i))(hm:DrM X w0 w h0 T0 F H p c q Dq D st B P off 0 T)(hmR:(toL h0 T0).length≤mR)(hmJ:2*(toL h0 T0).length<mJ)
  (hy:T.2[i]?=some x)(hcut:CutP ltM p (toL h0 T0) (off+i))(hst:X.st x=false):(drElse Try.f58).wp Tp (NextQ X w0 mR nL mJ) a w:=by
 conv=>arg 2;whnf
 obtain ⟨f,rfl,e4,e5,e7,e10,e11,e13,e14,e15⟩:=hfr.lit
 unfold kdJ at *
 simp only [zF,zE,zD,zc] at s16 s17 s18
 have hsl:T.2.length≤X.mx:=hm.sh
 have hmx:=ok.m1000
 have hlt:i<T.2.length:=(zG.1 hy).1
 have hl1000:T.2.length≤1000:=by omega
 obtain ⟨NI,hNI⟩:∃NI,(its T).length=NI:=⟨_,rfl⟩
 have hNI':T.2.length=NI:=hNI
 have HIT:=zL hm.isT
 have HNI:=zL hNI
 obtain ⟨sa,sc,hsf⟩:=hm.dw.so.sl.form
 subst hsf
 have HXA:=zL (item_leaf hm.rd hm.ds.di.sh hy)
 have HCUT:=zL hcut
 have HM:=zL hm
 have HY:=zL (show (its T)[i]?=some x from hy)
 have b1:(0:Int)≤(i:Int):=by omega
 have b2:(i:Int)<(NI:Int):=by omega
 have HSV:=zL hst
 rw [e4,e5,e7,e10,e11,e13,e14,e15,s16,s17,s18]
 clear hst hfr hm hcut e4 e5 e7 e10 e11 e13 e14 e15 s16 s17 s18 hy hNI hNI' hsl
 refine kbD (fun wz=>DrM X w0 wz h0 T0 F H p c q Dq D (.slice sa (kdG P B (rid T)).length sc) B P off 0 T) HM.out ?_
 clear HM
 intro w2 hm2
 have HM:=zL hm2
 clear hm2
 -- the pivot
 obtain ⟨l3,hnx⟩:=HM.out.dw.fam.node HIT.out.root
 have n2:w2.cell? ⟨rid T,2,none⟩=some (Is (some ⟨l3.ib,l3.io,none⟩) NI l3.ic):=(by have:=hnx.c2;rw [kbG,HNI.out] at this;exact this)
 have y0:=hnx.mkey (j:=i) (by rw [kbG];exact HY.out)
 have y1:=hnx.mval (j:=i) (by rw [kbG];exact HY.out)
 clear hnx
 have P0:=kbB HM.out.dw.xp 0
 have P1:=kbB HM.out.dw.xp 1
 simp only [zF,zD,zE] at P0 P1
 have P2:=kbC HM.out.dw.xp 0
 have P3:=kbC HM.out.dw.xp 1
 go_upto_region 87 with fail
 refine kbD (fun w3=>Chg (fun b _=>b=X.bp) w2 w3∧w3.heap[X.bp]?=some (Ic #[Ii Ij x.1,Ii Ij x.2] 27 (0,0))) ⟨((zK _ _).setCell (.inl rfl) _).setCell (.inl rfl) _,blk2 HM.out.dw.xp _ _⟩ ?_
 clear n2 y0 y1 P0 P1 P2 P3
 rintro w3 ⟨hc3,hb3⟩
 have hdw3:=HM.out.dw.piv ok hc3 hb3
 have HW3:=zL hdw3
 clear hc3 hb3 hdw3
 obtain ⟨l4,hnx⟩:=HW3.out.fam.node HIT.out.root
 have n2:w3.cell? ⟨rid T,2,none⟩=some (Is (some ⟨l4.ib,l4.io,none⟩) NI l4.ic):=(by have:=hnx.c2;rw [kbG,HNI.out] at this;exact this)
 have y0:=hnx.mkey (j:=i) (by rw [kbG];exact HY.out)
 have y1:=hnx.mval (j:=i) (by rw [kbG];exact HY.out)
 clear hnx
 have hlb:=HM.out.big ok
 have hap:=append_any (lone x) HW3.out.lb HW3.out.qo HM.out.hp HW3.out.mb.ord (by have:=ok.dl.1;have:=ok.o1;have:=ok.o2;have:=ok.o3;omega) HW3.out.rw_ (DrOk.kb ok) (by have:=HM.out.pm.length_eq;have:=len_flat D;omega) (fun _ h=>by cases h) (by rw [HM.out.ct];omega) (by rw [HM.out.ct];show _+0≤_;omega)
 have hnp:(lone x:Bk ord).npA=none:=rfl
 rw [hnp] at hap
 have HAP:=zL hap
 clear hap hnp hlb
 go_wp2_with fail
 refine HAP.out.mono ?_
 rintro e w4 ⟨rfl,q4,Dq4,hp4,hh4,hl4,ho4,hc4,hv4,hk4⟩
 have hdw4:=HW3.out.app ok hl4 ho4 hc4 hv4 hk4
 have HW4:=zL hdw4
 have HP4:=zL (And.intro hp4 hh4)
 clear hp4 hh4 hl4 ho4 hc4 hv4 hk4 hdw4 HAP n2 y0 y1
 obtain ⟨l5,hnx⟩:=HW4.out.fam.node HIT.out.root
 have n2:w4.cell? ⟨rid T,2,none⟩=some (Is (some ⟨l5.ib,l5.io,none⟩) NI l5.ic):=(by have:=hnx.c2;rw [kbG,HNI.out] at this;exact this)
 have y0:=hnx.mkey (j:=i) (by rw [kbG];exact HY.out)
 have y1:=hnx.mval (j:=i) (by rw [kbG];exact HY.out)
 clear hnx
 have x5:=kbB HW4.out.x5 0
 simp only [zF,zD] at x5
 go_wp2_with fail
 refine wp_region_call (fun w'=>w'.cell? ⟨X.s,0,none⟩=some (Ip (some ⟨X.t,0,none⟩))∧w'.cell? ⟨rid T,2,none⟩=some (Is (some ⟨l5.ib,l5.io,none⟩) NI l5.ic)∧w'.cell? ⟨l5.ib,l5.io+i*2,none⟩=some (Ii Ij x.1)∧w'.cell? ⟨l5.ib,l5.io+i*2+1,none⟩=some (Ii Ij x.2))
  8 [0,1,2,3,4,5,6,7] _ [] (by kernel_rfl) (by kernel_rfl) (fun _ _ _ _ _ h=>h) rfl rfl rfl ⟨x5,n2,y1,y0⟩ ?_
 simp only [kbK,List.filterMap_cons,List.filterMap_nil,zD,zE]
 iterate 8
  refine kbR ?_ rfl ?_ ?_
  rotate_left
  ·intro w' hS
   obtain ⟨a1,a2,a3,a4⟩:=hS
   go_simp
   try with_reducible rfl
  simp only [Act.put,List.setIfInBounds_toArray,List.set_cons_zero,List.set_cons_succ]
 refine kbS ?_
 refine wp_hide (fun K hK=>?_)
 go_simp
 have hdel:=del_at (w1:=w4.drew) ok HM.out.ds HM.out.one (HW4.out.keep (zK _ _).drew) HCUT.out HXA.out
 unfold aggM hintV at hdel
 refine hdel.mono ?_
 rintro e w5 hD
 have hret:∃rv,e=Ir rv:=by
  rcases hD.1 with ⟨y,_,he⟩ | ⟨_,he⟩
  ·exact ⟨_,he⟩
  ·exact ⟨_,he⟩
 obtain ⟨rv,rfl⟩:=hret
 refine hK _ _ ?_
 clear hK K
 refine kbS ?_
 have hlab:=labR_del ok HM.out.ds (HW4.out.keep (zK _ _).drew) HP4.out.2 HP4.out.1 HM.out.pm (by rw [HM.out.ct];rfl) HCUT.out HXA.out HSV.out hD
 have HLAB:=zL hlab
 clear hlab hD hdel x5 n2 y0 y1
 have sq:(0:Int)≤(sc:Int):=by omega
 go_wp2_with fail
 go_step3
 obtain ⟨F',H',D',g1,g2,g3,g4,g5⟩:=HLAB.out
 refine .inr ⟨rfl,⟨⟨rfl,rfl,rfl,rfl,rfl,rfl,rfl,rfl,rfl,rfl⟩,F',H',x,_,q4,Dq4,D',.slice sa 0 sc,rfl,g1,g2,g3,?_⟩,by omega⟩
 rcases g5 with ⟨k1,k2⟩ | ⟨h2,T2,k1,k2,k3,k4⟩
 ·exact .inl ⟨k1.stack ok (own_zero k1.so) (zK _ _) (.inl (own_zero_blk _ _ _)),k2⟩
 ·exact .inr ⟨h2,T2,k1.stack ok (own_zero k1.so) (zK _ _) (.inl (own_zero_blk _ _ _)),k2,k3,k4⟩
theorem dr_it (ok:DrOk X)(mR nL mJ:Nat)(a:Act)(w:World)
  (hfr:DrFr X a)(s16:a.tmps[16]?=some st)(s17:a.tmps[17]?=some (Ip (some ⟨rid T,0,none⟩)))(s18:a.tmps[18]?=some (Ii Ij i))(hm:DrM X w0 w h0 T0 F H p c q Dq D st B P off 0 T)(hmR:(toL h0 T0).length≤mR)(hmJ:2*(toL h0 T0).length<mJ)
  (hy:T.2[i]?=some x)(hcut:CutP ltM p (toL h0 T0) (off+i)):(drIt Try.f58).wp Tp (LeafQ X w0 mR nL mJ (LCutPost X w0 mR mJ i T.2.length)) a w:=by
 conv=>arg 2;whnf
 refine kgF (fun a w=>X.st x=false∧DrFr X a∧a.tmps[16]?=some st∧a.tmps[17]?=some (Ip (some ⟨rid T,0,none⟩))∧a.tmps[18]?=some (Ii Ij i)∧DrM X w0 w h0 T0 F H p c q Dq D st B P off 0 T) ?_ ?_
 ·skip
  obtain ⟨f,rfl,e4,e5,e7,e10,e11,e13,e14,e15⟩:=hfr.lit
  unfold kdJ at *
  simp only [zF,zE,zD,zc] at s16 s17 s18
  have hsl:T.2.length≤X.mx:=hm.sh
  have hmx:=ok.m1000
  have hlt:i<T.2.length:=(zG.1 hy).1
  have hl1000:T.2.length≤1000:=by omega
  obtain ⟨NI,hNI⟩:∃NI,(its T).length=NI:=⟨_,rfl⟩
  have hNI':T.2.length=NI:=hNI
  have HIT:=zL hm.isT
  have HNI:=zL hNI
  obtain ⟨sa,sc,hsf⟩:=hm.dw.so.sl.form
  subst hsf
  have HXA:=zL (item_leaf hm.rd hm.ds.di.sh hy)
  have HCUT:=zL hcut
  have HM:=zL hm
  have HY:=zL (show (its T)[i]?=some x from hy)
  have b1:(0:Int)≤(i:Int):=by omega
  have b2:(i:Int)<(NI:Int):=by omega
  have HMS:=zL (maxstop_any hm.dw x)
  rw [e4,e5,e7,e10,e11,e13,e14,e15,s16,s17,s18]
  obtain ⟨l1,hnx⟩:=HM.out.dw.fam.node HIT.out.root
  have n2:w.cell? ⟨rid T,2,none⟩=some (Is (some ⟨l1.ib,l1.io,none⟩) NI l1.ic):=(by have:=hnx.c2;rw [kbG,HNI.out] at this;exact this)
  have y0:=hnx.mkey (j:=i) (by rw [kbG];exact HY.out)
  have y1:=hnx.mval (j:=i) (by rw [kbG];exact HY.out)
  clear hnx
  clear hfr hm hcut e4 e5 e7 e10 e11 e13 e14 e15 s16 s17 s18 hy hNI hNI' hsl
  obtain ⟨sv,hsv⟩:∃sv,X.st x=sv:=⟨_,rfl⟩
  rw [hsv] at HMS
  have HSV:=zL hsv
  clear hsv
  go_wp2_with fail
  refine HMS.out.mono ?_
  rintro e w2 ⟨rfl,hc2⟩
  have hm2:=HM.out.keep hc2
  clear HM HMS y0 y1 n2 hc2
  have HM:=zL hm2
  clear hm2
  cases sv
  rotate_left
  ·obtain ⟨qa,qc,hqf⟩:=HM.out.dw.qo.sl.form
   subst hqf
   have l0:=HM.out.dw.lb.c0
   have l1:=HM.out.dw.lb.c1
   have l2:=HM.out.dw.lb.c2
   have l3:=HM.out.dw.lb.c3
   unfold kcQ at l0
   have r0:=kbB HM.out.dw.x10 0
   have r1:=kbB HM.out.dw.x10 1
   have r2:=kbB HM.out.dw.x10 2
   have r3:=kbB HM.out.dw.x10 3
   simp only [zF,zD,zE] at r0 r1 r2 r3
   have r4:=kbC HM.out.dw.x10 0
   have r5:=kbC HM.out.dw.x10 1
   have r6:=kbC HM.out.dw.x10 2
   have r7:=kbC HM.out.dw.x10 3
   go_wp2_with fail
   refine kbQ (fun wf=>Chg (fun b _=>b=X.s+3) w2 wf∧wf.heap[X.s+3]?=some (Ic #[kcQ X.k,Ii Ij c,Ii Ij 0,(.slice qa Dq.length qc)] 67 (0,0))) ⟨((((zK _ _).setCell (.inl rfl) _).setCell (.inl rfl) _).setCell (.inl rfl) _).setCell (.inl rfl) _,blk4r HM.out.dw.x10 _ _ _ _⟩ ?_
   clear l0 l1 l2 l3 r0 r1 r2 r3 r4 r5 r6 r7
   rintro wf ⟨hcf,hbf⟩
   exact ⟨rfl,rfl,c,_,F,H,_,Dq,D,hbf,(HM.out.out (HM.out.ds.fin_stop X.st_mono HCUT.out HXA.out HSV.out)).res ok hcf⟩
  go_wp2_with fail
  refine ⟨HSV.out,⟨rfl,rfl,rfl,rfl,rfl,rfl,rfl,rfl,rfl,rfl⟩,?_⟩
  first|exact HM.out | exact ⟨rfl,rfl,rfl,HM.out⟩
 ·clear hfr s16 s17 s18 hm a w
  rintro a w ⟨hst,hfr,s16,s17,s18,hm⟩
  refine kgF (fun a w=>a.tmps[517]?=some (.bool (decide (X.mn<T.2.length)))∧DrFr X a∧a.tmps[16]?=some st∧a.tmps[17]?=some (Ip (some ⟨rid T,0,none⟩))∧a.tmps[18]?=some (Ii Ij i)∧DrM X w0 w h0 T0 F H p c q Dq D st B P off 0 T) ?_ ?_
  ·skip
   obtain ⟨f,rfl,e4,e5,e7,e10,e11,e13,e14,e15⟩:=hfr.lit
   unfold kdJ at *
   simp only [zF,zE,zD,zc] at s16 s17 s18
   have hsl:T.2.length≤X.mx:=hm.sh
   have hmx:=ok.m1000
   have hlt:i<T.2.length:=(zG.1 hy).1
   have hl1000:T.2.length≤1000:=by omega
   obtain ⟨NI,hNI⟩:∃NI,(its T).length=NI:=⟨_,rfl⟩
   have hNI':T.2.length=NI:=hNI
   have HIT:=zL hm.isT
   have HNI:=zL hNI
   obtain ⟨sa,sc,hsf⟩:=hm.dw.so.sl.form
   subst hsf
   have HXA:=zL (item_leaf hm.rd hm.ds.di.sh hy)
   have HCUT:=zL hcut
   have HM:=zL hm
   have HY:=zL (show (its T)[i]?=some x from hy)
   have b1:(0:Int)≤(i:Int):=by omega
   have b2:(i:Int)<(NI:Int):=by omega
   have x5:=kbB HM.out.dw.x5 0
   have t10:=kbB HM.out.dw.mb.blk 10
   simp only [zF,zD,zE] at x5 t10
   have hdc:decide (X.mn<NI)=decide (X.mn<T.2.length):=by rw [hNI']
   have HDC:=zL hdc
   rw [e4,e5,e7,e10,e11,e13,e14,e15,s16,s17,s18]
   obtain ⟨l1,hnx⟩:=HM.out.dw.fam.node HIT.out.root
   have n2:w.cell? ⟨rid T,2,none⟩=some (Is (some ⟨l1.ib,l1.io,none⟩) NI l1.ic):=(by have:=hnx.c2;rw [kbG,HNI.out] at this;exact this)
   have y0:=hnx.mkey (j:=i) (by rw [kbG];exact HY.out)
   have y1:=hnx.mval (j:=i) (by rw [kbG];exact HY.out)
   clear hnx
   clear hdc hfr hm hcut e4 e5 e7 e10 e11 e13 e14 e15 s16 s17 s18 hy hNI hNI' hsl
   go_wp2_with fail
   go_quiet (fail)
   refine ⟨?_,⟨rfl,rfl,rfl,rfl,rfl,rfl,rfl,rfl,rfl,rfl⟩,?_⟩
   ·rw [←HDC.out]
    rfl
   ·first|exact HM.out.keep ((zK _ _).drewN _) | exact ⟨rfl,rfl,rfl,HM.out.keep ((zK _ _).drewN _)⟩
  ·clear hfr s16 s17 s18 hm a w
   rintro a w ⟨s517,hfr,s16,s17,s18,hm⟩
   have hev:a.eval (.tmp 517)=.bool (decide (X.mn<T.2.length)):=by
    show a.tmps.getD 517 undef=_
    rw [Array.getD_eq_getD_getElem?,s517];rfl
   by_cases hmin:X.mn<T.2.length
   ·rw [decide_eq_true hmin] at hev
    refine wp_cond_true hev ?_
    refine wp_mono (dr_then ok mR nL mJ a w hfr s16 s17 s18 hm hmR hmJ hy hcut hst hmin) ?_
    intro e a6 w6 h6
    cases e with
    |normal=>exact h6
    |_=>exact h6.elim
   ·rw [decide_eq_false hmin] at hev
    refine wp_cond_false hev ?_
    refine wp_mono (dr_else ok mR nL mJ a w hfr s16 s17 s18 hm hmR hmJ hy hcut hst) ?_
    intro e a6 w6 h6
    cases e with
    |normal=>exact h6.elim
    |_=>exact h6
end
end
section
variable {ord:List Int}{k:Kc ord}
section
variable {ord:List Int}
def mmu (a:Act)(w:World):Nat:=slN (w.cell? ⟨ptrB (a.tmps[17]?),2,none⟩)-numO (a.tmps[18]?)
theorem DrM.mmu {X:DrX ord}{w0 w:World}{a:Act}{h0:Nat}{T0:BT (It ord) h0}{F:Nat→Prop}{H:HN ord}{p:It ord}{c:Int}{q:Value}{Dq D:List (Bk ord)}{st:Value}{B P:List Nat}{off:Nat}{T:BT (It ord) 0}{i:Nat}(hm:DrM X w0 w h0 T0 F H p c q Dq D st B P off 0 T)(s17:a.tmps[17]?=some (Ip (some ⟨rid T,0,none⟩)))(s18:a.tmps[18]?=some (Ii Ij i)):mmu a w=T.2.length-i:=by
 obtain ⟨l1,hn1⟩:=hm.dw.fam.node hm.isT.root
 have n2:=hn1.c2
 unfold Proofs.Ytnohimhihombmaa.mmu
 rw [s17,s18]
 show slN (w.cell? ⟨rid T,2,none⟩)-i=T.2.length-i
 rw [n2,kbG];rfl
theorem dr_loop {X:DrX ord}{w0:World}(ok:DrOk X)(mR nL mJ:Nat)(a:Act)(w:World)(hz:LabM' X w0 mR mJ a w):(drLoop Try.f58).wp Tp (LeafQ X w0 mR nL mJ (LabZ' X w0 mR mJ)) a w:=by
 conv=>arg 2;whnf
 refine wp_block ?_
 refine wp_loop (LabM' X w0 mR mJ) mmu hz ?_
 clear hz
 rintro a w ⟨hfr,h0,T0,F,H,p,c,q,Dq,D,st,B,P,off,T,i,s16,s17,s18,hm,hmR,hmJ,hiT,hcut⟩
 rw [hm.mmu s17 s18]
 have hsl:T.2.length≤X.mx:=hm.sh
 have hmx:=ok.m1000
 obtain ⟨NI,hNI⟩:∃NI,(its T).length=NI:=⟨_,rfl⟩
 have hNI':T.2.length=NI:=hNI
 by_cases hlt:i<T.2.length
 rotate_left
 ·skip
  obtain ⟨f,rfl,e4,e5,e7,e10,e11,e13,e14,e15⟩:=hfr.lit
  unfold kdJ at *
  simp only [zF,zE,zD,zc] at s16 s17 s18
  have HM:=zL hm
  have hcutE:=hcut
  rw [show i=T.2.length by omega] at hcutE
  have HCUT:=zL hcutE
  have b2:¬(i:Int)<(NI:Int):=by omega
  obtain ⟨sa,sc,hsf⟩:=hm.dw.so.sl.form
  subst hsf
  obtain ⟨l1,hnx⟩:=hm.dw.fam.node hm.isT.root
  have n2:w.cell? ⟨rid T,2,none⟩=some (Is (some ⟨l1.ib,l1.io,none⟩) NI l1.ic):=by have:=hnx.c2;rw [kbG,hNI] at this;exact this
  rw [e4,e5,e7,e10,e11,e13,e14,e15,s16,s17,s18]
  clear hfr hm hcut hcutE e4 e5 e7 e10 e11 e13 e14 e15 s16 s17 s18 hNI hNI' hsl hnx
  go_wp2_with fail
  exact ⟨⟨rfl,rfl,rfl,rfl,rfl,rfl,rfl,rfl,rfl,rfl⟩,h0,T0,F,H,p,c,q,Dq,D,_,B,P,off,0,T,rfl,HM.out,hmR,hmJ,HCUT.out⟩
 ·obtain ⟨x,hy⟩:∃x,T.2[i]?=some x:=⟨_,zH hlt⟩
  refine kgF (fun a w=>DrFr X a∧a.tmps[16]?=some st∧a.tmps[17]?=some (Ip (some ⟨rid T,0,none⟩))∧a.tmps[18]?=some (Ii Ij i)∧DrM X w0 w h0 T0 F H p c q Dq D st B P off 0 T) ?_ ?_
  ·skip
   obtain ⟨f,rfl,e4,e5,e7,e10,e11,e13,e14,e15⟩:=hfr.lit
   unfold kdJ at *
   simp only [zF,zE,zD,zc] at s16 s17 s18
   have HM:=zL hm
   have b2:(i:Int)<(NI:Int):=by omega
   obtain ⟨sa,sc,hsf⟩:=hm.dw.so.sl.form
   subst hsf
   obtain ⟨l1,hnx⟩:=hm.dw.fam.node hm.isT.root
   have n2:w.cell? ⟨rid T,2,none⟩=some (Is (some ⟨l1.ib,l1.io,none⟩) NI l1.ic):=by have:=hnx.c2;rw [kbG,hNI] at this;exact this
   rw [e4,e5,e7,e10,e11,e13,e14,e15,s16,s17,s18]
   clear hfr hm hcut e4 e5 e7 e10 e11 e13 e14 e15 s16 s17 s18 hNI hNI' hsl hnx
   go_wp2_with fail
   refine ⟨⟨rfl,rfl,rfl,rfl,rfl,rfl,rfl,rfl,rfl,rfl⟩,?_⟩
   first|exact HM.out | exact ⟨rfl,rfl,rfl,HM.out⟩
  ·clear hfr s16 s17 s18 hm a w
   rintro a w ⟨hfr,s16,s17,s18,hm⟩
   refine wp_seq (wp_block (wp_mono (dr_it ok mR nL mJ a w hfr s16 s17 s18 hm hmR hmJ hy hcut) ?_))
   clear hfr s16 s17 s18 hm hcut
   intro e a6 w6 h6
   cases e with
   |goto l=>exact h6
   |exit id =>
    obtain ⟨rfl,h7⟩:=h6
    exact ⟨rfl,h7⟩
   |ret=>exact h6
   |panic _=>exact h6.elim
   |outgrown=>exact h6.elim
   |normal =>
    show (Code.region _ _ _).wp _ _ _ _
    clear a w hy hNI hNI' hlt hsl hiT
    obtain ⟨hfr,h01,T01,F1,H1,p1,c1,q1,Dq1,D1,st1,B1,P1,off1,T1,s16,s17,s18,hm,hmR1,hmJ1,hl1,hi1,hcut⟩:=h6
    refine wp_mono (Q:=fun e a w=>e=.normal∧(DrFr X a∧a.tmps[16]?=some st1∧a.tmps[17]?=some (Ip (some ⟨rid T1,0,none⟩))∧a.tmps[18]?=some (Ii Ij i)∧DrM X w0 w h01 T01 F1 H1 p1 c1 q1 Dq1 D1 st1 B1 P1 off1 0 T1)) ?_ ?_
    ·skip
     obtain ⟨f,rfl,e4,e5,e7,e10,e11,e13,e14,e15⟩:=hfr.lit
     unfold kdJ at *
     simp only [zF,zE,zD,zc] at s16 s17 s18
     have hsl:T1.2.length≤X.mx:=hm.sh
     have HM:=zL hm
     have s1:Ij.wrap (i:Int)=(i:Int):=zh _ (by omega)
     have S1:=zL s1
     obtain ⟨sa,sc,hsf⟩:=hm.dw.so.sl.form
     subst hsf
     rw [e4,e5,e7,e10,e11,e13,e14,e15,s16,s17,s18]
     clear hfr hm hcut e4 e5 e7 e10 e11 e13 e14 e15 s16 s17 s18 hsl
     go_wp2_with fail
     refine ⟨⟨rfl,rfl,rfl,rfl,rfl,rfl,rfl,rfl,rfl,rfl⟩,?_⟩
     first|exact HM.out | exact ⟨S1.out,HM.out⟩ | exact ⟨rfl,rfl,by rw [S1.out],HM.out⟩
    ·clear hfr s16 s17 s18 hm
     rintro e a w ⟨rfl,hfr,s16,s17,s18,hm⟩
     refine ⟨⟨hfr,h01,T01,F1,H1,p1,c1,q1,Dq1,D1,st1,B1,P1,off1,T1,i,s16,s17,s18,hm,hmR1,hmJ1,hi1,hcut⟩,?_⟩
     rw [hm.mmu s17 s18]
     omega
end
end
section
variable {ord:List Int}{k:Kc ord}
section
variable {ord:List Int}
def drA (f:Func):Code:=cL (cR (cR (drBulk f)))
def drB57 (f:Func):Code:=cR (cR (cR (drBulk f)))
def drZ (f:Func):Code:=cL (cR (drB57 f))
def drB62 (f:Func):Code:=cR (cR (drB57 f))
def drCtM (f:Func):Code:=cR (drB62 f)
def LabA (X:DrX ord)(w0:World)(F:Nat→Prop)(H:HN ord)(rt:Option Nat)(cnt:Int)(p:It ord)(c:Int)(Dq:List (Bk ord))(st:Value)(es:List (Nat×Int))(n:Nat)(xs:List (It ord))(i mb:Nat)(fl:Bool)(a:Act)(w:World):Prop :=
 DrFr X a∧a.tmps[16]?=some st∧a.tmps[17]?=some (Ip (some ⟨n,0,none⟩))∧a.tmps[18]?=some (Ii Ij i)∧a.tmps[23]?=some (Ii Ij mb)∧a.tmps[24]?=some (.bool fl) ∧
  ∃(k:Nat) (q4:Value) (Dq4:List (Bk ord)),a.tmps[25]?=some (Ii Ij k)∧k≤mb∧(∀v∈(xs.drop i).take k,X.st v=false)∧Dq4.Perm (Dq++((xs.drop i).take k).map lone)∧kfF ltE Dq4∧DrW X w0 w F H rt cnt p (c+k) q4 Dq4 st es∧(fl=true→∃x,xs[i+k]?=some x∧X.st x=true)
def BulkA (X:DrX ord)(w0:World)(F:Nat→Prop)(H:HN ord)(rt:Option Nat)(cnt:Int)(p:It ord)(c:Int)(Dq:List (Bk ord))(st:Value)(es:List (Nat×Int))(n:Nat)(xs:List (It ord))(i mb:Nat)(a:Act)(w:World):Prop :=
 ∃fl,LabA X w0 F H rt cnt p c Dq st es n xs i mb fl a w
theorem DrM.sum {X:DrX ord}{w0 w:World}{h0:Nat}{T0:BT (It ord) h0}{F:Nat→Prop}{H:HN ord}{p:It ord}{c:Int}{q:Value}{Dq D:List (Bk ord)}{st:Value}{B P:List Nat}{off h:Nat}{T:BT (It ord) h}(m:DrM X w0 w h0 T0 F H p c q Dq D st B P off h T)(ok:DrOk X):(kdM (pl D)).length+(toL h T).length≤1000000000000:=by
 have h1:=m.ds.dg.perm.length_eq
 have h2:=ok.ll
 obtain ⟨_,A,C,_,hL⟩:=m.rd.lists m.ds.di.sh
 have h4:=congrArg List.length hL
 simp only [zT] at h1 h4
 omega
theorem dr_bA {X:DrX ord}{w0:World}(ok:DrOk X)(R:Exit→Act→World→Prop)(a:Act)(w:World){h0:Nat}{T0:BT (It ord) h0}{F:Nat→Prop}{H:HN ord}{p:It ord}{c:Int}{q:Value}{Dq D:List (Bk ord)}{st:Value}{B P:List Nat}{off:Nat}{T:BT (It ord) 0}{i mb:Nat}{w2:World}
  (hm:DrM X w0 w2 h0 T0 F H p c q Dq D st B P off 0 T)(hmb:i+mb≤T.2.length)(hz:LabA X w0 F H (some (rid T0)) (toL h0 T0).length p c Dq st (kdG P B (rid T)) (rid T) T.2 i mb false a w) :
  (drA Try.f58).wp Tp (kfZ (BulkA X w0 F H (some (rid T0)) (toL h0 T0).length p c Dq st (kdG P B (rid T)) (rid T) T.2 i mb)) a w:=by
 conv=>arg 2;whnf
 refine wp_block ?_
 refine wp_loop (LabA X w0 F H (some (rid T0)) (toL h0 T0).length p c Dq st (kdG P B (rid T)) (rid T) T.2 i mb false) (fun a _=>mb-numO (a.tmps[25]?)) hz ?_
 clear hz a w
 rintro a w ⟨hfr,s16,s17,s18,s23,s24,k,q4,Dq4,s25,hk,hms,hq,hh,hW,hfl⟩
 have hsum:=hm.sum ok
 have hsl:T.2.length≤X.mx:=hm.sh
 have hmx:=ok.m1000
 have hTl:(toL 0 T).length=T.2.length:=rfl
 obtain ⟨NI,hNI⟩:∃NI,(its T).length=NI:=⟨_,rfl⟩
 have hNI':T.2.length=NI:=hNI
 have HIT:=zL hm.isT
 have HNI:=zL hNI
 have HM:=zL hm
 have HQ:=zL (And.intro hq hh)
 have HS:=zL hms
 have HW:=zL hW
 obtain ⟨f,rfl,e4,e5,e7,e10,e11,e13,e14,e15⟩:=hfr.lit
 unfold kdJ at *
 simp only [zF,zE,zD,zc] at s16 s17 s18 s23 s24 s25
 have hmu:mb-numO (some (f 25))=mb-k:=by rw [s25];rfl
 simp only [zF,zE,zD]
 rw [hmu]
 rw [e4,e5,e7,e10,e11,e13,e14,e15,s16,s17,s18,s23,s24,s25]
 by_cases hlt:k<mb
 ·obtain ⟨x,hy⟩:∃x,T.2[i+k]?=some x:=⟨_,zH (by omega)⟩
  have hdx:(T.2.drop i)[k]?=some x:=by rw [List.getElem?_drop];exact hy
  have HDX:=zL hdx
  have HY:=zL (show (its T)[i+k]?=some x from hy)
  have b1:(0:Int)≤((i+k:Nat):Int):=by omega
  have b2:((i+k:Nat):Int)<(NI:Int):=by omega
  have b3:(k:Int)<(mb:Int):=by omega
  have b4:Ij.wrap ((i:Int)+(k:Int))=((i+k:Nat):Int):=by rw [zh _ (by omega)];omega
  have b5:Ij.wrap ((k:Int)+1)=((k+1:Nat):Int):=by rw [zh _ (by omega)];omega
  have b6:(((i+k:Nat):Int)).toNat=i+k:=by omega
  have HMS:=zL (maxstop_any hW x)
  have hl1000:T.2.length≤1000:=by omega
  obtain ⟨l1,hnx⟩:=hW.fam.node HIT.out.root
  have n2:w.cell? ⟨rid T,2,none⟩=some (Is (some ⟨l1.ib,l1.io,none⟩) NI l1.ic):=by have:=hnx.c2;rw [kbG,HNI.out] at this;exact this
  have y0:=hnx.mkey (j:=i+k) (by rw [kbG];exact HY.out)
  have y1:=hnx.mval (j:=i+k) (by rw [kbG];exact HY.out)
  clear hfr hm hW e4 e5 e7 e10 e11 e13 e14 e15 s16 s17 s18 s23 s24 s25 hy hdx hNI hNI' hsl hnx hq hh hms hfl hmu
  obtain ⟨sv,hsv⟩:∃sv,X.st x=sv:=⟨_,rfl⟩
  rw [hsv] at HMS
  have HSV:=zL hsv
  clear hsv
  go_wp2_with fail
  refine HMS.out.mono ?_
  rintro e w2 ⟨rfl,hc2⟩
  have hm2:=HW.out.keep hc2
  clear HW HMS y0 y1 n2 hc2
  have HW:=zL hm2
  clear hm2
  cases sv
  rotate_left
  ·go_wp2_with fail
   exact ⟨true,⟨rfl,rfl,rfl,rfl,rfl,rfl,rfl,rfl,rfl,rfl⟩,rfl,rfl,rfl,rfl,rfl,k,q4,Dq4,rfl,by omega,HS.out,HQ.out.1,HQ.out.2,HW.out,fun _=>⟨x,HY.out,HSV.out⟩⟩
  ·obtain ⟨l2,hnx⟩:=HW.out.fam.node HIT.out.root
   have n2:w2.cell? ⟨rid T,2,none⟩=some (Is (some ⟨l2.ib,l2.io,none⟩) NI l2.ic):=by have:=hnx.c2;rw [kbG,HNI.out] at this;exact this
   have y0:=hnx.mkey (j:=i+k) (by rw [kbG];exact HY.out)
   have y1:=hnx.mval (j:=i+k) (by rw [kbG];exact HY.out)
   have hlq:=HQ.out.1.length_eq
   have hlm:=HM.out.pm.length_eq
   have hlf:=len_flat D
   have hct:=HM.out.ct
   simp only [zT,List.length_map,zV,List.length_drop] at hlq
   have hap:=append_any (lone x) HW.out.lb HW.out.qo HQ.out.2 HW.out.mb.ord (by have:=ok.dl.1;have:=ok.o1;have:=ok.o2;have:=ok.o3;omega) HW.out.rw_ (DrOk.kb ok) (by omega) (fun _ h=>by cases h) (by rw [hct];omega) (by rw [hct];show _+((0:Nat):Int)≤_;omega)
   have hnp:(lone x:Bk ord).npA=none:=rfl
   rw [hnp] at hap
   have HAP:=zL hap
   clear hap hnp hnx hlq hlm hlf hct
   go_wp2_with fail
   refine HAP.out.mono ?_
   rintro e w4 ⟨rfl,q5,Dq5,hp4,hh4,hl4,ho4,hc4,hv4,hk4⟩
   have hdw4:=HW.out.app ok hl4 ho4 hc4 hv4 hk4
   have HW4:=zL hdw4
   have HP4:=zL (And.intro hp4 hh4)
   clear hp4 hh4 hl4 ho4 hc4 hv4 hk4 hdw4 HAP n2 y0 y1 HW
   go_wp2_with fail
   have e1:=take_snoc HDX.out
   have hW5:=HW4.out
   rw [show c+(k:Int)+1+(((lone x:Bk ord).kin.length:Nat):Int)=c+((k+1:Nat):Int) by show c+(k:Int)+1+((0:Nat):Int)=_;omega] at hW5
   refine And.intro ?_ (by show mb-(((k+1:Nat):Int)).toNat<mb-k;omega)
   unfold LabA
   refine ⟨⟨rfl,rfl,rfl,rfl,rfl,rfl,rfl,rfl,rfl,rfl⟩,rfl,rfl,rfl,rfl,rfl,k+1,q5,Dq5,rfl,hlt,?_,?_,HP4.out.2,hW5,fun h=>by cases h⟩
   ·intro v hv
    rw [e1] at hv
    rcases List.mem_append.1 hv with hv | hv
    ·exact HS.out v hv
    ·rw [List.mem_singleton.1 hv];exact HSV.out
   ·refine HP4.out.1.trans ((HQ.out.1.append_right _).trans ?_)
    rw [e1,List.map_append,zu]
    exact List.Perm.refl _
 ·have hkm:k=mb:=by omega
  have b3:¬(k:Int)<(mb:Int):=by omega
  clear hfr hm hW e4 e5 e7 e10 e11 e13 e14 e15 s16 s17 s18 s23 s24 s25 hNI hNI' hsl hq hh hms hfl hmu
  go_wp2_with fail
  exact ⟨false,⟨rfl,rfl,rfl,rfl,rfl,rfl,rfl,rfl,rfl,rfl⟩,rfl,rfl,rfl,rfl,rfl,k,q4,Dq4,by rw [hkm];rfl,by omega,HS.out,HQ.out.1,HQ.out.2,HW.out,fun h=>by cases h⟩
end
end
section
variable {ord:List Int}{k:Kc ord}
section
variable {ord:List Int}
def LabY (X:DrX ord)(w0:World)(H:HN ord)(rt:Option Nat)(cnt:Int)(p:It ord)(c:Int)(q:Value)(Dq:List (Bk ord))(st:Value)(es:List (Nat×Int))(n:Nat)(xs:List (It ord))(i k:Nat)(fl:Bool)(S:Act→Prop)(a:Act)(w:World):Prop :=
 DrFr X a∧a.tmps[16]?=some st∧a.tmps[17]?=some (Ip (some ⟨n,0,none⟩))∧a.tmps[18]?=some (Ii Ij i)∧a.tmps[24]?=some (.bool fl)∧a.tmps[25]?=some (Ii Ij k)∧S a ∧
  ∃(F7:Nat→Prop) (ys:List (It ord)),ys.length=xs.length∧ys.take (xs.length-k)=xs.take i++xs.drop (i+k)∧DrW X w0 w F7 (upd H n ⟨(xs.length:Nat),ys,none⟩) rt cnt p c q Dq st es
theorem dr_b57 {X:DrX ord}{w0:World}(ok:DrOk X)(a:Act)(w:World){h0:Nat}{T0:BT (It ord) h0}{F:Nat→Prop}{H:HN ord}{p:It ord}{c c4:Int}{q q4:Value}{Dq D Dq4:List (Bk ord)}{st:Value}{B P:List Nat}{off:Nat}{T:BT (It ord) 0}{i k:Nat}{w2:World}{fl:Bool}
  (hfr:DrFr X a)(s16:a.tmps[16]?=some st)(s17:a.tmps[17]?=some (Ip (some ⟨rid T,0,none⟩)))(s18:a.tmps[18]?=some (Ii Ij i))(s24:a.tmps[24]?=some (.bool fl))(s25:a.tmps[25]?=some (Ii Ij k))(hm:DrM X w0 w2 h0 T0 F H p c q Dq D st B P off 0 T)
  (hik:i+k≤T.2.length)(hlt:i<T.2.length)
  (hW:DrW X w0 w F H (some (rid T0)) (toL h0 T0).length p c4 q4 Dq4 st (kdG P B (rid T))) :
  (cL (drB57 Try.f58)).wp Tp (kfZ (LabY X w0 H (some (rid T0)) (toL h0 T0).length p c4 q4 Dq4 st (kdG P B (rid T)) (rid T) T.2 i k fl (fun _=>True))) a w:=by
 conv=>arg 2;whnf
 obtain ⟨f,rfl,e4,e5,e7,e10,e11,e13,e14,e15⟩:=hfr.lit
 unfold kdJ at *
 simp only [zF,zE,zD,zc] at s16 s17 s18 s24 s25
 have hsl:T.2.length≤X.mx:=hm.sh
 have hmx:=ok.m1000
 have hl1000:T.2.length≤1000:=by omega
 have HW4:=zL hW
 obtain ⟨l,hna,hb,ho,cl⟩:=hW.fam.work hm.isT.root
 have HR:=zL (Run.start hna)
 have HCL:=zL cl
 rw [e4,e5,e7,e10,e11,e13,e14,e15,s16,s17,s18,s24,s25]
 clear hfr hm e4 e5 e7 e10 e11 e13 e14 e15 s16 s17 s18 s24 s25 hW hna hb ho cl hsl
 obtain ⟨ik,hIK⟩:∃ik,i+k=ik:=⟨_,rfl⟩
 have HIK:=zL hIK
 have N2:w.cell? ⟨rid T,2,none⟩=some (Is (some ⟨l.ib,l.io,none⟩) T.2.length l.ic):=HR.out.at_.c2
 have hlenc:T.2.length≤l.ic:=HR.out.at_.len
 have s0:(0:Int)≤(i:Int):=by omega
 have s1:Ij.wrap ((i:Int)+(k:Int))=(ik:Int):=by rw [zh _ (by omega)];omega
 have s2:(0:Int)≤(ik:Int):=by omega
 have s4:(i:Int)≤(T.2.length:Int):=by omega
 have s5:(ik:Int)≤(T.2.length:Int):=by omega
 have hck2:¬l.ic=i:=by omega
 obtain ⟨sp,hif,hsp⟩:∃sp,(if l.ic=ik then some (⟨l.ib,l.io,none⟩:Addr) else some ⟨l.ib,l.io+(ik)*2,none⟩)=some sp∧(i+k<T.2.length→sp=⟨l.ib,l.io+(i+k)*2,none⟩):=by
  by_cases h:l.ic=ik
  ·exact ⟨_,by rw [if_pos h],fun h2=>by omega⟩
  ·exact ⟨_,by rw [if_neg h],fun _=>by rw [hIK]⟩
 have HSP:=zL hsp
 clear hsp hIK
 go_still_tail 14,(by kernel_rfl)
 refine wpList_downJ (p:=parM X.k) (by rfl) _ _ _ _ (by rfl) 27 (by kernel_rfl) kdD (HR.out.still ((zK _ _).drew)) i k (l.io+i*2) _ _ _ _ (show i+k≤T.2.length from hik) (show i<T.2.length from hlt) (by simp [parM]) (by rfl) sp (by rfl) (fun hh=>HSP.out hh) (by first|rfl | simp) (by rw [HIK.out];first|rfl | simp) ?_
 intro w8 ys r8 hys1 hys2
 have HY:=zL (And.intro hys1 hys2)
 have HR8:=zL r8
 clear r8 hys1 hys2 HR s0 s1 s2 s4 s5 hck2 hif N2 hlenc HSP
 go_wp2_with fail
 obtain ⟨f7,g7⟩:=HCL.out _ _ _ HR8.out
 have hW7:=HW4.out.nodes ok g7 f7 (fun b hb=>hb.elim .inl (fun h=>.inr h.1))
 exact ⟨⟨rfl,rfl,rfl,rfl,rfl,rfl,rfl,rfl,rfl,rfl⟩,rfl,rfl,rfl,rfl,rfl,trivial,_,ys,HY.out.1,HY.out.2,hW7⟩
theorem dr_b62 {X:DrX ord}{w0:World}(ok:DrOk X)(a:Act)(w:World){H:HN ord}{rt:Option Nat}{cnt:Int}{p:It ord}{c4:Int}{q4:Value}{Dq4:List (Bk ord)}{st:Value}{es:List (Nat×Int)}{n:Nat}{xs:List (It ord)}{i k:Nat}{fl:Bool}(hxl:xs.length≤1000)(hx0:1≤xs.length)(hk:i+k≤xs.length)(hz:LabY X w0 H rt cnt p c4 q4 Dq4 st es n xs i k fl (fun _=>True) a w) :
  (cL (drB62 Try.f58)).wp Tp (kfZ (fun a w=>DrFr X a∧a.tmps[16]?=some st∧a.tmps[17]?=some (Ip (some ⟨n,0,none⟩))∧a.tmps[18]?=some (Ii Ij i)∧a.tmps[24]?=some (.bool fl)∧a.tmps[25]?=some (Ii Ij k)∧∃F7,DrW X w0 w F7 (upd H n ⟨(xs.length:Nat),xs.take i++xs.drop (i+k),none⟩) rt cnt p c4 q4 Dq4 st es)) a w:=by
 obtain ⟨hfr,s16,s17,s18,s24,s25,_,F7,ys,hyl,hyt,hW⟩:=hz
 conv=>arg 2;whnf
 obtain ⟨f,rfl,e4,e5,e7,e10,e11,e13,e14,e15⟩:=hfr.lit
 unfold kdJ at *
 simp only [zF,zE,zD,zc] at s16 s17 s18 s24 s25
 have HW4:=zL hW
 obtain ⟨l,hna,hb,ho,cl⟩:=hW.fam.work (kbX _ _ _)
 have HR:=zL (Run.start hna)
 have HCL:=zL cl
 have HYT:=zL hyt
 have HYL:=zL hyl
 rw [e4,e5,e7,e10,e11,e13,e14,e15,s16,s17,s18,s24,s25]
 have hyb:1≤ys.length∧ys.length≤1001:=by rw [hyl];omega
 have hkl:k≤ys.length:=by rw [hyl];omega
 clear hfr e4 e5 e7 e10 e11 e13 e14 e15 s16 s17 s18 s24 s25 hW hna hb ho cl hyt hyl
 have N2:w.cell? ⟨n,2,none⟩=some (Is (some ⟨l.ib,l.io,none⟩) ys.length l.ic):=HR.out.at_.c2
 have z2:=HR.out.at_.fz 2
 have hlenc:ys.length≤l.ic:=HR.out.at_.len
 obtain ⟨m,hm⟩:∃m,ys.length-k=m:=⟨_,rfl⟩
 have s0:(0:Int)≤(m:Int):=by omega
 have s2:(m:Int)≤(l.ic:Int):=by omega
 have s1:Ij.wrap ((ys.length:Int)-(k:Int))=(m:Int):=by rw [zh _ (by omega)];omega
 have ck:¬l.ic=0:=by omega
 have r8:=(HR.out.still ((zK _ _).drew)).cut 0 m l.ic (by show 0+m≤ys.length;omega) (by omega) (by omega)
 simp only [Nat.zero_mul,Nat.add_zero,zb] at r8
 have HR8:=zL r8
 have HMM:=zL hm
 clear r8 hm
 go_still_tail 13,(by kernel_rfl)
 go_wp2_with fail
 have hR7:=HR8.out
 have hit:ys.take m=xs.take i++xs.drop (i+k):=by rw [←HMM.out,HYL.out];exact HYT.out
 rw [hit] at hR7
 obtain ⟨f7,g7⟩:=HCL.out _ _ _ hR7
 have hW7:=HW4.out.nodes ok g7 f7 (fun b hb=>hb.elim .inl (fun h=>.inr h.1))
 rw [upd_upd] at hW7
 refine ⟨⟨rfl,rfl,rfl,rfl,rfl,rfl,rfl,rfl,rfl,rfl⟩,?_⟩
 first|exact ⟨_,hW7⟩ | exact ⟨rfl,rfl,rfl,rfl,rfl,_,hW7⟩
end
end
section
variable {ord:List Int}{k:Kc ord}
section
variable {ord:List Int}
def InZ (n k:Nat)(a:Act):Prop:=∃m:Nat,a.tmps[26]?=some (Ii Ij m)∧n-k≤m∧m≤n
theorem dr_bZ {X:DrX ord}{w0:World}(ok:DrOk X)(a:Act)(w:World){H:HN ord}{rt:Option Nat}{cnt:Int}{p:It ord}{c4:Int}{q4:Value}{Dq4:List (Bk ord)}{st:Value}{es:List (Nat×Int)}{n:Nat}{xs:List (It ord)}{i k:Nat}{fl:Bool}(hxl:xs.length≤1000)(hk:i+k≤xs.length)(hz:LabY X w0 H rt cnt p c4 q4 Dq4 st es n xs i k fl (fun _=>True) a w) :
  (drZ Try.f58).wp Tp (kfZ (LabY X w0 H rt cnt p c4 q4 Dq4 st es n xs i k fl (fun _=>True))) a w:=by
 conv=>arg 2;whnf
 refine kgF (LabY X w0 H rt cnt p c4 q4 Dq4 st es n xs i k fl (InZ xs.length k)) ?_ ?_
 ·obtain ⟨hfr,s16,s17,s18,s24,s25,_,F7,ys,hyl,hyt,hW⟩:=hz
  obtain ⟨f,rfl,e4,e5,e7,e10,e11,e13,e14,e15⟩:=hfr.lit
  unfold kdJ at *
  simp only [zF,zE,zD,zc] at s16 s17 s18 s24 s25
  have HW4:=zL hW
  obtain ⟨l,hna⟩:=hW.fam.node (kbX _ _ _)
  obtain ⟨NI,hNI⟩:∃NI,xs.length=NI:=⟨_,rfl⟩
  obtain ⟨m,hm⟩:∃m,NI-k=m:=⟨_,rfl⟩
  have HY:=zL (And.intro hyl (And.intro hyt (And.intro hNI hm)))
  have N2:w.cell? ⟨n,2,none⟩=some (Is (some ⟨l.ib,l.io,none⟩) NI l.ic):=by have:=hna.c2;rw [hyl,hNI] at this;exact this
  have s1:Ij.wrap ((NI:Int)-(k:Int))=(m:Int):=by rw [zh _ (by omega)];omega
  rw [e4,e5,e7,e10,e11,e13,e14,e15,s16,s17,s18,s24,s25]
  clear hfr e4 e5 e7 e10 e11 e13 e14 e15 s16 s17 s18 s24 s25 hW hna hyt hyl hNI hm
  go_wp2_with fail
  exact ⟨⟨rfl,rfl,rfl,rfl,rfl,rfl,rfl,rfl,rfl,rfl⟩,rfl,rfl,rfl,rfl,rfl,⟨m,rfl,by rw [HY.out.2.2.1,HY.out.2.2.2];exact Nat.le_refl _,by have:=HY.out.2.2.1;have:=HY.out.2.2.2;omega⟩,F7,ys,HY.out.1,HY.out.2.1,HW4.out⟩
 ·clear hz a w
  intro a w hz
  refine wp_block ?_
  refine wp_loop (LabY X w0 H rt cnt p c4 q4 Dq4 st es n xs i k fl (InZ xs.length k)) (fun a _=>xs.length-numO (a.tmps[26]?)) hz ?_
  clear hz a w
  rintro a w ⟨hfr,s16,s17,s18,s24,s25,⟨m,s26,hm1,hm2⟩,F7,ys,hyl,hyt,hW⟩
  obtain ⟨f,rfl,e4,e5,e7,e10,e11,e13,e14,e15⟩:=hfr.lit
  unfold kdJ at *
  simp only [zF,zE,zD,zc] at s16 s17 s18 s24 s25 s26
  have hmu:xs.length-numO (some (f 26))=xs.length-m:=by rw [s26];rfl
  simp only [zF,zE,zD]
  rw [hmu]
  have HW4:=zL hW
  rw [e4,e5,e7,e10,e11,e13,e14,e15,s16,s17,s18,s24,s25,s26]
  have HYT:=zL hyt
  have HYL:=zL hyl
  by_cases hlt:m<ys.length
  ·obtain ⟨l,hna,hb,ho,cl⟩:=hW.fam.work (kbX _ _ _)
   have HR:=zL (Run.start hna)
   have HCL:=zL cl
   have N2:w.cell? ⟨n,2,none⟩=some (Is (some ⟨l.ib,l.io,none⟩) ys.length l.ic):=HR.out.at_.c2
   have x5:=kbB hW.x5 0
   simp only [zF,zD] at x5
   have hma:=hW.mb.at_
   have hlenc:ys.length≤l.ic:=HR.out.at_.len
   have s0:(0:Int)≤(m:Int):=by omega
   have s2:(m:Int)<(ys.length:Int):=by omega
   have z0:=HR.out.at_.ifz (l.io+m*2)
   have z1:=HR.out.at_.ifz (l.io+m*2+1)
   obtain ⟨y6,hy6⟩:∃y,ys[m]?=some y:=⟨_,zH hlt⟩
   have iv:=HR.out.at_.mval (j:=m) hy6
   have ik:=HR.out.at_.mkey (j:=m) hy6
   have h4:=hma.c4
   have h5:=hma.c5
   have r8:=(HR.out.still ((zK _ _).drew)).setItemM m ((0,0):It ord) hlt
   have HR8:=zL r8
   have b5:Ij.wrap ((m:Int)+1)=((m+1:Nat):Int):=by rw [zh _ (by omega)];omega
   clear hfr e4 e5 e7 e10 e11 e13 e14 e15 s16 s17 s18 s24 s25 s26 hmu hna hb ho cl hW hyt hyl hma hy6 r8
   go_upto_region 61 with fail
   go_still_tail 9,(by kernel_rfl)
   go_upto_region 60 with fail
   refine kbD (fun wz=>DrW X w0 wz (grow F7 w wz) (upd (upd H n ⟨(xs.length:Nat),ys,none⟩) n ⟨(xs.length:Nat),ys.set m (0,0),none⟩) rt cnt p c4 q4 Dq4 st es) (by
    obtain ⟨f7,g7⟩:=HCL.out _ _ _ HR8.out
    exact HW4.out.nodes ok g7 f7 (fun b hb=>hb.elim .inl (fun h=>.inr h.1))) ?_
   clear N2 x5 hlenc s0 z0 z1 iv ik h4 h5 HR8 HR HCL
   intro wz hwz
   have HWZ:=zL hwz
   clear hwz
   go_wp2_with fail
   have hW9:=HWZ.out
   rw [upd_upd] at hW9
   refine And.intro ?_ (by have:=HYL.out;show xs.length-(((m+1:Nat):Int)).toNat<xs.length-m;omega)
   unfold LabY InZ
   refine ⟨⟨rfl,rfl,rfl,rfl,rfl,rfl,rfl,rfl,rfl,rfl⟩,rfl,rfl,rfl,rfl,rfl,⟨m+1,rfl,by omega,by have:=HYL.out;omega⟩,_,ys.set m (0,0),by rw [zW];exact HYL.out,?_,hW9⟩
   rw [List.take_set_of_le (by omega)]
   exact HYT.out
  ·have b3:¬(m:Int)<(ys.length:Int):=by omega
   obtain ⟨l,hna⟩:=hW.fam.node (kbX _ _ _)
   have N2:w.cell? ⟨n,2,none⟩=some (Is (some ⟨l.ib,l.io,none⟩) ys.length l.ic):=hna.c2
   clear hfr e4 e5 e7 e10 e11 e13 e14 e15 s16 s17 s18 s24 s25 s26 hmu hna hW hyt hyl
   go_wp2_with fail
   exact ⟨⟨rfl,rfl,rfl,rfl,rfl,rfl,rfl,rfl,rfl,rfl⟩,rfl,rfl,rfl,rfl,rfl,trivial,F7,ys,HYL.out,HYT.out,HW4.out⟩
end
end
section
variable {ord:List Int}{k:Kc ord}
section
variable {ord:List Int}
theorem flat_lones (D:List (Bk ord)):∀M:List (It ord),(kdM (pl (D++M.map lone))).length=(kdM (pl D)).length+M.length
 |[]=>by rw [List.map_nil,List.append_nil];rfl
 |x::M=>by
  rw [List.map_cons,flat_lone,flat_lones D M]
  simp only [List.length_cons];omega
theorem flat_perm {D E:List (Bk ord)}(h:D.Perm E):(kdM (pl D)).length=(kdM (pl E)).length:=((h.map Bk.plain).flatMap_right _).length_eq
theorem dr_ctM {X:DrX ord}{w0:World}(ok:DrOk X)(mR nL mJ:Nat)(a:Act)(w:World){h0:Nat}{T0:BT (It ord) h0}{F F7:Nat→Prop}{H:HN ord}{p:It ord}{c:Int}{q q4:Value}{Dq D Dq4:List (Bk ord)}{st:Value}{B P:List Nat}{off:Nat}{T:BT (It ord) 0}{i m:Nat}{w2:World}{U M V:List (It ord)}{fl:Bool}
  (hfr:DrFr X a)(s16:a.tmps[16]?=some st)(s17:a.tmps[17]?=some (Ip (some ⟨rid T,0,none⟩)))(s18:a.tmps[18]?=some (Ii Ij i))(s24:a.tmps[24]?=some (.bool fl))(s25:a.tmps[25]?=some (Ii Ij m))(hm:DrM X w0 w2 h0 T0 F H p c q Dq D st B P off 0 T)(hmR:(toL h0 T0).length≤mR)(hmJ:2*(toL h0 T0).length<mJ)
  (hT:T.2=U++M++V)(hU:U.length=i)(hM:M.length=m)(hcut:CutP ltM p (toL h0 T0) (off+i))(hst:∀v∈M,X.st v=false)(hmn:X.mn≤(U++V).length)(hq:Dq4.Perm (Dq++M.map lone))(hh:kfF ltE Dq4)(hfl:fl=true→∃x V',V=x::V'∧X.st x=true)
  (hW:DrW X w0 w F7 (upd H (rid T) ⟨(T.2.length:Nat),U++V,none⟩) (some (rid T0)) (toL h0 T0).length p (c+(m:Int)) q4 Dq4 st (kdG P B (rid T))) :
  (drCtM Try.f58).wp Tp (LeafQ X w0 mR nL mJ (LabM' X w0 mR mJ)) a w:=by
 have hPB:=hm.rd.same.1
 have hsl:=stk_len (P:=P) (B:=B) (rid T) hPB
 obtain ⟨hnd,hrec⟩:=hm.recs ok (r1:=⟨(T.2.length:Nat),U++V,none⟩) rfl
 have hbig:=hm.big ok
 have hdp:=(hm.depth ok).2
 obtain ⟨Tf,hPO,hrd⟩:=drs_leaf M hm.ds hm.rd hT (by rw [hU];exact hcut) hst (fun _=>hmn)
 have eT:=congrArg List.length hT
 simp only [zT] at eT
 have hTX:T.2.length≤X.mx:=hm.sh
 have hmx:=ok.m1000
 have hbl:bmp (upd H (rid T) ⟨(T.2.length:Nat),U++V,none⟩) (P++[rid T]) (-(m:Int))=bmp (upd H (rid T) ⟨((U++V).length:Nat),U++V,none⟩) P (-(M.length:Int)):=by
  rw [bmp_last (fun hp=>((hm.rd.out hm.ds.di.nd).2.2 _ hp).1 (kcV _)),hM]
  have e2:((T.2.length:Nat):Int)+-(m:Int)=(((U++V).length:Nat):Int):=by simp only [zT];omega
  rw [←e2]
 conv=>arg 2;whnf
 obtain ⟨f,rfl,e4,e5,e7,e10,e11,e13,e14,e15⟩:=hfr.lit
 unfold kdJ at *
 simp only [zF,zE,zD,zc] at s16 s17 s18 s24 s25
 obtain ⟨sa,sc,hsf⟩:=hW.so.sl.form
 subst hsf
 obtain ⟨N,hN⟩:∃N,(kdG P B (rid T)).length=N:=⟨_,rfl⟩
 obtain ⟨ns,hns⟩:∃ns,P++[rid T]=ns:=⟨_,rfl⟩
 rw [hns] at hnd hrec hbl
 have hnl:ns.length=N:=by rw [←hns,←hN,hsl];simp
 rw [hN] at hW s16
 have HM:=zL hm
 have HN:=zL (And.intro hnl (And.intro hns hN))
 have HND:=zL hnd
 have HREC:=zL hrec
 have HPO:=zL (And.intro hPO hrd)
 have HBL:=zL hbl
 have HT:=zL (And.intro hT (And.intro hU (And.intro hM (And.intro hmn eT))))
 have HQ:=zL (And.intro hq hh)
 have HFL:=zL hfl
 have HCUT:=zL hcut
 have HPB:=zL hPB
 have HW:=zL hW
 have hNb:N≤1000000000001:=by omega
 have hm1000:m≤1000:=by omega
 have hi1000:i≤1000:=by omega
 rw [e4,e5,e7,e10,e11,e13,e14,e15,s16,s17,s18,s24,s25]
 clear hfr hm hcut e4 e5 e7 e10 e11 e13 e14 e15 s16 s17 s18 s24 s25 hT hU hM eT hTX hq hh hW hPO hrd hbl hns hnl hN hsl hnd hrec hPB hst hmn hfl
 go_wp2_with fail
 refine wp_loop (LabCt X w0 F7 (upd H (rid T) ⟨(T.2.length:Nat),U++V,none⟩) (some (rid T0)) (toL h0 T0).length p (c+(m:Int)) q4 Dq4 (.slice sa N sc) (kdG P B (rid T)) ns m 27 (fun a=>a.tmps[17]?=some (Ip (some ⟨rid T,0,none⟩))∧a.tmps[18]?=some (Ii Ij i)∧a.tmps[24]?=some (.bool fl)∧a.tmps[25]?=some (Ii Ij m))) (fun a _=>N-numO (a.tmps[27]?)) ?_ ?_
 ·exact ⟨⟨rfl,rfl,rfl,rfl,rfl,rfl,rfl,rfl,rfl,rfl⟩,rfl,⟨rfl,rfl,rfl,rfl⟩,0,Nat.zero_le _,rfl,by rw [List.take_zero,bmp_nil];exact HW.out⟩
 ·clear HW
  rintro a w ⟨hfr,s16,⟨s17,s18,s24,s25⟩,k,hk,s28,hWk⟩
  obtain ⟨f,rfl,e4,e5,e7,e10,e11,e13,e14,e15⟩:=hfr.lit
  unfold kdJ at *
  simp only [zF,zE,zD,zc] at s16 s17 s18 s24 s25 s28
  simp only [zF,zE,zD]
  have HWK:=zL hWk
  have hkN:k≤N:=by rw [←HN.out.1];exact hk
  rw [e4,e5,e7,e10,e11,e13,e14,e15,s16,s17,s18,s24,s25,s28]
  clear hfr hWk e4 e5 e7 e10 e11 e13 e14 e15 s16 s17 s18 s24 s25 s28 hk
  by_cases hlt:k<N
  ·obtain ⟨e,he⟩:∃e,(kdG P B (rid T))[k]?=some e:=⟨_,zH (by rw [HN.out.2.2];exact hlt)⟩
   have hek:=stk_get HPB.out he
   rw [HN.out.2.1] at hek
   obtain ⟨r,hr,hr0,hr1⟩:=HREC.out e.1 (zS hek)
   obtain ⟨b,o,rfl,hcell⟩:=HWK.out.so.sl.cell he
   have g0:=hcell 0 (Ip (some ⟨e.1,0,none⟩)) rfl
   have g0':w.cell? ⟨b,o+k*2,none⟩=some (Ip (some ⟨e.1,0,none⟩)):=g0
   have hrb:bmp (upd H (rid T) ⟨(T.2.length:Nat),U++V,none⟩) (ns.take k) (-(m:Int)) e.1=some r:=by rw [bmp_out (nodup_take HND.out hek)];exact hr
   obtain ⟨lk,hnk⟩:=HWK.out.fam.node hrb
   have c1:=hnk.c1
   have z1:=hnk.fz 1
   obtain ⟨rc,hrc⟩:∃rc,r.cnt=rc:=⟨_,rfl⟩
   have hct:=HWK.out.ct1 ok HND.out hek hr
   rw [hrc] at c1 hr0 hr1 hct
   have HCT:=zL hct
   have s1:Ij.wrap (rc-(m:Int))=rc-(m:Int):=zh _ (by omega)
   have j0:(0:Int)≤(k:Int):=by omega
   have j1:(k:Int)<(N:Int):=by omega
   have s3:Ij.wrap ((k:Int)+1)=((k+1:Nat):Int):=(by rw [zh _ (by omega)];omega)
   clear hcell g0 hnk he hek hr hrb hrc hct
   go_upto_region 65 with fail
   refine kbD (fun wz=>DrW X w0 wz F7 (bmp (upd H (rid T) ⟨(T.2.length:Nat),U++V,none⟩) (ns.take (k+1)) (-(m:Int))) (some (rid T0)) (toL h0 T0).length p (c+(m:Int)) q4 Dq4 (Is (some ⟨b,o,none⟩) N sc) (kdG P B (rid T))) HCT.out ?_
   clear g0' c1 z1 HCT
   intro wz hwz
   have HWZ:=zL hwz
   clear hwz
   go_wp2_with fail
   refine And.intro ?_ (by show N-(((k+1:Nat):Int)).toNat<N-((k:Nat):Int).toNat;omega)
   exact ⟨⟨rfl,rfl,rfl,rfl,rfl,rfl,rfl,rfl,rfl,rfl⟩,rfl,⟨rfl,rfl,rfl,rfl⟩,k+1,by rw [HN.out.1];omega,rfl,HWZ.out⟩
  ·have hkN2:k=N:=by omega
   have hnlt:¬(k:Int)<(N:Int):=by omega
   have hW8:=HWK.out
   have ek:ns.take k=ns:=by rw [hkN2,←HN.out.1,List.take_length]
   rw [ek,HBL.out] at hW8
   have x5:=kbB hW8.x5 0
   have c3:=hW8.mb.c3
   have z3:=hW8.mb.fz 3
   simp only [zF,zD] at x5
   obtain ⟨nL,hnL⟩:∃nL,(toL h0 T0).length=nL:=⟨_,rfl⟩
   have hW9:=hW8.count ok (((nL:Nat):Int)-(m:Int))
   rw [hnL] at c3 hbig
   have s1:Ij.wrap ((nL:Int)-(m:Int))=(nL:Int)-(m:Int):=zh _ (by omega)
   have HW9:=zL hW9
   have HNL:=zL hnL
   clear hW8 hW9 hnL hkN2 ek
   go_upto_region 68 with fail
   refine kbD (fun wz=>DrW X w0 wz F7 (bmp (upd H (rid T) ⟨((U++V).length:Nat),U++V,none⟩) P (-(M.length:Int))) (some (rid T0)) ((nL:Int)-(m:Int)) p (c+(m:Int)) q4 Dq4 (.slice sa N sc) (kdG P B (rid T))) HW9.out ?_
   clear x5 c3 z3 HW9
   intro wz hwz
   have HF:Hid (DrM X w0 wz h0 Tf F7 (bmp (upd H (rid T) ⟨((U++V).length:Nat),U++V,none⟩) P (-(M.length:Int))) p (c+(m:Int)) q4 Dq4 (Classical.choose HPO.out.1.split) (.slice sa N sc) B P off 0 (T.1,U++V)):=by
    obtain ⟨hPO,hrd⟩:=HPO.out
    obtain ⟨hD,hS⟩:=Classical.choose_spec hPO.split
    obtain ⟨hq1,hq2⟩:=HQ.out
    obtain ⟨hT1,hT2,hT3,hT4,hT5⟩:=HT.out
    have hlen:=hPO.len
    rw [HNL.out] at hlen
    have hdw:=hwz
    rw [←hPO.rid',show (nL:Int)-(m:Int)=(((toL h0 Tf).length:Nat):Int) by omega] at hdw
    refine zL ⟨hdw,hS,hq2,?_,?_,?_,hrd⟩
    ·exact hq1.trans ((HM.out.pm.append_right _).trans hD.symm)
    ·rw [HM.out.ct,flat_perm hD,flat_lones,hT3];omega
    ·by_cases hp:P=[]
     ·rw [hPO.root hp];have:=ok.m1;omega
     ·rw [hPO.rest hp];exact HM.out.one
   clear hwz
   cases fl
   ·go_wp2_with fail
    obtain ⟨hPO,hrd⟩:=HPO.out
    obtain ⟨hT1,hT2,hT3,hT4,hT5⟩:=HT.out
    have hlen:=hPO.len
    rw [HNL.out] at hlen
    have hnl2:=HNL.out
    refine ⟨⟨rfl,rfl,rfl,rfl,rfl,rfl,rfl,rfl,rfl,rfl⟩,h0,Tf,F7,_,p,_,q4,Dq4,_,.slice sa N sc,B,P,off,(T.1,U++V),i,rfl,rfl,rfl,HF.out,by omega,by omega,?_,?_⟩
    ·show i≤(U++V).length
     rw [zT];omega
    ·exact hPO.cut _ (by omega) HCUT.out
   ·obtain ⟨qa,qc,hqf⟩:=HF.out.dw.qo.sl.form
    subst hqf
    have l0:=HF.out.dw.lb.c0
    have l1:=HF.out.dw.lb.c1
    have l2:=HF.out.dw.lb.c2
    have l3:=HF.out.dw.lb.c3
    unfold kcQ at l0
    have r0:=kbB HF.out.dw.x10 0
    have r1:=kbB HF.out.dw.x10 1
    have r2:=kbB HF.out.dw.x10 2
    have r3:=kbB HF.out.dw.x10 3
    simp only [zF,zD,zE] at r0 r1 r2 r3
    have r4:=kbC HF.out.dw.x10 0
    have r5:=kbC HF.out.dw.x10 1
    have r6:=kbC HF.out.dw.x10 2
    have r7:=kbC HF.out.dw.x10 3
    go_wp2_with fail
    refine kbQ (fun wf=>Chg (fun b _=>b=X.s+3) wz wf∧wf.heap[X.s+3]?=some (Ic #[kcQ X.k,Ii Ij (c+(m:Int)),Ii Ij 0,(.slice qa Dq4.length qc)] 67 (0,0))) ⟨((((zK _ _).setCell (.inl rfl) _).setCell (.inl rfl) _).setCell (.inl rfl) _).setCell (.inl rfl) _,blk4r HF.out.dw.x10 _ _ _ _⟩ ?_
    clear l0 l1 l2 l3 r0 r1 r2 r3 r4 r5 r6 r7
    rintro wf ⟨hcf,hbf⟩
    refine ⟨rfl,rfl,c+(m:Int),_,F7,_,_,Dq4,_,hbf,(HF.out.out ?_).res ok hcf⟩
    obtain ⟨hPO,hrd⟩:=HPO.out
    obtain ⟨hT1,hT2,hT3,hT4,hT5⟩:=HT.out
    obtain ⟨x,V',hV,hx⟩:=HFL.out (by trivial)
    refine HF.out.ds.fin_stop X.st_mono (hPO.cut _ (by rw [hT2];exact Nat.le_refl _) HCUT.out) (item_leaf hrd HF.out.ds.di.sh (i:=i) (x:=x) ?_) hx
    show (U++V)[i]?=some x
    rw [hV,List.getElem?_append_right (by omega),hT2,Nat.sub_self];rfl
end
end
section
variable {ord:List Int}{k:Kc ord}
section
variable {ord:List Int}
theorem kdP {Pr:Program}{x y:Code}{Q:Exit→Act→World→Prop}{a:Act}{w:World}{M:Act→World→Prop}(h:x.wp Pr (kfZ M) a w)(h2:∀a w,M a w→y.wp Pr Q a w):(x.seq y).wp Pr Q a w:=by
 refine wp_seq (wp_mono h fun e a w he=>?_)
 cases e with
 |normal=>exact h2 a w he
 |_=>exact he.elim
theorem dr_bulk {X:DrX ord}{w0:World}(ok:DrOk X)(mR nL mJ:Nat)(a:Act)(w:World){h0:Nat}{T0:BT (It ord) h0}{F:Nat→Prop}{H:HN ord}{p:It ord}{c:Int}{q:Value}{Dq D:List (Bk ord)}{st:Value}{B P:List Nat}{off:Nat}{T:BT (It ord) 0}{i mb:Nat}
  (hfr:DrFr X a)(s16:a.tmps[16]?=some st)(s17:a.tmps[17]?=some (Ip (some ⟨rid T,0,none⟩)))(s18:a.tmps[18]?=some (Ii Ij i))(s23:a.tmps[23]?=some (Ii Ij mb))(hm:DrM X w0 w h0 T0 F H p c q Dq D st B P off 0 T)(hmR:(toL h0 T0).length≤mR)(hmJ:2*(toL h0 T0).length<mJ)
  (hcut:CutP ltM p (toL h0 T0) (off+i))(hmb:i+mb+X.mn≤T.2.length)(hmb1:1≤mb) :
  (drBulk Try.f58).wp Tp (LeafQ X w0 mR nL mJ (LabM' X w0 mR mJ)) a w:=by
 have hsl:T.2.length≤X.mx:=hm.sh
 have hmx:=ok.m1000
 conv=>arg 2;whnf
 refine wp_seq_mid2 (LabA X w0 F H (some (rid T0)) (toL h0 T0).length p c Dq st (kdG P B (rid T)) (rid T) T.2 i mb false) ?_ ?_
 ·have HM:=zL hm
  have HNI:=zL hmb
  obtain ⟨f,rfl,e4,e5,e7,e10,e11,e13,e14,e15⟩:=hfr.lit
  unfold kdJ at *
  simp only [zF,zE,zD,zc] at s16 s17 s18 s23
  obtain ⟨sa,sc,hsf⟩:=hm.dw.so.sl.form
  subst hsf
  rw [e4,e5,e7,e10,e11,e13,e14,e15,s16,s17,s18,s23]
  clear hfr hm hcut e4 e5 e7 e10 e11 e13 e14 e15 s16 s17 s18 s23 hmb hsl
  go_wp2_with fail
  refine ⟨⟨rfl,rfl,rfl,rfl,rfl,rfl,rfl,rfl,rfl,rfl⟩,rfl,rfl,rfl,rfl,rfl,0,q,Dq,rfl,Nat.zero_le _,fun v hv=>(by rw [List.take_zero] at hv;cases hv),by rw [List.take_zero,List.map_nil,List.append_nil],HM.out.hp,?_,fun h=>by cases h⟩
  have:=HM.out.dw
  rw [show c+((0:Nat):Int)=c by omega]
  exact this
 ·clear hfr s16 s17 s18 s23 a
  intro a w3 hA
  refine kdP (dr_bA ok (fun _ _ _=>False) a w3 hm (by omega) hA) ?_
  clear hA a w3
  rintro a w3 ⟨fl,hfr,s16,s17,s18,s23,s24,k,q4,Dq4,s25,hk,hms,hq,hh,hW,hfl⟩
  refine kdP (dr_b57 ok a w3 hfr s16 s17 s18 s24 s25 hm (by omega) (by omega) hW) ?_
  clear hfr s16 s17 s18 s23 s24 s25 a w3 hW
  intro a w3 hY
  refine kdP (dr_bZ ok a w3 (by omega) (by omega) hY) ?_
  clear hY a w3
  intro a w3 hY
  refine kdP (dr_b62 ok a w3 (by omega) (by omega) (by omega) hY) ?_
  clear hY a w3
  rintro a w3 ⟨hfr,s16,s17,s18,s24,s25,F7,hW⟩
  refine dr_ctM ok mR nL mJ a w3 (U:=T.2.take i) (M:=(T.2.drop i).take k) (V:=T.2.drop (i+k)) hfr s16 s17 s18 s24 s25 hm hmR hmJ ?_ ?_ ?_ hcut hms ?_ hq hh ?_ hW
  ·rw [zu,←List.drop_drop,zw,zw]
  ·rw [zV];omega
  ·rw [zV,List.length_drop];omega
  ·rw [zT,zV,List.length_drop];omega
  ·intro h
   obtain ⟨x,hx,hsx⟩:=hfl h
   exact ⟨x,_,drop_consX hx,hsx⟩
end
end
section
variable {ord:List Int}{k:Kc ord}
section
variable {ord:List Int}
theorem wp_seqL {Pr:Program}{X:DrX ord}{w0:World}{mR nL mJ:Nat}{x y:Code}{N:Act→World→Prop}{Q:Exit→Act→World→Prop}{a:Act}{w:World}{M:Act→World→Prop}(hQ:∀e a w,e≠.normal→NextQ X w0 mR nL mJ e a w→Q e a w)(h:x.wp Pr (LeafQ X w0 mR nL mJ M) a w)(h2:∀a w,M a w→y.wp Pr Q a w):(x.seq y).wp Pr Q a w:=by
 refine wp_seq (wp_mono h fun e a w he=>?_)
 cases e with
 |normal=>exact h2 a w he
 |panic _=>exact hQ _ _ _ (by simp) he
 |_=>exact hQ _ _ _ (by simp) he
theorem dr_leafA {X:DrX ord}{w0:World}(ok:DrOk X)(a:Act)(w:World){h0:Nat}{T0:BT (It ord) h0}{F:Nat→Prop}{H:HN ord}{p:It ord}{c:Int}{q:Value}{Dq D:List (Bk ord)}{st:Value}{B P:List Nat}{off:Nat}{T:BT (It ord) 0}{i:Nat}
  (hfr:DrFr X a)(s16:a.tmps[16]?=some st)(s17:a.tmps[17]?=some (Ip (some ⟨rid T,0,none⟩)))(s18:a.tmps[18]?=some (Ii Ij i))(hm:DrM X w0 w h0 T0 F H p c q Dq D st B P off 0 T)(hiT:i≤T.2.length) :
  (cL (drLeaf Try.f58)).wp Tp (kfZ fun a w=>DrFr X a∧a.tmps[16]?=some st∧a.tmps[17]?=some (Ip (some ⟨rid T,0,none⟩))∧a.tmps[18]?=some (Ii Ij i)∧a.tmps[23]?=some (Ii Ij ((T.2.length:Int)-(i:Int)-(X.mn:Int)))∧DrM X w0 w h0 T0 F H p c q Dq D st B P off 0 T) a w:=by
 conv=>arg 2;whnf
 obtain ⟨f,rfl,e4,e5,e7,e10,e11,e13,e14,e15⟩:=hfr.lit
 unfold kdJ at *
 simp only [zF,zE,zD,zc] at s16 s17 s18
 have hsl:T.2.length≤X.mx:=hm.sh
 have hmx:=ok.m1000
 have hmn:=ok.mh
 obtain ⟨NI,hNI⟩:∃NI,T.2.length=NI:=⟨_,rfl⟩
 rw [hNI] at hiT hsl ⊢
 obtain ⟨sa,sc,hsf⟩:=hm.dw.so.sl.form
 subst hsf
 have HM:=zL hm
 have x5:=kbB hm.dw.x5 0
 have t10:=kbB hm.dw.mb.blk 10
 simp only [zF,zD,zE] at x5 t10
 obtain ⟨l1,hnx⟩:=hm.dw.fam.node hm.isT.root
 have n2:w.cell? ⟨rid T,2,none⟩=some (Is (some ⟨l1.ib,l1.io,none⟩) NI l1.ic):=by have:=hnx.c2;rw [kbG] at this;rw [←hNI];exact this
 have s1:Ij.wrap ((NI:Int)-(i:Int))=(NI:Int)-(i:Int):=zh _ (by omega)
 have s2:Ij.wrap ((NI:Int)-(i:Int)-(X.mn:Int))=(NI:Int)-(i:Int)-(X.mn:Int):=zh _ (by omega)
 rw [e4,e5,e7,e10,e11,e13,e14,e15,s16,s17,s18]
 clear hfr hm e4 e5 e7 e10 e11 e13 e14 e15 s16 s17 s18 hsl hnx hmn
 go_wp2_with fail
 go_quiet (fail)
 refine ⟨⟨rfl,rfl,rfl,rfl,rfl,rfl,rfl,rfl,rfl,rfl⟩,?_⟩
 exact ⟨rfl,rfl,rfl,rfl,HM.out.keep ((zK _ _).drewN _)⟩
theorem dr_leaf {X:DrX ord}{w0:World}(ok:DrOk X)(mR nL mJ:Nat)(a:Act)(w:World){h0:Nat}{T0:BT (It ord) h0}{F:Nat→Prop}{H:HN ord}{p:It ord}{c:Int}{q:Value}{Dq D:List (Bk ord)}{st:Value}{B P:List Nat}{off:Nat}{T:BT (It ord) 0}{i:Nat}
  (hfr:DrFr X a)(s16:a.tmps[16]?=some st)(s17:a.tmps[17]?=some (Ip (some ⟨rid T,0,none⟩)))(s18:a.tmps[18]?=some (Ii Ij i))(hm:DrM X w0 w h0 T0 F H p c q Dq D st B P off 0 T)(hmR:(toL h0 T0).length≤mR)(hmJ:2*(toL h0 T0).length<mJ)
  (hiT:i≤T.2.length)(hcut:CutP ltM p (toL h0 T0) (off+i)) :
  (drLeaf Try.f58).wp Tp (NextQ X w0 mR nL mJ) a w:=by
 conv=>arg 2;whnf
 refine kdP (dr_leafA ok a w hfr s16 s17 s18 hm hiT) ?_
 clear hfr s16 s17 s18 hm a w
 rintro a w ⟨hfr,s16,s17,s18,s23,hm⟩
 refine wp_seqL (X:=X) (w0:=w0) (mR:=mR) (nL:=nL) (mJ:=mJ) (N:=fun _ _=>True) (M:=LabM' X w0 mR mJ) (fun _ _ _ _ h=>h) ?_ ?_
 ·have hsl:T.2.length≤X.mx:=hm.sh
  have hmx:=ok.m1000
  obtain ⟨d,hd⟩:∃d:Int,(T.2.length:Int)-(i:Int)-(X.mn:Int)=d:=⟨_,rfl⟩
  rw [hd] at s23
  refine kgF (fun a w=>a.tmps[371]?=some (.bool (decide (1<d)))∧DrFr X a∧a.tmps[16]?=some st∧a.tmps[17]?=some (Ip (some ⟨rid T,0,none⟩))∧a.tmps[18]?=some (Ii Ij i)∧a.tmps[23]?=some (Ii Ij d)∧DrM X w0 w h0 T0 F H p c q Dq D st B P off 0 T) ?_ ?_
  ·have HM:=zL hm
   obtain ⟨f,rfl,e4,e5,e7,e10,e11,e13,e14,e15⟩:=hfr.lit
   unfold kdJ at *
   simp only [zF,zE,zD,zc] at s16 s17 s18 s23
   obtain ⟨sa,sc,hsf⟩:=hm.dw.so.sl.form
   subst hsf
   rw [e4,e5,e7,e10,e11,e13,e14,e15,s16,s17,s18,s23]
   clear hfr hm e4 e5 e7 e10 e11 e13 e14 e15 s16 s17 s18 s23 hsl hcut
   go_wp2_with fail
   first
    |exact ⟨⟨rfl,rfl,rfl,rfl,rfl,rfl,rfl,rfl,rfl,rfl⟩,HM.out⟩
    |exact ⟨rfl,⟨rfl,rfl,rfl,rfl,rfl,rfl,rfl,rfl,rfl,rfl⟩,rfl,rfl,rfl,rfl,HM.out⟩
  ·clear hfr s16 s17 s18 s23 hm a w
   rintro a w ⟨s371,hfr,s16,s17,s18,s23,hm⟩
   have hev:a.eval (.tmp 371)=.bool (decide (1<d)):=by
    show a.tmps.getD 371 undef=_
    rw [Array.getD_eq_getD_getElem?,s371];rfl
   by_cases hdd:1<d
   ·rw [decide_eq_true hdd] at hev
    refine wp_cond_true hev ?_
    refine dr_bulk ok mR nL mJ a w (mb:=d.toNat) hfr s16 s17 s18 ?_ hm hmR hmJ hcut (by omega) (by omega)
    rw [s23,Int.toNat_of_nonneg (by omega)]
   ·rw [decide_eq_false hdd] at hev
    refine wp_cond_false hev (wp_skip ?_)
    exact ⟨hfr,h0,T0,F,H,p,c,q,Dq,D,st,B,P,off,T,i,s16,s17,s18,hm,hmR,hmJ,hiT,hcut⟩
 ·clear hfr s16 s17 s18 s23 hm hmR hmJ hiT hcut a w
  intro a w hM
  refine wp_seqL (X:=X) (w0:=w0) (mR:=mR) (nL:=nL) (mJ:=mJ) (N:=fun _ _=>True) (M:=LabZ' X w0 mR mJ) (fun _ _ _ _ h=>h) (dr_loop ok mR nL mJ a w hM) ?_
  intro a w hZ
  exact dr_up ok mR nL mJ a w hZ
end
end
end Go.Proofs.Ytnohimhihombmaa
