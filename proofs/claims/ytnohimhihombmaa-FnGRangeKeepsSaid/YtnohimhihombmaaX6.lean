/- DeleteRangeReuse: may an item go with the child behind it? With the call, at the root. -/
import Derived.Test.YtnohimhihombmaaX4
namespace Go.Proofs.Ytnohimhihombmaa
set_option linter.unusedSimpArgs false
set_option linter.unusedVariables false
set_option maxRecDepth 100000
set_option maxHeartbeats 40000000
open Value renaming int → Ii, pointer → Ip, slice → Is, tuple → Iu
open IntKind renaming i64 → Ij
open Obj renaming cells → Ic
open Ending renaming returned → Ir
open Option.some renaming inj → Iq
open _root_.Go.Proofs.Try renaming prog → Tp
open List renaming setIfInBounds_toArray → zA, set_cons_zero → zB, set_cons_succ → zC, getElem?_cons_zero → zD, getElem?_cons_succ → zE, getElem?_toArray → zF, getElem?_eq_getElem → zH
open Region renaming wanted → zI
open Act renaming put → zJ
open Chg renaming refl → zK
open Lib renaming hid → zL
open Option renaming some.injEq → zc
open IntWalk renaming i64_in → zh
open Go.RowKit
section
variable {ord:List Int}{k:Kc ord}
section
variable {ord:List Int}
def TestQ (X:DrX ord)(w0:World){h0:Nat}(T0:BT (It ord) h0)(F:Nat→Prop)(H:HN ord)(p:It ord)(c:Int)(q:Value)(Dq D:List (Bk ord))(st:Value)(B P:List Nat)(off:Nat){h:Nat}(T:BT (It ord) (h+1))(i:Nat)(fd:Bool)(a:Act)(w:World):Prop :=
 ∃b:Bool,a.tmps[146]?=some (.bool b)∧(b=true→i+1<T.2.1.length∧(P≠[]→X.mn<T.2.1.length)∧∃y,T.2.1[i+1]?=some y∧ltM y X.hi=true) ∧
  DrFr X a∧a.tmps[16]?=some st∧a.tmps[17]?=some (Ip (some ⟨rid T,0,none⟩))∧a.tmps[18]?=some (Ii Ij i)∧a.tmps[19]?=some (.bool fd)∧DrM X w0 w h0 T0 F H p c q Dq D st B P off (h+1) T
theorem dr_testA {X:DrX ord}{w0:World}(ok:DrOk X)(a:Act)(w:World){h0:Nat}{T0:BT (It ord) h0}{F:Nat→Prop}{H:HN ord}{p:It ord}{c:Int}{q:Value}{Dq D:List (Bk ord)}{st:Value}{B P:List Nat}{off h:Nat}{T:BT (It ord) (h+1)}{i:Nat}{fd:Bool}
  (hfr:DrFr X a)(s16:a.tmps[16]?=some st)(s17:a.tmps[17]?=some (Ip (some ⟨rid T,0,none⟩)))(s18:a.tmps[18]?=some (Ii Ij i))(s19:a.tmps[19]?=some (.bool fd))(hm:DrM X w0 w h0 T0 F H p c q Dq D st B P off (h+1) T)(hi:i≤T.2.1.length)(c1:¬i<T.2.1.length-1) :
  (drTest Try.f58).wp Tp (kfZ (TestQ X w0 T0 F H p c q Dq D st B P off T i fd)) a w:=by
 conv=>arg 2;whnf
 obtain ⟨f,rfl,e4,e5,e7,e10,e11,e13,e14,e15⟩:=hfr.lit
 unfold kdJ at *
 simp only [zF,zE,zD,zc] at s16 s17 s18 s19
 have hsl:T.2.1.length≤X.mx:=hm.sh.len
 have hmx:=ok.m1000
 have hpos:1≤T.2.1.length:=hm.pos ok
 obtain ⟨NI,hNI⟩:∃NI,T.2.1.length=NI:=⟨_,rfl⟩
 obtain ⟨NJ,hNJ⟩:∃NJ,NI-1=NJ:=⟨_,rfl⟩
 obtain ⟨ik,hIK⟩:∃ik,i+1=ik:=⟨_,rfl⟩
 have HIK:=zL hIK
 obtain ⟨sa,sc,hsf⟩:=hm.dw.so.sl.form
 subst hsf
 obtain ⟨N,hN⟩:∃N,(kdG P B (rid T)).length=N:=⟨_,rfl⟩
 have hdp:=hm.depth ok
 rw [hN] at hdp hm
 have HDP:=zL hdp
 clear hdp
 have HM:=zL hm
 have HN:=zL (And.intro hN hNI)
 have x5:=kbB hm.dw.x5 0
 have t10:=kbB hm.dw.mb.blk 10
 simp only [zF,zD,zE] at x5 t10
 obtain ⟨l,hnx⟩:=hm.dw.fam.node hm.isT.root
 have n2:w.cell? ⟨rid T,2,none⟩=some (Is (some ⟨l.ib,l.io,none⟩) NI l.ic):=by rw [←hNI];exact hnx.c2
 have s1:Ij.wrap ((NI:Int)-1)=(NJ:Int):=by rw [zh _ (by omega)];omega
 have s2:Ij.wrap ((i:Int)+1)=(ik:Int):=by rw [zh _ (by omega)];omega
 rw [e4,e5,e7,e10,e11,e13,e14,e15,s16,s17,s18,s19,hN]
 clear hfr hm e4 e5 e7 e10 e11 e13 e14 e15 s16 s17 s18 s19 hnx hN
 have g1:¬i<NJ:=by omega
 have g1':¬(i:Int)<(NJ:Int):=by omega
 clear c1 hNI hNJ hIK hpos hsl
 go_wp2_with fail
 go_quiet (fail)
 exact ⟨false,rfl,(fun h=>by cases h),⟨rfl,rfl,rfl,rfl,rfl,rfl,rfl,rfl,rfl,rfl⟩,rfl,rfl,rfl,rfl,HM.out.keep ((zK _ _).drewN _)⟩
theorem dr_testD {X:DrX ord}{w0:World}(ok:DrOk X)(a:Act)(w:World){h0:Nat}{T0:BT (It ord) h0}{F:Nat→Prop}{H:HN ord}{p:It ord}{c:Int}{q:Value}{Dq D:List (Bk ord)}{st:Value}{B P:List Nat}{off h:Nat}{T:BT (It ord) (h+1)}{i:Nat}{fd:Bool}
  (hfr:DrFr X a)(s16:a.tmps[16]?=some st)(s17:a.tmps[17]?=some (Ip (some ⟨rid T,0,none⟩)))(s18:a.tmps[18]?=some (Ii Ij i))(s19:a.tmps[19]?=some (.bool fd))(hm:DrM X w0 w h0 T0 F H p c q Dq D st B P off (h+1) T)(hi:i≤T.2.1.length)(c1:i<T.2.1.length-1)(c2:¬X.mn<T.2.1.length)(c4:¬(kdG P B (rid T)).length=1) :
  (drTest Try.f58).wp Tp (kfZ (TestQ X w0 T0 F H p c q Dq D st B P off T i fd)) a w:=by
 conv=>arg 2;whnf
 obtain ⟨f,rfl,e4,e5,e7,e10,e11,e13,e14,e15⟩:=hfr.lit
 unfold kdJ at *
 simp only [zF,zE,zD,zc] at s16 s17 s18 s19
 have hsl:T.2.1.length≤X.mx:=hm.sh.len
 have hmx:=ok.m1000
 have hpos:1≤T.2.1.length:=hm.pos ok
 obtain ⟨NI,hNI⟩:∃NI,T.2.1.length=NI:=⟨_,rfl⟩
 obtain ⟨NJ,hNJ⟩:∃NJ,NI-1=NJ:=⟨_,rfl⟩
 obtain ⟨ik,hIK⟩:∃ik,i+1=ik:=⟨_,rfl⟩
 have HIK:=zL hIK
 obtain ⟨sa,sc,hsf⟩:=hm.dw.so.sl.form
 subst hsf
 obtain ⟨N,hN⟩:∃N,(kdG P B (rid T)).length=N:=⟨_,rfl⟩
 have hdp:=hm.depth ok
 rw [hN] at hdp hm
 have HDP:=zL hdp
 clear hdp
 have HM:=zL hm
 have HN:=zL (And.intro hN hNI)
 have x5:=kbB hm.dw.x5 0
 have t10:=kbB hm.dw.mb.blk 10
 simp only [zF,zD,zE] at x5 t10
 obtain ⟨l,hnx⟩:=hm.dw.fam.node hm.isT.root
 have n2:w.cell? ⟨rid T,2,none⟩=some (Is (some ⟨l.ib,l.io,none⟩) NI l.ic):=by rw [←hNI];exact hnx.c2
 have s1:Ij.wrap ((NI:Int)-1)=(NJ:Int):=by rw [zh _ (by omega)];omega
 have s2:Ij.wrap ((i:Int)+1)=(ik:Int):=by rw [zh _ (by omega)];omega
 rw [e4,e5,e7,e10,e11,e13,e14,e15,s16,s17,s18,s19,hN]
 clear hfr hm e4 e5 e7 e10 e11 e13 e14 e15 s16 s17 s18 s19 hnx hN
 have g1:i<NJ:=by omega
 have g1':(i:Int)<(NJ:Int):=by omega
 have g2:¬X.mn<NI:=by omega
 have g2':¬(X.mn:Int)<(NI:Int):=by omega
 have g3:1<NI:=by omega
 have g3':(1:Int)<(NI:Int):=by omega
 have g4:¬N=1:=by rw [←HN.out.1];exact c4
 have g4':¬(N:Int)=1:=by omega
 clear c1 c2 c4 hNI hNJ hIK hpos hsl
 go_wp2_with fail
 go_quiet (fail)
 exact ⟨false,rfl,(fun h=>by cases h),⟨rfl,rfl,rfl,rfl,rfl,rfl,rfl,rfl,rfl,rfl⟩,rfl,rfl,rfl,rfl,HM.out.keep ((zK _ _).drewN _)⟩
end
end
section
variable {ord:List Int}{k:Kc ord}
section
variable {ord:List Int}
theorem dr_testB {X:DrX ord}{w0:World}(ok:DrOk X)(a:Act)(w:World){h0:Nat}{T0:BT (It ord) h0}{F:Nat→Prop}{H:HN ord}{p:It ord}{c:Int}{q:Value}{Dq D:List (Bk ord)}{st:Value}{B P:List Nat}{off h:Nat}{T:BT (It ord) (h+1)}{i:Nat}{fd:Bool}
  (hfr:DrFr X a)(s16:a.tmps[16]?=some st)(s17:a.tmps[17]?=some (Ip (some ⟨rid T,0,none⟩)))(s18:a.tmps[18]?=some (Ii Ij i))(s19:a.tmps[19]?=some (.bool fd))(hm:DrM X w0 w h0 T0 F H p c q Dq D st B P off (h+1) T)(hi:i≤T.2.1.length)(c1:i<T.2.1.length-1)(c2:X.mn<T.2.1.length) :
  (drTest Try.f58).wp Tp (kfZ (TestQ X w0 T0 F H p c q Dq D st B P off T i fd)) a w:=by
 conv=>arg 2;whnf
 obtain ⟨f,rfl,e4,e5,e7,e10,e11,e13,e14,e15⟩:=hfr.lit
 unfold kdJ at *
 simp only [zF,zE,zD,zc] at s16 s17 s18 s19
 have hsl:T.2.1.length≤X.mx:=hm.sh.len
 have hmx:=ok.m1000
 have hpos:1≤T.2.1.length:=hm.pos ok
 obtain ⟨NI,hNI⟩:∃NI,T.2.1.length=NI:=⟨_,rfl⟩
 obtain ⟨NJ,hNJ⟩:∃NJ,NI-1=NJ:=⟨_,rfl⟩
 obtain ⟨ik,hIK⟩:∃ik,i+1=ik:=⟨_,rfl⟩
 have HIK:=zL hIK
 obtain ⟨sa,sc,hsf⟩:=hm.dw.so.sl.form
 subst hsf
 obtain ⟨N,hN⟩:∃N,(kdG P B (rid T)).length=N:=⟨_,rfl⟩
 have hdp:=hm.depth ok
 rw [hN] at hdp hm
 have HDP:=zL hdp
 clear hdp
 have HM:=zL hm
 have HN:=zL (And.intro hN hNI)
 have x5:=kbB hm.dw.x5 0
 have t10:=kbB hm.dw.mb.blk 10
 simp only [zF,zD,zE] at x5 t10
 have s1:Ij.wrap ((NI:Int)-1)=(NJ:Int):=by rw [zh _ (by omega)];omega
 have s2:Ij.wrap ((i:Int)+1)=(ik:Int):=by rw [zh _ (by omega)];omega
 rw [e4,e5,e7,e10,e11,e13,e14,e15,s16,s17,s18,s19,hN]
 clear hfr hm e4 e5 e7 e10 e11 e13 e14 e15 s16 s17 s18 s19 hN
 have g1:i<NJ:=by omega
 have g1':(i:Int)<(NJ:Int):=by omega
 have g2:X.mn<NI:=by omega
 have g2':(X.mn:Int)<(NI:Int):=by omega
 have HPP:=zL (fun (_:P≠[])=>c2)
 obtain ⟨y,hy⟩:∃y,T.2.1[i+1]?=some y:=⟨_,zH (by omega)⟩
 obtain ⟨l1,hnx⟩:=HM.out.dw.fam.node HM.out.isT.root
 have n2:w.cell? ⟨rid T,2,none⟩=some (Is (some ⟨l1.ib,l1.io,none⟩) NI l1.ic):=by rw [←hNI];exact hnx.c2
 have y0:=hnx.mkey (j:=i+1) (x:=y) hy
 have y1:=hnx.mval (j:=i+1) (x:=y) hy
 rw [HIK.out] at y0 y1
 have y4:=(HM.out.dw.mb.at_).c6l
 unfold kcQ at y4
 have y2:=kbB HM.out.dw.x7 0
 have y3:=kbB HM.out.dw.x7 1
 simp only [zF,zD,zE] at y2 y3
 have b1:(0:Int)≤(ik:Int):=by omega
 have b2:(ik:Int)<(NI:Int):=by omega
 have HY:=zL (And.intro hy (show i+1<T.2.1.length from by omega))
 have HO:=zL HM.out.dw.mb.ord
 clear hy hnx
 refine kbM (fun w'=>w'.cell? ⟨X.s,0,none⟩=some (Ip (some ⟨X.t,0,none⟩))∧w'.cell? ⟨X.t,6,none⟩=some (.func (.func 63) #[] #[Ip (some ⟨X.k.ob,0,none⟩)])∧w'.cell? ⟨X.t,10,none⟩=some (Ii Ij X.mn)∧w'.cell? ⟨X.s+2,0,none⟩=some (Ii Ij X.hi.1)∧w'.cell? ⟨X.s+2,1,none⟩=some (Ii Ij X.hi.2)∧w'.cell? ⟨rid T,2,none⟩=some (Is (some ⟨l1.ib,l1.io,none⟩) NI l1.ic)∧w'.cell? ⟨l1.ib,l1.io+ik*2,none⟩=some (Ii Ij y.1)∧w'.cell? ⟨l1.ib,l1.io+ik*2+1,none⟩=some (Ii Ij y.2)) (.soft 0 (.soft 1 (.soft 2 (.soft 3 (.soft 4 (.soft 5 (.soft 6 (.soft 7 (.soft 8 (.soft 9 (.soft 10 (.soft 11 (.soft 12 (.soft 13 (.soft 14 (.soft 15 (.soft 16 (.soft 17 (.soft 18 (.soft 19 (.soft 20 (.soft 21 (.soft 22 (.soft 23 (.soft 24 (.soft 25 (.soft 26 (.soft 27 (.soft 28 (.soft 29 (.soft 30 (.soft 31 (.soft 32 (.soft 33 (.soft 34 (.soft 35 (.soft 36 (.soft 37 (.soft 38 (.soft 39 (.soft 40 (.soft 41 (.soft 42 (.soft 43 (.soft 44 (.soft 45 (.soft 46 (.hard 47 (.soft 48 .nil))))))))))))))))))))))))))))))))))))))))))))))))) (by kernel_rfl) (by kernel_rfl) (fun _ _ _ _ _ h=>h) ⟨x5,y4,t10,y2,y3,n2,y1,y0⟩ ?_
 repeat
  first
  | (refine kbH (by rfl) ?_ ?_ ?_ ?_
     rotate_left
     ·simp [zI,yielded];done
     ·intro w' hS
      try obtain ⟨a1,a2,a3,a4,a5,a6,a7,a8⟩:=hS
      go_simp
      try with_reducible rfl
     simp only [zJ,zA,zB,zC])
  | (refine kbJ (by rfl) ?_ ?_
     ·first|(simp [zI,yielded];done)|(simp [zI,yielded,undef];done)
     simp only [zJ,zA,zB,zC])
 refine kbY (by rfl) (by simp [zI,yielded]) (fun K hK=>?_)
 go_simp
 refine (less_any y X.hi _ (HO.out.chg (zK (fun _ _=>False) _).drew (fun _ h=>h) (fun _ h=>h))).mono ?_
 rintro e w2 ⟨rfl,hc2⟩
 have hc0:=(zK (fun _ _=>False) w).drew.trans hc2
 refine hK _ _ ⟨hc2.q x5,hc2.q y4,hc2.q t10,hc2.q y2,hc2.q y3,hc2.q n2,hc2.q y1,hc2.q y0⟩ ?_
 clear hK K
 repeat ((first|(refine kbH (by rfl) ?_ ?_ ?_ ?_;rotate_left;(· simp [zI,yielded]);(· rintro _ ⟨a1,a2,a3,a4,a5,a6,a7,a8⟩;go_simp;try with_reducible rfl))|(refine kbJ (by rfl) ?_ ?_;(· simp [zI,yielded])));simp only [zJ,zA,zB,zC])
 refine kcT ?_
 exact ⟨ltM y X.hi,rfl,(fun h=>⟨HY.out.2,HPP.out,y,HY.out.1,h⟩),⟨rfl,rfl,rfl,rfl,rfl,rfl,rfl,rfl,rfl,rfl⟩,rfl,rfl,rfl,rfl,HM.out.keep hc0⟩
end
end
section
variable {ord:List Int}{k:Kc ord}
section
variable {ord:List Int}
theorem dr_testC {X:DrX ord}{w0:World}(ok:DrOk X)(a:Act)(w:World){h0:Nat}{T0:BT (It ord) h0}{F:Nat→Prop}{H:HN ord}{p:It ord}{c:Int}{q:Value}{Dq D:List (Bk ord)}{st:Value}{B P:List Nat}{off h:Nat}{T:BT (It ord) (h+1)}{i:Nat}{fd:Bool}
  (hfr:DrFr X a)(s16:a.tmps[16]?=some st)(s17:a.tmps[17]?=some (Ip (some ⟨rid T,0,none⟩)))(s18:a.tmps[18]?=some (Ii Ij i))(s19:a.tmps[19]?=some (.bool fd))(hm:DrM X w0 w h0 T0 F H p c q Dq D st B P off (h+1) T)(hi:i≤T.2.1.length)(c1:i<T.2.1.length-1)(c2:¬X.mn<T.2.1.length)(c4:(kdG P B (rid T)).length=1) :
  (drTest Try.f58).wp Tp (kfZ (TestQ X w0 T0 F H p c q Dq D st B P off T i fd)) a w:=by
 conv=>arg 2;whnf
 obtain ⟨f,rfl,e4,e5,e7,e10,e11,e13,e14,e15⟩:=hfr.lit
 unfold kdJ at *
 simp only [zF,zE,zD,zc] at s16 s17 s18 s19
 have hsl:T.2.1.length≤X.mx:=hm.sh.len
 have hmx:=ok.m1000
 have hpos:1≤T.2.1.length:=hm.pos ok
 obtain ⟨NI,hNI⟩:∃NI,T.2.1.length=NI:=⟨_,rfl⟩
 obtain ⟨NJ,hNJ⟩:∃NJ,NI-1=NJ:=⟨_,rfl⟩
 obtain ⟨ik,hIK⟩:∃ik,i+1=ik:=⟨_,rfl⟩
 have HIK:=zL hIK
 obtain ⟨sa,sc,hsf⟩:=hm.dw.so.sl.form
 subst hsf
 obtain ⟨N,hN⟩:∃N,(kdG P B (rid T)).length=N:=⟨_,rfl⟩
 have hdp:=hm.depth ok
 rw [hN] at hdp hm
 have HDP:=zL hdp
 clear hdp
 have HM:=zL hm
 have HN:=zL (And.intro hN hNI)
 have x5:=kbB hm.dw.x5 0
 have t10:=kbB hm.dw.mb.blk 10
 simp only [zF,zD,zE] at x5 t10
 have s1:Ij.wrap ((NI:Int)-1)=(NJ:Int):=by rw [zh _ (by omega)];omega
 have s2:Ij.wrap ((i:Int)+1)=(ik:Int):=by rw [zh _ (by omega)];omega
 rw [e4,e5,e7,e10,e11,e13,e14,e15,s16,s17,s18,s19,hN]
 clear hfr hm e4 e5 e7 e10 e11 e13 e14 e15 s16 s17 s18 s19 hN
 have g1:i<NJ:=by omega
 have g1':(i:Int)<(NJ:Int):=by omega
 have g2:¬X.mn<NI:=by omega
 have g2':¬(X.mn:Int)<(NI:Int):=by omega
 have g3:1<NI:=by omega
 have g3':(1:Int)<(NI:Int):=by omega
 have g4:N=1:=by rw [←HN.out.1];exact c4
 have g4':(N:Int)=1:=by omega
 have HG4:=zL g4
 clear g4
 have HPP:=zL (fun (h:P≠[])=>(show X.mn<T.2.1.length from absurd (List.eq_nil_of_length_eq_zero (by have:=HDP.out.1;have:=HG4.out;omega)) h))
 obtain ⟨y,hy⟩:∃y,T.2.1[i+1]?=some y:=⟨_,zH (by omega)⟩
 obtain ⟨l1,hnx⟩:=HM.out.dw.fam.node HM.out.isT.root
 have n2:w.cell? ⟨rid T,2,none⟩=some (Is (some ⟨l1.ib,l1.io,none⟩) NI l1.ic):=by rw [←hNI];exact hnx.c2
 have y0:=hnx.mkey (j:=i+1) (x:=y) hy
 have y1:=hnx.mval (j:=i+1) (x:=y) hy
 rw [HIK.out] at y0 y1
 have y4:=(HM.out.dw.mb.at_).c6l
 unfold kcQ at y4
 have y2:=kbB HM.out.dw.x7 0
 have y3:=kbB HM.out.dw.x7 1
 simp only [zF,zD,zE] at y2 y3
 have b1:(0:Int)≤(ik:Int):=by omega
 have b2:(ik:Int)<(NI:Int):=by omega
 have HY:=zL (And.intro hy (show i+1<T.2.1.length from by omega))
 have HO:=zL HM.out.dw.mb.ord
 clear hy hnx
 refine kbM (fun w'=>w'.cell? ⟨X.s,0,none⟩=some (Ip (some ⟨X.t,0,none⟩))∧w'.cell? ⟨X.t,6,none⟩=some (.func (.func 63) #[] #[Ip (some ⟨X.k.ob,0,none⟩)])∧w'.cell? ⟨X.t,10,none⟩=some (Ii Ij X.mn)∧w'.cell? ⟨X.s+2,0,none⟩=some (Ii Ij X.hi.1)∧w'.cell? ⟨X.s+2,1,none⟩=some (Ii Ij X.hi.2)∧w'.cell? ⟨rid T,2,none⟩=some (Is (some ⟨l1.ib,l1.io,none⟩) NI l1.ic)∧w'.cell? ⟨l1.ib,l1.io+ik*2,none⟩=some (Ii Ij y.1)∧w'.cell? ⟨l1.ib,l1.io+ik*2+1,none⟩=some (Ii Ij y.2)) (.soft 0 (.soft 1 (.soft 2 (.soft 3 (.soft 4 (.soft 5 (.soft 6 (.soft 7 (.soft 8 (.soft 9 (.soft 10 (.soft 11 (.soft 12 (.soft 13 (.soft 14 (.soft 15 (.soft 16 (.soft 17 (.soft 18 (.soft 19 (.soft 20 (.soft 21 (.soft 22 (.soft 23 (.soft 24 (.soft 25 (.soft 26 (.soft 27 (.soft 28 (.soft 29 (.soft 30 (.soft 31 (.soft 32 (.soft 33 (.soft 34 (.soft 35 (.soft 36 (.soft 37 (.soft 38 (.soft 39 (.soft 40 (.soft 41 (.soft 42 (.soft 43 (.soft 44 (.soft 45 (.soft 46 (.hard 47 (.soft 48 .nil))))))))))))))))))))))))))))))))))))))))))))))))) (by kernel_rfl) (by kernel_rfl) (fun _ _ _ _ _ h=>h) ⟨x5,y4,t10,y2,y3,n2,y1,y0⟩ ?_
 repeat ((first|(refine kbH (by rfl) ?_ ?_ ?_ ?_;rotate_left;(· simp [zI,yielded]);(· rintro _ ⟨a1,a2,a3,a4,a5,a6,a7,a8⟩;go_simp;try with_reducible rfl))|(refine kbJ (by rfl) ?_ ?_;(· simp [zI,yielded])));simp only [zJ,zA,zB,zC])
 refine kbY (by rfl) (by simp [zI,yielded]) (fun K hK=>?_)
 go_simp
 refine (less_any y X.hi _ (HO.out.chg (zK (fun _ _=>False) _).drew (fun _ h=>h) (fun _ h=>h))).mono ?_
 rintro e w2 ⟨rfl,hc2⟩
 have hc0:=(zK (fun _ _=>False) w).drew.trans hc2
 refine hK _ _ ⟨hc2.q x5,hc2.q y4,hc2.q t10,hc2.q y2,hc2.q y3,hc2.q n2,hc2.q y1,hc2.q y0⟩ ?_
 clear hK K
 repeat ((first|(refine kbH (by rfl) ?_ ?_ ?_ ?_;rotate_left;(· simp [zI,yielded]);(· rintro _ ⟨a1,a2,a3,a4,a5,a6,a7,a8⟩;go_simp;try with_reducible rfl))|(refine kbJ (by rfl) ?_ ?_;(· simp [zI,yielded])));simp only [zJ,zA,zB,zC])
 refine kcT ?_
 exact ⟨ltM y X.hi,rfl,(fun h=>⟨HY.out.2,HPP.out,y,HY.out.1,h⟩),⟨rfl,rfl,rfl,rfl,rfl,rfl,rfl,rfl,rfl,rfl⟩,rfl,rfl,rfl,rfl,HM.out.keep hc0⟩
end
end
end Go.Proofs.Ytnohimhihombmaa
