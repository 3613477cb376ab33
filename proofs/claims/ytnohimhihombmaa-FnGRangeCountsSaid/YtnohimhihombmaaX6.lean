/- DeleteRangeReuse: may an item go with the child behind it? -/
import Derived.Test.YtnohimhihombmaaX4
namespace Go.Proofs.Ytnohimhihombmaa
set_option linter.unusedSimpArgs false
set_option linter.unusedVariables false
set_option maxRecDepth 100000
set_option maxHeartbeats 40000000
open List renaming getElem?_cons_zero → zD, getElem?_cons_succ → zE, getElem?_toArray → zF
open Lib renaming hid → zL
open IntWalk renaming i64_in → zh
section
open Go.RowKit
variable {ord:List Int} {k:Kc ord}
section
variable {ord:List Int}
def TestQ (X:DrX ord) (w0:World) {h0:Nat} (T0:BT (It ord) h0) (F:Nat→Prop) (H:Nat→Option (NodeR (It ord))) (p:It ord) (c:Int) (q:Value) (Dq D:List (Bk ord)) (st:Value) (B P:List Nat) (off:Nat) {h:Nat} (T:BT (It ord) (h+1)) (i:Nat) (fd:Bool) (a:Act) (w:World):Prop :=
 ∃b:Bool,a.tmps[146]?=some (.bool b)∧(b=true→i+1 < T.2.1.length∧(P≠[]→X.mn < T.2.1.length)∧∃y,T.2.1[i+1]?=some y∧ltM y X.hi=true) ∧
  DrFr X a∧a.tmps[16]?=some st∧a.tmps[17]?=some (.pointer (some ⟨rid T,0,none⟩))∧a.tmps[18]?=some (.int .i64 i)∧a.tmps[19]?=some (.bool fd)∧DrM X w0 w h0 T0 F H p c q Dq D st B P off (h+1) T
theorem dr_testA {X:DrX ord} {w0:World} (ok:DrOk X) (a:Act) (w:World) {h0:Nat} {T0:BT (It ord) h0} {F:Nat→Prop} {H:Nat→Option (NodeR (It ord))} {p:It ord} {c:Int} {q:Value} {Dq D:List (Bk ord)} {st:Value} {B P:List Nat} {off h:Nat} {T:BT (It ord) (h+1)} {i:Nat} {fd:Bool}
  (hfr:DrFr X a) (s16:a.tmps[16]?=some st) (s17:a.tmps[17]?=some (.pointer (some ⟨rid T,0,none⟩))) (s18:a.tmps[18]?=some (.int .i64 i)) (s19:a.tmps[19]?=some (.bool fd)) (hm:DrM X w0 w h0 T0 F H p c q Dq D st B P off (h+1) T) (hi:i≤T.2.1.length) (c1:¬i < T.2.1.length - 1) :
  (drTest Try.f58).wp Try.prog (kfT (TestQ X w0 T0 F H p c q Dq D st B P off T i fd)) a w:=by
 conv=>arg 2;whnf
 obtain ⟨f,rfl,e4,e5,e7,e10,e11,e13,e14,e15⟩:=hfr.lit
 unfold kdJ at *
 simp only [zF,zE,zD,Option.some.injEq] at s16 s17 s18 s19
 have hsl:T.2.1.length≤X.mx:=hm.sh.len
 have hmx:=ok.m1000
 have hpos:1≤T.2.1.length:=hm.pos ok
 obtain ⟨NI,hNI⟩:∃NI,T.2.1.length=NI:=⟨_,rfl⟩
 obtain ⟨NJ,hNJ⟩:∃NJ,NI - 1=NJ:=⟨_,rfl⟩
 obtain ⟨ik,hIK⟩:∃ik,i+1=ik:=⟨_,rfl⟩
 have HIK:=zL hIK
 obtain ⟨sa,sc,hsf⟩:=hm.dw.so.sl.form
 subst hsf
 obtain ⟨N,hN⟩:∃N,(kdF P B (rid T)).length=N:=⟨_,rfl⟩
 have hdp:=hm.depth ok
 rw [hN] at hdp hm
 have HDP:=zL hdp
 clear hdp
 have HM:=zL hm
 have HN:=zL (And.intro hN hNI)
 have x5:=kbB hm.dw.x5 0
 have t10:=kbB hm.dw.mb.blk 10
 simp only [zF,zD,zE] at x5 t10
 obtain ⟨l,hnx⟩:=hm.dw.fam.node hm.isT.root
 have n2:w.cell? ⟨rid T,2,none⟩=some (.slice (some ⟨l.ib,l.io,none⟩) NI l.ic):=by rw [←hNI];exact hnx.c2
 have s1:IntKind.i64.wrap ((NI:Int) - 1)=(NJ:Int):=by rw [zh _ (by omega)];omega
 have s2:IntKind.i64.wrap ((i:Int)+1)=(ik:Int):=by rw [zh _ (by omega)];omega
 rw [e4,e5,e7,e10,e11,e13,e14,e15,s16,s17,s18,s19,hN]
 clear hfr hm e4 e5 e7 e10 e11 e13 e14 e15 s16 s17 s18 s19 hnx hN
 have g1:¬i < NJ:=by omega
 have g1':¬(i:Int) < (NJ:Int):=by omega
 clear c1 hNI hNJ hIK hpos hsl
 go_wp2_with fail
 go_quiet (fail)
 exact ⟨false,rfl,(fun h=>by cases h),⟨rfl,rfl,rfl,rfl,rfl,rfl,rfl,rfl,rfl,rfl⟩,rfl,rfl,rfl,rfl,HM.out.keep ((Chg.refl _ _).drewN _)⟩
theorem dr_testD {X:DrX ord} {w0:World} (ok:DrOk X) (a:Act) (w:World) {h0:Nat} {T0:BT (It ord) h0} {F:Nat→Prop} {H:Nat→Option (NodeR (It ord))} {p:It ord} {c:Int} {q:Value} {Dq D:List (Bk ord)} {st:Value} {B P:List Nat} {off h:Nat} {T:BT (It ord) (h+1)} {i:Nat} {fd:Bool}
  (hfr:DrFr X a) (s16:a.tmps[16]?=some st) (s17:a.tmps[17]?=some (.pointer (some ⟨rid T,0,none⟩))) (s18:a.tmps[18]?=some (.int .i64 i)) (s19:a.tmps[19]?=some (.bool fd)) (hm:DrM X w0 w h0 T0 F H p c q Dq D st B P off (h+1) T) (hi:i≤T.2.1.length) (c1:i < T.2.1.length - 1) (c2:¬X.mn < T.2.1.length) (c4:¬(kdF P B (rid T)).length=1) :
  (drTest Try.f58).wp Try.prog (kfT (TestQ X w0 T0 F H p c q Dq D st B P off T i fd)) a w:=by
 conv=>arg 2;whnf
 obtain ⟨f,rfl,e4,e5,e7,e10,e11,e13,e14,e15⟩:=hfr.lit
 unfold kdJ at *
 simp only [zF,zE,zD,Option.some.injEq] at s16 s17 s18 s19
 have hsl:T.2.1.length≤X.mx:=hm.sh.len
 have hmx:=ok.m1000
 have hpos:1≤T.2.1.length:=hm.pos ok
 obtain ⟨NI,hNI⟩:∃NI,T.2.1.length=NI:=⟨_,rfl⟩
 obtain ⟨NJ,hNJ⟩:∃NJ,NI - 1=NJ:=⟨_,rfl⟩
 obtain ⟨ik,hIK⟩:∃ik,i+1=ik:=⟨_,rfl⟩
 have HIK:=zL hIK
 obtain ⟨sa,sc,hsf⟩:=hm.dw.so.sl.form
 subst hsf
 obtain ⟨N,hN⟩:∃N,(kdF P B (rid T)).length=N:=⟨_,rfl⟩
 have hdp:=hm.depth ok
 rw [hN] at hdp hm
 have HDP:=zL hdp
 clear hdp
 have HM:=zL hm
 have HN:=zL (And.intro hN hNI)
 have x5:=kbB hm.dw.x5 0
 have t10:=kbB hm.dw.mb.blk 10
 simp only [zF,zD,zE] at x5 t10
 obtain ⟨l,hnx⟩:=hm.dw.fam.node hm.isT.root
 have n2:w.cell? ⟨rid T,2,none⟩=some (.slice (some ⟨l.ib,l.io,none⟩) NI l.ic):=by rw [←hNI];exact hnx.c2
 have s1:IntKind.i64.wrap ((NI:Int) - 1)=(NJ:Int):=by rw [zh _ (by omega)];omega
 have s2:IntKind.i64.wrap ((i:Int)+1)=(ik:Int):=by rw [zh _ (by omega)];omega
 rw [e4,e5,e7,e10,e11,e13,e14,e15,s16,s17,s18,s19,hN]
 clear hfr hm e4 e5 e7 e10 e11 e13 e14 e15 s16 s17 s18 s19 hnx hN
 have g1:i < NJ:=by omega
 have g1':(i:Int) < (NJ:Int):=by omega
 have g2:¬X.mn < NI:=by omega
 have g2':¬(X.mn:Int) < (NI:Int):=by omega
 have g3:1 < NI:=by omega
 have g3':(1:Int) < (NI:Int):=by omega
 have g4:¬N=1:=by rw [←HN.out.1];exact c4
 have g4':¬(N:Int)=1:=by omega
 clear c1 c2 c4 hNI hNJ hIK hpos hsl
 go_wp2_with fail
 go_quiet (fail)
 exact ⟨false,rfl,(fun h=>by cases h),⟨rfl,rfl,rfl,rfl,rfl,rfl,rfl,rfl,rfl,rfl⟩,rfl,rfl,rfl,rfl,HM.out.keep ((Chg.refl _ _).drewN _)⟩
end
end
end Go.Proofs.Ytnohimhihombmaa
