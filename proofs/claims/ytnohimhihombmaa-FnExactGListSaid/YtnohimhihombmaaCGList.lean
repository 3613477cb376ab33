/- For every order, every degree and every list of items, every range and every number the law FnExactGList returns true and leaves its arguments as they were. -/
import Derived.Carry
import Derived.Test.YtnohimhihombmaaRows
import Derived.Test.YtnohimhihombmaaA11
import Derived.Test.YtnohimhihombmaaX5
namespace Go.Proofs.Ytnohimhihombmaa
set_option linter.unusedSimpArgs false
set_option linter.unusedVariables false
set_option maxRecDepth 100000
set_option maxHeartbeats 40000000
open List renaming setIfInBounds_toArray → zA, set_cons_zero → zB, set_cons_succ → zC, getElem?_cons_zero → zD, getElem?_cons_succ → zE, getElem?_toArray → zF
open Region renaming wanted → zI
open Act renaming put → zJ
open Chg renaming refl → zK
open Lib renaming hid → zL
open Nat renaming le_refl → zi
section
open Go.RowKit
variable {ord:List Int} {k:Kc ord}
section
variable {ord:List Int}
theorem frame30 (A:Array Value) (h:A.size=30):∃f:Nat→Value,A=#[f 0,f 1,f 2,f 3,f 4,f 5,f 6,f 7,f 8,f 9,f 10,f 11,f 12,f 13,f 14,f 15,f 16,f 17,f 18,f 19,f 20,f 21,f 22,f 23,f 24,f 25,f 26,f 27,f 28,f 29]:=⟨fun i=>(A[i]?).getD undef,(arr_lit A 30 h).trans rfl⟩
def GlSt (ord:List Int) (mn mx:Nat) (w:World) (n:Int) (L:List (It ord)) (a:Act) (w':World):Prop :=
 a.defers=[]∧a.tmps.size=30∧a.tmps[4]?=some (.int .i64 n)∧∃b,a.tmps[13]?=some (.pointer (some ⟨b,0,none⟩))∧(∃(k:Kc ord) (base:Nat) (c:Int) (q:Value) (F:Nat→Prop) (H:Nat→Option (NodeR (It ord))) (Dq D:List (Bk ord)),LsOk k mn mx b base w'.heap.size w' c q F H Dq D L∧w.heap.size≤base)∧w.heap.size≤b∧Chg (fun _ _=>False) w w'
theorem GList_any (sv:Value) (d:Int) (nl:Bool) (p:Option Addr) (cap:Nat) (l:List (It ord)) (lo hi:It ord) (n:Int) (w:World) (hs:SlE intE w sv ord) (hol:ord.length≤2147483647) (hd:FitD d) (hl:ItemsAt w p l) (hlen:l.length≤2147483647) :
  Calls Try.prog 31 #[.agg #[sv,.int .i64 d,.bool nl],.slice p l.length cap,.agg #[.int .i64 lo.1,.int .i64 lo.2],.agg #[.int .i64 hi.1,.int .i64 hi.2],.int .i64 n] w fun e w'=>∃v,e=.returned (.tuple #[v,.int .i64 ((growL l).filter (insR (rkL ord) lo hi false)).length,.int .i64 0])∧OwnE itemE w' v (kfQ n ((growL l).filter (insR (rkL ord) lo hi false))) w.heap.size∧Chg (fun _ _=>False) w w':=by
 obtain ⟨LL,hLL⟩:∃LL,(growL l).filter (insR (rkL ord) lo hi false)=LL:=⟨_,rfl⟩
 rw [hLL]
 have HLLq:=zL hLL
 clear hLL
 have HGR:=zL (fun w1 (c:Chg (fun _ _=>False) w w1)=>grow_any (ord:=ord) sv d nl p cap l w1 hd (hs.chg c) hol (hl.chg c) hlen)
 unfold GrowPost at HGR
 have hgl:=growL_take_len l l.length
 rw [List.take_length] at hgl
 have HGL:=zL (Nat.le_trans hgl hlen)
 have hdim:=hd.dims
 obtain ⟨sa,sc,rfl⟩:∃a c,sv=.slice a ord.length c:=hs.form
 clear hgl hl hs
 go_enter Try.func31,Try.ntmps31
 go_wp2_with fail
 refine kbD (fun w1=>Chg (fun _ _=>False) w w1∧w1.heap[w.heap.size]?=some (.cells #[.slice sa ord.length sc,.int .i64 d,.bool nl] 24 (0,0))∧w1.heap[w.heap.size+1]?=some (.cells #[.int .i64 lo.1,.int .i64 lo.2] 27 (0,0))∧w1.heap[w.heap.size+2]?=some (.cells #[.int .i64 hi.1,.int .i64 hi.2] 27 (0,0))) ⟨(((zK _ _).alloc _).alloc _).alloc _,?_,?_,?_⟩ ?_
 ·rw [kcV _ _ (by simp;try omega),kcV _ _ (by simp;try omega)];exact kbR _ _ rfl
 ·rw [kcV _ _ (by simp;try omega)];exact kbR _ _ (by simp)
 ·exact kbR _ _ (by simp)
 rintro w1 ⟨hc1,hb0,hb1,hb2⟩
 have m0:=kbB hb0 0
 have m1:=kbB hb0 1
 have m2:=kbB hb0 2
 have l0:=kbB hb1 0
 have l1:=kbB hb1 1
 have h0:=kbB hb2 0
 have h1:=kbB hb2 1
 simp only [zF,zD,zE] at m0 m1 m2 l0 l1 h0 h1
 have hlt1:=kbF hb2
 clear hb0 hb1 hb2
 refine wp_mono (Q:=kfT (GlSt ord (mnD d) (mxD d) w n LL)) ?_ ?_
 ·have HC1:=zL hc1
  refine kbH (fun w'=>w'.cell? ⟨w.heap.size,0,none⟩=some (.slice sa ord.length sc)∧w'.cell? ⟨w.heap.size,1,none⟩=some (.int .i64 d)∧w'.cell? ⟨w.heap.size,2,none⟩=some (.bool nl)∧w'.cell? ⟨w.heap.size+1,0,none⟩=some (.int .i64 lo.1)∧w'.cell? ⟨w.heap.size+1,1,none⟩=some (.int .i64 lo.2)∧w'.cell? ⟨w.heap.size+2,0,none⟩=some (.int .i64 hi.1)∧w'.cell? ⟨w.heap.size+2,1,none⟩=some (.int .i64 hi.2)) (.soft 0 (.soft 1 (.soft 3 (.soft 4 (.fork 2 6 (.fork 5 6 (.hard 6 (.hard 7 .nil)) (.hard 5 (.hard 7 .nil))) (.hard 2 (.hard 5 (.hard 7 .nil)))))))) (by kernel_rfl) (by kernel_rfl) (fun _ _ _ _ _ h=>h) ⟨m0,m1,m2,l0,l1,h0,h1⟩ ?_
  repeat
   first
   | (refine scr_soft (by rfl) ?_ ?_ ?_ ?_
      rotate_left
      ·simp [zI,yielded];done
      ·intro w' hS
       try obtain ⟨a1,a2,a3,a4,a5,a6,a7⟩:=hS
       go_simp
       try with_reducible rfl
      simp only [zJ,zA,zB,zC])
   | (refine scr_skip (by rfl) ?_ ?_
      ·simp [zI,yielded];done
      simp only [zJ,zA,zB,zC])
  refine scr_fork (by rfl) (by rfl) rfl rfl (fun K hK=>?_) (fun K hK=>?_)
  ·go_simp
   refine (HGR.out _ hc1.drew).mono ?_
   rintro e w2 ⟨k0,t,F,rfl,hM,hc2',hF2,ho2⟩
   have hc2:Chg (fun _ _=>False) w1 w2:=(zK _ _).drew.trans hc2'
   have hszd:w1.drew.heap.size=w1.heap.size:=rfl
   refine hK _ _ ⟨hc2.q m0,hc2.q m1,hc2.q m2,hc2.q l0,hc2.q l1,hc2.q h0,hc2.q h1⟩ ?_
   clear hK K
   repeat
    first
    | (refine scr_soft (by rfl) ?_ ?_ ?_ ?_
       rotate_left
       ·simp [zI,yielded];done
       ·intro w' hS
        try obtain ⟨a1,a2,a3,a4,a5,a6,a7⟩:=hS
        go_simp
        try with_reducible rfl
       simp only [zJ,zA,zB,zC])
    | (refine scr_skip (by rfl) ?_ ?_
       ·simp [zI,yielded];done
       simp only [zJ,zA,zB,zC])
   refine scr_fork (by rfl) (by rfl) rfl rfl (fun K hK=>?_) (fun K hK=>?_)
   ·go_simp
    have hdr:=DeleteRange_any (lo:=lo) (hi:=hi) (op:=none) (inc:=false) hM rfl hdim.1 hdim.2.1 hdim.2.2.1 hdim.2.2.2.1 hdim.2.2.2.2 (by have:=HGL.out;omega)
    simp only [optV2,Option.map_none] at hdr
    have HDR:=zL hdr
    clear hdr
    refine HDR.out.mono ?_
    rintro e w3 ⟨c,q,F',H',Dq,D,rfl,hD⟩
    have hc3:Chg (fun _ _=>False) w1 w3:=hc2.trans' hD.chg (B:=fun _ _=>False) (fun _ _ _ h=>h) (fun b _ hb e=>by
     rcases e with e | rfl | e
     ·have:=hF2 b e;have:=hszd;omega
     ·have:=ho2 b MOwn.self;have:=hszd;omega
     ·have:=hc2.size;omega)
    have HMO:=zL (fun b (h:MOwn k0 t b)=>hM.own h)
    have hsc3:=hc3.size
    have hsz2:=hc2.size
    refine hK _ _ ⟨hc3.q m0,hc3.q m1,hc3.q m2,hc3.q l0,hc3.q l1,hc3.q h0,hc3.q h1⟩ ?_
    clear hK K
    repeat
     first
     | (refine scr_soft (by rfl) ?_ ?_ ?_ ?_
        rotate_left
        ·simp [zI,yielded];done
        ·intro w' hS
         try obtain ⟨a1,a2,a3,a4,a5,a6,a7⟩:=hS
         go_simp
         try with_reducible rfl
        simp only [zJ,zA,zB,zC])
     | (refine scr_skip (by rfl) ?_ ?_
        ·simp [zI,yielded];done
        simp only [zJ,zA,zB,zC])
    refine kbY (by rfl) (by simp [zI,yielded]) (fun K hK=>?_)
    go_simp
    have hca:=hc3.alloc (.cells #[.nilFunc,.int .i64 0,.int .i64 0,.slice none 0 0] 67)
    refine hK _ _ ⟨hca.q m0,hca.q m1,hca.q m2,hca.q l0,hca.q l1,hca.q h0,hca.q h1⟩ ?_
    clear hK K
    repeat
     first
     | (refine scr_soft (by rfl) ?_ ?_ ?_ ?_
        rotate_left
        ·simp [zI,yielded];done
        ·intro w' hS
         try obtain ⟨a1,a2,a3,a4,a5,a6,a7⟩:=hS
         go_simp
         try with_reducible rfl
        simp only [zJ,zA,zB,zC])
     | (refine scr_skip (by rfl) ?_ ?_
        ·simp [zI,yielded];done
        simp only [zJ,zA,zB,zC])
    obtain ⟨qa,qc,hqf⟩:=hD.qo.sl.form
    subst hqf
    have HD:=zL hD
    have HC3:=zL hc3
    clear hD hc3
    unfold kcK
    refine kbY (by rfl) (by simp [zI,yielded]) (fun K hK=>?_)
    go_simp
    have hcf:=HC3.out.alloc (.cells #[kcK k0,.int .i64 c,.int .i64 0,.slice qa Dq.length qc] 67)
    have hx:=(zK (fun x _=>x=w3.heap.size) w3).alloc (.cells #[kcK k0,.int .i64 c,.int .i64 0,.slice qa Dq.length qc] 67)
    have hlb:ListB (w3.alloc (.cells #[kcK k0,.int .i64 c,.int .i64 0,.slice qa Dq.length qc] 67)) w3.heap.size (kcK k0) c 0 (.slice qa Dq.length qc):=kbR _ _ rfl
    refine hK _ _ ⟨hcf.q m0,hcf.q m1,hcf.q m2,hcf.q l0,hcf.q l1,hcf.q h0,hcf.q h1⟩ ?_
    clear hK K
    refine kcJ ?_
    have ko1:=HMO.out k0.ob (.inr (.inl rfl))
    have ko2:=HMO.out k0.rb (.inr (.inr rfl))
    have kp1:=ho2 k0.ob (.inr (.inl rfl))
    have kp2:=ho2 k0.rb (.inr (.inr rfl))
    have hsd:=HD.out.chg.size
    have hs1:=HC1.out.size
    refine ⟨rfl,rfl,rfl,w3.heap.size,rfl,⟨k0,_,c,_,F',H',Dq,D,(by have hls:=HD.out.ls (.inr (zi _)) ⟨by omega,by omega⟩ ⟨by omega,by omega⟩ hsd hx hlb (by have:=HGL.out;omega);rw [HLLq.out] at hls;exact hls),by omega⟩,by omega,HC1.out.trans hcf⟩
   ·go_simp
    have hca:=hc2.alloc (.cells #[.nilFunc,.int .i64 0,.int .i64 0,.slice none 0 0] 67)
    have hMa:=hM.chg ((zK (fun _ _=>False) w2).alloc (.cells #[.nilFunc,.int .i64 0,.int .i64 0,.slice none 0 0] 67))
    have hsz2:=hc2.size
    have hFb:¬F w2.heap.size:=fun e=>by have:=hM.famLt e;omega
    have HMO0:=zL (fun b (h:MOwn k0 t b)=>hM.own h)
    refine kbK (fun wa=>Chg (fun _ _=>False) w1 wa∧MapIn k0 (mnD d) (mxD d) wa F t (growL l)∧ListB wa w2.heap.size .nilFunc 0 0 (.slice none 0 0)) ⟨hca,hMa,kbR _ _ rfl⟩ ?_
    clear hca hMa
    rintro wa ⟨hca,hMa,hla⟩
    have hbl:=kbF hla
    have HMO:=zL (fun b (h:MOwn k0 t b)=>HMO0.out b h)
    refine hK _ _ ⟨hca.q m0,hca.q m1,hca.q m2,hca.q l0,hca.q l1,hca.q h0,hca.q h1⟩ ?_
    clear hK K
    repeat
     first
     | (refine scr_soft (by rfl) ?_ ?_ ?_ ?_
        rotate_left
        ·simp [zI,yielded];done
        ·intro w' hS
         try obtain ⟨a1,a2,a3,a4,a5,a6,a7⟩:=hS
         go_simp
         try with_reducible rfl
        simp only [zJ,zA,zB,zC])
     | (refine scr_skip (by rfl) ?_ ?_
        ·simp [zI,yielded];done
        simp only [zJ,zA,zB,zC])
    refine kbY (by rfl) (by simp [zI,yielded]) (fun K hK=>?_)
    go_simp
    have hdr:=DeleteRange_any (lo:=lo) (hi:=hi) (op:=none) (inc:=false) hMa rfl hdim.1 hdim.2.1 hdim.2.2.1 hdim.2.2.2.1 hdim.2.2.2.2 (by have:=HGL.out;omega)
    simp only [optV2,Option.map_none] at hdr
    have HDR:=zL hdr
    clear hdr
    refine HDR.out.mono ?_
    rintro e w3 ⟨c,q,F',H',Dq,D,rfl,hD⟩
    have hc3:Chg (fun _ _=>False) w1 w3:=hca.trans' hD.chg (B:=fun _ _=>False) (fun _ _ _ h=>h) (fun b _ hb e=>by
     rcases e with e | rfl | e
     ·have:=hF2 b e;have:=hszd;omega
     ·have:=ho2 b MOwn.self;have:=hszd;omega
     ·have:=hca.size;omega)
    have hlz:ListB w3 w2.heap.size .nilFunc 0 0 (.slice none 0 0):=hla.chg hD.chg (fun _ e=>by
     rcases e with e | e | e
     ·exact hFb e
     ·have:=HMO.out t MOwn.self;omega
     ·omega)
    refine hK _ _ ⟨hc3.q m0,hc3.q m1,hc3.q m2,hc3.q l0,hc3.q l1,hc3.q h0,hc3.q h1⟩ ?_
    clear hK K
    repeat
     first
     | (refine scr_soft (by rfl) ?_ ?_ ?_ ?_
        rotate_left
        ·simp [zI,yielded];done
        ·intro w' hS
         try obtain ⟨a1,a2,a3,a4,a5,a6,a7⟩:=hS
         go_simp
         try with_reducible rfl
        simp only [zJ,zA,zB,zC])
     | (refine scr_skip (by rfl) ?_ ?_
        ·simp [zI,yielded];done
        simp only [zJ,zA,zB,zC])
    obtain ⟨qa,qc,hqf⟩:=hD.qo.sl.form
    subst hqf
    have HD:=zL hD
    have HC3:=zL hc3
    clear hD hc3
    unfold kcK
    have l0':=hlz.c0
    have l1':=hlz.c1
    have l2':=hlz.c2
    have l3':=hlz.c3
    have z0:=hlz.fz 0
    have z1:=hlz.fz 1
    have z2:=hlz.fz 2
    have z3:=hlz.fz 3
    have HLZ:=zL hlz
    clear hlz
    refine kbY (by rfl) (by simp [zI,yielded]) (fun K hK=>?_)
    go_simp
    have hx:Chg (fun x _=>x=w2.heap.size) w3 ((((w3.setCell ⟨w2.heap.size,0,none⟩ (kcK k0)).setCell ⟨w2.heap.size,1,none⟩ (.int .i64 c)).setCell ⟨w2.heap.size,2,none⟩ (.int .i64 0)).setCell ⟨w2.heap.size,3,none⟩ (.slice qa Dq.length qc)):=((((zK _ _).setCell (.inl rfl) _).setCell (.inl rfl) _).setCell (.inl rfl) _).setCell (.inl rfl) _
    have hlb:=blk4r HLZ.out (kcK k0) (.int .i64 c) (.int .i64 0) (.slice qa Dq.length qc)
    have hcf:=HC3.out.trans' hx (B:=fun _ _=>False) (fun _ _ _ h=>h) (fun b _ hb e=>by omega)
    refine hK _ _ ⟨hcf.q m0,hcf.q m1,hcf.q m2,hcf.q l0,hcf.q l1,hcf.q h0,hcf.q h1⟩ ?_
    clear hK K
    refine kcJ ?_
    have ko1:=HMO.out k0.ob (.inr (.inl rfl))
    have ko2:=HMO.out k0.rb (.inr (.inr rfl))
    have kp1:=ho2 k0.ob (.inr (.inl rfl))
    have kp2:=ho2 k0.rb (.inr (.inr rfl))
    have hsd:=HD.out.chg.size
    have hs1:=HC1.out.size
    refine ⟨rfl,rfl,rfl,w2.heap.size,rfl,⟨k0,_,c,_,F',H',Dq,D,(by have hls:=HD.out.ls (.inl ⟨hbl,hFb⟩) ⟨by omega,by omega⟩ ⟨by omega,by omega⟩ hsd hx hlb (by have:=HGL.out;omega);rw [HLLq.out] at hls;exact hls),by omega⟩,by omega,HC1.out.trans hcf⟩
  ·go_simp
   have hca:=((zK (fun _ _=>False) w1).alloc (.cells #[.nilFunc,.int .i64 0,.int .i64 0,.slice none 0 0] 67)).drew
   refine kbK (fun wa=>Chg (fun _ _=>False) w1 wa∧ListB wa w1.heap.size .nilFunc 0 0 (.slice none 0 0)) ⟨hca,kbR _ _ rfl⟩ ?_
   clear hca
   rintro wa ⟨hca,hla⟩
   have hbl:=kbF hla
   refine hK _ _ ⟨hca.q m0,hca.q m1,hca.q m2,hca.q l0,hca.q l1,hca.q h0,hca.q h1⟩ ?_
   clear hK K
   repeat
    first
    | (refine scr_soft (by rfl) ?_ ?_ ?_ ?_
       rotate_left
       ·simp [zI,yielded];done
       ·intro w' hS
        try obtain ⟨a1,a2,a3,a4,a5,a6,a7⟩:=hS
        go_simp
        try with_reducible rfl
       simp only [zJ,zA,zB,zC])
    | (refine scr_skip (by rfl) ?_ ?_
       ·simp [zI,yielded];done
       simp only [zJ,zA,zB,zC])
   refine kbY (by rfl) (by simp [zI,yielded]) (fun K hK=>?_)
   go_simp
   refine (HGR.out _ (hc1.trans hca)).mono ?_
   rintro e w2 ⟨k0,t,F,rfl,hM,hc2',hF2',ho2'⟩
   have hc2:Chg (fun _ _=>False) w1 w2:=hca.trans hc2'
   have hF2:∀b,F b→w1.heap.size≤b:=fun b hb=>by have:=hF2' b hb;omega
   have ho2:∀b,MOwn k0 t b→w1.heap.size≤b:=fun b hb=>by have:=ho2' b hb;omega
   have hFb:¬F w1.heap.size:=fun e=>by have:=hF2' _ e;omega
   have hla2:ListB w2 w1.heap.size .nilFunc 0 0 (.slice none 0 0):=hla.keep hc2'
   have HMO:=zL (fun b (h:MOwn k0 t b)=>hM.own h)
   have hszd:w1.drew.heap.size=w1.heap.size:=rfl
   have kq1:=ho2' k0.ob (.inr (.inl rfl))
   have kq2:=ho2' k0.rb (.inr (.inr rfl))
   have hbl2:=kbF hla2
   refine hK _ _ ⟨hc2.q m0,hc2.q m1,hc2.q m2,hc2.q l0,hc2.q l1,hc2.q h0,hc2.q h1⟩ ?_
   clear hK K
   repeat
    first
    | (refine scr_soft (by rfl) ?_ ?_ ?_ ?_
       rotate_left
       ·simp [zI,yielded];done
       ·intro w' hS
        try obtain ⟨a1,a2,a3,a4,a5,a6,a7⟩:=hS
        go_simp
        try with_reducible rfl
       simp only [zJ,zA,zB,zC])
    | (refine scr_skip (by rfl) ?_ ?_
       ·simp [zI,yielded];done
       simp only [zJ,zA,zB,zC])
   refine kbY (by rfl) (by simp [zI,yielded]) (fun K hK=>?_)
   go_simp
   have hdr:=DeleteRange_any (lo:=lo) (hi:=hi) (op:=none) (inc:=false) hM rfl hdim.1 hdim.2.1 hdim.2.2.1 hdim.2.2.2.1 hdim.2.2.2.2 (by have:=HGL.out;omega)
   simp only [optV2,Option.map_none] at hdr
   have HDR:=zL hdr
   clear hdr
   refine HDR.out.mono ?_
   rintro e w3 ⟨c,q,F',H',Dq,D,rfl,hD⟩
   have hc3:Chg (fun _ _=>False) w1 w3:=hc2.trans' hD.chg (B:=fun _ _=>False) (fun _ _ _ h=>h) (fun b _ hb e=>by
    rcases e with e | rfl | e
    ·have:=hF2 b e;have:=hszd;omega
    ·have:=ho2 b MOwn.self;have:=hszd;omega
    ·have:=hc2.size;omega)
   have hlz:ListB w3 w1.heap.size .nilFunc 0 0 (.slice none 0 0):=hla2.chg hD.chg (fun _ e=>by
    rcases e with e | e | e
    ·exact hFb e
    ·have:=ho2' t MOwn.self;omega
    ·omega)
   refine hK _ _ ⟨hc3.q m0,hc3.q m1,hc3.q m2,hc3.q l0,hc3.q l1,hc3.q h0,hc3.q h1⟩ ?_
   clear hK K
   repeat
    first
    | (refine scr_soft (by rfl) ?_ ?_ ?_ ?_
       rotate_left
       ·simp [zI,yielded];done
       ·intro w' hS
        try obtain ⟨a1,a2,a3,a4,a5,a6,a7⟩:=hS
        go_simp
        try with_reducible rfl
       simp only [zJ,zA,zB,zC])
    | (refine scr_skip (by rfl) ?_ ?_
       ·simp [zI,yielded];done
       simp only [zJ,zA,zB,zC])
   obtain ⟨qa,qc,hqf⟩:=hD.qo.sl.form
   subst hqf
   have HD:=zL hD
   have HC3:=zL hc3
   clear hD hc3
   unfold kcK
   have l0':=hlz.c0
   have l1':=hlz.c1
   have l2':=hlz.c2
   have l3':=hlz.c3
   have z0:=hlz.fz 0
   have z1:=hlz.fz 1
   have z2:=hlz.fz 2
   have z3:=hlz.fz 3
   have HLZ:=zL hlz
   clear hlz
   refine kbY (by rfl) (by simp [zI,yielded]) (fun K hK=>?_)
   go_simp
   have hx:Chg (fun x _=>x=w1.heap.size) w3 ((((w3.setCell ⟨w1.heap.size,0,none⟩ (kcK k0)).setCell ⟨w1.heap.size,1,none⟩ (.int .i64 c)).setCell ⟨w1.heap.size,2,none⟩ (.int .i64 0)).setCell ⟨w1.heap.size,3,none⟩ (.slice qa Dq.length qc)):=((((zK _ _).setCell (.inl rfl) _).setCell (.inl rfl) _).setCell (.inl rfl) _).setCell (.inl rfl) _
   have hlb:=blk4r HLZ.out (kcK k0) (.int .i64 c) (.int .i64 0) (.slice qa Dq.length qc)
   have hcf:=HC3.out.trans' hx (B:=fun _ _=>False) (fun _ _ _ h=>h) (fun b _ hb e=>by omega)
   refine hK _ _ ⟨hcf.q m0,hcf.q m1,hcf.q m2,hcf.q l0,hcf.q l1,hcf.q h0,hcf.q h1⟩ ?_
   clear hK K
   refine kcJ ?_
   have ko1:=HMO.out k0.ob (.inr (.inl rfl))
   have ko2:=HMO.out k0.rb (.inr (.inr rfl))
   have kp1:=ho2 k0.ob (.inr (.inl rfl))
   have kp2:=ho2 k0.rb (.inr (.inr rfl))
   have hsd:=HD.out.chg.size
   have hs1:=HC1.out.size
   refine ⟨rfl,rfl,rfl,w1.heap.size,rfl,⟨k0,_,c,_,F',H',Dq,D,(by have hls:=HD.out.ls (.inl ⟨hbl2,hFb⟩) ⟨by omega,by omega⟩ ⟨by omega,by omega⟩ hsd hx hlb (by have:=HGL.out;omega);rw [HLLq.out] at hls;exact hls),by omega⟩,by omega,HC1.out.trans hcf⟩
 ·intro e a w2 he
  cases e with
  | normal =>
   obtain ⟨hd0,hs30,s4,b,s13,⟨k0,base,c,q,F,H,Dq,D,hLs,hbase⟩,hbw,hc2⟩:=he
   rename_i hK
   refine hK _ _ ?_
   clear hK m0 m1 m2 l0 l1 h0 h1 HGR
   obtain ⟨tmps,defers⟩:=a
   obtain ⟨f,rfl⟩:=frame30 tmps hs30
   simp only [zF,zE,zD,Option.some.injEq] at s4 s13
   replace hd0:defers=[]:=hd0
   subst hd0
   rw [s4,s13]
   have HLS:=zL hLs
   have HC2:=zL hc2
   have hct:c=(LL.length:Int):=hLs.ct
   subst hct
   clear hs30 s4 s13 hLs hc2 hc1 hlt1
   go_wp2_with fail
   refine kbW (fun w3=>Chg (fun _ _=>False) w2 w3∧w3.heap[w2.heap.size]?=some (.cells #[.slice none 0 0] 25 (0,0))∧w3.heap.size=w2.heap.size+1) ⟨(zK _ _).alloc _,kbR _ _ rfl,by simp⟩ ?_
   rintro w3 ⟨hc3,hb3,hs3⟩
   have HS3:=zL hs3
   have HKT:=zL (taker_kept (n:=n) hb3)
   clear hb3 hs3
   refine (taker_any w2.heap.size n w3).mono ?_
   rintro e w4 ⟨rfl,hw4⟩
   have hk:Kept n w2.heap.size w3.heap.size (w3.heap.size+1) w4.heap.size w4 []:=by rw [hw4];exact HKT.out
   have hc4:Chg (fun _ _=>False) w3 w4:=by rw [hw4];exact ((zK _ _).alloc _).alloc _
   have HS4:=zL (show w4.heap.size=w3.heap.size+2 by rw [hw4];simp)
   clear hw4 HKT
   have hc34:=hc3.trans hc4
   have hsc:=(HLS.out.chg (hc34.mono (fun _ _ _ h=>h.elim))).scan hk (zi _) (by have:=HS3.out;omega) (by have:=HS3.out;omega) (by have:=HS3.out;have:=HS4.out;omega)
   unfold fnG at hsc
   have HSC:=zL hsc
   have HC34:=zL hc34
   clear hsc hk hc3 hc4 hc34
   go_wp2_with fail
   refine HSC.out.mono ?_
   rintro e w5 ⟨rfl,hk5,⟨np',a',n',cap',hl5⟩,hc5⟩
   have HK5:=zL hk5
   have HL5:=zL hl5
   have HC5:=zL hc5
   clear hk5 hl5 hc5
   go_wp2_with fail
   refine (LLen_any HL5.out).mono ?_
   rintro e w6 ⟨rfl,hw6⟩
   subst hw6
   go_wp2_with fail
   refine (Clear_row HL5.out).mono ?_
   rintro e w7 ⟨rfl,hl7,hc7⟩
   obtain ⟨⟨v,g1,g2⟩,_,_,gl,_⟩:=HK5.out
   have hbl:=HLS.out.bl
   have g7:w7.heap[w2.heap.size]?=some (.cells #[v] 25 (0,0)):=by rw [hc7.block (kbF g1) (fun _ e=>by omega)];exact g1
   have kk0:=kbB g7 0
   simp only [zF,zD] at kk0
   have HO7:=zL (g2.chgOwn hc7 (fun x _ hx e=>by have:=(g2.own_lt hx).1;omega))
   have HL7:=zL hl7
   have HC7:=zL hc7
   clear g1 g2 g7 hl7 hc7 gl
   go_wp2_with fail
   refine kbH (fun w'=>w'.cell? ⟨w2.heap.size,0,none⟩=some v) (.soft 0 (.soft 1 (.hard 2 (.soft 3 (.soft 4 (.soft 5 .nil)))))) (by kernel_rfl) (by kernel_rfl) (fun _ _ _ _ _ h=>h) kk0 ?_
   repeat
    first
    | (refine scr_soft (by rfl) ?_ ?_ ?_ ?_
       rotate_left
       ·simp [zI,yielded];done
       ·intro w' hS
        try obtain ⟨a1⟩:=hS
        go_simp
        try with_reducible rfl
       simp only [zJ,zA,zB,zC])
    | (refine scr_skip (by rfl) ?_ ?_
       ·simp [zI,yielded];done
       simp only [zJ,zA,zB,zC])
   refine kbY (by rfl) (by simp [zI,yielded]) (fun K hK=>?_)
   go_simp
   refine (LLen_any (HL7.out.keep (zK _ _).drew)).mono ?_
   rintro e w8 ⟨rfl,hw8⟩
   have hw8':=hw8.symm
   subst hw8'
   refine hK _ _ kk0 ?_
   clear hK K
   repeat
    first
    | (refine scr_soft (by rfl) ?_ ?_ ?_ ?_
       rotate_left
       ·simp [zI,yielded];done
       ·intro w' hS
        try obtain ⟨a1⟩:=hS
        go_simp
        try with_reducible rfl
       simp only [zJ,zA,zB,zC])
    | (refine scr_skip (by rfl) ?_ ?_
       ·simp [zI,yielded];done
       simp only [zJ,zA,zB,zC])
   refine kcJ ?_
   go_wp2_with fail
   refine bodyPost_ret (v:=.tuple #[v,.int .i64 LL.length,.int .i64 0]) (by simp [results,Try.results31,go_sem]) rfl ?_
   have hs2:=HC2.out.size
   have hs34:=HC34.out.size
   refine ⟨v,rfl,(HO7.out.keep (zK _ _).drew).mono (by omega),(((HC2.out.trans HC34.out).trans' HC5.out (B:=fun _ _=>False) (fun _ _ _ h=>h) (fun x _ hx e=>?_)).trans' HC7.out (B:=fun _ _=>False) (fun _ _ _ h=>h) (fun x _ hx e=>by omega)).drew⟩
   rcases e with e | e | e | e
   ·omega
   ·have:=(HLS.out.qo.own_lt e).1;omega
   ·omega
   ·omega
  | _=>exact he.elim
end
end
section
open Go.RowKit
theorem gList_any {ord:List Int} (sv:Value) (d:Int) (nl:Bool) (p:Option Addr) (cap:Nat) (l:List (It ord)) (lo hi:It ord) (n:Int) (w:World) (hs:SlE intE w sv ord) (hol:ord.length≤2147483647) (hd:FitD d) (hl:ItemsAt w p l) (hlen:l.length≤2147483647) :
  Calls Try.prog 14 #[.agg #[sv,.int .i64 d,.bool nl],.slice p l.length cap,.agg #[.int .i64 lo.1,.int .i64 lo.2],.agg #[.int .i64 hi.1,.int .i64 hi.2],.int .i64 n] w fun e w'=>e=.returned (.bool true)∧Chg (fun _ _=>False) w w':=by
 have HM:=zL (fun w1 (c:Chg (fun _ _=>False) w w1)=>GList_any sv d nl p cap l lo hi n w1 (hs.chg c) hol hd (hl.chg c) hlen)
 have hG:=fun w1 (c:Chg (fun _ _=>False) w w1)=>specGList_any sv d nl p cap l lo hi n w1 (hs.chg c) hol (hl.chg c) hlen
 unfold itemV at hG
 have HG:=zL hG
 have e1:growL (ord:=ord) l=treeL (ltR (rkL ord)) l:=rfl
 rw [e1] at HM
 have hlen2:=treeL_len (ltR (rkL ord)) l
 have hfl0:=List.length_filter_le (insR (rkL ord) lo hi false) (treeL (ltR (rkL ord)) l)
 have hfl:=firstN_len n ((treeL (ltR (rkL ord)) l).filter (insR (rkL ord) lo hi false))
 generalize (treeL (ltR (rkL ord)) l).filter (insR (rkL ord) lo hi false)=LL at HM HG hfl hfl0
 generalize kfQ n LL=L1 at HM HG hfl
 obtain ⟨sa,sc,rfl⟩:∃a c,sv=.slice a ord.length c:=hs.form
 clear hs hl e1 hG
 go_enter Try.func14,Try.ntmps14
 go_wp2_with fail
 refine kbW (fun w1=>Chg (fun _ _=>False) w w1∧w1.heap[w.heap.size]?=some (.cells #[.slice sa ord.length sc,.int .i64 d,.bool nl] 24 (0,0))∧w1.heap[w.heap.size+1]?=some (.cells #[.int .i64 lo.1,.int .i64 lo.2] 27 (0,0))∧w1.heap[w.heap.size+2]?=some (.cells #[.int .i64 hi.1,.int .i64 hi.2] 27 (0,0))) ⟨(((zK _ _).alloc _).alloc _).alloc _,?_,?_,?_⟩ ?_
 ·rw [kcV _ _ (by simp;try omega),kcV _ _ (by simp;try omega)];exact kbR _ _ rfl
 ·rw [kcV _ _ (by simp;try omega)];exact kbR _ _ (by simp)
 ·exact kbR _ _ (by simp)
 rintro w1 ⟨hc1,hb0,hb1,hb2⟩
 have m0:=kbB hb0 0
 have m1:=kbB hb0 1
 have m2:=kbB hb0 2
 have l0:=kbB hb1 0
 have l1:=kbB hb1 1
 have h0:=kbB hb2 0
 have h1:=kbB hb2 1
 simp only [zF,zD,zE] at m0 m1 m2 l0 l1 h0 h1
 clear hb0 hb1 hb2
 refine (HM.out _ hc1).mono ?_
 rintro e w2 ⟨v1,rfl,how1,hc2⟩
 replace m0:=hc2.q m0
 replace m1:=hc2.q m1
 replace m2:=hc2.q m2
 replace l0:=hc2.q l0
 replace l1:=hc2.q l1
 replace h0:=hc2.q h0
 replace h1:=hc2.q h1
 have HOW:=zL how1
 clear how1
 go_wp2_with fail
 refine (HG.out _ (hc1.trans hc2)).mono ?_
 rintro e w3 ⟨v3,rfl,hs3,hc3⟩
 have HS3:=zL hs3
 clear hs3
 go_wp2_with fail
 refine (equal_item _ _ _ _ (HOW.out.sl.chg hc3) HS3.out (by omega)).mono ?_
 rintro e w4 ⟨rfl,hc4⟩
 go_wp2_with fail
 go_ret
 exact ⟨rfl,((hc1.trans hc2).trans hc3).trans hc4⟩
theorem law_ExactGList (sv:Value) (os:List Int) (d:Int) (nl:Bool) (p:Option Addr) (cap:Nat) (l:List (Int×Int)) (x y:Int×Int) (n:Int) (w:World) (hs:SlE intE w sv os) (hl:ItemsAt w p l) :
  Calls Try.prog 4 #[.agg #[sv,.int .i64 d,.bool nl],.slice p l.length cap,.agg #[.int .i64 x.1,.int .i64 x.2],.agg #[.int .i64 y.1,.int .i64 y.2],.int .i64 n] w fun e w'=>e=.returned (.bool true)∧Chg (fun _ _=>False) w w':=by
 obtain ⟨sa,sc,rfl⟩:∃a c,sv=.slice a os.length c:=hs.form
 have hz:=fun w1=>zzFits1_any sa os.length sc d nl w1
 by_cases hol:os.length≤2147483647
 rotate_left
 ·rw [decide_eq_false hol] at hz
  go_enter Try.func4,Try.ntmps4
  go_wp2_with fail
  refine kbW (fun w1=>Chg (fun _ _=>False) w w1) (((((zK _ _).alloc _).alloc _).alloc _)) ?_
  intro w1 hc1
  refine (hz w1).mono ?_
  rintro e w2 ⟨rfl,hc2⟩
  go_wp2_with fail
  go_ret
  exact ⟨rfl,hc1.trans hc2⟩
 rw [decide_eq_true hol] at hz
 by_cases hlen:l.length≤2147483647
 rotate_left
 ·have hlen':2147483647 < l.length:=by omega
  go_enter Try.func4,Try.ntmps4
  go_wp2_with fail
  refine kbW (fun w1=>Chg (fun _ _=>False) w w1) (((((zK _ _).alloc _).alloc _).alloc _)) ?_
  intro w1 hc1
  refine (hz w1).mono ?_
  rintro e w2 ⟨rfl,hc2⟩
  go_wp2_with fail
  go_ret
  exact ⟨rfl,hc1.trans hc2⟩
 have hn:¬2147483647 < l.length:=by omega
 have HEX:=zL (fun q w1 (hq:ItemsAt w1 q exL)=>gList_any (ord:=[]) (.slice none 0 0) 2 false q 7 exL ((2,0):Int×Int) ((8,0):Int×Int) 2 w1 ⟨none,0,rfl,zi _,.inl rfl⟩ (by simp) (.inr ⟨by omega,by omega⟩) hq (by decide))
 have HG:=zL (fun hd w1 (c:Chg (fun _ _=>False) w w1)=>gList_any (ord:=os) (.slice sa os.length sc) d nl p cap l x y n w1 (hs.chg c) hol hd (hl.chg c) hlen)
 clear hs hl
 have q1:exL.length=7:=rfl
 go_enter Try.func4,Try.ntmps4
 go_wp2_with fail
 refine kbW (fun w1=>Chg (fun _ _=>False) w w1∧w1.heap[w.heap.size]?=some (.cells #[.slice sa os.length sc,.int .i64 d,.bool nl] 24 (0,0))∧w1.heap[w.heap.size+1]?=some (.cells #[.int .i64 x.1,.int .i64 x.2] 27 (0,0))∧w1.heap[w.heap.size+2]?=some (.cells #[.int .i64 y.1,.int .i64 y.2] 27 (0,0))) ⟨((((zK _ _).alloc _).alloc _).alloc _),?_,?_,?_⟩ ?_
 ·rw [kcV _ _ (by simp;try omega),kcV _ _ (by simp;try omega)];exact kbR _ _ rfl
 ·rw [kcV _ _ (by simp;try omega)];exact kbR _ _ (by simp)
 ·exact kbR _ _ (by simp)
 rintro w1 ⟨hc1,hb0,hb1,hb2⟩
 have j0:=kbB hb2 0
 have j1:=kbB hb2 1
 have k0:=kbB hb1 0
 have k1:=kbB hb1 1
 have m0:=kbB hb0 0
 have m1:=kbB hb0 1
 have m2:=kbB hb0 2
 simp only [zF,zD,zE] at m0 m1 m2 k0 k1 j0 j1
 clear hb0 hb1 hb2
 refine (hz w1).mono ?_
 rintro e w2 ⟨rfl,hc2⟩
 replace m0:=hc2.q m0
 replace m1:=hc2.q m1
 replace m2:=hc2.q m2
 replace k0:=hc2.q k0
 replace k1:=hc2.q k1
 replace j0:=hc2.q j0
 replace j1:=hc2.q j1
 go_wp2_with fail
 refine (exMake_any _).mono ?_
 rintro e w3 ⟨rfl,hc3⟩
 replace m0:=hc3.q m0
 replace m1:=hc3.q m1
 replace m2:=hc3.q m2
 replace k0:=hc3.q k0
 replace k1:=hc3.q k1
 replace j0:=hc3.q j0
 replace j1:=hc3.q j1
 go_wp2_with fail
 refine (exItems_any _).mono ?_
 rintro e w4 ⟨q,rfl,hq,hc4⟩
 replace m0:=hc4.q m0
 replace m1:=hc4.q m1
 replace m2:=hc4.q m2
 replace k0:=hc4.q k0
 replace k1:=hc4.q k1
 replace j0:=hc4.q j0
 replace j1:=hc4.q j1
 go_wp2_with fail
 refine (HEX.out q _ hq).mono ?_
 rintro e w5 ⟨rfl,hc5⟩
 replace m0:=hc5.q m0
 replace m1:=hc5.q m1
 replace m2:=hc5.q m2
 replace k0:=hc5.q k0
 replace k1:=hc5.q k1
 replace j0:=hc5.q j0
 replace j1:=hc5.q j1
 have hc04:=(((hc1.trans hc2).trans hc3).trans hc4).trans hc5
 by_cases hd:FitD d
 ·go_wp2_with fail
  refine (fits_fit d _ hd).mono ?_
  rintro e w' ⟨rfl,rfl⟩
  go_wp2_with fail
  refine (HG.out hd _ hc04).mono ?_
  rintro e w5 ⟨rfl,hc5⟩
  go_wp2_with fail
  go_ret
  exact ⟨rfl,hc04.trans hc5⟩
 ·go_wp2_with fail
  refine (fits_not d _ hd).mono ?_
  rintro e w' ⟨rfl,rfl⟩
  go_wp2_with fail
  go_ret
  exact ⟨rfl,hc04⟩
end
section
open Go.ChangeShapes Go.WideShapes Go.ChangeAt Go.RowKit
section
open Go.ChangeShapes
variable {H:Type} {enc:TypeId×Value→H} {P:Program} {w:World} {base:Nat} {spare:Nat→Bool} {held:Bool}
theorem trodAll_five {t t' t'' t3 t4:TypeId} {args:Array Value} {ds:List (DataW H)} {ps:List MemPlace} (h:DataW.TrodAll enc P w base spare held [t,t',t'',t3,t4] args.toList ds ps) :
  ∃v v' v'' v3 v4 d d' d'' d3 d4 p p' p'' p3 p4,args=#[v,v',v'',v3,v4]∧ds=[d,d',d'',d3,d4]∧ps=p++p'++p''++p3++p4∧DataW.Trod enc P w base spare held t v d p∧DataW.Trod enc P w base spare held t' v' d' p'∧DataW.Trod enc P w base spare held t'' v'' d'' p''∧DataW.Trod enc P w base spare held t3 v3 d3 p3∧DataW.Trod enc P w base spare held t4 v4 d4 p4:=by
 obtain ⟨v,vs,d,ds',p,q,hargs,rfl,rfl,hd,hrest⟩:=trodAll_cons h
 obtain ⟨v',vs',d',ds'',p',q',rfl,rfl,rfl,hd',hrest'⟩:=trodAll_cons hrest
 obtain ⟨v'',vs'',d'',ds''',p'',q'',rfl,rfl,rfl,hd'',hrest''⟩:=trodAll_cons hrest'
 obtain ⟨v3,vs3,d3,ds3,p3,q3,rfl,rfl,rfl,hd3,hrest3⟩:=trodAll_cons hrest''
 obtain ⟨v4,vs4,d4,ds4,p4,q4,rfl,rfl,rfl,hd4,hrest4⟩:=trodAll_cons hrest3
 obtain ⟨rfl,rfl,rfl⟩:=trodAll_nil hrest4
 exact ⟨v,v',v'',v3,v4,d,d',d'',d3,d4,p,p',p'',p3,p4,by cases args;simp_all,rfl,by simp,hd,hd',hd'',hd3,hd4⟩
end
namespace fnExactGList
theorem own:ownKnob Try.prog.godebug=none:=by kernel_rfl
theorem laid:laidOutB Try.prog=true:=by kernel_rfl
theorem lifted (os:Os) (started:os.Started) (H:Type) (enc:TypeId×Value→H) :
  ReturnsInHanded {} Try.checked os 4 .any (Rows.fnExactGListSpec.pre6 enc Try.prog Try.f4 Rows.fnExactGListRow.domain false) (Rows.fnExactGListSpec.post enc Try.prog Try.f4 false true false false):=by
 refine returnsInHanded_of_change (C:=Try.checked) own started (by kernel_rfl) Try.func4
  (ChangeSpec.witness6 (enc:=enc) (C:=Try.checked) false ⟨#[],#[.agg #[.slice none 0 0,.int .i64 0,.bool false],.slice none 0 0,.agg #[.int .i64 0,.int .i64 0],.agg #[.int .i64 0,.int .i64 0],.int .i64 0],[]⟩ 8 (by kernel_rfl) (by kernel_rfl) (by kernel_rfl) (by kernel_rfl)) ?_
 intro W base args ds gs before hval0 hW hcnd _
 have hval:∀(j:Nat) t v,Try.f4.params[j]?=some t→args[j]?=some v→Value.okWide Try.prog W .any base t v:=hval0
 have hW':=hW
 obtain ⟨p,q,hA0,hV,rfl,hfz,hnd⟩:=hW
 have hA:DataW.TrodAll enc Try.prog W 0 (fun _=>true) true Try.f4.params.toList args.toList ds p:=hA0
 rw [Try.params4] at hA hval
 obtain ⟨v0,v1,v2,v3,v4,d0,d1,d2,d3,d4,p0,p1,p2,p3,p4,rfl,rfl,rfl,h0,h1,h2,h3,h4⟩:=trodAll_five hA
 obtain ⟨rfl,rfl⟩:=trodVars_none hV
 obtain ⟨sv,ord,dg,nl,rfl,hs⟩:=open_make (hval 0 24 v0 rfl rfl) h0
 obtain ⟨a,l,cap,rfl,hl,_⟩:=open_items Try.underlying25 Try.underlying27 (by kernel_rfl) rfl rfl rfl rfl (by kernel_rfl) Try.underlying3 (hval 1 25 v1 rfl rfl) h1
 obtain ⟨xx,rfl⟩:=open_item (hval 2 27 v2 rfl rfl) h2
 obtain ⟨yy,rfl⟩:=open_item (hval 3 27 v3 rfl rfl) h3
 obtain ⟨nn,rfl,rfl,rfl,_⟩:=open_int Try.underlying3 (hval 4 3 v4 rfl rfl) h4
 refine (law_ExactGList sv ord dg nl a cap l xx yy nn W hs hl).mono fun e W' ⟨he,hc⟩=>?_
 subst he
 exact ⟨_,rfl,law_post laid (by kernel_rfl) rfl Try.underlying4 hW' rfl rfl (hc.below (zi _) (fun _ _ _ h=>h))⟩
theorem proved:Rows.FnExactGListSaid :=
 OpenClaim.holds_of_wide 4 Try.f4 rfl rfl rfl rfl rfl rfl rfl ⟨rfl,rfl,rfl,rfl,rfl⟩ rfl rfl rfl rfl rfl (by kernel_rfl) Try.func4 (by kernel_rfl)
  (of_decide_eq_true (by kernel_rfl)) (by unfold Func.isWrapper;first | (rw [if_pos (by decide +kernel)];kernel_rfl) | (rw [if_neg (by decide +kernel)];exact ⟨rfl,rfl⟩))
  (fun os started H enc _=>lifted os started H enc)
end fnExactGList
end
end Go.Proofs.Ytnohimhihombmaa
