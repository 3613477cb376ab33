/- Counts of ranges: no program in sight; GLen. -/
import Derived.Test.YtnohimhihombmaaA12
import Derived.Test.YtnohimhihombmaaYasc
import Derived.Test.YtnohimhihombmaaX5
namespace Go.Proofs.Ytnohimhihombmaa
set_option linter.unusedSimpArgs false
set_option linter.unusedVariables false
set_option maxRecDepth 100000
set_option maxHeartbeats 40000000
open Value renaming int → Ii, pointer → Ip, slice → Is, tuple → Iu
open IntKind renaming i64 → Ij
open Obj renaming cells → Ic
open Ending renaming returned → Ir
open Option.some renaming inj → Iq
open _root_.Go.Proofs.Try renaming prog → Tp
open List renaming setIfInBounds_toArray → zA, set_cons_zero → zB, set_cons_succ → zC, getElem?_cons_zero → zD, getElem?_cons_succ → zE, getElem?_toArray → zF, mem_cons_self → zP, mem_cons_of_mem → zQ
open Region renaming wanted → zI
open Act renaming put → zJ
open Chg renaming refl → zK
open Lib renaming hid → zL
open Go.RowKit
section
theorem Items_any {ord:List Int}{k:Kc ord}{mn mx:Nat}{w:World}{F:Nat→Prop}{t:Nat}{l:List (It ord)}(hM:MapIn k mn mx w F t l)(hmn:1≤mn)(hlen:l.length≤1000000000000) :
  Calls Tp 25 #[Ip (some ⟨t,0,none⟩)] w (OwnPostI l w):=by
 have HK:=zL (items_any false hM hmn hlen)
 clear hM
 go_enter Try.func25,Try.ntmps25
 go_wp2_with fail
 refine HK.out.mono ?_
 rintro e w1 ⟨v1,rfl,h1,h2⟩
 go_wp2_with fail
 go_ret
 exact ⟨v1,rfl,h1,h2⟩
theorem GItems_any {ord:List Int}(sv:Value)(d:Int)(nl:Bool)(p:Option Addr)(cap:Nat)(l:List (It ord))(w:World)(hs:SlE intE w sv ord)(hol:ord.length≤2147483647)(hd:FitD d)(hl:ItemsAt w p l)(hlen:l.length≤2147483647) :
  Calls Tp 10 #[.agg #[sv,Ii Ij d,.bool nl],.slice p l.length cap] w (OwnPostI (kgP l) w):=by
 have HG:=zL (fun w1 (c:Chg (fun _ _=>False) w w1)=>grow_any (ord:=ord) sv d nl p cap l w1 hd (hs.chg c) hol (hl.chg c) hlen)
 have hdim:=hd.dims.1
 unfold GrowPost at HG
 have hgl:=kgB l l.length
 rw [List.take_length] at hgl
 have HGL:=zL hgl
 obtain ⟨sa,sc,rfl⟩:∃a c,sv=.slice a ord.length c:=hs.form
 clear hs hl hgl
 go_enter Try.func10,Try.ntmps10
 go_wp2_with fail
 refine (HG.out _ ((zK _ _).alloc _)).mono ?_
 rintro e w2 ⟨k,t,F,rfl,hM,hc2,_,_⟩
 go_wp2_with fail
 refine (Items_any hM hdim (by have:=HGL.out;omega)).mono ?_
 rintro e w3 ⟨v,rfl,how,hc3⟩
 have hc0:=(((zK (fun _ _=>False) w).alloc _)).trans hc2
 go_wp2_with fail
 go_ret
 exact ⟨v,rfl,how.mono hc0.size,hc0.trans hc3⟩
theorem lawFits_yes (a:Option Addr)(m c:Nat)(d:Int)(nl:Bool)(w:World)(hd:FitD d) :
  Calls Tp 8 #[.agg #[.slice a m c,Ii Ij d,.bool nl]] w fun e w'=>e=Ir (.bool true)∧Chg (fun _ _=>False) w w':=by
 go_enter Try.func8,Try.ntmps8
 go_wp2_with fail
 refine (fits_fit d _ hd).mono ?_
 rintro e w' ⟨rfl,rfl⟩
 go_wp2_with fail
 go_ret
 exact ⟨rfl,(zK _ _).alloc _⟩
theorem lawFits_no (a:Option Addr)(m c:Nat)(d:Int)(nl:Bool)(w:World)(hd:¬FitD d) :
  Calls Tp 8 #[.agg #[.slice a m c,Ii Ij d,.bool nl]] w fun e w'=>e=Ir (.bool false)∧Chg (fun _ _=>False) w w':=by
 go_enter Try.func8,Try.ntmps8
 go_wp2_with fail
 refine (fits_not d _ hd).mono ?_
 rintro e w' ⟨rfl,rfl⟩
 go_wp2_with fail
 go_ret
 exact ⟨rfl,(zK _ _).alloc _⟩
def exL3:List (Int×Int):=[(5,1),(3,2),(9,3)]
theorem grow3:(kgP (ord:=[]) exL3).length=3:=by decide
theorem ItemsAt.take {w:World}{p:Option Addr}{l:List (Int×Int)}(h:ItemsAt w p l)(n:Nat):ItemsAt w p (l.take n):=by
 rcases h with rfl | ⟨b,o,rfl,hc⟩
 ·exact .inl (by simp)
 ·refine .inr ⟨b,o,rfl,fun i x hx=>hc i x ?_⟩
  rw [List.getElem?_take] at hx
  split at hx
  ·exact hx
  ·cases hx
theorem alive_any (w:World):Calls Tp 9 #[] w fun e w'=>e=Ir (.bool true)∧Chg (fun _ _=>False) w w':=by
 have HI:=zL (fun q w1 (hq:ItemsAt w1 q exL3)=>GItems_any (ord:=[]) (Is none 0 0) 2 false q 7 exL3 w1 ⟨none,0,rfl,Nat.le_refl _,.inl rfl⟩ (by simp) (.inr ⟨by omega,by omega⟩) hq (by decide))
 have q1:exL.length=7:=rfl
 have q3:exL3.length=3:=rfl
 unfold OwnPostI at HI
 rw [q3] at HI
 go_enter Try.func9,Try.ntmps9
 go_wp2_with fail
 refine (exMake_any _).mono ?_
 rintro e w1 ⟨rfl,hc1⟩
 go_wp2_with fail
 refine (exItems_any _).mono ?_
 rintro e w2 ⟨q,rfl,hq,hc2⟩
 go_wp2_with fail
 refine (HI.out q _ (hq.take 3)).mono ?_
 rintro e w3 ⟨v,rfl,how,hc3⟩
 obtain ⟨a,c,rfl⟩:=how.sl.form
 have hl3:(kgP (ord:=[]) exL3).length=3:=grow3
 rw [hl3]
 clear how
 go_wp2_with fail
 go_ret
 exact ⟨rfl,(hc1.trans hc2).trans hc3⟩
end
section
variable {ord:List Int}{k:Kc ord}
section
variable {ord:List Int}
theorem ranges_any (inc:Bool)(w:World) :
  Calls Tp 35 #[.agg #[.bool false,.bool false,.bool inc]] w fun e w'=>∃b,e=Ir (Ip (some ⟨b,0,none⟩))∧OptB (some b) inc w'∧Chg (fun _ _=>False) w w':=by
 go_enter Try.func35,Try.ntmps35
 go_wp2_with fail
 go_ret
 exact ⟨_,rfl,kbT _ _ (by simp),((zK _ _).alloc _).alloc _⟩
theorem frame28 (A:Array Value)(h:A.size=28):∃f:Nat→Value,A=#[f 0,f 1,f 2,f 3,f 4,f 5,f 6,f 7,f 8,f 9,f 10,f 11,f 12,f 13,f 14,f 15,f 16,f 17,f 18,f 19,f 20,f 21,f 22,f 23,f 24,f 25,f 26,f 27]:=⟨fun i=>(A[i]?).getD undef,(arr_lit A 28 h).trans rfl⟩
def GrSt (ord:List Int)(mn mx:Nat)(w:World)(L Lo:List (It ord))(a:Act)(w':World):Prop :=
 a.defers=[]∧a.tmps.size=28∧∃t b,a.tmps[13]?=some (Ip (some ⟨t,0,none⟩))∧a.tmps[14]?=some (Ip (some ⟨b,0,none⟩))∧(∃(k:Kc ord) (base:Nat) (c:Int) (q:Value) (F:Nat→Prop) (H:HN ord) (Dq D:List (Bk ord)),LsOk k mn mx b base w'.heap.size w' c q F H Dq D L∧w.heap.size≤base∧(∃F2:Nat→Prop,(∀x,F2 x→F x)∧MapIn k mn mx w' F2 t Lo)∧∀x,MOwn k t x→x≠b∧q.ownBlock≠some x)∧w.heap.size≤b∧Chg (fun _ _=>False) w w'
theorem GDeleteRange_any (sv:Value)(d:Int)(nl:Bool)(p:Option Addr)(cap:Nat)(l:List (It ord))(lo hi:It ord)(inc:Bool)(w:World)(hs:SlE intE w sv ord)(hol:ord.length≤2147483647)(hd:FitD d)(hl:ItemsAt w p l)(hlen:l.length≤2147483647) :
  Calls Tp 19 #[.agg #[sv,Ii Ij d,.bool nl],.slice p l.length cap,.agg #[Ii Ij lo.1,Ii Ij lo.2],.agg #[Ii Ij hi.1,Ii Ij hi.2],.agg #[.bool false,.bool false,.bool inc]] w fun e w'=>∃v1 v2,e=Ir (Iu #[v1,Ii Ij ((kgP l).filter (insR (rkL ord) lo hi inc)).length,v2])∧OwnE itemE w' v1 ((kgP l).filter (insR (rkL ord) lo hi inc)) w.heap.size∧OwnE itemE w' v2 ((kgP l).filter fun x=>!insR (rkL ord) lo hi inc x) w.heap.size∧Chg (fun _ _=>False) w w':=by
 have hlo:=List.length_filter_le (fun x=>!insR (rkL ord) lo hi inc x) (kgP l)
 obtain ⟨LL,hLL⟩:∃LL,(kgP l).filter (insR (rkL ord) lo hi inc)=LL:=⟨_,rfl⟩
 obtain ⟨Lo,hLo⟩:∃Lo,((kgP l).filter fun x=>!insR (rkL ord) lo hi inc x)=Lo:=⟨_,rfl⟩
 rw [hLL,hLo]
 rw [hLo] at hlo
 have HLLq:=zL hLL
 have HLo:=zL hLo
 clear hLL hLo
 have HGR:=zL (fun w1 (c:Chg (fun _ _=>False) w w1)=>grow_any (ord:=ord) sv d nl p cap l w1 hd (hs.chg c) hol (hl.chg c) hlen)
 unfold GrowPost at HGR
 have hgl:=kgB l l.length
 rw [List.take_length] at hgl
 have HGL:=zL (Nat.le_trans hgl hlen)
 have HLN:=zL (Nat.le_trans hlo (Nat.le_trans hgl hlen))
 have hdim:=hd.dims
 obtain ⟨sa,sc,rfl⟩:∃a c,sv=.slice a ord.length c:=hs.form
 clear hgl hl hs hlo
 go_enter Try.func19,Try.ntmps19
 go_wp2_with fail
 refine kbW (fun w1=>Chg (fun _ _=>False) w w1∧w1.heap[w.heap.size+1]?=some (Ic #[Ii Ij lo.1,Ii Ij lo.2] 27 (0,0))∧w1.heap[w.heap.size+2]?=some (Ic #[Ii Ij hi.1,Ii Ij hi.2] 27 (0,0))∧w1.heap[w.heap.size+3]?=some (Ic #[.bool false,.bool false,.bool inc] 44 (0,0))) ⟨((((zK _ _).alloc _).alloc _).alloc _).alloc _,?_,?_,?_⟩ ?_
 ·rw [kcZ _ _ (by simp;try omega),kcZ _ _ (by simp;try omega)];exact kbT _ _ (by simp)
 ·rw [kcZ _ _ (by simp;try omega)];exact kbT _ _ (by simp)
 ·exact kbT _ _ (by simp)
 rintro w1 ⟨hc1,hb1,hb2,hb3⟩
 have l0:=kbB hb1 0
 have l1:=kbB hb1 1
 have h0:=kbB hb2 0
 have h1:=kbB hb2 1
 have o0:=kbB hb3 0
 have o1:=kbB hb3 1
 have o2:=kbB hb3 2
 simp only [zF,zD,zE] at l0 l1 h0 h1 o0 o1 o2
 have hlt1:=kbF hb3
 clear hb1 hb2 hb3
 refine (HGR.out _ hc1).mono ?_
 rintro e w2 ⟨k0,t,F,rfl,hM,hc2,hF2,ho2⟩
 have HC1:=zL hc1
 have HC2:=zL hc2
 have HF2:=zL hF2
 have HO2:=zL ho2
 have HMO:=zL (fun b (h:MOwn k0 t b)=>hM.own h)
 have k0':=hc2.q l0
 have k1':=hc2.q l1
 have k2':=hc2.q h0
 have k3':=hc2.q h1
 have k4':=hc2.q o0
 have k5':=hc2.q o1
 have k6':=hc2.q o2
 clear hc1 hF2 ho2
 go_wp2_with fail
 refine wp_mono (Q:=kfZ (GrSt ord (mnD d) (mxD d) w LL Lo)) ?_ ?_
 ·
  refine kbM (fun w'=>w'.cell? ⟨w.heap.size+1,0,none⟩=some (Ii Ij lo.1)∧w'.cell? ⟨w.heap.size+1,1,none⟩=some (Ii Ij lo.2)∧w'.cell? ⟨w.heap.size+2,0,none⟩=some (Ii Ij hi.1)∧w'.cell? ⟨w.heap.size+2,1,none⟩=some (Ii Ij hi.2)∧w'.cell? ⟨w.heap.size+3,0,none⟩=some (.bool false)∧w'.cell? ⟨w.heap.size+3,1,none⟩=some (.bool false)∧w'.cell? ⟨w.heap.size+3,2,none⟩=some (.bool inc)) (.soft 0 (.soft 1 (.soft 2 (.soft 3 (.fork 4 6 (.fork 5 6 (.hard 6 (.hard 7 .nil)) (.hard 5 (.hard 7 .nil))) (.hard 4 (.hard 5 (.hard 7 .nil)))))))) (by kernel_rfl) (by kernel_rfl) (fun _ _ _ _ _ h=>h) ⟨k0',k1',k2',k3',k4',k5',k6'⟩ ?_
  clear k0' k1' k2' k3' k4' k5' k6'
  repeat ((first|(refine kbH (by rfl) ?_ ?_ ?_ ?_;rotate_left;(· simp [zI,yielded]);(· rintro _ ⟨a1,a2,a3,a4,a5,a6,a7⟩;go_simp;try with_reducible rfl))|(refine kbJ (by rfl) ?_ ?_;(· simp [zI,yielded])));simp only [zJ,zA,zB,zC])
  refine scr_fork (by rfl) (by rfl) rfl rfl (fun K hK=>?_) (fun K hK=>?_)
  ·go_simp
   refine (ranges_any inc _).mono ?_
   rintro e wb ⟨ob,rfl,hob,hcb'⟩
   have hcb2:Chg (fun _ _=>False) w2 wb:=(zK _ _).drew.trans hcb'
   have hcb:=hc2.trans hcb2
   have hMb:=hM.chg hcb2
   have hsb:=hcb2.size
   refine hK _ _ ⟨hcb.q l0,hcb.q l1,hcb.q h0,hcb.q h1,hcb.q o0,hcb.q o1,hcb.q o2⟩ ?_
   clear hK K
   repeat ((first|(refine kbH (by rfl) ?_ ?_ ?_ ?_;rotate_left;(· simp [zI,yielded]);(· rintro _ ⟨a1,a2,a3,a4,a5,a6,a7⟩;go_simp;try with_reducible rfl))|(refine kbJ (by rfl) ?_ ?_;(· simp [zI,yielded])));simp only [zJ,zA,zB,zC])
   refine scr_fork (by rfl) (by rfl) rfl rfl (fun K hK=>?_) (fun K hK=>?_)
   ·go_simp
    have hdr:=DeleteRange_any (lo:=lo) (hi:=hi) (inc:=inc) (op:=some ob) hMb hob hdim.1 hdim.2.1 hdim.2.2.1 hdim.2.2.2.1 hdim.2.2.2.2 (by have:=HGL.out;omega)
    simp only [optV2,Option.map_some] at hdr
    have HDR:=zL hdr
    clear hdr
    refine HDR.out.mono ?_
    rintro e w3 ⟨c,q,F',H',Dq,D,rfl,hD⟩
    have hc3:Chg (fun _ _=>False) w1 w3:=hcb.trans' hD.chg (B:=fun _ _=>False) i3 (fun b _ hb e=>by
     rcases e with e | rfl | e
     ·have:=HF2.out b e;omega
     ·have:=HO2.out b MOwn.self;omega
     ·have:=hcb.size;omega)
    have hsc3:=hc3.size
    refine hK _ _ ⟨hc3.q l0,hc3.q l1,hc3.q h0,hc3.q h1,hc3.q o0,hc3.q o1,hc3.q o2⟩ ?_
    clear hK K
    repeat ((first|(refine kbH (by rfl) ?_ ?_ ?_ ?_;rotate_left;(· simp [zI,yielded]);(· rintro _ ⟨a1,a2,a3,a4,a5,a6,a7⟩;go_simp;try with_reducible rfl))|(refine kbJ (by rfl) ?_ ?_;(· simp [zI,yielded])));simp only [zJ,zA,zB,zC])
    refine kbY (by rfl) (by simp [zI,yielded]) (fun K hK=>?_)
    go_simp
    have hca:=hc3.alloc (Ic #[.nilFunc,Ii Ij 0,Ii Ij 0,Is none 0 0] 67)
    refine hK _ _ ⟨hca.q l0,hca.q l1,hca.q h0,hca.q h1,hca.q o0,hca.q o1,hca.q o2⟩ ?_
    clear hK K
    repeat ((first|(refine kbH (by rfl) ?_ ?_ ?_ ?_;rotate_left;(· simp [zI,yielded]);(· rintro _ ⟨a1,a2,a3,a4,a5,a6,a7⟩;go_simp;try with_reducible rfl))|(refine kbJ (by rfl) ?_ ?_;(· simp [zI,yielded])));simp only [zJ,zA,zB,zC])
    obtain ⟨qa,qc,hqf⟩:=hD.qo.sl.form
    subst hqf
    have HD:=zL hD
    have HC3:=zL hc3
    clear hD hc3
    unfold kcQ
    refine kbY (by rfl) (by simp [zI,yielded]) (fun K hK=>?_)
    go_simp
    have hcf:=HC3.out.alloc (Ic #[kcQ k0,Ii Ij c,Ii Ij 0,.slice qa Dq.length qc] 67)
    have hx:=(zK (fun x _=>x=w3.heap.size) w3).alloc (Ic #[kcQ k0,Ii Ij c,Ii Ij 0,.slice qa Dq.length qc] 67)
    have hlb:ListB (w3.alloc (Ic #[kcQ k0,Ii Ij c,Ii Ij 0,.slice qa Dq.length qc] 67)) w3.heap.size (kcQ k0) c 0 (.slice qa Dq.length qc):=kbT _ _ rfl
    refine hK _ _ ⟨hcf.q l0,hcf.q l1,hcf.q h0,hcf.q h1,hcf.q o0,hcf.q o1,hcf.q o2⟩ ?_
    clear hK K
    refine kcT ?_
    have ko1:=HMO.out k0.ob (.inr (.inl rfl))
    have ko2:=HMO.out k0.rb (.inr (.inr rfl))
    have hsd:=HD.out.chg.size
    have hs1:=HC1.out.size
    have hs2:=HC2.out.size
    have hls:=HD.out.ls (.inr (Nat.le_refl _)) ⟨by omega,by omega⟩ ⟨by omega,by omega⟩ hsd hx hlb (by have:=HGL.out;omega)
    obtain ⟨F2,hF2',hM2⟩:=HD.out.map
    have hMx:=hM2.chgA hx (fun x _ hx2 e=>hls.fb (e▸hF2' x hx2)) (fun x _ hx2 e=>by have:=HMO.out x hx2;omega)
    rw [HLo.out] at hMx
    rw [HLLq.out] at hls
    refine ⟨rfl,rfl,t,w3.heap.size,rfl,rfl,⟨k0,_,c,_,F',H',Dq,D,hls,by omega,⟨F2,hF2',hMx⟩,fun x hx2=>⟨by have:=HMO.out x hx2;omega,fun e=>by have:=(HD.out.qo.own_lt e).1;have:=HMO.out x hx2;omega⟩⟩,by omega,HC1.out.trans hcf⟩
   ·go_simp
    have hca:=hcb.alloc (Ic #[.nilFunc,Ii Ij 0,Ii Ij 0,Is none 0 0] 67)
    have hMa:=hMb.chg ((zK (fun _ _=>False) wb).alloc (Ic #[.nilFunc,Ii Ij 0,Ii Ij 0,Is none 0 0] 67))
    have hoa:=hob.chg ((zK (fun _ _=>False) wb).alloc (Ic #[.nilFunc,Ii Ij 0,Ii Ij 0,Is none 0 0] 67))
    refine kbQ (fun wa=>Chg (fun _ _=>False) w1 wa∧MapIn k0 (mnD d) (mxD d) wa F t (kgP l)∧OptB (some ob) inc wa∧ListB wa wb.heap.size .nilFunc 0 0 (Is none 0 0)) ⟨hca,hMa,hoa,kbT _ _ rfl⟩ ?_
    clear hca hMa hoa
    rintro wa ⟨hca,hMa,hoa,hla⟩
    have hbl:=kbF hla
    have hFb:¬F wb.heap.size:=fun e=>by have:=hM.famLt e;omega
    refine hK _ _ ⟨hca.q l0,hca.q l1,hca.q h0,hca.q h1,hca.q o0,hca.q o1,hca.q o2⟩ ?_
    clear hK K
    repeat ((first|(refine kbH (by rfl) ?_ ?_ ?_ ?_;rotate_left;(· simp [zI,yielded]);(· rintro _ ⟨a1,a2,a3,a4,a5,a6,a7⟩;go_simp;try with_reducible rfl))|(refine kbJ (by rfl) ?_ ?_;(· simp [zI,yielded])));simp only [zJ,zA,zB,zC])
    refine kbY (by rfl) (by simp [zI,yielded]) (fun K hK=>?_)
    go_simp
    have hdr:=DeleteRange_any (lo:=lo) (hi:=hi) (inc:=inc) (op:=some ob) hMa hoa hdim.1 hdim.2.1 hdim.2.2.1 hdim.2.2.2.1 hdim.2.2.2.2 (by have:=HGL.out;omega)
    simp only [optV2,Option.map_some] at hdr
    have HDR:=zL hdr
    clear hdr
    refine HDR.out.mono ?_
    rintro e w3 ⟨c,q,F',H',Dq,D,rfl,hD⟩
    have hc3:Chg (fun _ _=>False) w1 w3:=hca.trans' hD.chg (B:=fun _ _=>False) i3 (fun b _ hb e=>by
     rcases e with e | rfl | e
     ·have:=HF2.out b e;omega
     ·have:=HO2.out b MOwn.self;omega
     ·have:=hca.size;omega)
    have hlz:ListB w3 wb.heap.size .nilFunc 0 0 (Is none 0 0):=hla.chg hD.chg (fun _ e=>by
     rcases e with e | e | e
     ·have:=hM.famLt e;omega
     ·have:=HMO.out t MOwn.self;omega
     ·omega)
    refine hK _ _ ⟨hc3.q l0,hc3.q l1,hc3.q h0,hc3.q h1,hc3.q o0,hc3.q o1,hc3.q o2⟩ ?_
    clear hK K
    repeat ((first|(refine kbH (by rfl) ?_ ?_ ?_ ?_;rotate_left;(· simp [zI,yielded]);(· rintro _ ⟨a1,a2,a3,a4,a5,a6,a7⟩;go_simp;try with_reducible rfl))|(refine kbJ (by rfl) ?_ ?_;(· simp [zI,yielded])));simp only [zJ,zA,zB,zC])
    obtain ⟨qa,qc,hqf⟩:=hD.qo.sl.form
    subst hqf
    have HD:=zL hD
    have HC3:=zL hc3
    clear hD hc3
    unfold kcQ
    have l0':=hlz.c0
    have l1':=hlz.c1
    have l2':=hlz.c2
    have l3':=hlz.c3
    have z0:=hlz.fz 0
    have z1:=hlz.fz 1
    have z2:=hlz.fz 2
    have z3:=hlz.fz 3
    have HLZ:=zL hlz
    clear hlz
    refine kbY (by rfl) (by simp [zI,yielded]) (fun K hK=>?_)
    go_simp
    have hx:Chg (fun x _=>x=wb.heap.size) w3 ((((w3.setCell ⟨wb.heap.size,0,none⟩ (kcQ k0)).setCell ⟨wb.heap.size,1,none⟩ (Ii Ij c)).setCell ⟨wb.heap.size,2,none⟩ (Ii Ij 0)).setCell ⟨wb.heap.size,3,none⟩ (.slice qa Dq.length qc)):=((((zK _ _).setCell (.inl rfl) _).setCell (.inl rfl) _).setCell (.inl rfl) _).setCell (.inl rfl) _
    have hlb:=blk4r HLZ.out (kcQ k0) (Ii Ij c) (Ii Ij 0) (.slice qa Dq.length qc)
    have hcf:=HC3.out.trans' hx (B:=fun _ _=>False) i3 (fun b _ hb e=>by have:=HC2.out.size;omega)
    refine hK _ _ ⟨hcf.q l0,hcf.q l1,hcf.q h0,hcf.q h1,hcf.q o0,hcf.q o1,hcf.q o2⟩ ?_
    clear hK K
    refine kcT ?_
    have ko1:=HMO.out k0.ob (.inr (.inl rfl))
    have ko2:=HMO.out k0.rb (.inr (.inr rfl))
    have hsd:=HD.out.chg.size
    have hs1:=HC1.out.size
    have hs2:=HC2.out.size
    have hls:=HD.out.ls (.inl ⟨hbl,hFb⟩) ⟨by omega,by omega⟩ ⟨by omega,by omega⟩ hsd hx hlb (by have:=HGL.out;omega)
    obtain ⟨F2,hF2',hM2⟩:=HD.out.map
    have hMx:=hM2.chgA hx (fun x _ hx2 e=>hls.fb (e▸hF2' x hx2)) (fun x _ hx2 e=>by have:=HMO.out x hx2;omega)
    rw [HLo.out] at hMx
    rw [HLLq.out] at hls
    refine ⟨rfl,rfl,t,wb.heap.size,rfl,rfl,⟨k0,_,c,_,F',H',Dq,D,hls,by omega,⟨F2,hF2',hMx⟩,fun x hx2=>⟨by have:=HMO.out x hx2;omega,fun e=>by have:=(HD.out.qo.own_lt e).1;have:=HMO.out x hx2;omega⟩⟩,by omega,HC1.out.trans hcf⟩
  ·go_simp
   have hca2:=((zK (fun _ _=>False) w2).alloc (Ic #[.nilFunc,Ii Ij 0,Ii Ij 0,Is none 0 0] 67)).drew
   have hca:=hc2.trans hca2
   have hMa:=hM.chg hca2
   refine kbQ (fun wa=>Chg (fun _ _=>False) w1 wa∧MapIn k0 (mnD d) (mxD d) wa F t (kgP l)∧ListB wa w2.heap.size .nilFunc 0 0 (Is none 0 0)) ⟨hca,hMa,kbT _ _ rfl⟩ ?_
   clear hca hMa hca2
   rintro wa ⟨hca,hMa,hla⟩
   have hFb:¬F w2.heap.size:=fun e=>by have:=hM.famLt e;omega
   refine hK _ _ ⟨hca.q l0,hca.q l1,hca.q h0,hca.q h1,hca.q o0,hca.q o1,hca.q o2⟩ ?_
   clear hK K
   repeat ((first|(refine kbH (by rfl) ?_ ?_ ?_ ?_;rotate_left;(· simp [zI,yielded]);(· rintro _ ⟨a1,a2,a3,a4,a5,a6,a7⟩;go_simp;try with_reducible rfl))|(refine kbJ (by rfl) ?_ ?_;(· simp [zI,yielded])));simp only [zJ,zA,zB,zC])
   refine kbY (by rfl) (by simp [zI,yielded]) (fun K hK=>?_)
   go_simp
   refine (ranges_any inc _).mono ?_
   rintro e wb ⟨ob,rfl,hob,hcb'⟩
   have hcb:=hca.trans hcb'
   have hMb:=hMa.chg hcb'
   have hlb0:=hla.keep hcb'
   have hbl:=kbF hlb0
   refine hK _ _ ⟨hcb.q l0,hcb.q l1,hcb.q h0,hcb.q h1,hcb.q o0,hcb.q o1,hcb.q o2⟩ ?_
   clear hK K
   repeat ((first|(refine kbH (by rfl) ?_ ?_ ?_ ?_;rotate_left;(· simp [zI,yielded]);(· rintro _ ⟨a1,a2,a3,a4,a5,a6,a7⟩;go_simp;try with_reducible rfl))|(refine kbJ (by rfl) ?_ ?_;(· simp [zI,yielded])));simp only [zJ,zA,zB,zC])
   refine kbY (by rfl) (by simp [zI,yielded]) (fun K hK=>?_)
   go_simp
   have hdr:=DeleteRange_any (lo:=lo) (hi:=hi) (inc:=inc) (op:=some ob) hMb hob hdim.1 hdim.2.1 hdim.2.2.1 hdim.2.2.2.1 hdim.2.2.2.2 (by have:=HGL.out;omega)
   simp only [optV2,Option.map_some] at hdr
   have HDR:=zL hdr
   clear hdr
   refine HDR.out.mono ?_
   rintro e w3 ⟨c,q,F',H',Dq,D,rfl,hD⟩
   have hc3:Chg (fun _ _=>False) w1 w3:=hcb.trans' hD.chg (B:=fun _ _=>False) i3 (fun b _ hb e=>by
    rcases e with e | rfl | e
    ·have:=HF2.out b e;omega
    ·have:=HO2.out b MOwn.self;omega
    ·have:=hcb.size;omega)
   have hlz:ListB w3 w2.heap.size .nilFunc 0 0 (Is none 0 0):=hlb0.chg hD.chg (fun _ e=>by
    rcases e with e | e | e
    ·have:=hM.famLt e;omega
    ·have:=HMO.out t MOwn.self;omega
    ·omega)
   refine hK _ _ ⟨hc3.q l0,hc3.q l1,hc3.q h0,hc3.q h1,hc3.q o0,hc3.q o1,hc3.q o2⟩ ?_
   clear hK K
   repeat ((first|(refine kbH (by rfl) ?_ ?_ ?_ ?_;rotate_left;(· simp [zI,yielded]);(· rintro _ ⟨a1,a2,a3,a4,a5,a6,a7⟩;go_simp;try with_reducible rfl))|(refine kbJ (by rfl) ?_ ?_;(· simp [zI,yielded])));simp only [zJ,zA,zB,zC])
   obtain ⟨qa,qc,hqf⟩:=hD.qo.sl.form
   subst hqf
   have HD:=zL hD
   have HC3:=zL hc3
   clear hD hc3
   unfold kcQ
   have l0':=hlz.c0
   have l1':=hlz.c1
   have l2':=hlz.c2
   have l3':=hlz.c3
   have z0:=hlz.fz 0
   have z1:=hlz.fz 1
   have z2:=hlz.fz 2
   have z3:=hlz.fz 3
   have HLZ:=zL hlz
   clear hlz
   refine kbY (by rfl) (by simp [zI,yielded]) (fun K hK=>?_)
   go_simp
   have hx:Chg (fun x _=>x=w2.heap.size) w3 ((((w3.setCell ⟨w2.heap.size,0,none⟩ (kcQ k0)).setCell ⟨w2.heap.size,1,none⟩ (Ii Ij c)).setCell ⟨w2.heap.size,2,none⟩ (Ii Ij 0)).setCell ⟨w2.heap.size,3,none⟩ (.slice qa Dq.length qc)):=((((zK _ _).setCell (.inl rfl) _).setCell (.inl rfl) _).setCell (.inl rfl) _).setCell (.inl rfl) _
   have hlb:=blk4r HLZ.out (kcQ k0) (Ii Ij c) (Ii Ij 0) (.slice qa Dq.length qc)
   have hcf:=HC3.out.trans' hx (B:=fun _ _=>False) i3 (fun b _ hb e=>by have:=HC2.out.size;omega)
   refine hK _ _ ⟨hcf.q l0,hcf.q l1,hcf.q h0,hcf.q h1,hcf.q o0,hcf.q o1,hcf.q o2⟩ ?_
   clear hK K
   refine kcT ?_
   have ko1:=HMO.out k0.ob (.inr (.inl rfl))
   have ko2:=HMO.out k0.rb (.inr (.inr rfl))
   have hsd:=HD.out.chg.size
   have hs1:=HC1.out.size
   have hs2:=HC2.out.size
   have hls:=HD.out.ls (.inl ⟨hbl,hFb⟩) ⟨by omega,by omega⟩ ⟨by omega,by omega⟩ hsd hx hlb (by have:=HGL.out;omega)
   obtain ⟨F2,hF2',hM2⟩:=HD.out.map
   have hMx:=hM2.chgA hx (fun x _ hx2 e=>hls.fb (e▸hF2' x hx2)) (fun x _ hx2 e=>by have:=HMO.out x hx2;omega)
   rw [HLo.out] at hMx
   rw [HLLq.out] at hls
   refine ⟨rfl,rfl,t,w2.heap.size,rfl,rfl,⟨k0,_,c,_,F',H',Dq,D,hls,by omega,⟨F2,hF2',hMx⟩,fun x hx2=>⟨by have:=HMO.out x hx2;omega,fun e=>by have:=(HD.out.qo.own_lt e).1;have:=HMO.out x hx2;omega⟩⟩,by omega,HC1.out.trans hcf⟩
 ·intro e a w3 he
  cases e with
  |normal =>
   obtain ⟨hd0,hs28,t',b,s13,s14,⟨k1,base,c,q,F1,H,Dq,D,hLs,hbase,⟨F2,hF2,hMo⟩,hmo⟩,hbw,hc3⟩:=he
   rename_i hK
   refine hK _ _ ?_
   clear hK l0 l1 h0 h1 o0 o1 o2 HGR k0' k1' k2' k3' k4' k5' k6'
   obtain ⟨tmps,defers⟩:=a
   obtain ⟨f,rfl⟩:=frame28 tmps hs28
   simp only [zF,zE,zD,Option.some.injEq] at s13 s14
   replace hd0:defers=[]:=hd0
   subst hd0
   rw [s13,s14]
   have HLS:=zL hLs
   have HC3:=zL hc3
   have HMo:=zL hMo
   have hct:c=(LL.length:Int):=hLs.ct
   subst hct
   clear hs28 s13 s14 hLs hc3 hMo hM hc2
   go_wp2_with fail
   refine (scanned_any HLS.out).mono ?_
   rintro e w4 ⟨v1,rfl,how1,⟨np',a',n',cap',hl4⟩,hc4⟩
   have HOW1:=zL how1
   have HL4:=zL hl4
   have HC4:=zL hc4
   have HM4:=zL (HMo.out.chgA hc4 (fun x _ hx e=>by
    rcases e with e | e | e
    ·exact HLS.out.fb (e▸hF2 x hx)
    ·exact HLS.out.qF x e (hF2 x hx)
    ·have:=HMo.out.famLt hx;omega) (fun x _ hx e=>by
    rcases e with e | e | e
    ·exact (hmo x hx).1 e
    ·exact (hmo x hx).2 e
    ·have:=HMo.out.own hx;omega))
   clear how1 hl4 hc4
   go_wp2_with fail
   refine (LLen_any HL4.out).mono ?_
   rintro e w5 ⟨rfl,hw5⟩
   subst hw5
   go_wp2_with fail
   refine (Items_any HM4.out hdim.1 (by have:=HLN.out;omega)).mono ?_
   rintro e w6 ⟨v2,rfl,how2,hc6⟩
   go_wp2_with fail
   refine bodyPost_ret (v:=Iu #[v1,Ii Ij LL.length,v2]) (by simp [results,Try.results19,go_sem]) rfl ?_
   have hs3:=HC3.out.size
   have hs4:=HC4.out.size
   refine ⟨v1,v2,rfl,(HOW1.out.keep hc6).mono (by omega),how2.mono (by omega),(HC3.out.trans' HC4.out (B:=fun _ _=>False) i3 (fun x _ hx e=>?_)).trans hc6⟩
   rcases e with e | e | e
   ·omega
   ·have:=(HLS.out.qo.own_lt e).1;omega
   ·omega
  |_=>exact he.elim
end
end
section
variable {ord:List Int}{k:Kc ord}
section
variable {ord:List Int}
theorem growL_srt {ord:List Int}(l:List (It ord)):Srt ltM (kgP l):=by
 unfold kgP
 have key:∀(l acc:List (It ord)),Srt ltM acc→Srt ltM (l.foldl (fun acc x=>insL ltM x acc) acc):=by
  intro l
  induction l with
  |nil=>intro acc h;exact h
  |cons x l ih=>intro acc h;exact ih _ (insL_srt swoM x h)
 exact key l [] List.Pairwise.nil
theorem upp_filter (x:It ord):∀{l:List (It ord)},Srt ltM l→upp ltM x l=l.filter fun y=>!ltM y x
 |[],_=>rfl
 |a::l,h=>by
  obtain ⟨h1,h2⟩:=List.pairwise_cons.1 h
  cases ha:ltM a x
  ·have e:l.filter (fun y=>!ltM y x)=l:=List.filter_eq_self.2 fun y hy=>by
    cases hc:ltM y x
    ·rfl
    ·rw [swoM.trans (h1 y hy) hc] at ha;cases ha
   unfold upp
   rw [List.dropWhile_cons,ha,List.filter_cons,ha,e];rfl
  ·unfold upp
   rw [List.dropWhile_cons,ha,List.filter_cons,ha]
   exact upp_filter x h2
theorem filter_split {α:Type}(p q r:α→Bool):∀(l:List α),(∀x∈l,r x=(p x||q x))→(∀x∈l,(p x&&q x)=false)→(l.filter p).length+(l.filter q).length=(l.filter r).length
 |[],_,_=>rfl
 |a::l,h1,h2=>by
  have ih:=filter_split p q r l (fun x hx=>h1 x (zQ _ hx)) (fun x hx=>h2 x (zQ _ hx))
  have e1:=h1 a zP
  have e2:=h2 a zP
  rw [List.filter_cons,List.filter_cons,List.filter_cons,e1]
  cases hp:p a<;>cases hq:q a
  ·simpa using ih
  ·simp;omega
  ·simp;omega
  ·rw [hp,hq] at e2;cases e2
theorem range_all (f:It ord→Bool)(L:List (It ord)):(L.filter f).length+(L.filter fun x=>!f x).length=L.length:=by
 have:=filter_split f (fun x=>!f x) (fun _=>true) L (fun x _=>by cases f x<;>rfl) (fun x _=>by cases f x<;>rfl)
 rw [show L.filter (fun _=>true)=L from List.filter_eq_self.2 (fun _ _=>rfl)] at this
 exact this
end
end
end Go.Proofs.Ytnohimhihombmaa
