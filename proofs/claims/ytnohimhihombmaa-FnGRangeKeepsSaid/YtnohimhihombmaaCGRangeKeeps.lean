/- For every order, every degree and every list of items and every range, with its upper end or without, the law FnGRangeKeeps returns true and leaves its arguments as they were. -/
import Derived.Lib.AppendZeros
import Derived.Carry
import Derived.Test.YtnohimhihombmaaRows
import Derived.Test.YtnohimhihombmaaA9
import Derived.Test.YtnohimhihombmaaA10
import Derived.Test.YtnohimhihombmaaX5
import Derived.Test.YtnohimhihombmaaYw
namespace Go.Proofs.Ytnohimhihombmaa
set_option linter.unusedSimpArgs false
set_option linter.unusedVariables false
set_option maxRecDepth 100000
set_option maxHeartbeats 40000000
open Value renaming int → Ii, pointer → Ip, slice → Is, tuple → Iu
open IntKind renaming i64 → Ij
open Obj renaming cells → Ic
open Ending renaming returned → Ir
open Option.some renaming inj → Iq
open _root_.Go.Proofs.Try renaming prog → Tp
open List renaming setIfInBounds_toArray → zA, set_cons_zero → zB, set_cons_succ → zC, getElem?_cons_zero → zD, getElem?_cons_succ → zE, getElem?_toArray → zF, mem_cons_self → zP, mem_cons_of_mem → zQ, length_append → zT
open Region renaming wanted → zI
open Act renaming put → zJ
open Chg renaming refl → zK
open Lib renaming hid → zL
open IntWalk renaming i64_in → zh
open Go.RowKit
section
variable {ord:List Int}{k:Kc ord}
section
variable {ord:List Int}
theorem ins_stop {lo hi:It ord}{inc:Bool}{a b:It ord}(hlo:ltM a lo=false)(h:insR (rkL ord) lo hi inc a=false)(hab:ltM a b=true):insR (rkL ord) lo hi inc b=false:=by
 have h1:(!ltM a lo&&(ltM a hi||(inc&&!ltM hi a)))=false:=h
 show (!ltM b lo&&(ltM b hi||(inc&&!ltM hi b)))=false
 rw [hlo] at h1
 cases h2:ltM a hi
 ·rw [h2] at h1
  have h3:ltM b hi=false:=by
   cases hc:ltM b hi
   ·rfl
   ·rw [swoM.trans hab hc] at h2;cases h2
  cases inc
  ·rw [h3];simp
  ·have h4:ltM hi a=true:=by simpa using h1
   rw [h3,swoM.trans h4 hab];simp
 ·rw [h2] at h1;simp at h1
theorem take_ins {lo hi:It ord}{inc:Bool}:∀{l:List (It ord)},Srt ltM l→(∀a∈l,ltM a lo=false)→l.takeWhile (insR (rkL ord) lo hi inc)=l.filter (insR (rkL ord) lo hi inc)
 |[],_,_=>rfl
 |a::l,hs,hl=>by
  obtain ⟨h1,h2⟩:=List.pairwise_cons.1 hs
  rw [List.takeWhile_cons,List.filter_cons]
  cases h:insR (rkL ord) lo hi inc a
  ·have e:l.filter (insR (rkL ord) lo hi inc)=[]:=List.filter_eq_nil_iff.2 fun b hb=>by rw [ins_stop (hl a zP) h (h1 b hb)];simp
   rw [e];rfl
  ·rw [take_ins h2 fun b hb=>hl b (zQ _ hb)];rfl
theorem keeps_take {L:List (It ord)}(hs:Srt ltM L)(lo hi:It ord)(inc:Bool):(upp ltM lo L).takeWhile (insR (rkL ord) lo hi inc)=L.filter (insR (rkL ord) lo hi inc):=by
 rw [upp_filter lo hs]
 rw [take_ins (List.Pairwise.sublist List.filter_sublist hs) fun a ha=>by have:=(List.mem_filter.1 ha).2;simpa using this]
 rw [List.filter_filter]
 congr 1
 funext x
 show (insR (rkL ord) lo hi inc x&&!ltM x lo)=insR (rkL ord) lo hi inc x
 have e:insR (rkL ord) lo hi inc x=(!ltM x lo&&(ltM x hi||(inc&&!ltM hi x))):=rfl
 rw [e]
 cases ltM x lo<;>simp
theorem insL_new {x:It ord}:∀{acc:List (It ord)},(∀y∈acc,ltM x y=true∨ltM y x=true)→(insL ltM x acc).Perm (x::acc)
 |[],_=>List.Perm.refl _
 |y::acc,h=>by
  rw [insL]
  cases h1:ltM y x
  ·cases h2:ltM x y
   ·rcases h y zP with h3 | h3
    ·rw [h3] at h2;cases h2
    ·rw [h3] at h1;cases h1
   ·simp
  ·simp only [if_true]
   exact ((insL_new fun z hz=>h z (zQ _ hz)).cons y).trans (List.Perm.swap x y acc)
theorem fold_new:∀(xs acc:List (It ord)),Srt ltM acc→(∀x∈xs,∀y∈acc,ltM x y=true∨ltM y x=true)→xs.Pairwise (fun x y=>ltM x y=true∨ltM y x=true)→Srt ltM (xs.foldl (fun acc x=>insL ltM x acc) acc)∧(xs.foldl (fun acc x=>insL ltM x acc) acc).Perm (acc++xs)
 |[],acc,h,_,_=>⟨h,by simp⟩
 |x::xs,acc,h,h1,h2=>by
  obtain ⟨g1,g2⟩:=List.pairwise_cons.1 h2
  have hp:=insL_new (fun y hy=>h1 x zP y hy)
  obtain ⟨k1,k2⟩:=fold_new xs (insL ltM x acc) (insL_srt swoM x h) (fun z hz y hy=>by
   rcases List.mem_cons.1 (hp.subset hy) with rfl | hy
   ·exact (g1 z hz).symm
   ·exact h1 z (zQ _ hz) y hy) g2
  exact ⟨k1,k2.trans ((hp.append_right xs).trans (by simpa using (List.perm_middle (a:=x) (l₁:=acc) (l₂:=xs)).symm))⟩
theorem tree_back {L M:List (It ord)}(hs:Srt ltM L)(hp:M.Perm L):treeL (ltM (ord:=ord)) M=L:=by
 have hd:L.Pairwise (fun x y=>ltM x y=true∨ltM y x=true):=List.Pairwise.imp (fun h=>.inl h) hs
 have hd2:M.Pairwise (fun x y=>ltM x y=true∨ltM y x=true):=(hp.pairwise_iff (fun h=>h.symm)).2 hd
 obtain ⟨h1,h2⟩:=fold_new M [] List.Pairwise.nil (fun _ _ _ h=>by cases h) hd2
 exact perm_srt h1 hs (h2.trans (by simpa using hp))
theorem split_perm (f:It ord→Bool):∀(L:List (It ord)),(L.filter f++L.filter fun x=>!f x).Perm L
 |[]=>List.Perm.refl _
 |a::L=>by
  have ih:=split_perm f L
  rw [List.filter_cons,List.filter_cons]
  cases f a
  ·simp only [Bool.false_eq_true,if_false,Bool.not_false,if_true]
   exact List.perm_middle.trans (ih.cons a)
  ·simp only [if_true,Bool.not_true,Bool.false_eq_true,if_false,List.cons_append]
   exact ih.cons a
end
end
section
section
variable {P:Program}{α:Type}
theorem run_append_zero (w:World)(t ty e:TypeId)(i:TypeInfo)(ht:P.underlying t=some (.slice e))(hi:P.info? e=some i)(a b:Option Addr)(n cap c:Nat)(hn:n≤cap) :
  (Builtin.append_ #[t,t] ty #[.slice a n cap,.slice b 0 c]).run P w=.ok (.slice a n cap) w:=by
 cases b with
 |none=>cases a<;>simp [Builtin.append_,run_underlying ht,sizeOf,typeInfo,hi,Builtin.lenOf,Builtin.firstCells,hn,storeCells]
 |some b =>
  have hf:=run_firstCells_some (P:=P) w i.size 0 b 0 c [] (by simp) (by simp)
  cases a<;>simp [Builtin.append_,run_underlying ht,sizeOf,typeInfo,hi,Builtin.lenOf,hn,storeCells,hf]
theorem wpList_append_run {ops:Array Oper}{rest:List Oper}{o':Oper}{ac:Act}{w:World}{Q:Exit→Act→World→Prop}(hgd:o'.guard=none)(s x:Operand)(t tn:TypeId)
  (ho:o'.op=.call { callee:=.builtin .append,args:=#[s,x],argTypes:=#[t,tn] })(vs vx:Value)(hs:ac.eval s=vs)(hx:ac.eval x=vx)(v':Value)(w':World)
  (hr:(Builtin.append_ #[t,tn] o'.type #[vs,vx]).run P w=.ok v' w')(h:wpList P ops Q rest (ac.put o'.dst v') w'):wpList P ops Q (o'::rest) ac w:=by
 refine wpList_plain hgd fun K hK=>?_
 unfold Oper.wp execOp
 simp only [ho,resolve,invoke,builtin,Sem.run_bind,Sem.run_pure,Result.andThen_ok,List.map_toArray,List.map_cons,List.map_nil,hs,hx,hr]
 exact hK _ _ h
end
theorem own_append (w:World)(v:Value)(xs:List (Int×Int))(base:Nat)(how:OwnE itemE w v xs base)(hbase:base≤w.heap.size)(x:Value)(ys:List (Int×Int))(hx:SlE itemE w x ys)(h63:xs.length+ys.length≤8589934592)(ty:TypeId) :
  ∃v' w',(Builtin.append_ #[25,25] ty #[v,x]).run Tp w=.ok v' w'∧OwnE itemE w' v' (xs++ys) base∧Chg (fun b _=>v.ownBlock=some b) w w':=by
 obtain ⟨i0,hi0,hz0,hz1,hz2⟩:=info_parts infoItem
 obtain ⟨a,cap,rfl,hcap,hc⟩:=hx
 by_cases h0:ys.length=0
 ·have hnil:ys=[]:=List.eq_nil_of_length_eq_zero h0
  rw [h0,hnil,List.append_nil]
  rcases how with ⟨rfl,rfl⟩ | ⟨b,o,c2,rfl,h2,h3,h4⟩
  ·exact ⟨_,_,run_append_zero w _ _ _ i0 Try.underlying25 hi0 none a 0 0 cap (Nat.le_refl _),.inl ⟨rfl,rfl⟩,zK _ _⟩
  ·exact ⟨_,_,run_append_zero w _ _ _ i0 Try.underlying25 hi0 _ a _ _ cap h2,.inr ⟨b,o,c2,rfl,h2,h3,h4⟩,zK _ _⟩
 ·rcases hc with h | ⟨b,o,rfl,hcell⟩
  ·rw [h] at h0;exact absurd rfl h0
  ·obtain ⟨v',w',hr,h2,h3,_,_⟩:=run_append_E2 (P:=Tp) itemE w 25 ty i0 _ 16 Try.underlying25 hi0 hz0 hz1 hz2 rfl v xs base how hbase ⟨b,o,none⟩ ys.length cap ys rfl (by omega)
    (fun j u hj=>by rw [kdS];exact hcell j u hj) (by unfold maxLen;omega) (by omega)
   exact ⟨v',w',hr,h2,h3⟩
theorem grow_nil (n:Nat)(w:World)(hn:n≤8589934592) :
  Calls Tp 40 #[Is none 0 0,Ii Ij n] w fun e w'=>∃v,e=Ir v∧OwnE itemE w' v [] w.heap.size∧Chg (fun _ _=>False) w w':=by
 obtain ⟨i0,hi0,hz0,hz1,hz2⟩:=info_parts infoItem
 have s1:Ij.wrap (n:Int)=(n:Int):=zh _ (by omega)
 have n0:¬((n:Int)<0):=by omega
 by_cases h0:n=0
 ·subst h0
  go_enter Try.func40,Try.ntmps40
  go_wp2_with fail
  go_ret
  exact ⟨_,rfl,.inl ⟨rfl,rfl⟩,zK _ _⟩
 ·have hgt:(0:Int)<(n:Int):=by omega
  go_enter Try.func40,Try.ntmps40
  have hcg:=grownCap_ge w n 0 27
  have hcm:grownCap w n 0 27≤maxLen:=grownCap_le_maxLen w n 0 27 (by unfold maxLen;omega)
  have hrun:=Lib.run_append_nil_zeros (P:=Tp) w 25 3 25 27 i0 _ .i64 .i64 Try.underlying25 Try.underlying3 hi0 hz0 n (by omega) (by rw [hz1];decide) (by omega) (by rw [hz2];omega)
  unfold maxLen at hcm
  generalize grownCap w n 0 27=cp at hcg hcm hrun
  have HRUN:=zL hrun
  have c0:(0:Int)≤(n:Int):=by omega
  have c1:¬cp=0:=by omega
  clear hrun
  go_wp2_with (refine wpList_append_run (by rfl) _ _ _ _ (by rfl) (Is none 0 0) (Ii Ij n) (by rfl) (by rfl) _ _ HRUN.out ?_)
  refine kbQ (fun w2=>RowAt w2 27 w.heap.size 0 (cp*2) []∧Chg (fun _ _=>False) w w2) ⟨?_,?_⟩ ?_
  ·refine RowAt.of_block (by first|exact heap_alloc_new w.drew _ | (rw [kbZ];exact kbT _ _ rfl)) _ _ (by simp) ?_ (by simp)
   have e:(Value.agg #[Value.int IntKind.i64 0,Value.int IntKind.i64 0]).cells.size=2:=rfl
   simp only [Array.size_append,size_zeroCells,e]
   show 0+cp*2≤n*2+(cp-n)*2
   omega
  ·repeat (first|refine Chg.drew ?_ | refine Chg.alloc ?_ _ | exact zK _ _)
  rintro w2 ⟨hrow,hc⟩
  go_ret
  exact ⟨_,rfl,.inr ⟨w.heap.size,0,cp,rfl,Nat.zero_le _,Nat.le_refl _,hrow⟩,hc⟩
theorem concat_two (bq cq:Nat)(v1 v2:Value)(l1 l2:List (Int×Int))(w:World)(hq:w.heap[bq]?=some (Ic #[v1,v2] 25 (0,0)))(h1:SlE itemE w v1 l1)(h2:SlE itemE w v2 l2)(hl:l1.length+l2.length≤8589934592) :
  Calls Tp 23 #[Is (some ⟨bq,0,none⟩) 2 cq] w fun e w'=>∃v,e=Ir v∧OwnE itemE w' v (l1++l2) w.heap.size∧Chg (fun _ _=>False) w w':=by
 have H1:=zL h1
 have H2:=zL h2
 obtain ⟨a1,c1,rfl⟩:=h1.form
 obtain ⟨a2,c2,rfl⟩:=h2.form
 have q0:=kbB hq 0
 have q1:=kbB hq 1
 simp only [zF,zD,zE] at q0 q1
 have HQ:=zL hq
 clear hq h1 h2
 go_enter Try.func23,Try.ntmps23
 go_wp2_with fail
 go_loopw [3,11] (fun sv iv wr=>∃(j s:Nat),sv=Ii Ij s∧iv=Ii Ij j∧((j=0∧s=0)∨(j=1∧s=l1.length)∨(j=2∧s=l1.length+l2.length))∧Chg (fun _ _=>False) w wr) (fun _ iv _=>2-(intOf iv).toNat)
 case atStart=>exact ⟨0,0,rfl,rfl,.inl ⟨rfl,rfl⟩,zK _ _⟩
 case round =>
  obtain ⟨j,s,rfl,rfl,hj,hcw⟩:=hrel
  replace q0:=hcw.q q0
  replace q1:=hcw.q q1
  rcases hj with ⟨rfl,rfl⟩ | ⟨rfl,rfl⟩ | ⟨rfl,rfl⟩
  ·have s1:Ij.wrap (l1.length:Int)=(l1.length:Int):=zh _ (by omega)
   have s2:¬(l1.length:Int)<0:=by omega
   go_wp2_with fail
   go_roundw
   case rel=>exact ⟨1,l1.length,rfl,rfl,.inr (.inl ⟨rfl,rfl⟩),hcw⟩
   case measure=>simp [intOf]
  ·have s1:Ij.wrap ((l1.length:Int)+(l2.length:Int))=((l1.length+l2.length:Nat):Int):=(by rw [zh _ (by omega)];omega)
   have s2:¬((l1.length+l2.length:Nat):Int)<0:=by omega
   go_wp2_with fail
   go_roundw
   case rel=>exact ⟨2,l1.length+l2.length,rfl,rfl,.inr (.inr ⟨rfl,rfl⟩),hcw⟩
   case measure=>simp [intOf]
  ·have hg:=grow_nil (l1.length+l2.length) wr hl
   rw [Int.natCast_add] at hg
   have HG:=zL hg
   clear hg
   go_wp2_with fail
   refine HG.out.mono ?_
   rintro e w1 ⟨v0,rfl,hv0',hc1'⟩
   have hv0:=hv0'.mono hcw.size
   have hc1:=hcw.trans hc1'
   clear q0 q1 hv0' hc1' hcw
   go_wp2_with fail
   go_loopw [6,27] (fun sv iv wr=>∃(j:Nat) (L:List (Int×Int)),iv=Ii Ij j∧OwnE itemE wr sv L w.heap.size∧((j=0∧L=[])∨(j=1∧L=l1)∨(j=2∧L=l1++l2))∧Chg (fun _ _=>False) w wr) (fun _ iv _=>2-(intOf iv).toNat)
   case atStart=>exact ⟨0,[],rfl,hv0,.inl ⟨rfl,rfl⟩,hc1⟩
   case round =>
    obtain ⟨j,L,rfl,how,hj,hc⟩:=hrel
    rcases hj with ⟨rfl,rfl⟩ | ⟨rfl,hL⟩ | ⟨rfl,rfl⟩
    ·have hq2:wr.heap[bq]?=some (Ic #[.slice a1 l1.length c1,.slice a2 l2.length c2] 25 (0,0)):=by rw [hc.block (kbF HQ.out) (fun _ h=>h)];exact HQ.out
     have q0:=kbB hq2 0
     have q1:=kbB hq2 1
     simp only [zF,zD,zE] at q0 q1
     obtain ⟨v',w',hr,h2,h3⟩:=own_append wr u6 [] w.heap.size how hc.size (.slice a1 l1.length c1) l1 (H1.out.chg hc) (by first|omega | (simp;omega)) 25
     have HR:=zL hr
     have H22:=zL h2
     have hc3:Chg (fun _ _=>False) w w':=hc.trans' h3 i3 (fun b o hb e=>by have:=(how.own_lt e).1;omega)
     clear hq2 hr h2 h3 how hc
     go_wp2_with (refine wpList_append_run (by rfl) _ _ _ _ (by rfl) u6 (.slice a1 l1.length c1) (by rfl) (by rfl) _ _ HR.out ?_)
     go_roundw
     case rel=>exact ⟨1,_,rfl,H22.out,.inr (.inl ⟨rfl,rfl⟩),hc3⟩
     case measure=>simp [intOf]
    ·have hL':=hL.symm
     subst hL'
     have hq2:wr.heap[bq]?=some (Ic #[.slice a1 l1.length c1,.slice a2 l2.length c2] 25 (0,0)):=by rw [hc.block (kbF HQ.out) (fun _ h=>h)];exact HQ.out
     have q0:=kbB hq2 0
     have q1:=kbB hq2 1
     simp only [zF,zD,zE] at q0 q1
     obtain ⟨v',w',hr,h2,h3⟩:=own_append wr u6 _ w.heap.size how hc.size (.slice a2 l2.length c2) l2 (H2.out.chg hc) (by first|omega | (simp;omega)) 25
     have HR:=zL hr
     have H22:=zL h2
     have hc3:Chg (fun _ _=>False) w w':=hc.trans' h3 i3 (fun b o hb e=>by have:=(how.own_lt e).1;omega)
     clear hq2 hr h2 h3 how hc
     go_wp2_with (refine wpList_append_run (by rfl) _ _ _ _ (by rfl) u6 (.slice a2 l2.length c2) (by rfl) (by rfl) _ _ HR.out ?_)
     go_roundw
     case rel=>exact ⟨2,_,rfl,H22.out,.inr (.inr ⟨rfl,rfl⟩),hc3⟩
     case measure=>simp [intOf]
    ·go_wp2_with fail
     go_ret
     exact ⟨_,rfl,how,hc⟩
end
section
theorem frame99 (A:Array Value)(h:A.size=99):∃f:Nat→Value,A=#[f 0,f 1,f 2,f 3,f 4,f 5,f 6,f 7,f 8,f 9,f 10,f 11,f 12,f 13,f 14,f 15,f 16,f 17,f 18,f 19,f 20,f 21,f 22,f 23,f 24,f 25,f 26,f 27,f 28,f 29,f 30,f 31,f 32,f 33,f 34,f 35,f 36,f 37,f 38,f 39,f 40,f 41,f 42,f 43,f 44,f 45,f 46,f 47,f 48,f 49,f 50,f 51,f 52,f 53,f 54,f 55,f 56,f 57,f 58,f 59,f 60,f 61,f 62,f 63,f 64,f 65,f 66,f 67,f 68,f 69,f 70,f 71,f 72,f 73,f 74,f 75,f 76,f 77,f 78,f 79,f 80,f 81,f 82,f 83,f 84,f 85,f 86,f 87,f 88,f 89,f 90,f 91,f 92,f 93,f 94,f 95,f 96,f 97,f 98]:=⟨fun i=>(A[i]?).getD undef,(arr_lit A 99 h).trans rfl⟩
def KpSt (a1 a2 p:Option Addr)(N N2 N3 c1 c2 cap b:Nat)(LL:List (Int×Int))(w6:World)(a:Act)(w:World):Prop :=
 a.defers=[]∧a.tmps.size=99∧a.tmps[1]?=some (.slice p N3 cap)∧a.tmps[5]?=some (Ip (some ⟨b,0,none⟩))∧a.tmps[11]?=some (.slice a1 N c1)∧a.tmps[12]?=some (Ii Ij N)∧a.tmps[13]?=some (.slice a2 N2 c2)∧∃v,a.tmps[14]?=some v∧SlE itemE w v LL∧Chg (fun _ _=>False) w6 w
theorem firstN0k {α:Type}(l:List α):firstN 0 l=l:=by simp [firstN]
theorem law_GRangeKeeps (sv:Value)(os:List Int)(d:Int)(nl:Bool)(p:Option Addr)(cap:Nat)(l:List (Int×Int))(x y:Int×Int)(inc:Bool)(w:World)(hs:SlE intE w sv os)(hl:ItemsAt w p l) :
  Calls Tp 6 #[.agg #[sv,Ii Ij d,.bool nl],.slice p l.length cap,.agg #[Ii Ij x.1,Ii Ij x.2],.agg #[Ii Ij y.1,Ii Ij y.2],.bool inc] w fun e w'=>e=Ir (.bool true)∧Chg (fun _ _=>False) w w':=by
 obtain ⟨sa,sc,rfl⟩:∃a c,sv=.slice a os.length c:=hs.form
 have hz:=fun w1=>zzFits1_any sa os.length sc d nl w1
 by_cases hol:os.length≤2147483647
 rotate_left
 ·rw [decide_eq_false hol] at hz
  go_enter Try.func6,Try.ntmps6
  go_wp2_with fail
  refine kbW (fun w1=>Chg (fun _ _=>False) w w1) (((((zK _ _).alloc _).alloc _).alloc _)) ?_
  intro w1 hc1
  refine (hz w1).mono ?_
  rintro e w2 ⟨rfl,hc2⟩
  go_wp2_with fail
  go_ret
  exact ⟨rfl,hc1.trans hc2⟩
 rw [decide_eq_true hol] at hz
 by_cases hlen:l.length≤2147483647
 rotate_left
 ·have hlen':2147483647<l.length:=by omega
  go_enter Try.func6,Try.ntmps6
  go_wp2_with fail
  refine kbW (fun w1=>Chg (fun _ _=>False) w w1) (((((zK _ _).alloc _).alloc _).alloc _)) ?_
  intro w1 hc1
  refine (hz w1).mono ?_
  rintro e w2 ⟨rfl,hc2⟩
  go_wp2_with fail
  go_ret
  exact ⟨rfl,hc1.trans hc2⟩
 have hn:¬2147483647<l.length:=by omega
 have HR:=zL (fun w1 (c:Chg (fun _ _=>False) w w1)=>rank_list (.slice sa os.length sc) os w1 (hs.chg c) hol)
 have HS:=zL hs
 have HL:=zL hl
 have HOL:=zL hol
 have HLN:=zL hlen
 clear hs hl
 go_enter Try.func6,Try.ntmps6
 go_wp2_with fail
 refine kbW (fun w1=>Chg (fun _ _=>False) w w1∧w1.heap[w.heap.size]?=some (Ic #[.slice sa os.length sc,Ii Ij d,.bool nl] 24 (0,0))∧w1.heap[w.heap.size+1]?=some (Ic #[Ii Ij x.1,Ii Ij x.2] 27 (0,0))∧w1.heap[w.heap.size+2]?=some (Ic #[Ii Ij y.1,Ii Ij y.2] 27 (0,0))) ⟨((((zK _ _).alloc _).alloc _).alloc _),?_,?_,?_⟩ ?_
 ·rw [kcZ _ _ (by simp;try omega),kcZ _ _ (by simp;try omega)];exact kbT _ _ rfl
 ·rw [kcZ _ _ (by simp;try omega)];exact kbT _ _ (by simp)
 ·exact kbT _ _ (by simp)
 rintro w1 ⟨hc1,hb0,hb1,hb2⟩
 have m0:=kbB hb0 0
 have m1:=kbB hb0 1
 have m2:=kbB hb0 2
 have l0:=kbB hb1 0
 have l1:=kbB hb1 1
 have h0:=kbB hb2 0
 have h1:=kbB hb2 1
 simp only [zF,zD,zE] at m0 m1 m2 l0 l1 h0 h1
 have hlt1:=kbF hb2
 clear hb0 hb1 hb2
 refine (hz w1).mono ?_
 rintro e w2 ⟨rfl,hc2⟩
 replace m0:=hc2.q m0
 replace m1:=hc2.q m1
 replace m2:=hc2.q m2
 replace l0:=hc2.q l0
 replace l1:=hc2.q l1
 replace h0:=hc2.q h0
 replace h1:=hc2.q h1
 go_wp2_with fail
 by_cases hd:FitD d
 rotate_left
 ·refine (lawFits_no sa _ sc d nl _ hd).mono ?_
  rintro e w3 ⟨rfl,hc3⟩
  go_wp2_with fail
  refine (alive_any _).mono ?_
  rintro e w4 ⟨rfl,hc4⟩
  go_wp2_with fail
  go_ret
  exact ⟨rfl,((hc1.trans hc2).trans hc3).trans hc4⟩
 refine (lawFits_yes sa _ sc d nl _ hd).mono ?_
 rintro e w3 ⟨rfl,hc3⟩
 replace m0:=hc3.q m0
 replace m1:=hc3.q m1
 replace m2:=hc3.q m2
 replace l0:=hc3.q l0
 replace l1:=hc3.q l1
 replace h0:=hc3.q h0
 replace h1:=hc3.q h1
 have hc03:=(hc1.trans hc2).trans hc3
 have hsz03:w.heap.size+2<w3.heap.size:=Nat.lt_of_lt_of_le hlt1 (hc2.trans hc3).size
 clear hz hc1 hc2 hc3
 have hgl:=kgB (ord:=os) l l.length
 rw [List.take_length] at hgl
 have hsrt:Srt (ltM (ord:=os)) (kgP l):=growL_srt l
 have htk:=keeps_take hsrt x y inc
 have hall:=range_all (insR (rkL os) x y inc) (kgP (ord:=os) l)
 have htb:=tree_back hsrt (split_perm (insR (rkL os) x y inc) (kgP (ord:=os) l))
 have hul:=upp_len (ord:=os) ltM x (kgP l)
 have hfl:=List.length_filter_le (insR (rkL os) x y inc) (kgP (ord:=os) l)
 have G1:=fun w1 (c:Chg (fun _ _=>False) w w1)=>GDeleteRange_any (ord:=os) (.slice sa os.length sc) d nl p cap l x y inc w1 (HS.out.chg c) HOL.out hd (HL.out.chg c) HLN.out
 have G2:=fun w1 (c:Chg (fun _ _=>False) w w1)=>GAscend_any (ord:=os) (.slice sa os.length sc) d nl p cap l x 0 w1 (HS.out.chg c) HOL.out hd (HL.out.chg c) HLN.out
 have G3:=fun w1 (c:Chg (fun _ _=>False) w w1)=>GItems_any (ord:=os) (.slice sa os.length sc) d nl p cap l w1 (HS.out.chg c) HOL.out hd (HL.out.chg c) HLN.out
 have hin:=fun (z:Int×Int) w1 (c:Chg (fun _ _=>False) w w1)=>Inside_any (ord:=os) (.slice sa os.length sc) (rkL os) z x y inc w1 (HR.out w1 c)
 simp only [firstN0k] at G2
 unfold OwnPostI at G2 G3
 unfold itemV at hin
 obtain ⟨LL,hLL⟩:∃LL,((kgP (ord:=os) l).filter (insR (rkL os) x y inc))=LL:=⟨_,rfl⟩
 obtain ⟨Lo,hLo⟩:∃Lo,((kgP (ord:=os) l).filter fun u=>!insR (rkL os) x y inc u)=Lo:=⟨_,rfl⟩
 obtain ⟨U,hU⟩:∃U,upp (ord:=os) ltM x (kgP l)=U:=⟨_,rfl⟩
 obtain ⟨L,hLg⟩:∃L,kgP (ord:=os) l=L:=⟨_,rfl⟩
 simp only [hLL,hLo] at G1
 simp only [hU] at G2
 simp only [hLg] at G3
 rw [hU,hLL] at htk
 rw [hLL,hLo,hLg] at hall htb
 rw [hU,hLg] at hul
 rw [hLL,hLg] at hfl
 rw [hLg] at hgl
 clear hLL hLo hU hLg hsrt
 replace G1:=zL G1
 replace G2:=zL G2
 replace G3:=zL G3
 have HIN:=zL hin
 have HPL:=zL (And.intro htk (And.intro hall (And.intro htb (And.intro hul (And.intro hfl hgl)))))
 clear htk hall htb hul hfl hgl hin
 go_wp2_with fail
 refine (G1.out _ hc03).mono ?_
 rintro e w5 ⟨v1,v2,rfl,how1,how2,hc5⟩
 replace m0:=hc5.q m0
 replace m1:=hc5.q m1
 replace m2:=hc5.q m2
 replace l0:=hc5.q l0
 replace l1:=hc5.q l1
 replace h0:=hc5.q h0
 replace h1:=hc5.q h1
 have hc05:=hc03.trans hc5
 have hsz5:=hc5.size
 have HS1:=zL how1.sl
 have HS2:=zL how2.sl
 have hf1:=how1.sl
 have hf2:=how2.sl
 obtain ⟨a1,c1,rfl⟩:=hf1.form
 obtain ⟨a2,c2,rfl⟩:=hf2.form
 clear how1 how2 hf1 hf2 hc03 hc5
 go_wp2_with fail
 refine (G2.out _ hc05).mono ?_
 rintro e w6 ⟨v6,rfl,how6,hc6⟩
 have hf6:=how6.sl
 obtain ⟨a6,c6,rfl⟩:=hf6.form
 replace m0:=hc6.q m0
 replace m1:=hc6.q m1
 replace m2:=hc6.q m2
 replace l0:=hc6.q l0
 replace l1:=hc6.q l1
 replace h0:=hc6.q h0
 replace h1:=hc6.q h1
 have HS6:=zL how6.sl
 have HC5:=zL hc05
 have HC6:=zL hc6
 have hsz6:=hc6.size
 clear how6 hf6 hc05 hc6
 obtain ⟨i0,hi0,hz0,hz1,hz2⟩:=info_parts infoItem
 go_wp2_with fail
 have hub:U.length≤2147483647:=by have:=HPL.out.2.2.2.1;have:=HPL.out.2.2.2.2.2;omega
 refine wp_mono (Q:=fun e a w7=>e=.exit 0∧KpSt a1 a2 p LL.length Lo.length l.length c1 c2 cap w.heap.size LL w6 a w7) ?_ ?_
 ·go_loopw [14,45] (fun v i wr=>∃(j:Nat),j≤U.length∧i=Ii Ij j∧OwnE itemE wr v (U.take j) w6.heap.size∧(∀z∈U.take j,insR (rkL os) x y inc z=true)∧Chg (fun _ _=>False) w6 wr) (fun _ i _=>U.length-(intOf i).toNat)
  case atStart=>exact ⟨0,Nat.zero_le _,rfl,OwnE.nil _ _ _,(fun z h=>by simp at h),zK _ _⟩
  case round =>
   obtain ⟨j,hj,rfl,ho1,hq,hc⟩:=hrel
   have HO1:=zL ho1
   have HQ:=zL hq
   have HC:=zL hc
   have hszr:=hc.size
   clear ho1 hq
   by_cases hlt:j<U.length
   ·obtain ⟨z,hx⟩:∃z,U[j]?=some z:=⟨_,List.getElem?_eq_getElem hlt⟩
    obtain ⟨b,o,rfl,g0,g1⟩:=(HS6.out.chg hc).item hx
    have e1:U.take (j+1)=U.take j++[z]:=by rw [List.take_add_one,hx];rfl
    have HE1:=zL e1
    have HZ:=zL hx
    clear hx e1
    have i0':(0:Int)≤(j:Int):=by omega
    have i1:(j:Int)<(U.length:Int):=by omega
    replace m0:=hc.q m0
    replace m1:=hc.q m1
    replace m2:=hc.q m2
    replace l0:=hc.q l0
    replace l1:=hc.q l1
    replace h0:=hc.q h0
    replace h1:=hc.q h1
    have t0:=((zK (fun _ _=>False) wr).alloc (Ic #[Ii Ij z.1,Ii Ij z.2] 27)).q m0
    have t1:=((zK (fun _ _=>False) wr).alloc (Ic #[Ii Ij z.1,Ii Ij z.2] 27)).q l0
    have t2:=((zK (fun _ _=>False) wr).alloc (Ic #[Ii Ij z.1,Ii Ij z.2] 27)).q l1
    have t3:=((zK (fun _ _=>False) wr).alloc (Ic #[Ii Ij z.1,Ii Ij z.2] 27)).q h0
    have t4:=((zK (fun _ _=>False) wr).alloc (Ic #[Ii Ij z.1,Ii Ij z.2] 27)).q h1
    go_wp2_with fail
    refine kbW (fun w2=>Chg (fun _ _=>False) wr w2∧w2.heap[wr.heap.size]?=some (Ic #[Ii Ij z.1,Ii Ij z.2] 27 (0,0))) ⟨(zK _ _).alloc _,kbT _ _ rfl⟩ ?_
    rintro w2 ⟨hc2,hb2⟩
    clear t0 t1 t2 t3 t4
    refine (HIN.out z w2 ((HC5.out.trans HC6.out).trans (HC.out.trans hc2))).mono ?_
    rintro e w3' ⟨rfl,hc3⟩
    have hb3:w3'.heap[wr.heap.size]?=some (Ic #[Ii Ij z.1,Ii Ij z.2] 27 (0,0)):=by rw [hc3.block (kbF hb2) (fun _ h=>h)];exact hb2
    have p0:=kbB hb3 0
    have p1:=kbB hb3 1
    simp only [zF,zD,zE] at p0 p1
    have hca:=hc2.trans hc3
    have hcx:Chg (fun _ _=>False) wr (w3'.alloc (Ic #[Ii Ij z.1,Ii Ij z.2] 27)):=hca.alloc _
    clear hb2 hb3 hc2 hc3
    obtain ⟨vi,hvi⟩:∃vi,insR (rkL os) x y inc z=vi:=⟨_,rfl⟩
    rw [hvi]
    have HVI:=zL hvi
    clear hvi
    cases vi
    ·go_wp2_with fail
     have htw:U.takeWhile (insR (rkL os) x y inc)=U.take j:=by
      have e:U=U.take j++z::U.drop (j+1):=by
       obtain ⟨h1',h2'⟩:=List.getElem?_eq_some_iff.1 HZ.out
       subst h2'
       rw [←List.drop_eq_getElem_cons h1',List.take_append_drop]
      conv=>lhs;rw [e]
      rw [List.takeWhile_append_of_pos HQ.out,List.takeWhile_cons,HVI.out];simp
     rw [HPL.out.1] at htw
     have hfin:=(HO1.out.keep hca).sl
     rw [←htw] at hfin
     first
      |exact ⟨rfl,rfl,rfl,rfl,rfl,rfl,rfl,_,rfl,hfin,HC.out.trans hca⟩
      |exact ⟨trivial,rfl,rfl,rfl,rfl,rfl,rfl,rfl,_,rfl,hfin,HC.out.trans hca⟩
    ·have HOW:=zL (HO1.out.keep hcx)
     have HLL:=zL (show (U.take j).length≤2147483647 by rw [List.length_take];have:=HPL.out.2.2.2.1;have:=HPL.out.2.2.2.2.2;omega)
     have hbs:w6.heap.size≤(w3'.alloc (Ic #[Ii Ij z.1,Ii Ij z.2] 27)).heap.size:=Nat.le_trans hc.size hcx.size
     go_wp2_with (refine wpList_append_E2 itemE (by rfl) _ _ _ (by rfl) i0 _ 16 Try.underlying25 hi0 hz0 hz1 hz2 rfl u14 (by rfl) _ w6.heap.size HOW.out hbs ⟨w3'.heap.size,0,none⟩ 1 _ (by rfl) [z] rfl (by decide) ?_ ?_ ?_ ?_)
     ·exact El.src1 itemE (c:=#[Ii Ij z.1,Ii Ij z.2]) (kbT _ _ (by simp)) _ rfl
     ·exact Nat.le_trans (Nat.add_le_add_right HLL.out 1) (by unfold maxLen;decide)
     ·exact Nat.le_trans (Nat.mul_le_mul_right 16 (Nat.add_le_add_right HLL.out 1)) (by decide)
     intro v' w' k1 k2 k3
     have hcw:Chg (fun _ _=>False) w6 w':=(HC.out.trans hcx).trans' k2 (B:=fun _ _=>False) i3 (fun b _ hb e=>by have:=(HO1.out.own_lt e).1;omega)
     go_wp2_with fail
     go_roundw
     case rel =>
      refine ⟨j+1,by omega,by go_num,by rw [HE1.out];exact k1,fun z' hz'=>?_,hcw⟩
      rw [HE1.out] at hz'
      rcases List.mem_append.1 hz' with hz' | hz'
      ·exact HQ.out z' hz'
      ·rw [List.mem_singleton.1 hz'];exact HVI.out
     case measure=>simp [intOf];omega
   ·obtain rfl:j=U.length:=by omega
    have i1:¬((U.length:Nat):Int)<(U.length:Int):=by omega
    go_wp2_with fail
    have htw:U.takeWhile (insR (rkL os) x y inc)=U:=by
     have hq:=HQ.out
     rw [List.take_length] at hq
     have:=List.takeWhile_append_of_pos (l₂:=[]) hq
     simpa using this
    rw [HPL.out.1] at htw
    rw [List.take_length,←htw] at HO1
    first
     |exact ⟨rfl,rfl,rfl,rfl,rfl,rfl,rfl,_,rfl,HO1.out.sl,HC.out⟩
     |exact ⟨trivial,rfl,rfl,rfl,rfl,rfl,rfl,rfl,_,rfl,HO1.out.sl,HC.out⟩
 ·rintro e a w7 ⟨rfl,hd0,hs99,s1,s5,s11,s12,s13,v,s14,hsl,hc7⟩
  rename_i hK
  refine hK _ _ ?_
  clear hK
  obtain ⟨tmps,defers⟩:=a
  obtain ⟨f,rfl⟩:=frame99 tmps hs99
  simp only [zF,zE,zD,Option.some.injEq] at s1 s5 s11 s12 s13 s14
  replace hd0:defers=[]:=hd0
  subst hd0
  obtain ⟨a4,c4,rfl⟩:=hsl.form
  rw [s1,s5,s11,s12,s13,s14]
  have HSL:=zL hsl
  replace m0:=hc7.q m0
  replace m1:=hc7.q m1
  replace m2:=hc7.q m2
  replace l0:=hc7.q l0
  replace l1:=hc7.q l1
  replace h0:=hc7.q h0
  replace h1:=hc7.q h1
  have hc57:=(HC5.out.trans HC6.out).trans hc7
  have HC67:=zL (HC6.out.trans hc7)
  have HC57:=zL hc57
  clear hs99 s1 s5 s11 s12 s13 s14 hsl hc7 hc57
  obtain ⟨q1,q2,q3,q4,q5,q6⟩:=HPL.out
  have e2:Ij.wrap ((LL.length:Int)+(Lo.length:Int))=(L.length:Int):=by rw [zh _ (by omega)];omega
  go_wp2_with fail
  refine kbM (fun w'=>w'.cell? ⟨w.heap.size,0,none⟩=some (.slice sa os.length sc)∧w'.cell? ⟨w.heap.size,1,none⟩=some (Ii Ij d)∧w'.cell? ⟨w.heap.size,2,none⟩=some (.bool nl)) (.soft 0 (.soft 1 (.soft 2 (.soft 3 (.soft 4 (.soft 5 (.soft 6 (.hard 7 (.soft 8 (.soft 9 (.soft 10 (.soft 11 (.soft 12 (.soft 13 (.soft 14 (.soft 15 (.soft 16 (.hard 17 (.soft 18 (.soft 19 (.soft 20 (.soft 21 (.soft 22 (.soft 23 (.soft 24 (.soft 25 (.soft 29 (.soft 30 (.hard 26 (.hard 27 (.hard 28 (.hard 31 (.hard 32 (.soft 33 (.soft 34 (.hard 35 (.soft 36 (.soft 37 .nil)))))))))))))))))))))))))))))))))))))) (by kernel_rfl) (by kernel_rfl) (fun _ _ _ _ _ h=>h) ⟨m0,m1,m2⟩ ?_
  repeat ((first|(refine kbH (by rfl) ?_ ?_ ?_ ?_;rotate_left;(· simp [zI,yielded]);(· rintro _ ⟨a1,a2,a3⟩;go_simp;try with_reducible rfl))|(refine kbJ (by rfl) ?_ ?_;(· simp [zI,yielded])));simp only [zJ,zA,zB,zC])
  refine kbY (by rfl) (by simp [zI,yielded]) (fun K hK=>?_)
  go_simp
  refine (equal_item _ _ _ _ (HS1.out.chg (HC67.out.trans (zK _ _).drew)) (HSL.out.chg (zK _ _).drew) (by omega)).mono ?_
  rintro e w8 ⟨rfl,hc8'⟩
  have hc8:Chg (fun _ _=>False) w7 w8:=(zK _ _).drew.trans hc8'
  refine hK _ _ ⟨hc8.q m0,hc8.q m1,hc8.q m2⟩ ?_
  clear hK K
  repeat ((first|(refine kbH (by rfl) ?_ ?_ ?_ ?_;rotate_left;(· simp [zI,yielded]);(· rintro _ ⟨a1,a2,a3⟩;go_simp;try with_reducible rfl))|(refine kbJ (by rfl) ?_ ?_;(· simp [zI,yielded])));simp only [zJ,zA,zB,zC])
  refine kbY (by rfl) (by simp [zI,yielded]) (fun K hK=>?_)
  go_simp
  refine (G3.out _ (HC57.out.trans hc8)).mono ?_
  rintro e w9 ⟨v9,rfl,how9,hc9'⟩
  have hc9:=hc8.trans hc9'
  have hf9:=how9.sl
  obtain ⟨a9,c9,rfl⟩:=hf9.form
  clear how9 hf9
  refine hK _ _ ⟨hc9.q m0,hc9.q m1,hc9.q m2⟩ ?_
  clear hK K
  repeat ((first|(refine kbH (by rfl) ?_ ?_ ?_ ?_;rotate_left;(· simp [zI,yielded]);(· rintro _ ⟨a1,a2,a3⟩;go_simp;try with_reducible rfl))|(refine kbJ (by rfl) ?_ ?_;(· simp [zI,yielded])));simp only [zJ,zA,zB,zC])
  refine kbY (by rfl) (by simp [zI,yielded]) (fun K hK=>?_)
  go_simp
  have hcb:=hc9.alloc (Ic #[.slice a1 LL.length c1,.slice a2 Lo.length c2] 25)
  have hct:=concat_two w9.heap.size 2 (.slice a1 LL.length c1) (.slice a2 Lo.length c2) LL Lo _ (by first|exact kbT _ _ rfl | exact kbT _ _ (by simp)) (HS1.out.chg (HC67.out.trans hcb)) (HS2.out.chg (HC67.out.trans hcb)) (by omega)
  have HCT:=zL hct
  clear hct
  refine hK _ _ ⟨hcb.q m0,hcb.q m1,hcb.q m2⟩ ?_
  clear hK K
  repeat ((first|(refine kbH (by rfl) ?_ ?_ ?_ ?_;rotate_left;(· simp [zI,yielded]);(· rintro _ ⟨a1,a2,a3⟩;go_simp;try with_reducible rfl))|(refine kbJ (by rfl) ?_ ?_;(· simp [zI,yielded])));simp only [zJ,zA,zB,zC])
  refine kbY (by rfl) (by simp [zI,yielded]) (fun K hK=>?_)
  go_simp
  refine HCT.out.mono ?_
  rintro e w10 ⟨v10,rfl,how10,hc10'⟩
  have hc10:=hcb.trans hc10'
  obtain ⟨a10,c10,hv10,hi10,hle10⟩:=how10.sl.itemsAt
  rw [zT,q2] at hv10
  subst hv10
  have htr:=tree_any (.slice sa os.length sc) (rkL os) a10 c10 (LL++Lo) w10 (HR.out w10 (HC57.out.trans hc10)) hi10 (by rw [zT];omega)
  have q3':treeL (ltR (rkL os)) (LL++Lo)=L:=q3
  unfold TreePost at htr
  rw [zT,q2,q3'] at htr
  have HTR:=zL htr
  clear htr how10
  refine hK _ _ ⟨hc10.q m0,hc10.q m1,hc10.q m2⟩ ?_
  clear hK K
  repeat ((first|(refine kbH (by rfl) ?_ ?_ ?_ ?_;rotate_left;(· simp [zI,yielded]);(· rintro _ ⟨a1,a2,a3⟩;go_simp;try with_reducible rfl))|(refine kbJ (by rfl) ?_ ?_;(· simp [zI,yielded])));simp only [zJ,zA,zB,zC])
  refine kbY (by rfl) (by simp [zI,yielded]) (fun K hK=>?_)
  go_simp
  refine HTR.out.mono ?_
  rintro e w11 ⟨v11,rfl,ho11,hc11'⟩
  have hc11:=hc10.trans hc11'
  obtain ⟨a11,c11,rfl,hi11,hle11⟩:=ho11.items
  clear ho11
  refine hK _ _ ⟨hc11.q m0,hc11.q m1,hc11.q m2⟩ ?_
  clear hK K
  repeat ((first|(refine kbH (by rfl) ?_ ?_ ?_ ?_;rotate_left;(· simp [zI,yielded]);(· rintro _ ⟨a1,a2,a3⟩;go_simp;try with_reducible rfl))|(refine kbJ (by rfl) ?_ ?_;(· simp [zI,yielded])));simp only [zJ,zA,zB,zC])
  refine kbY (by rfl) (by simp [zI,yielded]) (fun K hK=>?_)
  go_simp
  refine (G3.out _ (HC57.out.trans hc11)).mono ?_
  rintro e w12 ⟨v12,rfl,how12,hc12'⟩
  have hc12:=hc11.trans hc12'
  have hf12:=how12.sl
  obtain ⟨a12,c12,rfl⟩:=hf12.form
  refine hK _ _ ⟨hc12.q m0,hc12.q m1,hc12.q m2⟩ ?_
  clear hK K
  repeat ((first|(refine kbH (by rfl) ?_ ?_ ?_ ?_;rotate_left;(· simp [zI,yielded]);(· rintro _ ⟨a1,a2,a3⟩;go_simp;try with_reducible rfl))|(refine kbJ (by rfl) ?_ ?_;(· simp [zI,yielded])));simp only [zJ,zA,zB,zC])
  refine kbY (by rfl) (by simp [zI,yielded]) (fun K hK=>?_)
  go_simp
  refine (equal_item _ _ _ _ ((hi11.sl hle11).chg hc12') how12.sl (by omega)).mono ?_
  rintro e w13 ⟨rfl,hc13'⟩
  have hc13:=hc12.trans hc13'
  refine hK _ _ ⟨hc13.q m0,hc13.q m1,hc13.q m2⟩ ?_
  clear hK K
  repeat ((first|(refine kbH (by rfl) ?_ ?_ ?_ ?_;rotate_left;(· simp [zI,yielded]);(· rintro _ ⟨a1,a2,a3⟩;go_simp;try with_reducible rfl))|(refine kbJ (by rfl) ?_ ?_;(· simp [zI,yielded])));simp only [zJ,zA,zB,zC])
  refine kbY (by rfl) (by simp [zI,yielded]) (fun K hK=>?_)
  go_simp
  refine (alive_any _).mono ?_
  rintro e w14 ⟨rfl,hc14'⟩
  have hc14:=hc13.trans hc14'
  refine hK _ _ ⟨hc14.q m0,hc14.q m1,hc14.q m2⟩ ?_
  clear hK K
  repeat ((first|(refine kbH (by rfl) ?_ ?_ ?_ ?_;rotate_left;(· simp [zI,yielded]);(· rintro _ ⟨a1,a2,a3⟩;go_simp;try with_reducible rfl))|(refine kbJ (by rfl) ?_ ?_;(· simp [zI,yielded])));simp only [zJ,zA,zB,zC])
  refine kcT ?_
  go_wp2_with fail
  go_ret
  exact ⟨rfl,HC57.out.trans hc14⟩
end
section
open Go.ChangeShapes Go.WideShapes Go.ChangeAt Go.RowKit
section
open Go.ChangeShapes
variable {H:Type}{enc:TypeId×Value→H}{P:Program}{w:World}{base:Nat}{spare:Nat→Bool}{held:Bool}
theorem trodAll_five {t t' t'' t3 t4:TypeId}{args:Array Value}{ds:List (DataW H)}{ps:List MemPlace}(h:DataW.TrodAll enc P w base spare held [t,t',t'',t3,t4] args.toList ds ps) :
  ∃v v' v'' v3 v4 d d' d'' d3 d4 p p' p'' p3 p4,args=#[v,v',v'',v3,v4]∧ds=[d,d',d'',d3,d4]∧ps=p++p'++p''++p3++p4∧DataW.Trod enc P w base spare held t v d p∧DataW.Trod enc P w base spare held t' v' d' p'∧DataW.Trod enc P w base spare held t'' v'' d'' p''∧DataW.Trod enc P w base spare held t3 v3 d3 p3∧DataW.Trod enc P w base spare held t4 v4 d4 p4:=by
 obtain ⟨v,vs,d,ds',p,q,hargs,rfl,rfl,hd,hrest⟩:=trodAll_cons h
 obtain ⟨v',vs',d',ds'',p',q',rfl,rfl,rfl,hd',hrest'⟩:=trodAll_cons hrest
 obtain ⟨v'',vs'',d'',ds''',p'',q'',rfl,rfl,rfl,hd'',hrest''⟩:=trodAll_cons hrest'
 obtain ⟨v3,vs3,d3,ds3,p3,q3,rfl,rfl,rfl,hd3,hrest3⟩:=trodAll_cons hrest''
 obtain ⟨v4,vs4,d4,ds4,p4,q4,rfl,rfl,rfl,hd4,hrest4⟩:=trodAll_cons hrest3
 obtain ⟨rfl,rfl,rfl⟩:=trodAll_nil hrest4
 exact ⟨v,v',v'',v3,v4,d,d',d'',d3,d4,p,p',p'',p3,p4,by cases args;simp_all,rfl,by simp,hd,hd',hd'',hd3,hd4⟩
end
namespace fnGRangeKeeps
theorem own:ownKnob Try.prog.godebug=none:=by kernel_rfl
theorem laid:laidOutB Tp=true:=by kernel_rfl
theorem lifted (os:Os)(started:os.Started)(H:Type)(enc:TypeId×Value→H) :
  ReturnsInHanded {} Try.checked os 6 .any (Rows.fnGRangeKeepsSpec.pre6 enc Tp Try.f6 Rows.fnGRangeKeepsRow.domain false) (Rows.fnGRangeKeepsSpec.post enc Tp Try.f6 false true false false):=by
 refine returnsInHanded_of_change (C:=Try.checked) own started (by kernel_rfl) Try.func6
  (ChangeSpec.witness6 (enc:=enc) (C:=Try.checked) false ⟨#[],#[.agg #[Is none 0 0,Ii Ij 0,.bool false],Is none 0 0,.agg #[Ii Ij 0,Ii Ij 0],.agg #[Ii Ij 0,Ii Ij 0],.bool false],[]⟩ 8 (by kernel_rfl) (by kernel_rfl) (by kernel_rfl) (by kernel_rfl)) ?_
 intro W base args ds gs before hval0 hW hcnd _
 have hval:∀(j:Nat) t v,Try.f6.params[j]?=some t→args[j]?=some v→Value.okWide Tp W .any base t v:=hval0
 have hW':=hW
 obtain ⟨p,q,hA0,hV,rfl,hfz,hnd⟩:=hW
 have hA:DataW.TrodAll enc Tp W 0 (fun _=>true) true Try.f6.params.toList args.toList ds p:=hA0
 rw [Try.params6] at hA hval
 obtain ⟨v0,v1,v2,v3,v4,d0,d1,d2,d3,d4,p0,p1,p2,p3,p4,rfl,rfl,rfl,h0,h1,h2,h3,h4⟩:=trodAll_five hA
 obtain ⟨rfl,rfl⟩:=trodVars_none hV
 obtain ⟨sv,ord,dg,nl,rfl,hs⟩:=open_make (hval 0 24 v0 rfl rfl) h0
 obtain ⟨a,l,cap,rfl,hl,_⟩:=open_items Try.underlying25 Try.underlying27 (by kernel_rfl) rfl rfl rfl rfl (by kernel_rfl) Try.underlying3 (hval 1 25 v1 rfl rfl) h1
 obtain ⟨xx,rfl⟩:=open_item (hval 2 27 v2 rfl rfl) h2
 obtain ⟨yy,rfl⟩:=open_item (hval 3 27 v3 rfl rfl) h3
 obtain ⟨nn,rfl,rfl,rfl⟩:=open_bool Try.underlying4 (hval 4 4 v4 rfl rfl) h4
 refine (law_GRangeKeeps sv ord dg nl a cap l xx yy nn W hs hl).mono fun e W' ⟨he,hc⟩=>?_
 subst he
 exact ⟨_,rfl,law_post laid (by kernel_rfl) rfl Try.underlying4 hW' rfl rfl (hc.below (Nat.le_refl _) i3)⟩
theorem proved:Rows.FnGRangeKeepsSaid :=
 OpenClaim.holds_of_wide 6 Try.f6 rfl rfl rfl rfl rfl rfl rfl ⟨rfl,rfl,rfl,rfl,rfl⟩ rfl rfl rfl rfl rfl (by kernel_rfl) Try.func6 (by kernel_rfl)
  (of_decide_eq_true (by kernel_rfl)) (by unfold Func.isWrapper;first|(rw [if_pos (by decide +kernel)];kernel_rfl)|(rw [if_neg (by decide +kernel)];exact ⟨rfl,rfl⟩))
  (fun os started H enc _=>lifted os started H enc)
end fnGRangeKeeps
end
end Go.Proofs.Ytnohimhihombmaa
