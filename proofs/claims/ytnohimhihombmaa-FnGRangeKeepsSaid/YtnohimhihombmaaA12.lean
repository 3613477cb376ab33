/- find; getHint, Get of trees. -/
import Derived.Laws.EntriesVeiled
import Derived.Laws.MakeOwn
import Derived.Test.YtnohimhihombmaaA2
import Derived.Test.YtnohimhihombmaaA9
import Derived.Test.YtnohimhihombmaaA10
namespace Go.Proofs.Ytnohimhihombmaa
set_option linter.unusedSimpArgs false
set_option linter.unusedVariables false
set_option maxRecDepth 100000
set_option maxHeartbeats 40000000
open Value renaming int → Ii, pointer → Ip, slice → Is, tuple → Iu
open IntKind renaming i64 → Ij
open Obj renaming cells → Ic
open Ending renaming returned → Ir
open Option.some renaming inj → Iq
open _root_.Go.Proofs.Try renaming prog → Tp
open List renaming setIfInBounds_toArray → zA, set_cons_zero → zB, set_cons_succ → zC, getElem?_cons_zero → zD, getElem?_cons_succ → zE, getElem?_toArray → zF, getElem?_eq_some_iff → zG, getElem?_eq_getElem → zH, length_append → zT, append_assoc → zu
open Region renaming wanted → zI
open Chg renaming refl → zK
open Lib renaming hid → zL
open Nat renaming le_trans → zj
section
open Go.RowKit
def runL {α:Type} (cont:List α→Bool):List α→List α→List α×Bool
 | acc,[]=>(acc,true)
 | acc,x::l=>if cont (acc++[x]) then runL cont (acc++[x]) l else (acc++[x],false)
theorem runL_append {α:Type} (cont:List α→Bool):∀(l1 l2 acc:List α),runL cont acc (l1++l2)=if (runL cont acc l1).2 then runL cont (runL cont acc l1).1 l2 else runL cont acc l1
 | [],l2,acc=>by simp [runL]
 | x::l1,l2,acc=>by
  rw [List.cons_append,runL,runL]
  split
  ·exact runL_append cont l1 l2 _
  ·simp
theorem runL_true {α:Type} (cont:List α→Bool):∀(l acc:List α),(runL cont acc l).2=true→(runL cont acc l).1=acc++l
 | [],acc,_=>by simp [runL]
 | x::l,acc,h=>by
  rw [runL] at h ⊢
  split at h
  ·rename_i hc
   rw [if_pos hc,runL_true cont l _ h];simp
  ·cases h
def kcF {α:Type} (n:Int) (l:List α):Bool:=decide (n < 1) || decide ((l.length:Int) < n)
def firstN {α:Type} (n:Int) (l:List α):List α:=if n < 1∨(l.length:Int) < n then l else l.take n.toNat
theorem runL_contN {α:Type} (n:Int):∀(l acc:List α),(n < 1∨(acc.length:Int) < n)→(runL (kcF n) acc l).1=acc++firstN (n - if n < 1 then 0 else acc.length) l
 | [],acc,h=>by simp [runL,firstN]
 | x::l,acc,h=>by
  rw [runL]
  by_cases h1:n < 1
  ·have hc:kcF n (acc++[x])=true:=by simp [kcF,h1]
   rw [if_pos hc,runL_contN n l (acc++[x]) (.inl h1)]
   simp [firstN,h1]
  ·by_cases h2:((acc++[x]).length:Int) < n
   ·have hc:kcF n (acc++[x])=true:=by simp only [kcF,Bool.or_eq_true,decide_eq_true_eq];exact .inr h2
    rw [if_pos hc,runL_contN n l (acc++[x]) (.inr h2)]
    simp only [if_neg h1,zu]
    congr 1
    simp only [zT,List.length_cons,List.length_nil] at h2 ⊢
    unfold firstN
    by_cases h3:((x::l).length:Int) < n - acc.length
    ·have h4:(l.length:Int) < n - ((acc.length+(0+1):Nat):Int):=by simp only [List.length_cons] at h3;omega
     rw [if_pos (.inr h4),if_pos (.inr h3)];rfl
    ·have h4:¬(n - ((acc.length+(0+1):Nat):Int) < 1∨(l.length:Int) < n - ((acc.length+(0+1):Nat):Int)):=by simp only [List.length_cons] at h3;omega
     have h5:¬(n - (acc.length:Int) < 1∨((x::l).length:Int) < n - (acc.length:Int)):=by omega
     rw [if_neg h4,if_neg h5]
     have:(n - (acc.length:Int)).toNat=(n - ((acc.length+(0+1):Nat):Int)).toNat+1:=by omega
     rw [this];rfl
   ·have hc:kcF n (acc++[x])=false:=by simp only [kcF,Bool.or_eq_false_iff,decide_eq_false_iff_not];exact ⟨h1,h2⟩
    rw [if_neg (by rw [hc];simp)]
    simp only [if_neg h1]
    have e:n - (acc.length:Int)=1:=by
     rcases h with h | h
     ·exact absurd h h1
     ·simp at h2;omega
    show acc++[x]=acc++firstN (n - acc.length) (x::l)
    congr 1
    rw [e]
    unfold firstN
    rw [if_neg (by simp;omega)];rfl
theorem runL_first {α:Type} (n:Int) (l:List α):(runL (kcF n) [] l).1=firstN n l:=by
 have:=runL_contN n l [] (by simp;omega)
 simpa using this
structure Kept (n:Int) (ob b2 b3 rb:Nat) (w:World) (acc:List (Int×Int)):Prop where
 o:∃v,w.heap[ob]?=some (Ic #[v] 25 (0,0))∧OwnE itemE w v acc rb
 p2:w.heap[b2]?=some (Ic #[Ip (some ⟨ob,0,none⟩)] 60 (0,0))
 p3:w.heap[b3]?=some (Ic #[Ii Ij n] 3 (0,0))
 lo:ob < rb
 l2:b2 < rb
 l3:b3 < rb
 n2:ob≠b2
 n3:ob≠b3
 rw_:rb≤w.heap.size
theorem Kept.keep {n:Int} {ob b2 b3 rb:Nat} {w w':World} {acc:List (Int×Int)} (h:Kept n ob b2 b3 rb w acc) (c:Chg (fun _ _=>False) w w'):Kept n ob b2 b3 rb w' acc:=by
 obtain ⟨⟨v,h1,h2⟩,p2,p3,l0,l2,l3,n2,n3,hr⟩:=h
 have hb:∀{b:Nat} {o:Obj},w.heap[b]?=some o→w'.heap[b]?=some o:=fun h=>by rw [c.block (kbF h) (fun _ h=>h)];exact h
 exact ⟨⟨v,hb h1,h2.keep c⟩,hb p2,hb p3,l0,l2,l3,n2,n3,zj hr c.size⟩
def TakeB (ob rb:Nat) (b:Nat):Prop:=b=ob∨rb≤b
theorem kgD {n:Int} {ob b2 b3 rb:Nat} {w:World} {acc:List (Int×Int)} (x:Int×Int) (h:Kept n ob b2 b3 rb w acc) (hlen:acc.length≤1000000000000) :
  Calls Tp 53 #[.agg #[Ii Ij x.1,Ii Ij x.2],Ip (some ⟨b2,0,none⟩),Ip (some ⟨b3,0,none⟩)] w fun e w' =>
   e=Ir (.bool (kcF n (acc++[x])))∧Kept n ob b2 b3 rb w' (acc++[x])∧Chg (fun b _=>TakeB ob rb b) w w':=by
 obtain ⟨i0,hi0,hz0,hz1,hz2⟩:=info_parts infoItem
 have hk1:Kept n ob b2 b3 rb (w.alloc (Ic #[Ii Ij x.1,Ii Ij x.2] 27)) acc:=h.keep ((zK _ _).alloc _)
 have HK:=zL h
 go_enter Try.func53,Try.ntmps53
 go_wp2
 refine kbD (fun w1=>Chg (fun _ _=>False) w w1∧w1.heap[w.heap.size]?=some (Ic #[Ii Ij x.1,Ii Ij x.2] 27 (0,0))) ⟨(zK _ _).alloc _,kbT _ _ rfl⟩ ?_
 clear hk1 h
 rintro w1 ⟨hc1,hb1⟩
 obtain ⟨v,g1,g2⟩:=HK.out.o
 obtain ⟨_,p2,p3,l0,l2,l3,n2,n3,hr⟩:=HK.out.keep hc1
 have h1:w1.heap[ob]?=some (Ic #[v] 25 (0,0)):=by rw [hc1.block (kbF g1) (fun _ h=>h)];exact g1
 have h2:=g2.keep hc1
 have hvl:∀b,v.ownBlock=some b→rb≤b∧b < w.heap.size:=fun b hb=>g2.own_lt hb
 have HVL:=zL hvl
 clear g1 g2 hvl
 have o0:=kbB h1 0
 have q2:=kbB p2 0
 have x0:=kbB hb1 0
 have x1:=kbB hb1 1
 have z0:=kbC h1 0
 simp only [zF,zD,zE] at o0 q2 x0 x1
 have hsz1:=hc1.size
 have HOW:=zL h2
 have HB:=zL h1
 clear h2 h1
 refine kfD (fun w'=>w'.cell? ⟨ob,0,none⟩=some v∧w'.cell? ⟨b2,0,none⟩=some (Ip (some ⟨ob,0,none⟩))∧w'.cell? ⟨w.heap.size,0,none⟩=some (Ii Ij x.1)∧w'.cell? ⟨w.heap.size,1,none⟩=some (Ii Ij x.2)) 8
  [(0,true),(1,true),(2,true),(3,true),(4,true),(5,false),(6,false),(7,true),(8,false)] (by kernel_rfl) (by kernel_rfl) (fun _ _ _ _ _ h=>h) ⟨o0,q2,x0,x1⟩ ?_
 iterate 5
  refine kcN (by rfl) ?_ (by simp [zI,yielded]) ?_ ?_
  rotate_left
  ·intro w' hS
   try obtain ⟨a1,a2,a3,a4⟩:=hS
   go_simp
   try with_reducible rfl
  simp only [Act.put,zA,zB,zC]
 refine kcR (by rfl) (by simp [zI,yielded]) (fun K hK=>?_)
 go_simp
 have hc2:Chg (fun _ _=>False) w1 (w1.alloc (Ic #[Ii Ij x.1,Ii Ij x.2] 27)).drew:=((zK _ _).alloc _).drew
 refine hK _ _ (fun _=>⟨hc2.q o0,hc2.q q2,hc2.q x0,hc2.q x1⟩) ?_
 clear hK K
 refine kcR (by rfl) (by simp [zI,yielded]) (fun K hK=>?_)
 refine wp_append_E2 itemE _ _ _ (by rfl) i0 _ 16 Try.underlying25 hi0 hz0 hz1 hz2 rfl v (by rfl) acc rb (HOW.out.keep hc2) (zj hr hc2.size) ⟨w1.heap.size,0,none⟩ 1 _ (by rfl) [x] rfl (by decide) ?_ ?_ ?_ ?_
 ·exact El.src1 itemE (c:=#[Ii Ij x.1,Ii Ij x.2]) (kbT _ _ (by simp)) _ rfl
 ·unfold maxLen;omega
 ·omega
 intro v' w2 g1 g2 _
 obtain ⟨a1,c1,hv',hlc⟩:∃a1 c1,v'=.slice a1 (acc.length+1) c1∧True:=by
  obtain ⟨a1,c1,e,_⟩:=g1.sl
  exact ⟨a1,c1,by rw [e];simp,trivial⟩
 subst hv'
 have hgv:Chg (fun b _=>v.ownBlock=some b) w1 w2:=(hc2.mono (fun _ _ _ h=>h.elim)).trans g2
 have hg:Chg (fun b _=>rb≤b) w1 w2:=hgv.mono (fun b _ _ h=>(HVL.out b h).1)
 have hs:∀{b:Nat} {ob:Obj},b < rb→w1.heap[b]?=some ob→w2.heap[b]?=some ob:=fun h g=>by rw [hg.block (kbF g) (fun _ h2=>by omega)];exact g
 have x0':=hgv.cell (a:=⟨w.heap.size,0,none⟩) (fun h=>absurd (HVL.out w.heap.size h).2 (Nat.lt_irrefl _)) x0
 have x1':=hgv.cell (a:=⟨w.heap.size,1,none⟩) (fun h=>absurd (HVL.out w.heap.size h).2 (Nat.lt_irrefl _)) x1
 have o0':=hg.cell (a:=⟨ob,0,none⟩) (fun h=>by have h2:rb≤ob:=h;omega) o0
 have q2':=hg.cell (a:=⟨b2,0,none⟩) (fun h=>by have h2:rb≤b2:=h;omega) q2
 have h1':=hs l0 HB.out
 have p2':=hs l2 p2
 have p3':=hs l3 p3
 refine hK _ _ (fun _=>⟨o0',q2',x0',x1'⟩) ?_
 clear hK K
 have z0':=kbC h1' 0
 have HB2:=zL h1'
 have HP2:=zL p2'
 have HP3:=zL p3'
 have hsz2:=hg.size
 clear h1' p2' p3' p2 p3 z0
 refine kcN (by rfl) ?_ (by simp [zI,yielded]) ?_ ?_
 rotate_left
 ·intro w' hS
  try obtain ⟨a1,a2,a3,a4⟩:=hS
  go_simp
  try with_reducible rfl
 simp only [Act.put,zA,zB,zC]
 refine kcR (by rfl) (by simp [zI,yielded]) (fun K hK=>?_)
 go_simp
 refine hK _ _ (fun h=>absurd h (by decide)) (kdQ ?_)
 clear hK K
 have hob:(w2.setCell ⟨ob,0,none⟩ (.slice a1 (acc.length+1) c1)).heap[ob]?=some (Ic #[.slice a1 (acc.length+1) c1] 25 (0,0)):=by rw [kbV HB2.out];rfl
 have hst:Chg (fun b _=>b=ob) w2 (w2.setCell ⟨ob,0,none⟩ (.slice a1 (acc.length+1) c1)):=(zK _ _).setCell (.inl rfl) _
 have hfin:Kept n ob b2 b3 rb (w2.setCell ⟨ob,0,none⟩ (.slice a1 (acc.length+1) c1)) (acc++[x]):=by
  have ho:∀{b:Nat} {o:Obj},ob≠b→w2.heap[b]?=some o→(w2.setCell ⟨ob,0,none⟩ (.slice a1 (acc.length+1) c1)).heap[b]?=some o:=fun h g=>by rw [hst.block (kbF g) (fun _ e=>h e.symm)];exact g
  exact ⟨⟨_,hob,g1.chgOwn hst (fun b _ hb e=>by have:=(g1.own_lt hb).1;omega)⟩,ho n2 HP2.out,ho n3 HP3.out,l0,l2,l3,n2,n3,zj hr (zj hsz2 hst.size)⟩
 have hall:Chg (fun b _=>TakeB ob rb b) w (w2.setCell ⟨ob,0,none⟩ (.slice a1 (acc.length+1) c1)):=((hc1.mono (fun _ _ _ h=>h.elim)).trans (hg.mono (fun _ _ _ h=>.inr h))).trans (hst.mono (fun _ _ _ h=>.inl h))
 have HFIN:=zL hfin
 have HALL:=zL hall
 have k1:=kbB hob 0
 have k2:=hst.cell (a:=⟨b2,0,none⟩) (fun h=>n2 h.symm) q2'
 have k3:=hst.cell (a:=⟨b3,0,none⟩) (fun h=>n3 h.symm) (kbB HP3.out 0)
 simp only [zF,zD,zE] at k1 k3
 clear hob hst hfin hall o0 q2 x0 x1 o0' q2' x0' x1' hc2 hg hgv g1 g2
 have hcn:kcF n (acc++[x])=(decide (n < 1) || decide (((acc.length:Int)+1) < n)):=by unfold kcF;simp
 have HCN:=zL hcn
 clear hcn
 have la1:(0:Int)≤(acc.length:Int):=by omega
 have la2:(acc.length:Int)≤1000000000000:=by omega
 by_cases hn1:n < 1
 ·have HD:=zL (show kcF n (acc++[x])=true by rw [HCN.out];simp [hn1])
  go_wp2_with fail
  go_quiet (fail)
  go_wp2
  go_ret
  refine ⟨?_,HFIN.out.keep ((zK _ _).drewN _),HALL.out.drewN _⟩
  show Ending.returned (.bool true)=_
  rw [HD.out]
 ·have hd:decide (n < 1)=false:=by simpa using hn1
  have HD:=zL (show kcF n (acc++[x])=decide (((acc.length:Int)+1) < n) by rw [HCN.out,hd];rfl)
  go_wp2_with fail
  go_quiet (fail)
  go_wp2
  go_ret
  refine ⟨?_,HFIN.out.keep ((zK _ _).drewN _),HALL.out.drewN _⟩
  show Ending.returned (.bool (decide (((acc.length:Int)+1) < n)))=_
  rw [HD.out]
theorem taker_any (ob:Nat) (n:Int) (w:World) :
  Calls Tp 30 #[Ip (some ⟨ob,0,none⟩),Ii Ij n] w fun e w' =>
   e=Ir (.func (.func 53) #[] #[Ip (some ⟨w.heap.size,0,none⟩),Ip (some ⟨w.heap.size+1,0,none⟩)]) ∧
   w'=(w.alloc (Ic #[Ip (some ⟨ob,0,none⟩)] 60)).alloc (Ic #[Ii Ij n] 3):=by
 have hmf:∀(fn:Fn) (first cap:Array Value) (w:World),(Instr.makeFunc fn first cap).run Tp w=.ok (.func fn first cap) w:=fun _ _ _ _=>rfl
 go_enter Try.func30,Try.ntmps30
 go_wp2
 go_ret
 exact ⟨rfl,rfl⟩
def fnG (b2 b3:Nat):Value:=.func (.func 53) #[] #[Ip (some ⟨b2,0,none⟩),Ip (some ⟨b3,0,none⟩)]
theorem taker_kept {n:Int} {ob:Nat} {w:World} (ho:w.heap[ob]?=some (Ic #[Is none 0 0] 25 (0,0))) :
  Kept n ob w.heap.size (w.heap.size+1) ((w.alloc (Ic #[Ip (some ⟨ob,0,none⟩)] 60)).alloc (Ic #[Ii Ij n] 3)).heap.size ((w.alloc (Ic #[Ip (some ⟨ob,0,none⟩)] 60)).alloc (Ic #[Ii Ij n] 3)) []:=by
 have hol:=kbF ho
 refine ⟨⟨_,?_,OwnE.nil _ _ _⟩,?_,?_,by simp only [World.size_alloc];omega,by simp only [World.size_alloc];omega,by simp only [World.size_alloc];omega,by omega,by omega,Nat.le_refl _⟩
 ·rw [kcZ _ _ (by simp only [World.size_alloc];omega),kcZ _ _ hol];exact ho
 ·rw [kcZ _ _ (by simp only [World.size_alloc];omega)];exact kbT _ _ rfl
 ·exact kbT _ _ (by simp)
end
section
open Go.RowKit
variable {α:Type} {ts:List (List α)} {xs:List α} {t:List α}
theorem pre_step {i:Nat} {x:α} (hx:xs[i]?=some x) (ht:ts[i]?=some t):pre (xs.take (i+1)) (ts.take (i+1))=pre (xs.take i) (ts.take i)++(t++[x]):=by
 have hi:=(zG.1 hx).1
 have hj:=(zG.1 ht).1
 rw [List.take_add_one,List.take_add_one,hx,ht]
 have h:(xs.take i).length=(ts.take i).length:=by simp;omega
 have:=pre_app (xs.take i) [x] (ts.take i) [t] h
 simpa [pre] using this
theorem inter_end (h:ts.length=xs.length+1) (ht:ts[xs.length]?=some t):kcM xs ts=pre (xs.take xs.length) (ts.take xs.length)++t:=by
 rw [kdX xs.length xs ts t h ht,List.drop_of_length_le (Nat.le_refl _)]
 simp [post]
theorem pre_len (h:ts.length=xs.length+1) {i:Nat} (ht:ts[i]?=some t):(pre (xs.take i) (ts.take i)).length+t.length≤(kcM xs ts).length:=by
 rw [kdX i xs ts t h ht]
 simp only [zT];omega
def ItSpec (ord:List Int) (h:Nat):Prop:=∀(k:Kc ord) (mn mx:Nat) (w:World) (F:Nat→Prop) (H:HN ord) (T:BT (It ord) h) (t:Nat) (pa:Addr) (mt:Bool) (v:Value) (acc:List (It ord)) (base:Nat),
 Fam (parM k) w F H→IsT H h T→Sh mn mx h T→1≤(its T).length→1≤mn→OwnE itemE w v acc base→base≤w.heap.size→(∀b,F b→b < base)→t < base →
 w.cell? ⟨t,0,none⟩=some (.int .u64 k.iso)→w.cell? pa=some (Ip (some ⟨rid T,0,none⟩))→acc.length+(toL h T).length≤1000000000000 →
 Calls Tp 66 #[Ip (some ⟨t,0,none⟩),Ip (some pa),v,.bool mt] w fun e w'=>∃v',e=Ir v'∧OwnE itemE w' v' (acc++toL h T) base∧Chg (fun b _=>base≤b) w w'
theorem items_leaf (ord:List Int):ItSpec ord 0:=by
 intro k mn mx w F H T t pa mt v acc base hF hT hs hit hmn how hbase hFb htb c0 hpa hlen
 obtain ⟨i0,hi0,hz0,hz1,hz2⟩:=info_parts infoItem
 obtain ⟨l0,hn0⟩:=hF.node hT.root
 have nn:=hn0.c0
 have n3:=hn0.c3n rfl
 have n2:w.cell? ⟨rid T,2,none⟩=some (Is (some ⟨l0.ib,l0.io,none⟩) T.2.length l0.ic):=hn0.c2
 have hrow:=hn0.row
 have hlen':acc.length+T.2.length≤1000000000000:=hlen
 have hit':1≤T.2.length:=hit
 have HOW:=zL how
 have HROW:=zL hrow
 clear how hrow
 go_enter Try.func66,Try.ntmps66
 go_wp2_with fail
 refine (kcD t (rid T) k _ _ _ hpa nn c0).mono ?_
 rintro e w1 ⟨rfl,m,hw1⟩
 have hc1:Chg (fun _ _=>False) w w1:=by rw [hw1];exact (zK _ _).drewN _
 replace n3:=hc1.q n3
 replace n2:=hc1.q n2
 clear hw1
 go_wp2_with fail
 refine (kcJ _ none _ n3).mono ?_
 rintro e w' ⟨rfl,rfl⟩
 have HOW2:=zL (HOW.out.keep hc1)
 go_wp2_with (refine wpList_append_E itemE (by rfl) _ _ _ (by rfl) i0 _ 16 Try.underlying25 hi0 hz0 hz1 hz2 rfl _ (by rfl) _ base HOW2.out (zj hbase hc1.size) ⟨l0.ib,l0.io,none⟩ T.2.length _ (by rfl) T.2 rfl (by omega) ?_ ?_ ?_ ?_)
 ·intro j u hj
  rw [kdS]
  exact hc1.q (HROW.out.cell hj)
 ·unfold maxLen;omega
 ·omega
 intro v' w' h1 h2 _
 go_wp2
 go_ret
 exact ⟨_,rfl,h1,(hc1.mono (fun _ _ _ h=>h.elim)).trans h2⟩
theorem items_branch {ord:List Int} {h:Nat} (ih:ItSpec ord h):ItSpec ord (h+1):=by
 intro k mn mx w F H T t pa mt v acc base hF hT hs hit hmn how hbase hFb htb c0 hpa hlen
 obtain ⟨i0,hi0,hz0,hz1,hz2⟩:=info_parts infoItem
 obtain ⟨l0,hn0⟩:=hF.node hT.root
 have nn:=hn0.c0
 have hk:(kbP (h+1) T).kids=some (T.2.2.map fun c=>some (rid c)):=rfl
 have n3:=hn0.c3s hk
 have hkl:T.2.2.length=T.2.1.length+1:=hs.2.1
 have hml:(T.2.2.map (toL h)).length=T.2.1.length+1:=by simpa using hkl
 have hlen':acc.length+(kcM T.2.1 (T.2.2.map (toL h))).length≤1000000000000:=hlen
 have HLEN:=zL hlen'
 have HOW:=zL how
 have HKL:=zL hkl
 have HML:=zL hml
 have hitn:T.2.1.length≤(kcM T.2.1 (T.2.2.map (toL h))).length:=(its_sub hs).length_le
 have hitl:T.2.1.length≤1000000000000:=by omega
 clear how hkl hlen' hml hlen hitn
 go_enter Try.func66,Try.ntmps66
 go_wp2_with fail
 refine (kcD t (rid T) k _ _ _ hpa nn c0).mono ?_
 rintro e w1 ⟨rfl,m,hw1⟩
 have hc1:Chg (fun b _=>base≤b) w w1:=by rw [hw1];exact (zK _ _).drewN _
 have hcf:Chg (fun _ _=>False) w w1:=by rw [hw1];exact (zK _ _).drewN _
 replace n3:=hcf.q n3
 have HOW1:=zL (HOW.out.keep hcf)
 clear hw1 hcf
 go_wp2_with fail
 refine (kcJ _ (some ⟨l0.cc,0,none⟩) _ n3).mono ?_
 rintro e w' ⟨rfl,rfl⟩
 clear n3
 go_wp2_with fail
 go_loopw [2,10] (fun v i wr=>∃(j:Nat),j≤T.2.1.length∧i=Ii Ij j∧OwnE itemE wr v (acc++pre (T.2.1.take j) ((T.2.2.map (toL h)).take j)) base∧Chg (fun b _=>base≤b) w wr) (fun _ i _=>T.2.1.length - (intOf i).toNat)
 case atStart=>exact ⟨0,Nat.zero_le _,rfl,by simpa [pre] using HOW1.out,hc1⟩
 case round =>
  obtain ⟨j,hj,rfl,how,hc⟩:=hrel
  have hsz:=hc.size
  have hFr:=hF.chg hc (fun b o hb h=>by have:=hFb b hb;omega)
  obtain ⟨l,hn,hblk⟩:=hFr.nodeB hT.root
  have hrb:¬base≤rid T:=by have:=hFb _ (hblk _ (.inl rfl));omega
  have hcb:¬base≤l.cc:=by have:=hFb _ (hblk _ (.inr (.inr ⟨by rw [hk];simp,.inl rfl⟩)));omega
  have n2:wr.cell? ⟨rid T,2,none⟩=some (Is (some ⟨l.ib,l.io,none⟩) T.2.1.length l.ic):=hn.c2
  have n3:=hn.c3s hk
  have nc:=hn.cc hk
  rw [List.length_map] at nc
  obtain ⟨c,hcj⟩:∃c,T.2.2[j]?=some c:=⟨_,zH (by have:=HKL.out;omega)⟩
  have kc:wr.cell? ⟨l.cb,l.co+j,none⟩=some (Ip (some ⟨rid c,0,none⟩)):=hn.kidc hk (j:=j) (o:=some (rid c)) (by simp [hcj])
  have hcm:c∈T.2.2:=List.mem_of_getElem? hcj
  have hkc:=(zG.1 hcj).1
  have htj:(T.2.2.map (toL h))[j]?=some (toL h c):=by simp [hcj]
  have hpl:=pre_len HML.out htj
  have hpl2:=HLEN.out
  have i0':(0:Int)≤(j:Int):=by omega
  have k1:(j:Int) < (T.2.2.length:Int):=by omega
  have hih:=fun (w1:World) (pa1:Addr) (v1:Value) (acc1:List (It ord)) (hc1:Chg (fun b _=>base≤b) w w1) (h1:OwnE itemE w1 v1 acc1 base) (hp1:w1.cell? pa1=some (Ip (some ⟨rid c,0,none⟩))) (h2:acc1.length+(toL h c).length≤1000000000000) =>
   ih k mn mx w1 F H c t pa1 mt v1 acc1 base (hF.chg hc1 (fun b o hb h=>by have:=hFb b hb;omega)) (hT.kid hcm) (hs.2.2 c hcm).2 (zj hmn (hs.2.2 c hcm).1) hmn h1 (zj hbase hc1.size) hFb htb (hc1.cell (fun h=>by have h2:base≤t:=h;omega) c0) hp1 h2
  have HIH:=zL hih
  clear hih
  have hml1:(acc++pre (T.2.1.take j) ((T.2.2.map (toL h)).take j)).length+(toL h c).length≤1000000000000:=by
   rw [zT];omega
  have HL1:=zL hml1
  clear hml1
  by_cases hlt:j < T.2.1.length
  ·obtain ⟨x,hx⟩:∃x,T.2.1[j]?=some x:=⟨_,zH hlt⟩
   have hstep:=pre_step hx htj
   have ht:acc++pre (T.2.1.take (j+1)) ((T.2.2.map (toL h)).take (j+1))=acc++pre (T.2.1.take j) ((T.2.2.map (toL h)).take j)++toL h c++[x]:=by
    rw [hstep];simp
   have HT:=zL ht
   have HX:=zL hx
   have HOW2:=zL how
   clear hx ht hstep how htj hcj hpl hpl2
   have i1:(j:Int) < (T.2.1.length:Int):=by omega
   go_wp2_with fail
   refine (HIH.out _ _ _ _ hc HOW2.out kc HL1.out).mono ?_
   rintro e w2 ⟨v2,rfl,how2,hc2⟩
   have hc02:=hc.trans hc2
   obtain ⟨l2,hn2⟩:=(hF.chg hc02 (fun b o hb h=>by have:=hFb b hb;omega)).node hT.root
   have n2':w2.cell? ⟨rid T,2,none⟩=some (Is (some ⟨l2.ib,l2.io,none⟩) T.2.1.length l2.ic):=hn2.c2
   have iv:=hn2.mval (j:=j) HX.out
   have ik:=hn2.mkey (j:=j) HX.out
   have hca:Chg (fun _ _=>False) w2 (w2.alloc (Ic #[Ii Ij x.1,Ii Ij x.2] 27)):=(zK _ _).alloc _
   have HOW3:=zL (how2.keep hca)
   clear how2
   have hsz2:=hc02.size
   have hll:(acc++pre (T.2.1.take j) ((T.2.2.map (toL h)).take j)++toL h c).length≤1000000000000:=by
    have:=HL1.out
    rw [zT];exact this
   have HLL:=zL hll
   clear hll n2 n3 nc kc
   go_wp2_with (refine wpList_append_E itemE (by rfl) _ _ _ (by rfl) i0 _ 16 Try.underlying25 hi0 hz0 hz1 hz2 rfl _ (by rfl) _ base HOW3.out (zj hbase (zj hsz2 hca.size)) ⟨w2.heap.size,0,none⟩ 1 _ (by rfl) [x] rfl (by decide) ?_ ?_ ?_ ?_)
   ·exact El.src1 itemE (c:=#[Ii Ij x.1,Ii Ij x.2]) (kbT _ _ (by simp)) _ rfl
   ·have:=HLL.out;unfold maxLen;omega
   ·have:=HLL.out;omega
   intro v' w' h1 h2 _
   have hc3:Chg (fun b _=>base≤b) w w':=(hc02.trans (hca.mono (fun _ _ _ h=>h.elim))).trans h2
   go_wp2
   go_roundw
   case rel=>exact ⟨j+1,by omega,by go_num,by rw [HT.out];simpa only [zu] using h1,hc3⟩
   case measure=>simp [intOf];omega
  ·obtain rfl:j=T.2.1.length:=by omega
   have hend:=inter_end HML.out htj
   have ht:acc++toL (h+1) T=acc++pre (T.2.1.take T.2.1.length) ((T.2.2.map (toL h)).take T.2.1.length)++toL h c:=by
    show acc++kcM T.2.1 (T.2.2.map (toL h))=_
    rw [hend];simp
   have HT:=zL ht
   have HOW2:=zL how
   have hkk:=HKL.out
   have kc':wr.cell? ⟨l.cb,l.co+(T.2.2.length - 1),none⟩=some (Ip (some ⟨rid c,0,none⟩)):=by
    have e:T.2.2.length - 1=T.2.1.length:=by omega
    rw [e];exact kc
   have i4:(1:Int)≤(T.2.2.length:Int):=by omega
   have i0:(0:Int)≤(T.2.2.length:Int) - 1:=by omega
   have i1:(T.2.2.length:Int) - 1 < (T.2.2.length:Int):=by omega
   have i2:((T.2.2.length:Int) - 1).toNat=T.2.2.length - 1:=by omega
   have i3:Ij.wrap ((T.2.2.length:Int) - 1)=(T.2.2.length:Int) - 1:=IntWalk.i64_in _ (by omega)
   clear ht hend how htj hcj hpl hpl2 hkk hkc kc k1
   go_wp2_with fail
   refine kbM (fun w'=>w'.cell? ⟨rid T,3,none⟩=some (Ip (some ⟨l.cc,0,none⟩))∧w'.cell? ⟨l.cc,0,none⟩=some (Is (some ⟨l.cb,l.co,none⟩) T.2.2.length l.ck)) (.soft 0 (.soft 1 (.soft 2 (.soft 3 (.soft 4 (.soft 5 (.soft 6 (.soft 7 (.soft 8 (.soft 9 (.soft 10 (.soft 11 (.soft 12 (.soft 13 (.soft 14 (.soft 15 (.soft 16 (.soft 17 (.hard 18 (.soft 19 .nil)))))))))))))))))))) (by kernel_rfl) (by kernel_rfl) (fun _ _ _ _ _ h=>h) ⟨n3,nc⟩ ?_
   repeat (first | (refine kbH (by rfl) ?_ ?_ ?_ ?_;rotate_left;(· simp [zI,yielded];done);(· intro w' hS;try obtain ⟨a1,a2⟩:=hS;go_simp;try with_reducible rfl);simp only [Act.put,zA,zB,zC]) | (refine kbJ (by rfl) ?_ ?_;(· simp [zI,yielded];done);simp only [Act.put,zA,zB,zC]))
   refine kbY (by rfl) (by simp [zI,yielded]) (fun K hK=>?_)
   go_simp
   refine (HIH.out wr.drew _ _ _ hc.drew (HOW2.out.keep (zK _ _).drew) kc' HL1.out).mono ?_
   rintro e w2 ⟨v2,rfl,how2,hc2⟩
   refine hK _ _ ⟨hc2.cell hrb n3,hc2.cell hcb nc⟩ ?_
   clear hK K
   repeat (first | (refine kbH (by rfl) ?_ ?_ ?_ ?_;rotate_left;(· simp [zI,yielded];done);(· intro w' hS;try obtain ⟨a1,a2⟩:=hS;go_simp;try with_reducible rfl);simp only [Act.put,zA,zB,zC]) | (refine kbJ (by rfl) ?_ ?_;(· simp [zI,yielded];done);simp only [Act.put,zA,zB,zC]))
   refine kcT ?_
   go_wp2
   go_ret
   exact ⟨v2,rfl,by rw [HT.out];simpa only [zu] using how2,hc.drew.trans hc2⟩
theorem items_all (ord:List Int):(h:Nat)→ItSpec ord h
 | 0=>items_leaf ord
 | h+1=>items_branch (items_all ord h)
end
section
open Go.RowKit
def OwnPostI (xs:List (Int×Int)) (w:World) (e:Ending) (w':World):Prop:=∃v,e=Ir v∧OwnE itemE w' v xs w.heap.size∧Chg (fun _ _=>False) w w'
variable {ord:List Int} {l:List (It ord)} {F:Nat→Prop} {mn mx:Nat} {k:Kc ord} {w:World} {t:Nat}
theorem MapIn.blk (h:MapIn k mn mx w F t l):∃root,MapBlk k mn mx w t root l.length:=by
 rcases h with ⟨rfl,_,hB⟩ | ⟨H,h,T,_,hB,rfl,_⟩
 ·exact ⟨none,hB⟩
 ·exact ⟨_,hB⟩
theorem MapIn.flt (hM:MapIn k mn mx w F t l):∀b,F b→b < w.heap.size:=by
 intro b hb
 rcases hM with ⟨_,h,_⟩ | ⟨H,h,T,hI,_⟩
 ·exact absurd hb (h b)
 ·exact hI.fam.lt hb
theorem Len_any (hM:MapIn k mn mx w F t l) :
  Calls Tp 38 #[Ip (some ⟨t,0,none⟩)] w fun e w'=>e=Ir (Ii Ij l.length)∧w=w':=by
 obtain ⟨root,hB⟩:=hM.blk
 have c3:=hB.c3
 clear hB hM
 go_enter Try.func38,Try.ntmps38
 go_wp2
 go_ret
 exact ⟨rfl,rfl⟩
theorem made_items (n:Nat) (w:World) (hn:n≤1000000000000):(Instr.makeSlice 25 (Ii Ij 0) (Ii Ij n)).run Tp w=.ok (Is (some ⟨w.heap.size,0,none⟩) 0 n) (w.alloc (.cells (madeCells #[Ii Ij 0,Ii Ij 0] (n * 2)) 27)):=by
 obtain ⟨i0,hi0,hz0,hz1,hz2⟩:=info_parts infoItem
 have h:=run_make (P:=Tp) w 25 27 i0 _ Try.underlying25 hi0 hz0 .i64 .i64 0 (n:Int) (by omega) (by omega) (by rw [hz2];omega) (by omega)
 rw [h,hz1]
 simp [Value.cells]
theorem own_made (n:Nat) (w:World):OwnE itemE (w.alloc (.cells (madeCells #[Ii Ij 0,Ii Ij 0] (n * 2)) 27)) (Is (some ⟨w.heap.size,0,none⟩) 0 n) [] w.heap.size:=by
 refine .inr ⟨w.heap.size,0,n,rfl,Nat.zero_le _,Nat.le_refl _,RowAt.of_block (kbT _ _ rfl) _ _ (by simp [flat]) ?_ (by simp [flat])⟩
 simp [madeCells,itemE]
theorem items_any (mt:Bool) (hM:MapIn k mn mx w F t l) (hmn:1≤mn) (hlen:l.length≤1000000000000) :
  Calls Tp 45 #[Ip (some ⟨t,0,none⟩),.bool mt] w (OwnPostI l w):=by
 have hF:=hM.flt
 have htw:t < w.heap.size:=hM.own MOwn.self
 have hL:=Len_any hM
 obtain ⟨n,hn⟩:∃n,l.length=n:=⟨_,rfl⟩
 rw [hn] at hL hlen
 have HN:=zL hn
 clear hn
 have hmk:=fun w'=>made_items n w' hlen
 have hca:Chg (fun _ _=>False) w (w.alloc (.cells (madeCells #[Ii Ij 0,Ii Ij 0] (n * 2)) 27)):=(zK _ _).alloc _
 have hown:=own_made n w
 have HOWN:=zL hown
 clear hown
 rcases hM.chg hca with ⟨rfl,_,hB⟩ | ⟨H,h,T,hI,hB,rfl,h1⟩
 ·have c2:(w.alloc (.cells (madeCells #[Ii Ij 0,Ii Ij 0] (n * 2)) 27)).cell? ⟨t,2,none⟩=some (Ip none):=hB.c2
  clear hB
  go_enter Try.func45,Try.ntmps45
  go_wp2_with fail
  refine (lock_any t mt _).mono ?_
  rintro e w' ⟨rfl,rfl⟩
  go_wp2_with fail
  refine hL.mono ?_
  rintro e w' ⟨rfl,rfl⟩
  go_wp2_with fail
  go_ret
  exact ⟨_,rfl,HOWN.out,hca⟩
 ·have c2:(w.alloc (.cells (madeCells #[Ii Ij 0,Ii Ij 0] (n * 2)) 27)).cell? ⟨t,2,none⟩=some (Ip (some ⟨rid T,0,none⟩)):=hB.c2
  have c0:=hB.at_.c0
  have hk:=items_all ord h k mn mx _ F H T t ⟨t,2,none⟩ mt _ [] w.heap.size hI.fam hI.isT hI.sh h1 hmn HOWN.out hca.size hF htw c0 c2 (by rw [HN.out];simpa using hlen)
  have HK:=zL hk
  clear hk hB
  go_enter Try.func45,Try.ntmps45
  go_wp2_with fail
  refine (lock_any t mt _).mono ?_
  rintro e w' ⟨rfl,rfl⟩
  go_wp2_with fail
  refine hL.mono ?_
  rintro e w' ⟨rfl,rfl⟩
  go_wp2_with fail
  refine HK.out.mono ?_
  rintro e w2 ⟨v2,rfl,how2,hc2⟩
  go_wp2_with fail
  go_ret
  exact ⟨v2,rfl,how2,hca.trans' hc2 i3 (fun b o hb h=>by omega)⟩
end
section
open Go.RowKit
theorem find_any {ord:List Int} {k:Kc ord} {mn mx:Nat} {w:World} {n:Nat} {r:NodeR (It ord)} {l:Lay} (t:Nat) (x:It ord) (dp:Int) (hm:MapAt k mn mx w t) (h:NodeAt (parM k) w n r l) (hs:Srt ltM r.items) (hlen:r.items.length≤1000000) :
  Calls Tp 49 #[Ip (some ⟨t,0,none⟩),Ip (some ⟨n,0,none⟩),aggM x,Ip none,Ii Ij dp] w (SrchN r.items x w):=by
 have HS:=zL (fun (w1:World) (c:Chg (fun _ _=>False) w w1)=>kgC t x (hm.chg c i3) (h.chg c i3) hs hlen)
 clear hm h hs
 unfold aggM at HS ⊢
 unfold SrchN at HS ⊢
 go_enter Try.func49,Try.ntmps49
 go_wp2_with fail
 refine (HS.out _ ((zK _ _).alloc _)).mono ?_
 rintro e w2 ⟨i,f,rfl,hc,hf⟩
 go_wp2_with fail
 go_ret2
 exact ⟨i,f,rfl,((zK _ _).alloc _).trans hc,hf⟩
theorem kid_lt {α:Type} {h:Nat} {T:BT α (h+1)} {mn mx:Nat} {c:BT α h} (hs:Sh mn mx (h+1) T) (hc:c∈T.2.2) (h1:1≤T.2.1.length):(toL h c).length < (toL (h+1) T).length:=by
 have e:=inter_len T.2.1 (T.2.2.map (toL h)) (by simpa using hs.2.1)
 obtain ⟨A,B,hAB⟩:=List.append_of_mem hc
 have e2:(toL (h+1) T).length=T.2.1.length+((T.2.2.map (toL h)).map (·.length)).sum:=e
 rw [e2,hAB]
 simp only [List.map_append,List.map_cons,List.sum_append,List.sum_cons]
 omega
end
end Go.Proofs.Ytnohimhihombmaa
