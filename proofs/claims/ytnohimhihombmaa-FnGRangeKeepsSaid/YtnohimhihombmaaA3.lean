/- The search in a node, by the function less. -/
import Derived.WalkLawsBesides
import Derived.RegionTactic
import Derived.ChangeAlike
import Derived.Deep.QuietTactic
import Derived.BigQuiet
import Derived.BigRegion
import Derived.StillTailTactics
import Derived.Deep.RegionHeld3
import Derived.Test.YtnohimhihombmaaRows
import Derived.Test.YtnohimhihombmaaA1
import Derived.Test.YtnohimhihombmaaA2
namespace Go.Proofs.Ytnohimhihombmaa
set_option linter.unusedSimpArgs false
set_option linter.unusedVariables false
set_option maxRecDepth 100000
set_option maxHeartbeats 40000000
open Value renaming int → Ii, pointer → Ip, slice → Is, tuple → Iu
open IntKind renaming i64 → Ij
open Obj renaming cells → Ic
open Ending renaming returned → Ir
open Option.some renaming inj → Iq
open _root_.Go.Proofs.Try renaming prog → Tp
open List renaming setIfInBounds_toArray → zA, set_cons_zero → zB, set_cons_succ → zC, getElem?_cons_zero → zD, getElem?_cons_succ → zE, getElem?_toArray → zF, getElem?_eq_some_iff → zG, getElem?_eq_getElem → zH
open Region renaming wanted → zI
open Act renaming put → zJ
open Chg renaming refl → zK, setCell → zd
open Lib renaming hid → zL
open World renaming block_lt_of_cell? → zg
section
open Go.RowKit
variable {ord:List Int} {k:Kc ord}
theorem kcJ (n:Nat) (p:Option Addr) (w:World) (h:w.cell? ⟨n,3,none⟩=some (.pointer p)) :
  Calls Tp 51 #[Ip (some ⟨n,0,none⟩)] w fun e w'=>e=Ir (.bool (p.isNone))∧w=w':=by
 rcases p with _ | a
 ·go_enter Try.func51,Try.ntmps51
  go_wp2
  go_ret
  exact ⟨rfl,rfl⟩
 ·go_enter Try.func51,Try.ntmps51
  go_wp2
  go_ret
  exact ⟨rfl,rfl⟩
theorem kcD (t n:Nat) (k:Kc ord) (ad:Addr) (b:Bool) (w:World) (hp:w.cell? ad=some (Ip (some ⟨n,0,none⟩)))
  (hn:w.cell? ⟨n,0,none⟩=some (.int .u64 k.iso)) (ht:w.cell? ⟨t,0,none⟩=some (.int .u64 k.iso)) :
  Calls Tp 48 #[Ip (some ⟨t,0,none⟩),Ip (some ad),.bool b] w fun e w'=>e=Ir (Ip (some ⟨n,0,none⟩))∧∃m,w'=w.drewN m:=by
 cases b
 ·go_enter Try.func48,Try.ntmps48
  go_wp2
  go_quiet (fail)
  go_wp2
  go_ret
  exact ⟨rfl,_,rfl⟩
 ·go_enter Try.func48,Try.ntmps48
  go_wp2
  go_quiet (fail)
  go_wp2
  go_ret
  exact ⟨rfl,_,rfl⟩
theorem newNode_leaf (t:Nat) (k:Kc ord) (w:World) (ht:w.cell? ⟨t,0,none⟩=some (.int .u64 k.iso)) :
  Calls Tp 83 #[Ip (some ⟨t,0,none⟩),.bool true] w fun e w'=>e=Ir (Ip (some ⟨w.heap.size,0,none⟩)) ∧
   w'=w.alloc (Ic #[.int .u64 k.iso,Ii Ij 0,Is none 0 0,Ip none] 109):=by
 have hlt:=zg w _ ht
 go_enter Try.func83,Try.ntmps83
 go_wp2
 go_ret
 exact ⟨rfl,rfl⟩
theorem newNode_branch (t:Nat) (k:Kc ord) (w:World) (ht:w.cell? ⟨t,0,none⟩=some (.int .u64 k.iso)) :
  Calls Tp 83 #[Ip (some ⟨t,0,none⟩),.bool false] w fun e w'=>e=Ir (Ip (some ⟨w.heap.size,0,none⟩)) ∧
   w'=(w.alloc (Ic #[.int .u64 k.iso,Ii Ij 0,Is none 0 0,Ip (some ⟨w.heap.size+1,0,none⟩)] 109)).alloc (Ic #[Is none 0 0] 111):=by
 have hlt:=zg w _ ht
 go_enter Try.func83,Try.ntmps83
 go_wp2
 go_ret
 exact ⟨rfl,rfl⟩
theorem setCell_twice (w:World) (a:Addr) (u v:Value):(w.setCell a u).setCell a v=w.setCell a v:=by
 unfold World.setCell
 congr 1
 apply Array.ext_getElem?
 intro i
 simp only [Array.getElem?_modify]
 by_cases hi:a.block=i
 ·simp only [hi,if_true]
  cases hq:w.heap[i]? with
  | none=>rfl
  | some q =>
   cases q with
   | cells c T fr=>by_cases hs:a.spot.isSome=true<;>simp [hs]
   | _=>rfl
 ·simp only [hi,if_false]
def kfK (cs:Nat→Int):Nat→Int
 | 0=>0
 | m+1=>kfK cs m+cs m
theorem sumTo_nonneg (cs:Nat→Int) (K:Nat) (h:∀j,j < K→0≤cs j):∀m,m≤K→0≤kfK cs m:=by
 intro m
 induction m with
 | zero=>intro _;simp [kfK]
 | succ m ih=>intro hm;have:=ih (by omega);have:=h m (by omega);simp only [kfK];omega
theorem sumTo_le (cs:Nat→Int) (K:Nat) (h:∀j,j < K→0≤cs j):∀m,m≤K→kfK cs m≤kfK cs K:=by
 induction K with
 | zero =>
  intro m hm;obtain rfl:m=0:=by omega
  exact Int.le_refl _
 | succ K ih =>
  intro m hm
  rcases Nat.lt_or_ge K m with h1 | h1
  ·obtain rfl:m=K+1:=by omega
   exact Int.le_refl _
  ·have:=ih (fun j hj=>h j (by omega)) m h1
   have:=h K (by omega)
   simp only [kfK];omega
theorem updateCount_leaf (n ib io len cap:Nat) (c0:Int) (w:World) (h1:w.cell? ⟨n,1,none⟩=some (Ii Ij c0)) (hf:w.frozen? ⟨n,1,none⟩=false)
  (h2:w.cell? ⟨n,2,none⟩=some (Is (some ⟨ib,io,none⟩) len cap)) (h3:w.cell? ⟨n,3,none⟩=some (Ip none)) :
  Calls Tp 86 #[Ip (some ⟨n,0,none⟩)] w fun e w'=>e=Ir (Iu #[])∧w'=w.setCell ⟨n,1,none⟩ (Ii Ij len):=by
 go_enter Try.func86,Try.ntmps86
 go_wp2_with (go_at_call 51;refine (kcJ _ none _ ?_).mono ?_;(focus go_simp);rintro e w' ⟨rfl,rfl⟩)
 go_end0
 exact ⟨rfl,rfl⟩
theorem kdN (n ib io len cap cc cb co K ck:Nat) (c0:Int) (kid:Nat→Nat) (cs:Nat→Int) (w:World) (h1:w.cell? ⟨n,1,none⟩=some (Ii Ij c0)) (hf:w.frozen? ⟨n,1,none⟩=false)
  (h2:w.cell? ⟨n,2,none⟩=some (Is (some ⟨ib,io,none⟩) len cap)) (h3:w.cell? ⟨n,3,none⟩=some (Ip (some ⟨cc,0,none⟩)))
  (hc:w.cell? ⟨cc,0,none⟩=some (Is (some ⟨cb,co,none⟩) K ck)) (hccn:cc≠n) (hcbn:cb≠n)
  (hk:∀j,j < K→w.cell? ⟨cb,co+j,none⟩=some (Ip (some ⟨kid j,0,none⟩))∧kid j≠n∧w.cell? ⟨kid j,1,none⟩=some (Ii Ij (cs j))∧0≤cs j)
  (hK:K≤1000000) (hb:(len:Int)+kfK cs K≤1000000000000000) :
  Calls Tp 86 #[Ip (some ⟨n,0,none⟩)] w fun e w'=>e=Ir (Iu #[])∧∃m,w'=(w.setCell ⟨n,1,none⟩ (Ii Ij (len+kfK cs K))).drewN m:=by
 have Hk:=zL hk;clear hk
 have hmono:∀m,m≤K→0≤kfK cs m:=sumTo_nonneg cs K fun j hj=>(Hk.out j hj).2.2.2
 have hmono2:∀m,m≤K→kfK cs m≤kfK cs K:=sumTo_le cs K fun j hj=>(Hk.out j hj).2.2.2
 have Hm:=zL hmono;clear hmono
 have Hm2:=zL hmono2;clear hmono2
 go_enter Try.func86,Try.ntmps86
 go_wp2_with (go_at_call 51;refine (kcJ _ (some ⟨cc,0,none⟩) _ ?_).mono ?_;(focus go_simp);rintro e w' ⟨rfl,rfl⟩)
 go_loopw [2] (fun i wr=>∃(j m:Nat),j≤K∧i=Ii Ij j∧Hid (wr=(w.setCell ⟨n,1,none⟩ (Ii Ij (len+kfK cs j))).drewN m)) (fun i _=>K - (intOf i).toNat)
 case atStart=>exact ⟨0,0,Nat.zero_le _,rfl,zL (by simp [kfK];rfl)⟩
 case round =>
  obtain ⟨j,m,hj,rfl,hw⟩:=hrel
  have hs:∀a,¬(a=⟨n,1,none⟩)→wr.cell? a=w.cell? a:=fun a ha=>by rw [hw.out];exact World.cell?_setCell_other w _ _ _ (Ne.symm ha)
  have r1:wr.cell? ⟨n,1,none⟩=some (Ii Ij (len+kfK cs j)):=by rw [hw.out];exact World.cell?_setCell_same w _ _ h1
  have r3:wr.cell? ⟨n,3,none⟩=some (Ip (some ⟨cc,0,none⟩)):=by rw [hs _ (by simp)];exact h3
  have rc:wr.cell? ⟨cc,0,none⟩=some (Is (some ⟨cb,co,none⟩) K ck):=by rw [hs _ (by simp)];exact hc
  have rf:wr.frozen? ⟨n,1,none⟩=false:=by rw [hw.out];simpa using hf
  have Hs:=zL hs;clear hs
  by_cases hlt:j < K
  ·obtain ⟨g1,g2,g3,g4⟩:=Hk.out j hlt
   have g5:=Hm.out j (by omega)
   have g6:=Hm2.out (j+1) (by omega)
   have g7:kfK cs (j+1)=kfK cs j+cs j:=rfl
   have r5:wr.cell? ⟨cb,co+j,none⟩=some (Ip (some ⟨kid j,0,none⟩)):=by rw [Hs.out _ (by simp [hcbn])];exact g1
   have r6:wr.cell? ⟨kid j,1,none⟩=some (Ii Ij (cs j)):=by rw [Hs.out _ (by simp [g2])];exact g3
   rw [g7] at g6
   have G7:=zL g7
   clear g7
   have i0:(0:Int)≤(j:Int):=by omega
   have i1:(j:Int) < (K:Int):=by omega
   go_wp2
   go_still_tail 17,(by kernel_rfl)
   go_wp2
   go_roundw
   case rel =>
    refine ⟨j+1,m+1,by omega,by go_num,zL ?_⟩
    rw [hw.out,G7.out,←Int.add_assoc]
    exact congrArg (fun x=>World.drewN x (m+1)) (setCell_twice w ⟨n,1,none⟩ _ _)
   case measure=>simp [intOf];omega
  ·obtain rfl:j=K:=by omega
   go_wp2
   go_end0
   exact ⟨rfl,m,hw.out⟩
def ksum (cf:Nat→Int) (ks:List Nat):Int:=(ks.map cf).sum
theorem ksum_nil (cf:Nat→Int):ksum cf []=0:=rfl
theorem ksum_cons (cf:Nat→Int) (c:Nat) (ks:List Nat):ksum cf (c::ks)=cf c+ksum cf ks:=by simp [ksum]
theorem ksum_append (cf:Nat→Int) (ks ls:List Nat):ksum cf (ks++ls)=ksum cf ks+ksum cf ls:=by simp [ksum]
theorem ksum_nonneg (cf:Nat→Int):∀ks:List Nat,(∀c∈ks,0≤cf c)→0≤ksum cf ks
 | [],_=>Int.le_refl _
 | c::ks,h=>by
  have:=ksum_nonneg cf ks (fun x hx=>h x (List.mem_cons_of_mem _ hx))
  have:=h c (List.mem_cons_self)
  rw [ksum_cons];omega
theorem ksum_split (cf:Nat→Int) (ks:List Nat) (h:∀c∈ks,0≤cf c) (i:Nat):0≤ksum cf (ks.take i)∧0≤ksum cf (ks.drop i)∧ksum cf (ks.take i)+ksum cf (ks.drop i)=ksum cf ks :=
 ⟨ksum_nonneg cf _ fun c hc=>h c (List.mem_of_mem_take hc),ksum_nonneg cf _ fun c hc=>h c (List.mem_of_mem_drop hc),by rw [←ksum_append,List.take_append_drop]⟩
theorem sumTo_shift (cs:Nat→Int):∀m,kfK cs (m+1)=cs 0+kfK (fun j=>cs (j+1)) m
 | 0=>by simp [kfK]
 | m+1=>by rw [kfK,sumTo_shift cs m,kfK];omega
theorem sumTo_ksum (cf:Nat→Int):∀ks:List Nat,kfK (fun j=>cf (ks.getD j 0)) ks.length=ksum cf ks
 | []=>rfl
 | c::ks=>by rw [List.length_cons,sumTo_shift,ksum_cons,←sumTo_ksum cf ks];rfl
end
section
open Go.RowKit
variable {ord:List Int} {k:Kc ord}
theorem kbD {P:Program} {c:Code} {Q:Exit→Act→World→Prop} {a:Act} {w:World} (R:World→Prop) (hR:R w) (h:∀w1,R w1→c.wp P Q a w1):c.wp P Q a w:=h w hR
theorem kbQ {Q:World→Prop} {w:World} (R:World→Prop) (hR:R w) (h:∀w1,R w1→Q w1):Q w:=h w hR
theorem kbW {P:Program} {f:FuncId} {args:Array Value} {Q:Ending→World→Prop} {w:World} (R:World→Prop) (hR:R w) (h:∀w1,R w1→Calls P f args w1 Q):Calls P f args w Q:=h w hR
def encM (x:It ord):List Value:=[Ii Ij x.1,Ii Ij x.2]
def aggM (x:It ord):Value:=.agg #[Ii Ij x.1,Ii Ij x.2]
def parM (k:Kc ord):Par (It ord) where
 es:=2
 enc:=encM
 TN:=109
 TI:=27
 TS:=111
 TP:=97
 k:=k.iso
 epos:=by omega
 elen:=fun _=>rfl
 eone:=by intro x v hv;simp [encM] at hv;rcases hv with rfl | rfl<;>rfl
section
variable {α:Type} {p:Par α} {w:World} {n:Nat} {r:NodeR α} {l:Lay}
theorem kbB {b:Nat} {c:Array Value} {T:TypeId} {fr:Nat×Nat} (h:w.heap[b]?=some (.cells c T fr)) (o:Nat):w.cell? ⟨b,o,none⟩=c[o]?:=by
 simp [World.cell?,h]
theorem kbC {b:Nat} {c:Array Value} {T:TypeId} (h:w.heap[b]?=some (.cells c T (0,0))) (o:Nat):w.frozen? ⟨b,o,none⟩=false:=by
 simp [World.frozen?,h]
theorem NodeAt.c0 (h:NodeAt p w n r l):w.cell? ⟨n,0,none⟩=some (.int .u64 p.k):=by rw [kbB h.hd];rfl
theorem NodeAt.c1 (h:NodeAt p w n r l):w.cell? ⟨n,1,none⟩=some (Ii Ij r.cnt):=by rw [kbB h.hd];rfl
theorem NodeAt.c2 (h:NodeAt p w n r l):w.cell? ⟨n,2,none⟩=some (Is (some ⟨l.ib,l.io,none⟩) r.items.length l.ic):=by rw [kbB h.hd];rfl
theorem NodeAt.c3 (h:NodeAt p w n r l):w.cell? ⟨n,3,none⟩=some (.pointer (r.kids.map fun _=>⟨l.cc,0,none⟩)):=by rw [kbB h.hd];rfl
theorem NodeAt.c3n (h:NodeAt p w n r l) (hk:r.kids=none):w.cell? ⟨n,3,none⟩=some (Ip none):=by rw [h.c3,hk];rfl
variable {ks:List (Option Nat)}
theorem NodeAt.c3s (h:NodeAt p w n r l) (hk:r.kids=some ks):w.cell? ⟨n,3,none⟩=some (Ip (some ⟨l.cc,0,none⟩)):=by rw [h.c3,hk];rfl
theorem NodeAt.fz (h:NodeAt p w n r l) (o:Nat):w.frozen? ⟨n,o,none⟩=false:=kbC h.hd o
theorem NodeAt.ifz (h:NodeAt p w n r l) (o:Nat):w.frozen? ⟨l.ib,o,none⟩=false:=h.row.frozen o
theorem NodeAt.item (h:NodeAt p w n r l) {j:Nat} {x:α} (hj:r.items[j]?=some x) (q:Nat) {v:Value} (hq:(p.enc x)[q]?=some v):w.cell? ⟨l.ib,l.io+(j * p.es+q),none⟩=some v :=
 h.row.cell (flat_get p hj hq)
theorem NodeAt.cc (h:NodeAt p w n r l) (hk:r.kids=some ks):w.cell? ⟨l.cc,0,none⟩=some (Is (some ⟨l.cb,l.co,none⟩) ks.length l.ck):=by rw [kbB (h.kid ks hk).1];rfl
theorem NodeAt.ccz (h:NodeAt p w n r l) (hk:r.kids=some ks) (o:Nat):w.frozen? ⟨l.cc,o,none⟩=false:=kbC (h.kid ks hk).1 o
theorem NodeAt.kidc (h:NodeAt p w n r l) (hk:r.kids=some ks) {j:Nat} {o:Option Nat} (hj:ks[j]?=some o):w.cell? ⟨l.cb,l.co+j,none⟩=some (kidV o) :=
 (h.kid ks hk).2.cell (by simp [hj])
theorem NodeAt.kidz (h:NodeAt p w n r l) (hk:r.kids=some ks) (o:Nat):w.frozen? ⟨l.cb,o,none⟩=false:=(h.kid ks hk).2.frozen o
end
theorem NodeAt.mval {k:Kc ord} {w:World} {n:Nat} {r:NodeR (It ord)} {l:Lay} (h:NodeAt (parM k) w n r l) {j:Nat} {x:It ord} (hj:r.items[j]?=some x):w.cell? ⟨l.ib,l.io+j * 2,none⟩=some (Ii Ij x.1) :=
 h.item hj 0 rfl
theorem NodeAt.mkey {k:Kc ord} {w:World} {n:Nat} {r:NodeR (It ord)} {l:Lay} (h:NodeAt (parM k) w n r l) {j:Nat} {x:It ord} (hj:r.items[j]?=some x):w.cell? ⟨l.ib,l.io+j * 2+1,none⟩=some (Ii Ij x.2) :=
 h.item hj 1 rfl
end
section
open Go.RowKit
variable {ord:List Int} {k:Kc ord}
def ltM (a b:It ord):Bool:=decide (rkL ord a.1 < rkL ord b.1)
theorem swoM:Swo (ltM (ord:=ord)) where
 asymm:=by intro a b h;simp [ltM] at h ⊢;omega
 ntrans:=by intro a b c h1 h2;simp [ltM] at h1 h2 ⊢;omega
def kcQ (k:Kc ord):Value:=.func (.func 63) #[] #[Ip (some ⟨k.ob,0,none⟩)]
def OrdAt (k:Kc ord) (w:World):Prop :=
 k.rb < w.heap.size∧ord.length≤2147483647∧∃v,w.heap[k.ob]?=some (Ic #[v] 22 (0,0)) ∧
  ((ord=[]∧v=Is none 0 0)∨∃o cap,v=Is (some ⟨k.rb,o,none⟩) ord.length cap∧∀j x,ord[j]?=some x→w.cell? ⟨k.rb,o+j,none⟩=some (Ii Ij x))
theorem OrdAt.chg {A:Nat→Nat→Prop} {w w':World} (h:OrdAt k w) (c:Chg A w w') (h1:∀o,¬A k.ob o) (h2:∀o,¬A k.rb o):OrdAt k w':=by
 obtain ⟨g1,g2,v,g3,g4⟩:=h
 refine ⟨Nat.lt_of_lt_of_le g1 c.size,g2,v,by rw [c.block (kbF g3) h1];exact g3,g4.imp id ?_⟩
 rintro ⟨o,cap,e,g⟩
 exact ⟨o,cap,e,fun j x hx=>c.cell (h2 _) (g j x hx)⟩
theorem OrdAt.lt {w:World} (h:OrdAt k w):k.ob < w.heap.size∧k.rb < w.heap.size:=by
 obtain ⟨g1,_,v,g3,_⟩:=h
 exact ⟨kbF g3,g1⟩
theorem remainder_any (n m:Int) (w:World) (h0:0 < m) (h1:m≤2147483647) :
  Calls Tp 77 #[Ii Ij n,Ii Ij m] w fun e w'=>e=Ir (Ii Ij (n % m))∧w=w':=by
 have hr:=rem_twice h0 n
 have t1:=Int.tmod_lt_of_pos n h0
 have t2:=Int.lt_tmod_of_pos n h0
 have g1:=Int.emod_nonneg n (by omega:m≠0)
 have g2:=Int.emod_lt_of_pos n h0
 have nz:¬m=0:=by omega
 obtain ⟨q,hq⟩:∃q:Int,n % m=q:=⟨_,rfl⟩
 rw [hq] at hr g1 g2 ⊢
 have he:(n.tmod m+m) % m=q:=by rw [Int.add_emod_right];exact hr
 have HE:=zL he
 clear hq hr he
 go_enter Try.func77,Try.ntmps77
 go_wp2
 go_ret
 refine ⟨?_,rfl⟩
 show Ending.returned (Value.int .i64 ((n.tmod m+m) % m))=_
 rw [HE.out]
theorem rank_any (v:Value) (key:Int) (w:World) (hlen:ord.length≤2147483647)
  (hv:(ord=[]∧v=Is none 0 0)∨∃b o cap,v=Is (some ⟨b,o,none⟩) ord.length cap∧∀j x,ord[j]?=some x→w.cell? ⟨b,o+j,none⟩=some (Ii Ij x)) :
  Calls Tp 64 #[v,Ii Ij key] w fun e w'=>e=Ir (Ii Ij (rkL ord key))∧w=w':=by
 by_cases h0:ord.length=0
 ·have e1:rkL ord key=key:=by simp [rkL,h0]
  rw [e1]
  have hv2:∃a cap,v=.slice a 0 cap:=by
   rcases hv with ⟨_,rfl⟩ | ⟨b,o,cap,rfl,_⟩
   ·exact ⟨_,_,rfl⟩
   ·exact ⟨_,_,by rw [h0]⟩
  obtain ⟨a,cap,rfl⟩:=hv2
  clear hv
  go_enter Try.func64,Try.ntmps64
  go_wp2
  go_ret
  exact ⟨rfl,rfl⟩
 ·rcases hv with ⟨h,_⟩ | ⟨b,o,cap,rfl,hcell⟩
  ·rw [h] at h0;exact absurd rfl h0
  obtain ⟨n,hn⟩:∃n,ord.length=n:=⟨_,rfl⟩
  rw [hn] at h0 hlen ⊢
  have hn0:(0:Int) < (n:Int):=by omega
  have hrem:=fun w=>remainder_any key n w hn0 (by omega)
  have g1:=Int.emod_nonneg key (by omega:(n:Int)≠0)
  have g2:=Int.emod_lt_of_pos key hn0
  obtain ⟨q,hq⟩:∃q:Nat,key % (n:Int)=(q:Int):=⟨(key % (n:Int)).toNat,by omega⟩
  have hql:q < ord.length:=by omega
  have hx:ord[q]?=some ord[q]:=zH hql
  have e1:rkL ord key=ord[q]:=by
   have:¬n=0:=by omega
   simp [rkL,hn,hq,this,hx]
  have hc:=hcell q _ hx
  rw [e1]
  obtain ⟨y,hy⟩:∃y,ord[q]=y:=⟨_,rfl⟩
  rw [hy] at hc ⊢
  rw [hq] at hrem
  have HR:=zL hrem
  have n1:(n:Int)≤2147483647:=by omega
  have q0:(0:Int)≤(q:Int):=by omega
  have q1:(q:Int) < (n:Int):=by omega
  have nz:((n:Int) == 0)=false:=by simp;omega
  clear hq hx e1 hy g1 g2 hn hcell hrem h0 hql
  go_enter Try.func64,Try.ntmps64
  go_wp2_with fail
  refine (HR.out _).mono ?_
  rintro e w' ⟨rfl,rfl⟩
  go_wp2_with fail
  go_ret
  exact ⟨rfl,rfl⟩
theorem less_any (a b:It ord) (w:World) (h:OrdAt k w) :
  Calls Tp 63 #[.agg #[Ii Ij a.1,Ii Ij a.2],.agg #[Ii Ij b.1,Ii Ij b.2],Ip (some ⟨k.ob,0,none⟩)] w fun e w'=>e=Ir (.bool (ltM a b))∧Chg (fun _ _=>False) w w':=by
 have H:=zL h
 clear h
 go_enter Try.func63,Try.ntmps63
 go_wp2_with fail
 refine kbD (fun w1=>Chg (fun _ _=>False) w w1∧w1.cell? ⟨w.heap.size,0,none⟩=some (Ii Ij a.1)∧w1.cell? ⟨w.heap.size+1,0,none⟩=some (Ii Ij b.1)) ⟨((zK _ _).alloc _).alloc _,?_,?_⟩ ?_
 ·rw [World.cell?_alloc_lt _ _ _ (by simp)];exact kbB (kbT _ _ rfl) 0
 ·exact kbB (kbT _ _ (by simp)) 0
 rintro w1 ⟨hc,c0,c1⟩
 have H1:=H.out.chg hc (fun _ h=>h) (fun _ h=>h)
 obtain ⟨_,hl,v,g3,g4⟩:=H1
 have o0:=kbB g3 0
 simp only [zF,zD] at o0
 have hr:=fun key m=>rank_any v key (w1.drewN m) hl (by
  rcases g4 with g | ⟨o,cap,e,g⟩
  ·exact .inl g
  ·exact .inr ⟨_,o,cap,e,g⟩)
 have HR:=zL hr
 clear hr g3 g4
 go_quiet (first | (go_at_call 64;refine Calls.quiet_of_same ((HR.out _ _).mono (by rintro e w' ⟨h1,h2⟩;exact ⟨h1,h2.symm⟩))))
 go_wp2
 go_ret
 exact ⟨rfl,hc.drewN _⟩
end
section
open Go.RowKit
variable {ord:List Int} {k:Kc ord}
structure MapAt (k:Kc ord) (mn mx:Nat) (w:World) (t:Nat):Prop where
 c0:w.cell? ⟨t,0,none⟩=some (.int .u64 k.iso)
 c4:w.cell? ⟨t,7,none⟩=some (Ii Ij 0)
 c5:w.cell? ⟨t,8,none⟩=some (Ii Ij 0)
 c6:w.cell? ⟨t,10,none⟩=some (Ii Ij mn)
 c7:w.cell? ⟨t,9,none⟩=some (Ii Ij mx)
 c6l:w.cell? ⟨t,6,none⟩=some (kcQ k)
 ord:OrdAt k w
def MOwn (k:Kc ord) (t b:Nat):Prop:=b=t∨b=k.ob∨b=k.rb
theorem MOwn.self {k:Kc ord} {t:Nat}:MOwn k t t:=.inl rfl
theorem MapAt.lt {k:Kc ord} {mn mx t b:Nat} {w:World} (h:MapAt k mn mx w t) (hb:MOwn k t b):b < w.heap.size:=by
 rcases hb with rfl | rfl | rfl
 ·exact zg w _ h.c0
 ·exact h.ord.lt.1
 ·exact h.ord.lt.2
theorem MapAt.chg {A:Nat→Nat→Prop} {k:Kc ord} {mn mx t:Nat} {w w':World} (h:MapAt k mn mx w t) (c:Chg A w w') (hA:∀b o,MOwn k t b→¬A b o):MapAt k mn mx w' t :=
 ⟨c.cell (hA t 0 MOwn.self) h.c0,c.cell (hA t 7 MOwn.self) h.c4,c.cell (hA t 8 MOwn.self) h.c5,c.cell (hA t 10 MOwn.self) h.c6,c.cell (hA t 9 MOwn.self) h.c7,c.cell (hA t 6 MOwn.self) h.c6l,h.ord.chg c (fun o=>hA _ o (.inr (.inl rfl))) (fun o=>hA _ o (.inr (.inr rfl)))⟩
def SplitPost (k:Kc ord) (w:World) (n:Nat) (r:NodeR (It ord)) (l:Lay) (i:Nat) (cf:Nat→Int) (kl:List Nat) (e:Ending) (w':World):Prop :=
 ∃m x l1 l2,e=Ir (Iu #[Ip (some ⟨m,0,none⟩),.agg #[Ii Ij x.1,Ii Ij x.2]])∧r.items[i]?=some x∧w.heap.size≤m ∧
  Chg (Ext (parM k) n r l) w w' ∧
  NodeAt (parM k) w' n ⟨i+ksum cf (kl.take (i+1)),r.items.take i,r.kids.map (·.take (i+1))⟩ l1 ∧
  NodeAt (parM k) w' m ⟨((r.items.length - (i+1):Nat):Int)+ksum cf (kl.drop (i+1)),r.items.drop (i+1),r.kids.map (·.drop (i+1))⟩ l2 ∧
  l1.ib=l.ib∧l1.io=l.io∧l1.ic=i∧l2.ib=l.ib∧l2.io=l.io+(i+1) * 2∧l2.ic=l.ic - (i+1) ∧
  (r.kids≠none→l1.cc=l.cc∧l1.cb=l.cb∧l1.co=l.co∧l1.ck=i+1∧w.heap.size≤l2.cc∧l2.cb=l.cb∧l2.co=l.co+(i+1)∧l2.ck=l.ck - (i+1))
theorem nodeSplit_leaf (k:Kc ord) (mn mx t n:Nat) (r:NodeR (It ord)) (l:Lay) (w:World) (ht:MapAt k mn mx w t) (hn:NodeAt (parM k) w n r l) (hk:r.kids=none) (hlen:r.items.length=mx) (hmx:mx≤1000) (hm3:3≤mx) (cf:Nat→Int) :
  Calls Tp 85 #[Ip (some ⟨t,0,none⟩),Ip (some ⟨n,0,none⟩)] w (SplitPost k w n r l (mx / 2) cf []):=by
 obtain ⟨i,hi⟩:∃i:Nat,mx / 2=i:=⟨_,rfl⟩
 rw [hi]
 have hI:(mx:Int) / 2=(i:Int):=by omega
 have Hi:=zL hi
 have hilt:i < mx:=by omega
 have hi1:1≤i:=by omega
 clear hi
 obtain ⟨x,hx⟩:∃x,r.items[i]?=some x:=⟨_,zH (by omega)⟩
 have t0:=ht.c0
 have t6:=ht.c7
 have n2:=hn.c2
 have n3:=hn.c3n hk
 have iv:=hn.mval hx
 have ik:=hn.mkey hx
 have hcap:=hn.len
 rw [hlen] at n2
 have ibl:=hn.row.lt
 have nlt:=zg w _ n2
 have tlt:=zg w _ t0
 go_enter Try.func85,Try.ntmps85
 go_wp2_with (first | (go_at_call 51;refine (kcJ _ none _ ?_).mono ?_;(focus go_simp);rintro e w' ⟨rfl,rfl⟩) | (go_at_call 83;refine (newNode_leaf _ k _ ?_).mono ?_;(focus go_simp);rintro e w' ⟨rfl,rfl⟩))
 refine (updateCount_leaf _ l.ib (l.io+(i+1) * 2) (mx - (i+1)) (l.ic - (i+1)) 0 _ ?_ ?_ ?_ ?_).mono ?_
 ·go_simp
 ·go_simp
 ·go_simp
 ·go_simp
 rintro e w' ⟨rfl,rfl⟩
 go_wp2_with fail
 refine kbD (fun w1=>Chg (fun _ _=>False) w w1∧w1.heap[w.heap.size]?=some (Ic #[Ii Ij x.1,Ii Ij x.2] 27 (0,0)) ∧
  w1.heap[w.heap.size+1]?=some (Ic #[.int .u64 k.iso,Ii Ij ((mx - (i+1):Nat):Int),Is (some ⟨l.ib,l.io+(i+1) * 2,none⟩) (mx - (i+1)) (l.ic - (i+1)),Ip none] 109 (0,0)))
  ⟨((zK _ w).alloc _).alloc _,by rw [kcZ _ _ (by simp)];exact kbT _ _ rfl,kbT _ _ (by simp)⟩ ?_
 rintro w1 ⟨hc1,hb1,hb2⟩
 have HB1:=zL hb1
 have HB2:=zL hb2
 clear hb1 hb2
 have ht1:=ht.chg hc1 (by simp)
 have hn1:=hn.chg hc1 (by simp)
 have n21:=hn1.c2
 rw [hlen] at n21
 have iv1:=hn1.mval hx
 have ik1:=hn1.mkey hx
 have e4:=ht1.c4
 have e5:=ht1.c5
 have fz0:=hn1.ifz (l.io+i * 2)
 have fz1:=hn1.ifz (l.io+i * 2+1)
 have fzn:=hn1.fz 2
 have fzn1:=hn1.fz 1
 have n31:=hn1.c3n hk
 have n11:=hn1.c1
 have hibn:=hn1.d1
 have j0:(0:Int)≤(i:Int):=by omega
 have j1:(i:Int) < (mx:Int):=by omega
 clear t0 t6 n2 n3 iv ik hm3
 go_still_tail 10,(by kernel_rfl)
 go_wp2_with (first | (go_at_call 51;refine (kcJ _ none _ ?_).mono ?_;(focus go_simp);rintro e w' ⟨rfl,rfl⟩))
 refine (updateCount_leaf _ l.ib l.io (i) (i) r.cnt _ ?_ ?_ ?_ ?_).mono ?_
 ·go_simp
 ·go_simp
 ·go_simp
 ·go_simp
 rintro e w' ⟨rfl,rfl⟩
 go_wp2_with fail
 refine kbD (fun w2=>Chg (fun b o=>b=n∨(b=l.ib∧l.io+i * 2≤o∧o < l.io+(i+1) * 2)) w1 w2 ∧
   w2.heap[n]?=some (Ic #[.int .u64 k.iso,Ii Ij ((i:Nat):Int),Is (some ⟨l.ib,l.io,none⟩) (i) (i),Ip none] 109 (0,0))) ⟨?_,?_⟩ ?_
 ·repeat (first | refine Chg.drew ?_ | refine zd ?_ (.inl ?_) _ | exact zK _ _)
  all_goals (simp;try omega)
 ·have hd:=hn1.hd
  unfold kgT at hd
  rw [hk,hlen] at hd
  rw [kbZ,kbV (c:=#[.int .u64 k.iso,Ii Ij r.cnt,Is (some ⟨l.ib,l.io,none⟩) (i) (i),Ip none]) (T:=109) (fr:=(0,0))]
  ·rfl
  ·rw [kbV (c:=#[.int .u64 k.iso,Ii Ij r.cnt,Is (some ⟨l.ib,l.io,none⟩) mx l.ic,Ip none]) (T:=109) (fr:=(0,0))]
   ·rfl
   ·repeat rw [hs_ne _ (Ne.symm hibn)]
    exact hd
 rintro w2 ⟨hc2,hd2⟩
 have hc2':=hc2
 have hszw:=hc1.size
 have HD2:=zL hd2
 clear hd2
 have hb2:w2.heap[w.heap.size]?=some (Ic #[Ii Ij x.1,Ii Ij x.2] 27 (0,0)):=by
  rw [hc2.block (kbF HB1.out) (by intro o;simp;omega)];exact HB1.out
 have q0:=kbB hb2 0
 have q1:=kbB hb2 1
 have q2:=kbC hb2 0
 have q3:=kbC hb2 1
 simp only [zF,zD,zE] at q0 q1
 have HQ:=zL hb2
 clear hb2 n21 iv1 ik1 e4 e5 fz0 fz1 fzn fzn1 n31 n11
 go_region
 go_wp2
 refine bodyPost_ret (v:=Iu #[Ip (some ⟨w.heap.size+1,0,none⟩),.agg #[Ii Ij x.1,Ii Ij x.2]]) (by simp [results,Try.results85,go_sem,q0,q1]) rfl ?_
 generalize hw3:World.drew _=w3
 have hc3:Chg (fun b _=>b=w.heap.size) w2 w3:=by
  rw [←hw3]
  repeat (first | refine Chg.drew ?_ | refine zd ?_ (.inl rfl) _ | exact zK _ _)
 have hs1:w.heap.size+1 < w1.heap.size:=kbF HB2.out
 have hs2:=hc2.size
 have hc13:Chg (fun b o=>b=n∨(b=l.ib∧l.io+i * 2≤o∧o < l.io+(i+1) * 2)∨b=w.heap.size) w1 w3 :=
  hc2.trans' hc3 (fun b o _ h=>by rcases h with h | h;exact .inl h;exact .inr (.inl h)) (fun b o _ h=>.inr (.inr h))
 have hext:∀o,l.io+i * 2≤o→o < l.io+(i+1) * 2→l.io≤o∧o < l.io+l.ic * 2:=by intro o h1 h2;omega
 refine ⟨w.heap.size+1,x,⟨l.ib,l.io,i,l.cc,l.cb,l.co,i+1⟩,⟨l.ib,l.io+(i+1) * 2,l.ic - (i+1),0,0,0,0⟩,rfl,hx,by omega,?_,?_,?_,rfl,rfl,rfl,rfl,rfl,rfl,fun h=>absurd hk h⟩
 ·refine hc1.trans' hc13 (fun _ _ _ h=>h.elim) ?_
  rintro b o hb (h | ⟨h1,h2,h3⟩ | h)
  ·exact .inl h
  ·exact .inr (.inl ⟨h1,by have:=hext o h2 h3;simpa [parM] using this⟩)
  ·omega
 ·refine ⟨?_,?_,?_,hibn,?_⟩
  ·rw [hc3.block (by omega) (by intro o;omega),HD2.out,hk]
   simp [kgT,parM,hlen,ksum_nil];omega
  ·have:=hn1.rowPart hc13 0 i i (by omega) (by omega) (by omega) (by
    intro o h1 h2 h3
    simp [parM] at h1 h2
    rcases h3 with h3 | ⟨_,h3,_⟩ | h3<;>omega)
   simpa [parM] using this
  ·rw [hk];simp
  ·rw [hk];simp
 ·refine ⟨?_,?_,?_,?_,?_⟩
  ·rw [hc3.block (by omega) (by intro o;simp),hc2.block (by omega) (by intro o;omega),HB2.out,hk]
   simp [kgT,parM,hlen,ksum_nil]
  ·have:=hn1.rowPart hc13 (i+1) (r.items.length - (i+1)) (l.ic - (i+1)) (by omega) (by omega) (by omega) (by
    intro o h1 h2 h3
    simp [parM] at h1 h2
    rcases h3 with h3 | ⟨_,_,h3⟩ | h3<;>omega)
   rw [List.take_of_length_le (by simp)] at this
   simpa [parM] using this
  ·rw [hk];simp
  ·show l.ib≠w.heap.size+1
   omega
  ·rw [hk];simp
end
section
open Go.RowKit
variable {ord:List Int} {k:Kc ord}
def SrchN (xs:List (It ord)) (x:It ord) (w:World) (e:Ending) (w':World):Prop :=
 ∃(i:Nat) (f:Bool),e=Ir (Iu #[Ii Ij i,.bool f])∧Chg (fun _ _=>False) w w'∧((f=true∧∃y,HitAt ltM xs x i y)∨(f=false∧PosAt ltM xs x i))
theorem kgC {k:Kc ord} {mn mx:Nat} {w:World} {n:Nat} {r:NodeR (It ord)} {l:Lay} (t:Nat) (x:It ord) (hm:MapAt k mn mx w t) (h:NodeAt (parM k) w n r l) (hs:Srt ltM r.items) (hlen:r.items.length≤1000000) :
  Calls Tp 68 #[Ip (some ⟨t,0,none⟩),Ip (some ⟨n,0,none⟩),aggM x] w (SrchN r.items x w):=by
 have H:=zL h
 have HM:=zL hm
 have hsl:∀(i j:Nat) (a b:It ord),i < j→r.items[i]?=some a→r.items[j]?=some b→ltM a b=true:=by
  intro i j a b hij ha hb
  obtain ⟨hi,rfl⟩:=zG.1 ha
  obtain ⟨hj,rfl⟩:=zG.1 hb
  exact List.pairwise_iff_getElem.1 hs i j hi hj hij
 have HS:=zL hsl
 obtain ⟨N,hN⟩:∃N,r.items.length=N:=⟨_,rfl⟩
 have HN:=zL hN
 rw [hN] at hlen
 have n2:=h.c2
 rw [hN] at n2
 clear h hm hs hsl hN
 unfold aggM
 go_enter Try.func68,Try.ntmps68
 go_wp2
 refine kbD (fun w1=>Chg (fun _ _=>False) w w1∧w1.heap[w.heap.size]?=some (Ic #[Ii Ij x.1,Ii Ij x.2] 27 (0,0))) ⟨(zK _ _).alloc _,kbT _ _ rfl⟩ ?_
 rintro w1 ⟨hc1,hb1⟩
 replace n2:=hc1.q n2
 have HB1:=zL hb1
 clear hb1
 go_quiet (fail)
 go_wp2
 go_loopw [8,9,10] (fun lo hi hh wr=>∃l h':Nat,l≤h'∧h'≤N∧lo=Ii Ij l∧hi=Ii Ij h'∧(∀j y,j < l→r.items[j]?=some y→ltM x y=false)∧(∀j y,h'≤j→r.items[j]?=some y→ltM x y=true)∧Chg (fun _ _=>False) w1 wr)
  (fun lo hi _ _=>(intOf hi).toNat - (intOf lo).toNat)
 case atStart=>exact ⟨0,N,Nat.zero_le _,Nat.le_refl _,rfl,rfl,by omega,fun j y h1 h2=>by have:=(zG.1 h2).1;have:=HN.out;omega,(zK _ _).drewN _⟩
 case round =>
  obtain ⟨lo,hi,hlh,hh,rfl,rfl,hA,hB,hc⟩:=hrel
  have HA:=zL hA
  have HB:=zL hB
  clear hA hB
  have hbr:wr.heap[w.heap.size]?=some (Ic #[Ii Ij x.1,Ii Ij x.2] 27 (0,0)):=by rw [hc.block (kbF HB1.out) (fun _ h=>h)];exact HB1.out
  have q0:=kbB hbr 0
  have q1:=kbB hbr 1
  simp only [zF,zD,zE] at q0 q1
  have m2:=hc.q n2
  have c6:=(HM.out.chg (hc1.trans hc) i3).c6l
  have HO:=zL (HM.out.chg (hc1.trans hc) i3).ord
  have hnr:=H.out.chg (hc1.trans hc) i3
  unfold kcQ at c6
  clear hbr
  by_cases hlt:lo < hi
  ·obtain ⟨y,hy⟩:∃y,r.items[(lo+hi) / 2]?=some y:=⟨_,zH (by have:=HN.out;omega)⟩
   have iv:=hnr.mval hy
   have ik:=hnr.mkey hy
   have HY:=zL hy
   clear hnr hy
   have s1:(0:Int)≤((lo:Int)+(hi:Int)) / 2:=by omega
   have s2:((lo:Int)+(hi:Int)) / 2 < (N:Int):=by omega
   have s3:(((lo:Int)+(hi:Int)) / 2).toNat=(lo+hi) / 2:=by omega
   go_wp2_with fail
   refine kbM (fun w'=>w'.cell? ⟨t,6,none⟩=some (.func (.func 63) #[] #[Ip (some ⟨k.ob,0,none⟩)])∧w'.cell? ⟨w.heap.size,0,none⟩=some (Ii Ij x.1)∧w'.cell? ⟨w.heap.size,1,none⟩=some (Ii Ij x.2)∧w'.cell? ⟨n,2,none⟩=some (Is (some ⟨l.ib,l.io,none⟩) N l.ic)∧w'.cell? ⟨l.ib,l.io+((lo+hi) / 2) * 2,none⟩=some (Ii Ij y.1)∧w'.cell? ⟨l.ib,l.io+((lo+hi) / 2) * 2+1,none⟩=some (Ii Ij y.2)) (.soft 0 (.soft 1 (.soft 2 (.soft 3 (.soft 4 (.soft 5 (.soft 6 (.soft 7 (.soft 8 (.soft 9 (.soft 10 (.soft 11 (.hard 12 (.soft 13 .nil)))))))))))))) (by kernel_rfl) (by kernel_rfl) (fun _ _ _ _ _ h=>h) ⟨c6,q0,q1,m2,iv,ik⟩ ?_
   repeat (first | (refine kbH (by rfl) ?_ ?_ ?_ ?_;rotate_left;(· simp [zI,yielded];done);(· intro w' hS;try obtain ⟨a1,a2,a3,a4,a5,a6⟩:=hS;go_simp;try with_reducible rfl);simp only [zJ,zA,zB,zC]) | (refine kbJ (by rfl) ?_ ?_;(· simp [zI,yielded];done);simp only [zJ,zA,zB,zC]))
   refine kbY (by rfl) (by simp [zI,yielded]) (fun K hK=>?_)
   go_simp
   refine (less_any x y _ (HO.out.chg (zK (fun _ _=>False) _).drew (fun _ h=>h) (fun _ h=>h))).mono ?_
   rintro e w2 ⟨rfl,hc2⟩
   refine hK _ _ ⟨hc2.q c6,hc2.q q0,hc2.q q1,hc2.q m2,hc2.q iv,hc2.q ik⟩ ?_
   clear hK K
   repeat (first | (refine kbH (by rfl) ?_ ?_ ?_ ?_;rotate_left;(· simp [zI,yielded];done);(· intro w' hS;try obtain ⟨a1,a2,a3,a4,a5,a6⟩:=hS;go_simp;try with_reducible rfl);simp only [zJ,zA,zB,zC]) | (refine kbJ (by rfl) ?_ ?_;(· simp [zI,yielded];done);simp only [zJ,zA,zB,zC]))
   refine kcT ?_
   replace hc2:Chg (fun _ _=>False) wr w2:=(zK _ _).drew.trans hc2
   cases hlxy:ltM x y
   ·go_wp2_with fail
    go_roundw
    case rel =>
     refine ⟨(lo+hi) / 2+1,hi,by omega,hh,by go_num,rfl,?_,HB.out,hc.trans hc2⟩
     intro j z hj hz
     rcases Nat.lt_or_ge j ((lo+hi) / 2) with hj' | hj'
     ·have h1:=HS.out j _ z y hj' hz HY.out
      cases h2:ltM x z
      ·rfl
      ·have:=swoM.trans h2 h1;rw [hlxy] at this;cases this
     ·have:j=(lo+hi) / 2:=by omega
      subst this
      rw [HY.out] at hz
      obtain rfl:=Iq hz
      exact hlxy
    case measure=>simp [intOf];omega
   ·go_wp2_with fail
    go_roundw
    case rel =>
     refine ⟨lo,(lo+hi) / 2,by omega,by omega,rfl,by go_num,HA.out,?_,hc.trans hc2⟩
     intro j z hj hz
     rcases Nat.lt_or_ge ((lo+hi) / 2) j with hj' | hj'
     ·exact swoM.trans hlxy (HS.out _ j y z hj' HY.out hz)
     ·have:j=(lo+hi) / 2:=by omega
      subst this
      rw [HY.out] at hz
      obtain rfl:=Iq hz
      exact hlxy
    case measure=>simp [intOf];omega
  ·have hl:lo=hi:=by omega
   subst hl
   rcases Nat.eq_zero_or_pos lo with h0 | h0
   ·subst h0
    have hgt:decide ((0:Int) < ((0:Nat):Int))=false:=by simp
    go_wp2_with fail
    refine kbM (fun w'=>True) (.soft 0 (.soft 1 (.soft 2 (.soft 3 (.soft 4 (.soft 5 (.soft 6 (.soft 7 (.soft 8 (.soft 9 (.soft 10 (.soft 11 (.soft 12 (.soft 13 (.soft 14 (.soft 15 (.hard 16 (.soft 17 (.soft 18 .nil))))))))))))))))))) (by kernel_rfl) (by kernel_rfl) (fun _ _ _ _ _ h=>h) trivial ?_
    repeat (first | (refine kbH (by rfl) ?_ ?_ ?_ ?_;rotate_left;(· simp [zI,yielded];done);(· intro w' hS;try obtain ⟨a1⟩:=hS;go_simp;try with_reducible rfl);simp only [zJ,zA,zB,zC]) | (refine kbJ (by rfl) ?_ ?_;(· simp [zI,yielded];done);simp only [zJ,zA,zB,zC]))
    refine kfW (by rfl) (by simp [zI,yielded]) ?_
    simp only [zJ,zA,zB,zC]
    repeat (first | (refine kbH (by rfl) ?_ ?_ ?_ ?_;rotate_left;(· simp [zI,yielded];done);(· intro w' hS;try obtain ⟨a1⟩:=hS;go_simp;try with_reducible rfl);simp only [zJ,zA,zB,zC]) | (refine kbJ (by rfl) ?_ ?_;(· simp [zI,yielded];done);simp only [zJ,zA,zB,zC]))
    refine kcT ?_
    go_wp2_with fail
    go_ret2
    exact ⟨0,false,rfl,hc1.trans hc.drew,.inr ⟨rfl,Nat.zero_le _,fun j y h=>by omega,HB.out⟩⟩
   ·obtain ⟨y,hy⟩:∃y,r.items[lo - 1]?=some y:=⟨_,zH (by have:=HN.out;omega)⟩
    have iv:=hnr.mval hy
    have ik:=hnr.mkey hy
    have HY:=zL hy
    clear hnr hy
    have hgt:decide ((0:Int) < (lo:Int))=true:=by simpa using h0
    have hcast:((lo - 1:Nat):Int)=(lo:Int) - 1:=by omega
    have hcast2:((lo:Int) - 1).toNat=lo - 1:=by omega
    have s1:(0:Int)≤(lo:Int) - 1:=by omega
    have s4:(1:Int)≤(lo:Int):=by omega
    have s2:(lo:Int) - 1 < (N:Int):=by omega
    have s3:Ij.wrap ((lo:Int) - 1)=(lo:Int) - 1:=IntWalk.i64_in _ (by omega)
    have Hc:=zL hcast
    clear hcast
    go_wp2_with fail
    refine kbM (fun w'=>w'.cell? ⟨t,6,none⟩=some (.func (.func 63) #[] #[Ip (some ⟨k.ob,0,none⟩)])∧w'.cell? ⟨w.heap.size,0,none⟩=some (Ii Ij x.1)∧w'.cell? ⟨w.heap.size,1,none⟩=some (Ii Ij x.2)∧w'.cell? ⟨n,2,none⟩=some (Is (some ⟨l.ib,l.io,none⟩) N l.ic)∧w'.cell? ⟨l.ib,l.io+(lo - 1) * 2,none⟩=some (Ii Ij y.1)∧w'.cell? ⟨l.ib,l.io+(lo - 1) * 2+1,none⟩=some (Ii Ij y.2)) (.soft 0 (.soft 1 (.soft 2 (.soft 3 (.soft 4 (.soft 5 (.soft 6 (.soft 7 (.soft 8 (.soft 9 (.soft 10 (.soft 11 (.soft 12 (.soft 13 (.soft 14 (.soft 15 (.hard 16 (.soft 17 (.soft 18 .nil))))))))))))))))))) (by kernel_rfl) (by kernel_rfl) (fun _ _ _ _ _ h=>h) ⟨c6,q0,q1,m2,iv,ik⟩ ?_
    repeat (first | (refine kbH (by rfl) ?_ ?_ ?_ ?_;rotate_left;(· simp [zI,yielded];done);(· intro w' hS;try obtain ⟨a1,a2,a3,a4,a5,a6⟩:=hS;go_simp;try with_reducible rfl);simp only [zJ,zA,zB,zC]) | (refine kbJ (by rfl) ?_ ?_;(· simp [zI,yielded];done);simp only [zJ,zA,zB,zC]))
    refine kbY (by rfl) (by simp [zI,yielded]) (fun K hK=>?_)
    go_simp
    refine (less_any y x _ (HO.out.chg (zK (fun _ _=>False) _).drew (fun _ h=>h) (fun _ h=>h))).mono ?_
    rintro e w2 ⟨rfl,hc2⟩
    refine hK _ _ ⟨hc2.q c6,hc2.q q0,hc2.q q1,hc2.q m2,hc2.q iv,hc2.q ik⟩ ?_
    clear hK K
    repeat (first | (refine kbH (by rfl) ?_ ?_ ?_ ?_;rotate_left;(· simp [zI,yielded];done);(· intro w' hS;try obtain ⟨a1,a2,a3,a4,a5,a6⟩:=hS;go_simp;try with_reducible rfl);simp only [zJ,zA,zB,zC]) | (refine kbJ (by rfl) ?_ ?_;(· simp [zI,yielded];done);simp only [zJ,zA,zB,zC]))
    refine kcT ?_
    have hcw:Chg (fun _ _=>False) w w2:=(hc1.trans hc).trans ((zK _ _).drew.trans hc2)
    have hxy:=HA.out (lo - 1) y (by omega) HY.out
    have hlast:∀j z,j < lo - 1→r.items[j]?=some z→ltM z y=true:=fun j z hj hz=>HS.out j _ z y hj hz HY.out
    cases hlyx:ltM y x
    ·go_wp2_with fail
     go_ret2
     refine ⟨lo - 1,true,by rw [Hc.out];rfl,hcw,.inl ⟨rfl,y,HY.out,fun j z hj hz=>swoM.lt_of_lt_of_nlt (hlast j z hj hz) hxy,hlyx,hxy⟩⟩
    ·go_wp2_with fail
     go_ret2
     refine ⟨lo,false,rfl,hcw,.inr ⟨rfl,by have:=HN.out;omega,fun j z hj hz=>?_,HB.out⟩⟩
     rcases Nat.lt_or_ge j (lo - 1) with h1 | h1
     ·exact swoM.trans (hlast j z h1 hz) hlyx
     ·have:j=lo - 1:=by omega
      subst this
      rw [HY.out] at hz
      obtain rfl:=Iq hz
      exact hlyx
end
end Go.Proofs.Ytnohimhihombmaa
