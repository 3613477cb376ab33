/- GMax, GMaxMut and their law. -/
import Derived.ProofKit
import Derived.OpenShut
import Derived.Carry
import Derived.ChangeSame
import Derived.Deep.SlicePairs
import Derived.ChangeSlices
import Derived.Lib.SmallJoins
import Derived.BigQuiet
import Derived.Test.YtnohimhihombmaaA1
import Derived.Test.YtnohimhihombmaaA9
import Derived.Test.YtnohimhihombmaaA10
namespace Go.Proofs.Ytnohimhihombmaa
set_option linter.unusedSimpArgs false
set_option linter.unusedVariables false
set_option maxRecDepth 100000
set_option maxHeartbeats 40000000
open List renaming setIfInBounds_toArray → zA, set_cons_zero → zB, set_cons_succ → zC, getElem?_cons_zero → zD, getElem?_cons_succ → zE, getElem?_toArray → zF, getElem?_eq_some_iff → zG, getElem?_eq_getElem → zH, mem_append → zO, getElem?_map → zp, take_append_drop → zw
open Region renaming wanted → zI
open Chg renaming refl → zK
section
open Go.ChangeShapes Go.WideShapes Go.ChangeAt Go.RowKit
section
variable {H:Type} {enc:TypeId×Value→H} {P:Program}
theorem trodAll_carry (hl:laidOutB P=true) {W W':World} (hb:Below W.heap.size W W'):∀{ts:List TypeId} {vs:List Value} {ds:List (DataW H)} {ps:List MemPlace},
  (ts.all fun t=>P.readableRec t && decide (t < P.types.size))=true→DataW.TrodAll enc P W 0 (fun _=>true) true ts vs ds ps→(∀x∈ps,x.block < W.heap.size)→∀sp:Nat→Bool,(∀p∈ps,sp p.block=true)→DataW.TrodAll enc P W' 0 sp true ts vs ds ps
 | [],_,_,_,_,h,_,_,_=>by
  obtain ⟨rfl,rfl,rfl⟩:=trodAll_nil h
  exact trodAll_mk0
 | t::ts,_,_,_,ht,h,hlt,sp,hsp=>by
  obtain ⟨v,vs1,d,ds1,a,b,rfl,rfl,rfl,h1,h2⟩:=trodAll_cons h
  simp only [List.all_cons,Bool.and_eq_true,decide_eq_true_eq] at ht
  obtain ⟨⟨g1,g2⟩,g3⟩:=ht
  refine ⟨a,b,WideElems.Trod_stays hl g1 g2 h1 (fun x hx=>hb.same (hlt x (zO.2 (.inl hx)))) (fun x hx=>hsp x (zO.2 (.inl hx))),trodAll_carry hl hb g3 h2 (fun x hx=>hlt x (zO.2 (.inr hx))) sp (fun x hx=>hsp x (zO.2 (.inr hx))),rfl⟩
theorem law_post {f:Func} {s:ChangeSpec} {apart fresh handsOn again:Bool} {W W':World} {args:Array Value} {ds gs:List (DataW H)} {before:List MemPlace} {tb:TypeId} (hl:laidOutB P=true)
  (hts:(f.params.toList.all fun t=>P.readableRec t && decide (t < P.types.size))=true) (hr:f.resultTypes=#[tb]) (hb4:P.underlying tb=some .bool)
  (hW:DataW.Whole enc P f.params.toList s.vars apart W args.toList ds gs before) (hv:s.vars=[]) (hfn:s.fn H ds={ results:=[.lit (.bool true)],args:=ds }) (hb:Below W.heap.size W W') :
  s.post enc P f apart fresh handsOn again W args (.bool true) W':=by
 have hW0:=hW
 obtain ⟨p,q,hA,hV,rfl,hz,hn⟩:=hW0
 rw [hv] at hV
 obtain ⟨rfl,rfl⟩:=trodVars_none hV
 have hfn':s.fn H (ds++[])={ results:=[.lit (.bool true)],args:=ds }:=by rw [List.append_nil];exact hfn
 have hvn:(s.fn H (ds++[])).vars=[]:=by rw [hfn']
 have hlt:∀x∈p,x.block < W.heap.size:=fun x hx=>hW.lt x (by simpa using hx)
 have hres:∀(b:Nat) (sp:Nat→Bool) (hd:Bool),DataW.TrodAll enc P W' b sp hd f.resultTypes.toList ((Value.bool true).resultList f.resultTypes.size) (s.fn H (ds++[])).results []:=by
  intro b sp hd
  rw [hfn',hr]
  exact trodAll_mk1 (shut_bool hb4 _)
 have hargs:∀sp:Nat→Bool,(∀x∈p,sp x.block=true)→DataW.TrodAll enc P W' 0 sp true f.params.toList args.toList (s.fn H (ds++[])).args p:=by
  intro sp hsp
  rw [hfn']
  exact trodAll_carry hl hb hts hA hlt sp hsp
 have hvars:∀sp:Nat→Bool,DataW.TrodVars enc P W' sp s.vars (s.fn H (ds++[])).vars []:=by
  intro sp
  rw [hvn,hv]
  exact rfl
 have hold:∀x∈p,(fun b=>decide (b < W.heap.size)) x.block=true:=fun x hx=>by simpa using hlt x hx
 refine ⟨ds,[],p++[],[],p,[],hW,hres _ _ _,hargs _ hold,hvars _,World.keptBut_mono (fun x hx=>⟨hx,?_⟩) (hb.frame (·∈p++[])),fun _=>?_⟩
 ·simpa using hx
 ·refine ⟨ok_one hr rfl (okWide_bool_mk hb4 _),_,_,([]++p)++[],⟨[]++p,[],trodAll_append (hargs _ (fun _ _=>rfl)) (hres _ _ _),hvars _,rfl,?_,?_⟩,?_⟩
  ·intro b off hp
   have hin:MemPlace.cell b off∈p:=by simpa using hp
   rw [hb.frozen (hlt _ hin)]
   exact hz b off (by simpa using hin)
  ·intro ha
   have:=hn ha
   simpa using this
  ·intro x hx _
   simpa using hx
theorem open_items {r:Reach} {b0:Nat} {t e t3:TypeId} {f0 f1:Field} {v:Value} {d:DataW H} {ps:List MemPlace} {w:World} (ht:P.underlying t=some (.slice e)) (he:P.underlying e=some (.struct #[f0,f1])) (ce:P.cellsOf e=2) (o0:f0.offset=0) (o1:f1.offset=1)
  (g0:f0.type=t3) (g1:f1.type=t3) (c3:P.cellsOf t3=1) (h3:P.underlying t3=some (.int .i64)) (hv:Value.okWide P w r b0 t v) (h:DataW.Trod enc P w 0 (fun _=>true) true t v d ps) :
  ∃p l cap,v=.slice p l.length cap∧ItemsAt w p l∧l.length≤cap:=by
 obtain ⟨a,len,cap,rfl⟩:=okWide_slice ht hv
 obtain ⟨fuel,hf⟩:=h
 rcases Deep.open_slice_pairs ht he ce o0 o1 (by rw [g0];exact c3) (by rw [g1];exact c3) hf with ⟨hc,_⟩ | ⟨a',len',cap',m,n,V0,V1,D0,D1,P0,P1,hcs,_,hlc,_,hm,_,hi⟩
 ·simp only [Value.cells,List.cons.injEq,Value.slice.injEq,and_true] at hc
  obtain ⟨rfl,rfl,rfl⟩:=hc
  exact ⟨none,[],0,rfl,.inl rfl,Nat.le_refl _⟩
 ·simp only [Value.cells,List.cons.injEq,Value.slice.injEq,and_true] at hcs
  obtain ⟨rfl,rfl,rfl⟩:=hcs
  have hsp:a'.spot=none:=by
   simp only [Value.okWide,ht,Cell.okWide,Cell.ok] at hv
   exact hv.2.2.2.1
  have haddr:a'=⟨a'.block,a'.off,none⟩:=by
   obtain ⟨b1,o1,s1⟩:=a'
   obtain rfl:s1=none:=hsp
   rfl
  have hm':m=cap:=by simpa using hm
  subst hm'
  refine ⟨some a',(List.range len).map fun i=>(intOf (V0 i),intOf (V1 i)),m,by simp,.inr ⟨a'.block,a'.off,?_,fun i x hx=>?_⟩,by simpa using hlc⟩
  ·exact congrArg some haddr
  ·have hil:i < len:=by
    have:=(zG.1 hx).1
    simpa using this
   have hxe:x=(intOf (V0 i),intOf (V1 i)):=by
    rw [zp,List.getElem?_range hil] at hx
    simpa using hx.symm
   subst hxe
   obtain ⟨k0,k1,k2,k3⟩:=hi i (by omega)
   rw [g0] at k2
   rw [g1] at k3
   obtain ⟨n0,e0,_⟩:=DataW.trod_int h3 k2
   obtain ⟨n1,e1,_⟩:=DataW.trod_int h3 k3
   rw [haddr,kdS] at k0 k1
   have e0':V0 i=.int .i64 n0:=by simpa using e0
   have e1':V1 i=.int .i64 n1:=by simpa using e1
   rw [e0'] at k0
   rw [e1'] at k1
   rw [e0',e1']
   exact ⟨k0,by rw [Nat.add_assoc];exact k1⟩
end
end
section
open Go.ChangeShapes Go.WideShapes Go.ChangeAt Go.RowKit
section
variable {H:Type} {enc:TypeId×Value→H} {P:Program}
theorem open_nums {r:Reach} {b0:Nat} {t e:TypeId} {v:Value} {d:DataW H} {ps:List MemPlace} {w:World} (ht:P.underlying t=some (.slice e)) (he:P.underlying e=some (.int .i64)) (ce:P.cellsOf e=1)
  (hv:Value.okWide P w r b0 t v) (h:DataW.Trod enc P w 0 (fun _=>true) true t v d ps):∃l,SlE intE w v l:=by
 obtain ⟨a,len,cap,rfl⟩:=okWide_slice ht hv
 obtain ⟨fuel,hf⟩:=h
 rcases open_ints ht he ce hf with ⟨hc,_⟩ | ⟨a',len',cap',zs,hcs,_,hlc,_,hz,_,hi,_⟩
 ·simp only [Value.cells,List.cons.injEq,Value.slice.injEq,and_true] at hc
  obtain ⟨rfl,rfl,rfl⟩:=hc
  exact ⟨[],none,0,rfl,Nat.le_refl _,.inl rfl⟩
 ·simp only [Value.cells,List.cons.injEq,Value.slice.injEq,and_true] at hcs
  obtain ⟨rfl,rfl,rfl⟩:=hcs
  have hsp:a'.spot=none:=by
   simp only [Value.okWide,ht,Cell.okWide,Cell.ok] at hv
   exact hv.2.2.2.1
  have haddr:a'=⟨a'.block,a'.off,none⟩:=by
   obtain ⟨b1,o1,s1⟩:=a'
   obtain rfl:s1=none:=hsp
   rfl
  have hz':zs.length=cap:=by simpa using hz
  have hl:(zs.take len).length=len:=by simp;omega
  refine ⟨zs.take len,some a',cap,by rw [hl],by rw [hl];exact hlc,.inr ⟨a'.block,a'.off,congrArg some haddr,fun j u hj=>?_⟩⟩
  have hfl:flat intE.par (zs.take len)=(zs.take len).map fun n=>Value.int .i64 n:=by
   induction zs.take len with
   | nil=>rfl
   | cons x xs ih=>rw [flat_cons,ih];rfl
  rw [hfl,zp] at hj
  cases hx:(zs.take len)[j]? with
  | none=>rw [hx] at hj;cases hj
  | some x =>
   rw [hx] at hj
   obtain rfl:Value.int .i64 x=u:=Option.some.inj hj
   have hjl:=(zG.1 hx).1
   rw [hl] at hjl
   have h2:=hi j (by omega)
   rw [haddr,kdS] at h2
   rw [List.getElem?_take_of_lt hjl] at hx
   simpa [List.getD,hx] using h2
end
end
section
open Go.ChangeShapes Go.WideShapes Go.ChangeAt Go.RowKit
section
variable {H:Type} {enc:TypeId×Value→H} {P:Program}
theorem okWide_cell {r:Reach} {b0:Nat} {w:World} {t u:TypeId} {fs:Array Field} {ts:List TypeId} {cs:Array Value} {i:Nat} {v:Value} (ht:P.underlying t=some (.struct fs)) (hts:P.cellTypes P.depth t=some ts)
  (hv:Value.okWide P w r b0 t (.agg cs)) (hi:cs[i]?=some v) (hu:ts[i]?=some u):Cell.okWide P w r b0 u v:=by
 simp only [Value.okWide,ht] at hv
 obtain ⟨cs',e,_,ts',h1,_,h2⟩:=hv
 obtain rfl:cs=cs':=by simpa using e
 rw [hts] at h1
 obtain rfl:=Option.some.inj h1
 obtain ⟨u',h3,h4⟩:=h2 i v hi
 have hlt:=(zG.1 hu).1
 rw [Nat.mod_eq_of_lt hlt,hu] at h3
 obtain rfl:=Option.some.inj h3
 exact h4
theorem open_numsC {r:Reach} {b0 n:Nat} {t e:TypeId} {v:Value} {y:DataW H×List MemPlace} {w:World} (ht:P.underlying t=some (.slice e)) (he:P.underlying e=some (.int .i64)) (ce:P.cellsOf e=1)
  (hv:Cell.okWide P w r b0 t v) (hf:DataW.trod enc P w 0 (fun _=>true) true n t [v]=some y):∃l,SlE intE w v l:=by
 have hv2:Value.okWide P w r b0 t v:=by simp only [Value.okWide,ht];exact hv
 have hcl:v.cells=#[v]:=by
  obtain ⟨a,len,cap,rfl⟩:=okWide_slice ht hv2
  rfl
 exact open_nums ht he ce hv2 (d:=y.1) (ps:=y.2) ⟨n,by rw [hcl];exact hf⟩
theorem open_make {r:Reach} {b0:Nat} {v:Value} {d:DataW H} {ps:List MemPlace} {w:World} (hv:Value.okWide Try.prog w r b0 24 v) (h:DataW.Trod enc Try.prog w 0 (fun _=>true) true 24 v d ps) :
  ∃sv os dg nl,v=.agg #[sv,.int .i64 dg,.bool nl]∧SlE intE w sv os:=by
 obtain ⟨v0,v1,v2,y0,y1,y2,n,rfl,_,_,h0,h1,h2⟩:=Go.Joins.open_agg3 Try.underlying24 (by kernel_rfl) (by kernel_rfl) hv h
 have c0:=okWide_cell (i:=0) (u:=22) Try.underlying24 (ts:=[22,3,4]) (by kernel_rfl) hv rfl rfl
 obtain ⟨os,hs⟩:=open_numsC Try.underlying22 Try.underlying3 (by kernel_rfl) c0 h0
 obtain ⟨m,e1,_⟩:=DataW.trod_int Try.underlying3 h1
 obtain ⟨bb,e2,_⟩:=DataW.trod_bool Try.underlying4 h2
 have e1':v1=.int .i64 m:=by simpa using e1
 have e2':v2=.bool bb:=by simpa using e2
 subst e1' e2'
 exact ⟨v0,os,m,bb,rfl,hs⟩
theorem open_item {r:Reach} {b0:Nat} {v:Value} {d:DataW H} {ps:List MemPlace} {w:World} (hv:Value.okWide Try.prog w r b0 27 v) (h:DataW.Trod enc Try.prog w 0 (fun _=>true) true 27 v d ps) :
  ∃x:Int×Int,v=.agg #[.int .i64 x.1,.int .i64 x.2]:=by
 obtain ⟨v0,v1,y0,y1,n,rfl,_,_,h0,h1⟩:=Go.Joins.open_agg2 Try.underlying27 (by kernel_rfl) (by kernel_rfl) hv h
 obtain ⟨m,e1,_⟩:=DataW.trod_int Try.underlying3 h0
 obtain ⟨m2,e2,_⟩:=DataW.trod_int Try.underlying3 h1
 have e1':v0=.int .i64 m:=by simpa using e1
 have e2':v1=.int .i64 m2:=by simpa using e2
 subst e1' e2'
 exact ⟨(m,m2),rfl⟩
end
end
section
open Go.RowKit
theorem its_head {α:Type} {h:Nat} {T:BT α h} {mn mx:Nat} (hs:Sh mn mx h T) (h1:1≤(its T).length):1≤(toL h T).length:=Nat.le_trans h1 (its_sub hs).length_le
theorem Fam.node {α:Type} {p:Par α} {w:World} {F:Nat→Prop} {H:Nat→Option (NodeR α)} (h:Fam p w F H) {n:Nat} {r:NodeR α} (hn:H n=some r):∃l,NodeAt p w n r l:=by
 obtain ⟨l,h1,_⟩:=h.work hn
 exact ⟨l,h1⟩
theorem Fam.nodeB {α:Type} {p:Par α} {w:World} {F:Nat→Prop} {H:Nat→Option (NodeR α)} (h:Fam p w F H) {n:Nat} {r:NodeR α} (hn:H n=some r):∃l,NodeAt p w n r l∧∀b,Blk n r l b→F b:=by
 obtain ⟨l,h1,h2,_⟩:=h.work hn
 exact ⟨l,h1,h2⟩
end
section
open Go.RowKit
theorem lock_any (t:Nat) (b:Bool) (w:World):Calls Try.prog 46 #[.pointer (some ⟨t,0,none⟩),.bool b] w fun e w'=>e=.returned (.bool false)∧w=w':=by
 go_enter Try.func46,Try.ntmps46
 go_wp2
 go_ret
 exact ⟨rfl,rfl⟩
def lastV {ord:List Int} (o:Option (It ord)):Value:=match o with
 | some x=>.tuple #[.agg #[.int .i64 x.1,.int .i64 x.2],.bool true]
 | none=>.tuple #[.agg #[.int .i64 0,.int .i64 0],.bool false]
theorem MapBlk.empty {ord:List Int} {k:Kc ord} {mn mx t:Nat} {w:World} {root:Option Nat} {cnt:Int} (h:MapBlk k mn mx w t root cnt):w.cell? ⟨t,7,none⟩=some (.int .i64 0)∧w.cell? ⟨t,8,none⟩=some (.int .i64 0) :=
 ⟨by rw [kbB h.blk];rfl,by rw [kbB h.blk];rfl⟩
end
section
open Go.RowKit
theorem rank_list (v:Value) (os:List Int) (w:World) (hs:SlE intE w v os) (hlen:os.length≤2147483647):RankOk v (rkL os) w:=by
 intro w' hc key
 have hs':=hs.chg hc
 obtain ⟨a,cap,rfl⟩:=hs.form
 by_cases h0:os.length=0
 ·have e1:rkL os key=key:=by simp [rkL,h0]
  rw [e1,h0]
  go_enter Try.func33,Try.ntmps33
  go_wp2
  go_ret
  exact ⟨rfl,rfl⟩
 ·obtain ⟨n,hn⟩:∃n,os.length=n:=⟨_,rfl⟩
  have hn0:(0:Int) < (n:Int):=by omega
  have hr:=rem_twice hn0 key
  have g1:=Int.emod_nonneg key (by omega:(n:Int)≠0)
  have g2:=Int.emod_lt_of_pos key hn0
  obtain ⟨q,hq⟩:∃q:Nat,key % (n:Int)=(q:Int):=⟨(key % (n:Int)).toNat,by omega⟩
  have hql:q < os.length:=by omega
  have hx:os[q]?=some os[q]:=zH hql
  have e1:rkL os key=os[q]:=by
   have:¬n=0:=by omega
   simp [rkL,hn,hq,this,hx]
  obtain ⟨b,o,rfl,hcell⟩:=hs'.int hx
  rw [e1,hn]
  obtain ⟨y,hy⟩:∃y,os[q]=y:=⟨_,rfl⟩
  rw [hy] at hcell ⊢
  have t1:=Int.tmod_lt_of_pos key hn0
  have t2:=Int.lt_tmod_of_pos key hn0
  have n1:(n:Int)≤2147483647:=by omega
  have nz:¬(n:Int)=0:=by omega
  have q0:(0:Int)≤(q:Int):=by omega
  have q1:(q:Int) < (n:Int):=by omega
  rw [hq] at hr
  clear hq hx e1 hy g1 g2 h0 hn
  go_enter Try.func33,Try.ntmps33
  go_wp2
  go_ret
  exact ⟨rfl,rfl⟩
end
section
open Go.RowKit
def exL:List (Int×Int):=[(5,1),(3,2),(9,3),(3,4),(1,5),(7,6),(8,7)]
def exCells:Array Value:=#[.int .i64 5,.int .i64 1,.int .i64 3,.int .i64 2,.int .i64 9,.int .i64 3,.int .i64 3,.int .i64 4,.int .i64 1,.int .i64 5,.int .i64 7,.int .i64 6,.int .i64 8,.int .i64 7]
def ExPost (w:World) (e:Ending) (w':World):Prop:=∃p,e=.returned (.slice p exL.length 7)∧ItemsAt w' p exL∧Chg (fun _ _=>False) w w'
theorem exItems_any (w:World):Calls Try.prog 16 #[] w (ExPost w):=by
 have fin:ExPost w (.returned (.slice (some ⟨w.heap.size,0,none⟩) 7 7)) (w.alloc (.cells exCells 27)):=by
  refine ⟨_,rfl,.inr ⟨w.heap.size,0,rfl,fun i x hx=>?_⟩,(zK _ _).alloc _⟩
  have hb:(w.alloc (.cells exCells 27)).heap[w.heap.size]?=some (.cells exCells 27 (0,0)):=kbR _ _ rfl
  rw [kbB hb,kbB hb]
  match i,hx with
  | 0,hx=>simp [exL] at hx;subst hx;exact ⟨rfl,rfl⟩
  | 1,hx=>simp [exL] at hx;subst hx;exact ⟨rfl,rfl⟩
  | 2,hx=>simp [exL] at hx;subst hx;exact ⟨rfl,rfl⟩
  | 3,hx=>simp [exL] at hx;subst hx;exact ⟨rfl,rfl⟩
  | 4,hx=>simp [exL] at hx;subst hx;exact ⟨rfl,rfl⟩
  | 5,hx=>simp [exL] at hx;subst hx;exact ⟨rfl,rfl⟩
  | 6,hx=>simp [exL] at hx;subst hx;exact ⟨rfl,rfl⟩
  | n+7,hx=>simp [exL] at hx
 have FIN:=Lib.hid fin
 clear fin
 go_enter Try.func16,Try.ntmps16
 go_wp2
 go_ret
 exact FIN.out
theorem fits_yes (d:Int) (w:World) (h1:2≤d) (h2:d≤128):Calls Try.prog 17 #[.int .i64 d] w fun e w'=>e=.returned (.bool true)∧w=w':=by
 have h0:(d == 0)=false:=by simp;omega
 go_enter Try.func17,Try.ntmps17
 go_wp2
 go_ret
 exact ⟨rfl,rfl⟩
theorem fits_zero (w:World):Calls Try.prog 17 #[.int .i64 0] w fun e w'=>e=.returned (.bool true)∧w=w':=by
 go_enter Try.func17,Try.ntmps17
 go_wp2
 go_ret
 exact ⟨rfl,rfl⟩
theorem fits_no (d:Int) (w:World) (h0:d≠0) (h:d < 2∨128 < d):Calls Try.prog 17 #[.int .i64 d] w fun e w'=>e=.returned (.bool false)∧w=w':=by
 have h0:(d == 0)=false:=by simp;omega
 by_cases h2:d < 2
 ·have h3:¬2≤d:=by omega
  go_enter Try.func17,Try.ntmps17
  go_wp2
  go_ret
  exact ⟨rfl,rfl⟩
 ·have h3:2≤d:=by omega
  have h4:¬d≤128:=by omega
  go_enter Try.func17,Try.ntmps17
  go_wp2
  go_ret
  exact ⟨rfl,rfl⟩
end
section
open Go.RowKit
theorem exMake_any (w:World):Calls Try.prog 15 #[] w fun e w'=>e=.returned (.agg #[.slice none 0 0,.int .i64 2,.bool false])∧Chg (fun _ _=>False) w w':=by
 go_enter Try.func15,Try.ntmps15
 go_wp2_with fail
 refine kbK (fun w1=>Chg (fun _ _=>False) w w1∧w1.heap[w.heap.size]?=some (.cells #[.slice none 0 0,.int .i64 2,.bool false] 24 (0,0))) ⟨?_,?_⟩ ?_
 ·repeat (first | refine Chg.drew ?_ | refine Chg.drewN ?_ _ | refine Chg.alloc ?_ _ | refine Chg.setCell ?_ (.inr (by simp)) _ | exact zK _ _)
 ·exact kbR _ _ rfl
 rintro w1 ⟨hc,hb⟩
 have p0:=kbB hb 0
 have p1:=kbB hb 1
 have p2:=kbB hb 2
 simp only [zF,zD,zE] at p0 p1 p2
 refine bodyPost_ret (v:=.agg #[.slice none 0 0,.int .i64 2,.bool false]) (by simp [results,Try.results15,go_sem,p0,p1,p2]) rfl ?_
 exact ⟨rfl,hc⟩
theorem zzFits1_any (a:Option Addr) (n c:Nat) (d:Int) (b:Bool) (w:World):Calls Try.prog 7 #[.agg #[.slice a n c,.int .i64 d,.bool b]] w fun e w'=>e=.returned (.bool (decide (n≤2147483647)))∧Chg (fun _ _=>False) w w':=by
 by_cases h:n≤2147483647
 ·have h2:¬(2147483647:Int) < (n:Int):=by omega
  have e:decide (n≤2147483647)=true:=by simpa using h
  rw [e]
  go_enter Try.func7,Try.ntmps7
  go_wp2
  go_ret
  exact ⟨rfl,(zK _ _).alloc _⟩
 ·have h2:(2147483647:Int) < (n:Int):=by omega
  have e:decide (n≤2147483647)=false:=by simpa using h
  rw [e]
  go_enter Try.func7,Try.ntmps7
  go_wp2
  go_ret
  exact ⟨rfl,(zK _ _).alloc _⟩
theorem fits_fit (d:Int) (w:World) (h:FitD d):Calls Try.prog 17 #[.int .i64 d] w fun e w'=>e=.returned (.bool true)∧w=w':=by
 rcases h with rfl | ⟨h1,h2⟩
 ·exact fits_zero w
 ·exact fits_yes d w h1 h2
theorem fits_not (d:Int) (w:World) (h:¬FitD d):Calls Try.prog 17 #[.int .i64 d] w fun e w'=>e=.returned (.bool false)∧w=w' :=
 fits_no d w (fun e=>h (.inl e)) (by
  by_cases h2:d < 2
  ·exact .inl h2
  ·refine .inr ?_
   by_cases h3:128 < d
   ·exact h3
   ·exact absurd (.inr ⟨by omega,by omega⟩) h)
theorem MapIn.mapAt {ord:List Int} {k:Kc ord} {mn mx:Nat} {w:World} {F:Nat→Prop} {t:Nat} {l:List (It ord)} (h:MapIn k mn mx w F t l):MapAt k mn mx w t:=by
 rcases h with ⟨_,_,g3⟩ | ⟨H,h,T,g1,_⟩
 ·exact g3.at_
 ·exact g1.map
theorem Less_any {ord:List Int} {k:Kc ord} {mn mx t:Nat} {w:World} (h:MapAt k mn mx w t) (a b:It ord) :
  Calls Try.prog 79 #[.pointer (some ⟨t,0,none⟩),.agg #[.int .i64 a.1,.int .i64 a.2],.agg #[.int .i64 b.1,.int .i64 b.2]] w fun e w'=>e=.returned (.bool (ltM a b))∧Chg (fun _ _=>False) w w':=by
 have H:=Lib.hid h
 clear h
 go_enter Try.func79,Try.ntmps79
 go_wp2_with fail
 refine kbD (fun w1=>Chg (fun _ _=>False) w w1∧w1.heap[w.heap.size]?=some (.cells #[.int .i64 a.1,.int .i64 a.2] 27 (0,0))∧w1.heap[w.heap.size+1]?=some (.cells #[.int .i64 b.1,.int .i64 b.2] 27 (0,0))) ⟨((zK _ _).alloc _).alloc _,?_,?_⟩ ?_
 ·rw [kcV _ _ (by simp)];exact kbR _ _ rfl
 ·exact kbR _ _ (by simp)
 rintro w1 ⟨hc1,hb1,hb2⟩
 have q0:=kbB hb1 0
 have q1:=kbB hb1 1
 have q2:=kbB hb2 0
 have q3:=kbB hb2 1
 simp only [zF,zD,zE] at q0 q1 q2 q3
 have hm:=H.out.chg hc1 (fun _ _ _ h=>h)
 have c6:=hm.c6l
 unfold kcK at c6
 have HO:=Lib.hid hm.ord
 clear hm hb1 hb2
 refine kbH (fun w'=>w'.cell? ⟨t,6,none⟩=some (.func (.func 63) #[] #[.pointer (some ⟨k.ob,0,none⟩)])∧w'.cell? ⟨w.heap.size,0,none⟩=some (.int .i64 a.1)∧w'.cell? ⟨w.heap.size,1,none⟩=some (.int .i64 a.2)∧w'.cell? ⟨w.heap.size+1,0,none⟩=some (.int .i64 b.1)∧w'.cell? ⟨w.heap.size+1,1,none⟩=some (.int .i64 b.2)) (.soft 0 (.soft 1 (.soft 2 (.soft 3 (.soft 4 (.soft 5 (.hard 6 (.soft 7 .nil)))))))) (by kernel_rfl) (by kernel_rfl) (fun _ _ _ _ _ h=>h) ⟨c6,q0,q1,q2,q3⟩ ?_
 repeat
  first
  | (refine scr_soft (by rfl) ?_ ?_ ?_ ?_
     rotate_left
     ·simp [zI,yielded];done
     ·intro w' hS
      try obtain ⟨a1,a2,a3,a4,a5⟩:=hS
      go_simp
      try with_reducible rfl
     simp only [Act.put,zA,zB,zC])
  | (refine scr_skip (by rfl) ?_ ?_
     ·simp [zI,yielded];done
     simp only [Act.put,zA,zB,zC])
 refine kbY (by rfl) (by simp [zI,yielded]) (fun K hK=>?_)
 go_simp
 refine (kgM a b _ (HO.out.chg (zK (fun _ _=>False) _).drew (fun _ h=>h) (fun _ h=>h))).mono ?_
 rintro e w2 ⟨rfl,hc2⟩
 refine hK _ _ ⟨hc2.q c6,hc2.q q0,hc2.q q1,hc2.q q2,hc2.q q3⟩ ?_
 clear hK K
 repeat
  first
  | (refine scr_soft (by rfl) ?_ ?_ ?_ ?_
     rotate_left
     ·simp [zI,yielded];done
     ·intro w' hS
      try obtain ⟨a1,a2,a3,a4,a5⟩:=hS
      go_simp
      try with_reducible rfl
     simp only [Act.put,zA,zB,zC])
  | (refine scr_skip (by rfl) ?_ ?_
     ·simp [zI,yielded];done
     simp only [Act.put,zA,zB,zC])
 refine kcJ ?_
 go_wp2_with fail
 go_ret
 exact ⟨rfl,hc1.trans ((zK _ _).drew.trans hc2)⟩
end
section
open Go.RowKit
def OutI (w:World) (v:Value) (l:List (Int×Int)) (base:Nat):Prop:=(l=[]∧v=.slice none 0 0)∨RowI w v l base
theorem RowI.chg {w w':World} {v:Value} {l:List (Int×Int)} {base:Nat} (h:RowI w v l base) (c:Chg (fun _ _=>False) w w'):RowI w' v l base:=by
 obtain ⟨b,o,cap,h1,h2,h3,h4⟩:=h
 exact ⟨b,o,cap,h1,h2,h3,h4.chg c (fun _ _ h=>h)⟩
theorem RowI.mono {w:World} {v:Value} {l:List (Int×Int)} {base base':Nat} (h:RowI w v l base) (hb:base'≤base):RowI w v l base':=by
 obtain ⟨b,o,cap,h1,h2,h3,h4⟩:=h
 exact ⟨b,o,cap,h1,h2,by omega,h4⟩
theorem OutI.chg {w w':World} {v:Value} {l:List (Int×Int)} {base:Nat} (h:OutI w v l base) (c:Chg (fun _ _=>False) w w'):OutI w' v l base:=h.imp id (fun h=>h.chg c)
theorem OutI.items {w:World} {v:Value} {l:List (Int×Int)} {base:Nat} (h:OutI w v l base):∃p cap,v=.slice p l.length cap∧ItemsAt w p l∧l.length≤cap:=by
 rcases h with ⟨rfl,rfl⟩ | h
 ·exact ⟨none,0,rfl,.inl rfl,Nat.le_refl _⟩
 ·obtain ⟨p,cap,h1,h2⟩:=h.items
  obtain ⟨b,o,cap',h3,h4,_⟩:=h
  rw [h1] at h3
  have:cap=cap':=by injection h3
  exact ⟨p,cap,h1,h2,by omega⟩
theorem putL_ins {lt:Int×Int→Int×Int→Bool} {l:List (Int×Int)} {x:Int×Int} {i:Nat} {b:Bool}
  (h:i≤l.length∧(∀j y,j < i→l[j]?=some y→lt y x=true)∧(∀y,l[i]?=some y→lt y x=false)∧((∃y,l[i]?=some y∧lt x y=false∧b=true)∨((∀y,l[i]?=some y→lt x y=true)∧b=false))) :
  putL l x i b=insL lt x l∧putF l i b=fndL lt x l:=by
 obtain ⟨h1,h2,h3,h4⟩:=h
 have hp:∀a∈l.take i,lt a x=true:=by
  intro a ha
  obtain ⟨j,g1,g2⟩:=kfK ha
  exact h2 j a g1 g2
 have e1:insL lt x l=l.take i++insL lt x (l.drop i):=by
  conv=>lhs;rw [←zw i l]
  exact insL_pre hp
 have e2:fndL lt x l=fndL lt x (l.drop i):=by
  conv=>lhs;rw [←zw i l]
  exact fndL_pre hp
 rcases h4 with ⟨y,hy,hxy,rfl⟩ | ⟨h4,rfl⟩
 ·have hi:=(zG.1 hy).1
  have hd:l.drop i=y::l.drop (i+1):=by rw [List.drop_eq_getElem_cons hi,(zG.1 hy).2]
  rw [e1,e2,hd]
  have:=h3 y hy
  exact ⟨by simp [putL,insL,this,hxy],by simp [putF,fndL,this,hxy,hy]⟩
 ·rw [e1,e2]
  cases hd:l.drop i with
  | nil=>exact ⟨by simp [putL,insL,hd],by simp [putF,fndL]⟩
  | cons y ys =>
   have hy:l[i]?=some y:=by
    have:=List.getElem?_drop (xs:=l) (i:=i) (j:=0)
    rw [hd] at this;simpa using this.symm
   exact ⟨by simp [putL,insL,hd,h3 y hy,h4 y hy],by simp [putF,fndL,h3 y hy,h4 y hy]⟩
def PutPost2 (rk:Int→Int) (l:List (Int×Int)) (x:Int×Int) (w:World) (e:Ending) (w':World):Prop :=
 ∃v,e=.returned (.tuple #[v,foundV (fndL (ltR rk) x l)])∧RowI w' v (insL (ltR rk) x l) w.heap.size∧Chg (fun _ _=>False) w w'
theorem put_out_big (ordv:Value) (rk:Int→Int) (v:Value) (l:List (Int×Int)) (base:Nat) (x:Int×Int) (w:World) (hR:RankOk ordv rk w) (h:OutI w v l base) (hlen:l.length≤8589934593) :
  Calls Try.prog 39 #[ordv,v,itemV x] w (PutPost2 rk l x w):=by
 have fin:∀e w',PutPost rk l x w e w'→PutPost2 rk l x w e w':=by
  rintro e w' ⟨v,i,b,h1,h2,h3,h4⟩
  obtain ⟨g1,g2⟩:=putL_ins h1
  rw [g1] at h3
  rw [g2] at h2
  exact ⟨v,h2,h3,h4⟩
 rcases h with ⟨rfl,rfl⟩ | h
 ·exact (put_none ordv rk x w hR).mono fin
 ·obtain ⟨b,o,cap,rfl,h2,_⟩:=id h
  obtain ⟨p,cap',hv,hi⟩:=h.items
  obtain ⟨rfl,rfl⟩:some (⟨b,o,none⟩:Addr)=p∧cap=cap':=by injection hv with h1 h2 h3;exact ⟨h1,h3⟩
  refine (put_some_big ordv rk b o cap l x w hR ?_ hlen h2).mono fin
  rcases hi with rfl | ⟨b2,o2,hp,hc⟩
  ·intro i y hy;simp at hy
  ·obtain ⟨rfl,rfl⟩:b=b2∧o=o2:=by simpa using hp
   exact hc
def treeL (lt:Int×Int→Int×Int→Bool) (l:List (Int×Int)):List (Int×Int):=l.foldl (fun acc x=>insL lt x acc) []
theorem treeL_take {lt:Int×Int→Int×Int→Bool} {l:List (Int×Int)} {j:Nat} {x:Int×Int} (h:l[j]?=some x):treeL lt (l.take (j+1))=insL lt x (treeL lt (l.take j)):=by
 unfold treeL
 rw [List.take_add_one,h,List.foldl_append];rfl
theorem treeL_len' (lt:Int×Int→Int×Int→Bool):∀(l acc:List (Int×Int)),(l.foldl (fun acc x=>insL lt x acc) acc).length≤acc.length+l.length
 | [],acc=>by simp
 | x::l,acc=>by
  have h1:=treeL_len' lt l (insL lt x acc)
  have h2:=insL_len (lt:=lt) (x:=x) (l:=acc)
  simp only [List.foldl_cons,List.length_cons]
  split at h2<;>omega
theorem treeL_len (lt:Int×Int→Int×Int→Bool) (l:List (Int×Int)):(treeL lt l).length≤l.length:=by
 have:=treeL_len' lt l []
 simpa [treeL] using this
theorem treeL_take_len (lt:Int×Int→Int×Int→Bool) (l:List (Int×Int)) (j:Nat):(treeL lt (l.take j)).length≤l.length:=by
 have:=treeL_len lt (l.take j)
 simp only [List.length_take] at this
 omega
def TreePost (lt:Int×Int→Int×Int→Bool) (l:List (Int×Int)) (w:World) (e:Ending) (w':World):Prop:=∃v,e=.returned v∧OutI w' v (treeL lt l) w.heap.size∧Chg (fun _ _=>False) w w'
theorem tree_big (ordv:Value) (rk:Int→Int) (p:Option Addr) (cap:Nat) (l:List (Int×Int)) (w:World) (hR:RankOk ordv rk w) (hl:ItemsAt w p l) (hlen:l.length≤8589934592) :
  Calls Try.prog 22 #[ordv,.slice p l.length cap] w (TreePost (ltR rk) l w):=by
 have HR:=Lib.hid hR
 clear hR
 go_enter Try.func22,Try.ntmps22
 go_wp2_with fail
 go_loopw [5,10] (fun v i wr=>∃(j:Nat),j≤l.length∧i=.int .i64 j∧OutI wr v (treeL (ltR rk) (l.take j)) w.heap.size∧Chg (fun _ _=>False) w wr) (fun _ i _=>l.length - (intOf i).toNat)
 case atStart=>exact ⟨0,Nat.zero_le _,rfl,.inl ⟨rfl,rfl⟩,zK _ _⟩
 case round =>
  obtain ⟨j,hj,rfl,hM,hc⟩:=hrel
  have hsz:=hc.size
  by_cases hlt:j < l.length
  ·obtain ⟨x,hx⟩:∃x,l[j]?=some x:=⟨_,zH hlt⟩
   rcases hl.chg hc with hl0 | ⟨b,o,rfl,hcell⟩
   ·subst hl0;simp at hlt
   obtain ⟨g0,g1⟩:=hcell j x hx
   have i0:(0:Int)≤(j:Int):=by omega
   have i1:(j:Int) < (l.length:Int):=by omega
   have hgl:=treeL_take_len (ltR rk) l j
   have hgt:=treeL_take (lt:=ltR rk) hx
   clear hcell hx
   have HM:=Lib.hid hM
   clear hM
   go_wp2_with fail
   have hca:Chg (fun _ _=>False) w (wr.alloc (.cells #[.int .i64 x.1,.int .i64 x.2] 27)):=hc.alloc _
   refine (put_out_big ordv rk _ _ w.heap.size x _ (HR.out.chg hca) (HM.out.chg ((zK _ _).alloc _)) (by omega)).mono ?_
   rintro e w2 ⟨v2,rfl,hr2,hc2⟩
   have hsz2:=hca.size
   go_wp2_with fail
   go_roundw
   case rel=>exact ⟨j+1,by omega,by go_num,by rw [hgt];exact .inr (hr2.mono hsz2),hca.trans hc2⟩
   case measure=>simp [intOf];omega
  ·obtain rfl:j=l.length:=by omega
   go_wp2_with fail
   go_ret
   exact ⟨_,rfl,by rw [List.take_length] at hM;exact hM,hc⟩
theorem tree_any (ordv:Value) (rk:Int→Int) (p:Option Addr) (cap:Nat) (l:List (Int×Int)) (w:World) (hR:RankOk ordv rk w) (hl:ItemsAt w p l) (hlen:l.length≤2147483647) :
  Calls Try.prog 22 #[ordv,.slice p l.length cap] w (TreePost (ltR rk) l w) :=
 tree_big ordv rk p cap l w hR hl (by omega)
end
section
open Go.RowKit
end
section
open Go.RowKit
end
section
open Go.RowKit
end
end Go.Proofs.Ytnohimhihombmaa
