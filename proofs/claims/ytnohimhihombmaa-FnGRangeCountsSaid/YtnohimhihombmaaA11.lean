/- GMax, GMaxMut and their law. -/
import Derived.ProofKit
import Derived.OpenShut
import Derived.Carry
import Derived.ChangeSame
import Derived.Deep.SlicePairs
import Derived.ChangeSlices
import Derived.Lib.SmallJoins
import Derived.BigQuiet
import Derived.Test.YtnohimhihombmaaA1
import Derived.Test.YtnohimhihombmaaA9
import Derived.Test.YtnohimhihombmaaA10
namespace Go.Proofs.Ytnohimhihombmaa
set_option linter.unusedSimpArgs false
set_option linter.unusedVariables false
set_option maxRecDepth 100000
set_option maxHeartbeats 40000000
open List renaming setIfInBounds_toArray → zA, set_cons_zero → zB, set_cons_succ → zC, getElem?_cons_zero → zD, getElem?_cons_succ → zE, getElem?_toArray → zF, getElem?_eq_some_iff → zG, mem_append → zO, getElem?_map → zp
open Region renaming wanted → zI
open Chg renaming refl → zK
section
open Go.ChangeShapes Go.WideShapes Go.ChangeAt Go.RowKit
section
variable {H:Type} {enc:TypeId×Value→H} {P:Program}
theorem trodAll_carry (hl:laidOutB P=true) {W W':World} (hb:Below W.heap.size W W'):∀{ts:List TypeId} {vs:List Value} {ds:List (DataW H)} {ps:List MemPlace},
  (ts.all fun t=>P.readableRec t && decide (t < P.types.size))=true→DataW.TrodAll enc P W 0 (fun _=>true) true ts vs ds ps→(∀x∈ps,x.block < W.heap.size)→∀sp:Nat→Bool,(∀p∈ps,sp p.block=true)→DataW.TrodAll enc P W' 0 sp true ts vs ds ps
 | [],_,_,_,_,h,_,_,_=>by
  obtain ⟨rfl,rfl,rfl⟩:=trodAll_nil h
  exact trodAll_mk0
 | t::ts,_,_,_,ht,h,hlt,sp,hsp=>by
  obtain ⟨v,vs1,d,ds1,a,b,rfl,rfl,rfl,h1,h2⟩:=trodAll_cons h
  simp only [List.all_cons,Bool.and_eq_true,decide_eq_true_eq] at ht
  obtain ⟨⟨g1,g2⟩,g3⟩:=ht
  refine ⟨a,b,WideElems.Trod_stays hl g1 g2 h1 (fun x hx=>hb.same (hlt x (zO.2 (.inl hx)))) (fun x hx=>hsp x (zO.2 (.inl hx))),trodAll_carry hl hb g3 h2 (fun x hx=>hlt x (zO.2 (.inr hx))) sp (fun x hx=>hsp x (zO.2 (.inr hx))),rfl⟩
theorem law_post {f:Func} {s:ChangeSpec} {apart fresh handsOn again:Bool} {W W':World} {args:Array Value} {ds gs:List (DataW H)} {before:List MemPlace} {tb:TypeId} (hl:laidOutB P=true)
  (hts:(f.params.toList.all fun t=>P.readableRec t && decide (t < P.types.size))=true) (hr:f.resultTypes=#[tb]) (hb4:P.underlying tb=some .bool)
  (hW:DataW.Whole enc P f.params.toList s.vars apart W args.toList ds gs before) (hv:s.vars=[]) (hfn:s.fn H ds={ results:=[.lit (.bool true)],args:=ds }) (hb:Below W.heap.size W W') :
  s.post enc P f apart fresh handsOn again W args (.bool true) W':=by
 have hW0:=hW
 obtain ⟨p,q,hA,hV,rfl,hz,hn⟩:=hW0
 rw [hv] at hV
 obtain ⟨rfl,rfl⟩:=trodVars_none hV
 have hfn':s.fn H (ds++[])={ results:=[.lit (.bool true)],args:=ds }:=by rw [List.append_nil];exact hfn
 have hvn:(s.fn H (ds++[])).vars=[]:=by rw [hfn']
 have hlt:∀x∈p,x.block < W.heap.size:=fun x hx=>hW.lt x (by simpa using hx)
 have hres:∀(b:Nat) (sp:Nat→Bool) (hd:Bool),DataW.TrodAll enc P W' b sp hd f.resultTypes.toList ((Value.bool true).resultList f.resultTypes.size) (s.fn H (ds++[])).results []:=by
  intro b sp hd
  rw [hfn',hr]
  exact trodAll_mk1 (shut_bool hb4 _)
 have hargs:∀sp:Nat→Bool,(∀x∈p,sp x.block=true)→DataW.TrodAll enc P W' 0 sp true f.params.toList args.toList (s.fn H (ds++[])).args p:=by
  intro sp hsp
  rw [hfn']
  exact trodAll_carry hl hb hts hA hlt sp hsp
 have hvars:∀sp:Nat→Bool,DataW.TrodVars enc P W' sp s.vars (s.fn H (ds++[])).vars []:=by
  intro sp
  rw [hvn,hv]
  exact rfl
 have hold:∀x∈p,(fun b=>decide (b < W.heap.size)) x.block=true:=fun x hx=>by simpa using hlt x hx
 refine ⟨ds,[],p++[],[],p,[],hW,hres _ _ _,hargs _ hold,hvars _,World.keptBut_mono (fun x hx=>⟨hx,?_⟩) (hb.frame (·∈p++[])),fun _=>?_⟩
 ·simpa using hx
 ·refine ⟨ok_one hr rfl (okWide_bool_mk hb4 _),_,_,([]++p)++[],⟨[]++p,[],trodAll_append (hargs _ (fun _ _=>rfl)) (hres _ _ _),hvars _,rfl,?_,?_⟩,?_⟩
  ·intro b off hp
   have hin:MemPlace.cell b off∈p:=by simpa using hp
   rw [hb.frozen (hlt _ hin)]
   exact hz b off (by simpa using hin)
  ·intro ha
   have:=hn ha
   simpa using this
  ·intro x hx _
   simpa using hx
theorem open_items {r:Reach} {b0:Nat} {t e t3:TypeId} {f0 f1:Field} {v:Value} {d:DataW H} {ps:List MemPlace} {w:World} (ht:P.underlying t=some (.slice e)) (he:P.underlying e=some (.struct #[f0,f1])) (ce:P.cellsOf e=2) (o0:f0.offset=0) (o1:f1.offset=1)
  (g0:f0.type=t3) (g1:f1.type=t3) (c3:P.cellsOf t3=1) (h3:P.underlying t3=some (.int .i64)) (hv:Value.okWide P w r b0 t v) (h:DataW.Trod enc P w 0 (fun _=>true) true t v d ps) :
  ∃p l cap,v=.slice p l.length cap∧ItemsAt w p l∧l.length≤cap:=by
 obtain ⟨a,len,cap,rfl⟩:=okWide_slice ht hv
 obtain ⟨fuel,hf⟩:=h
 rcases Deep.open_slice_pairs ht he ce o0 o1 (by rw [g0];exact c3) (by rw [g1];exact c3) hf with ⟨hc,_⟩ | ⟨a',len',cap',m,n,V0,V1,D0,D1,P0,P1,hcs,_,hlc,_,hm,_,hi⟩
 ·simp only [Value.cells,List.cons.injEq,Value.slice.injEq,and_true] at hc
  obtain ⟨rfl,rfl,rfl⟩:=hc
  exact ⟨none,[],0,rfl,.inl rfl,Nat.le_refl _⟩
 ·simp only [Value.cells,List.cons.injEq,Value.slice.injEq,and_true] at hcs
  obtain ⟨rfl,rfl,rfl⟩:=hcs
  have hsp:a'.spot=none:=by
   simp only [Value.okWide,ht,Cell.okWide,Cell.ok] at hv
   exact hv.2.2.2.1
  have haddr:a'=⟨a'.block,a'.off,none⟩:=by
   obtain ⟨b1,o1,s1⟩:=a'
   obtain rfl:s1=none:=hsp
   rfl
  have hm':m=cap:=by simpa using hm
  subst hm'
  refine ⟨some a',(List.range len).map fun i=>(intOf (V0 i),intOf (V1 i)),m,by simp,.inr ⟨a'.block,a'.off,?_,fun i x hx=>?_⟩,by simpa using hlc⟩
  ·exact congrArg some haddr
  ·have hil:i < len:=by
    have:=(zG.1 hx).1
    simpa using this
   have hxe:x=(intOf (V0 i),intOf (V1 i)):=by
    rw [zp,List.getElem?_range hil] at hx
    simpa using hx.symm
   subst hxe
   obtain ⟨k0,k1,k2,k3⟩:=hi i (by omega)
   rw [g0] at k2
   rw [g1] at k3
   obtain ⟨n0,e0,_⟩:=DataW.trod_int h3 k2
   obtain ⟨n1,e1,_⟩:=DataW.trod_int h3 k3
   rw [haddr,kdS] at k0 k1
   have e0':V0 i=.int .i64 n0:=by simpa using e0
   have e1':V1 i=.int .i64 n1:=by simpa using e1
   rw [e0'] at k0
   rw [e1'] at k1
   rw [e0',e1']
   exact ⟨k0,by rw [Nat.add_assoc];exact k1⟩
end
end
section
open Go.ChangeShapes Go.WideShapes Go.ChangeAt Go.RowKit
section
variable {H:Type} {enc:TypeId×Value→H} {P:Program}
theorem open_nums {r:Reach} {b0:Nat} {t e:TypeId} {v:Value} {d:DataW H} {ps:List MemPlace} {w:World} (ht:P.underlying t=some (.slice e)) (he:P.underlying e=some (.int .i64)) (ce:P.cellsOf e=1)
  (hv:Value.okWide P w r b0 t v) (h:DataW.Trod enc P w 0 (fun _=>true) true t v d ps):∃l,SlE intE w v l:=by
 obtain ⟨a,len,cap,rfl⟩:=okWide_slice ht hv
 obtain ⟨fuel,hf⟩:=h
 rcases open_ints ht he ce hf with ⟨hc,_⟩ | ⟨a',len',cap',zs,hcs,_,hlc,_,hz,_,hi,_⟩
 ·simp only [Value.cells,List.cons.injEq,Value.slice.injEq,and_true] at hc
  obtain ⟨rfl,rfl,rfl⟩:=hc
  exact ⟨[],none,0,rfl,Nat.le_refl _,.inl rfl⟩
 ·simp only [Value.cells,List.cons.injEq,Value.slice.injEq,and_true] at hcs
  obtain ⟨rfl,rfl,rfl⟩:=hcs
  have hsp:a'.spot=none:=by
   simp only [Value.okWide,ht,Cell.okWide,Cell.ok] at hv
   exact hv.2.2.2.1
  have haddr:a'=⟨a'.block,a'.off,none⟩:=by
   obtain ⟨b1,o1,s1⟩:=a'
   obtain rfl:s1=none:=hsp
   rfl
  have hz':zs.length=cap:=by simpa using hz
  have hl:(zs.take len).length=len:=by simp;omega
  refine ⟨zs.take len,some a',cap,by rw [hl],by rw [hl];exact hlc,.inr ⟨a'.block,a'.off,congrArg some haddr,fun j u hj=>?_⟩⟩
  have hfl:flat intE.par (zs.take len)=(zs.take len).map fun n=>Value.int .i64 n:=by
   induction zs.take len with
   | nil=>rfl
   | cons x xs ih=>rw [flat_cons,ih];rfl
  rw [hfl,zp] at hj
  cases hx:(zs.take len)[j]? with
  | none=>rw [hx] at hj;cases hj
  | some x =>
   rw [hx] at hj
   obtain rfl:Value.int .i64 x=u:=Option.some.inj hj
   have hjl:=(zG.1 hx).1
   rw [hl] at hjl
   have h2:=hi j (by omega)
   rw [haddr,kdS] at h2
   rw [List.getElem?_take_of_lt hjl] at hx
   simpa [List.getD,hx] using h2
end
end
section
open Go.ChangeShapes Go.WideShapes Go.ChangeAt Go.RowKit
section
variable {H:Type} {enc:TypeId×Value→H} {P:Program}
theorem okWide_cell {r:Reach} {b0:Nat} {w:World} {t u:TypeId} {fs:Array Field} {ts:List TypeId} {cs:Array Value} {i:Nat} {v:Value} (ht:P.underlying t=some (.struct fs)) (hts:P.cellTypes P.depth t=some ts)
  (hv:Value.okWide P w r b0 t (.agg cs)) (hi:cs[i]?=some v) (hu:ts[i]?=some u):Cell.okWide P w r b0 u v:=by
 simp only [Value.okWide,ht] at hv
 obtain ⟨cs',e,_,ts',h1,_,h2⟩:=hv
 obtain rfl:cs=cs':=by simpa using e
 rw [hts] at h1
 obtain rfl:=Option.some.inj h1
 obtain ⟨u',h3,h4⟩:=h2 i v hi
 have hlt:=(zG.1 hu).1
 rw [Nat.mod_eq_of_lt hlt,hu] at h3
 obtain rfl:=Option.some.inj h3
 exact h4
theorem open_numsC {r:Reach} {b0 n:Nat} {t e:TypeId} {v:Value} {y:DataW H×List MemPlace} {w:World} (ht:P.underlying t=some (.slice e)) (he:P.underlying e=some (.int .i64)) (ce:P.cellsOf e=1)
  (hv:Cell.okWide P w r b0 t v) (hf:DataW.trod enc P w 0 (fun _=>true) true n t [v]=some y):∃l,SlE intE w v l:=by
 have hv2:Value.okWide P w r b0 t v:=by simp only [Value.okWide,ht];exact hv
 have hcl:v.cells=#[v]:=by
  obtain ⟨a,len,cap,rfl⟩:=okWide_slice ht hv2
  rfl
 exact open_nums ht he ce hv2 (d:=y.1) (ps:=y.2) ⟨n,by rw [hcl];exact hf⟩
theorem open_make {r:Reach} {b0:Nat} {v:Value} {d:DataW H} {ps:List MemPlace} {w:World} (hv:Value.okWide Try.prog w r b0 24 v) (h:DataW.Trod enc Try.prog w 0 (fun _=>true) true 24 v d ps) :
  ∃sv os dg nl,v=.agg #[sv,.int .i64 dg,.bool nl]∧SlE intE w sv os:=by
 obtain ⟨v0,v1,v2,y0,y1,y2,n,rfl,_,_,h0,h1,h2⟩:=Go.Joins.open_agg3 Try.underlying24 (by kernel_rfl) (by kernel_rfl) hv h
 have c0:=okWide_cell (i:=0) (u:=22) Try.underlying24 (ts:=[22,3,4]) (by kernel_rfl) hv rfl rfl
 obtain ⟨os,hs⟩:=open_numsC Try.underlying22 Try.underlying3 (by kernel_rfl) c0 h0
 obtain ⟨m,e1,_⟩:=DataW.trod_int Try.underlying3 h1
 obtain ⟨bb,e2,_⟩:=DataW.trod_bool Try.underlying4 h2
 have e1':v1=.int .i64 m:=by simpa using e1
 have e2':v2=.bool bb:=by simpa using e2
 subst e1' e2'
 exact ⟨v0,os,m,bb,rfl,hs⟩
theorem open_item {r:Reach} {b0:Nat} {v:Value} {d:DataW H} {ps:List MemPlace} {w:World} (hv:Value.okWide Try.prog w r b0 27 v) (h:DataW.Trod enc Try.prog w 0 (fun _=>true) true 27 v d ps) :
  ∃x:Int×Int,v=.agg #[.int .i64 x.1,.int .i64 x.2]:=by
 obtain ⟨v0,v1,y0,y1,n,rfl,_,_,h0,h1⟩:=Go.Joins.open_agg2 Try.underlying27 (by kernel_rfl) (by kernel_rfl) hv h
 obtain ⟨m,e1,_⟩:=DataW.trod_int Try.underlying3 h0
 obtain ⟨m2,e2,_⟩:=DataW.trod_int Try.underlying3 h1
 have e1':v0=.int .i64 m:=by simpa using e1
 have e2':v1=.int .i64 m2:=by simpa using e2
 subst e1' e2'
 exact ⟨(m,m2),rfl⟩
end
end
section
open Go.RowKit
theorem its_head {α:Type} {h:Nat} {T:BT α h} {mn mx:Nat} (hs:Sh mn mx h T) (h1:1≤(its T).length):1≤(toL h T).length:=Nat.le_trans h1 (its_sub hs).length_le
theorem Fam.node {α:Type} {p:Par α} {w:World} {F:Nat→Prop} {H:Nat→Option (NodeR α)} (h:Fam p w F H) {n:Nat} {r:NodeR α} (hn:H n=some r):∃l,NodeAt p w n r l:=by
 obtain ⟨l,h1,_⟩:=h.work hn
 exact ⟨l,h1⟩
theorem Fam.nodeB {α:Type} {p:Par α} {w:World} {F:Nat→Prop} {H:Nat→Option (NodeR α)} (h:Fam p w F H) {n:Nat} {r:NodeR α} (hn:H n=some r):∃l,NodeAt p w n r l∧∀b,Blk n r l b→F b:=by
 obtain ⟨l,h1,h2,_⟩:=h.work hn
 exact ⟨l,h1,h2⟩
end
section
open Go.RowKit
theorem lock_any (t:Nat) (b:Bool) (w:World):Calls Try.prog 46 #[.pointer (some ⟨t,0,none⟩),.bool b] w fun e w'=>e=.returned (.bool false)∧w=w':=by
 go_enter Try.func46,Try.ntmps46
 go_wp2
 go_ret
 exact ⟨rfl,rfl⟩
def lastV {ord:List Int} (o:Option (It ord)):Value:=match o with
 | some x=>.tuple #[.agg #[.int .i64 x.1,.int .i64 x.2],.bool true]
 | none=>.tuple #[.agg #[.int .i64 0,.int .i64 0],.bool false]
theorem MapBlk.empty {ord:List Int} {k:Kc ord} {mn mx t:Nat} {w:World} {root:Option Nat} {cnt:Int} (h:MapBlk k mn mx w t root cnt):w.cell? ⟨t,7,none⟩=some (.int .i64 0)∧w.cell? ⟨t,8,none⟩=some (.int .i64 0) :=
 ⟨by rw [kbB h.blk];rfl,by rw [kbB h.blk];rfl⟩
end
section
open Go.RowKit
theorem rank_list (v:Value) (os:List Int) (w:World) (hs:SlE intE w v os) (hlen:os.length≤2147483647):RankOk v (rkL os) w:=by
 intro w' hc key
 have hs':=hs.chg hc
 obtain ⟨a,cap,rfl⟩:=hs.form
 by_cases h0:os.length=0
 ·have e1:rkL os key=key:=by simp [rkL,h0]
  rw [e1,h0]
  go_enter Try.func33,Try.ntmps33
  go_wp2
  go_ret
  exact ⟨rfl,rfl⟩
 ·obtain ⟨n,hn⟩:∃n,os.length=n:=⟨_,rfl⟩
  have hn0:(0:Int) < (n:Int):=by omega
  have hr:=rem_twice hn0 key
  have g1:=Int.emod_nonneg key (by omega:(n:Int)≠0)
  have g2:=Int.emod_lt_of_pos key hn0
  obtain ⟨q,hq⟩:∃q:Nat,key % (n:Int)=(q:Int):=⟨(key % (n:Int)).toNat,by omega⟩
  have hql:q < os.length:=by omega
  have hx:os[q]?=some os[q]:=List.getElem?_eq_getElem hql
  have e1:rkL os key=os[q]:=by
   have:¬n=0:=by omega
   simp [rkL,hn,hq,this,hx]
  obtain ⟨b,o,rfl,hcell⟩:=hs'.int hx
  rw [e1,hn]
  obtain ⟨y,hy⟩:∃y,os[q]=y:=⟨_,rfl⟩
  rw [hy] at hcell ⊢
  have t1:=Int.tmod_lt_of_pos key hn0
  have t2:=Int.lt_tmod_of_pos key hn0
  have n1:(n:Int)≤2147483647:=by omega
  have nz:¬(n:Int)=0:=by omega
  have q0:(0:Int)≤(q:Int):=by omega
  have q1:(q:Int) < (n:Int):=by omega
  rw [hq] at hr
  clear hq hx e1 hy g1 g2 h0 hn
  go_enter Try.func33,Try.ntmps33
  go_wp2
  go_ret
  exact ⟨rfl,rfl⟩
end
section
open Go.RowKit
def exL:List (Int×Int):=[(5,1),(3,2),(9,3),(3,4),(1,5),(7,6),(8,7)]
def exCells:Array Value:=#[.int .i64 5,.int .i64 1,.int .i64 3,.int .i64 2,.int .i64 9,.int .i64 3,.int .i64 3,.int .i64 4,.int .i64 1,.int .i64 5,.int .i64 7,.int .i64 6,.int .i64 8,.int .i64 7]
def ExPost (w:World) (e:Ending) (w':World):Prop:=∃p,e=.returned (.slice p exL.length 7)∧ItemsAt w' p exL∧Chg (fun _ _=>False) w w'
theorem exItems_any (w:World):Calls Try.prog 16 #[] w (ExPost w):=by
 have fin:ExPost w (.returned (.slice (some ⟨w.heap.size,0,none⟩) 7 7)) (w.alloc (.cells exCells 27)):=by
  refine ⟨_,rfl,.inr ⟨w.heap.size,0,rfl,fun i x hx=>?_⟩,(zK _ _).alloc _⟩
  have hb:(w.alloc (.cells exCells 27)).heap[w.heap.size]?=some (.cells exCells 27 (0,0)):=kbR _ _ rfl
  rw [kbB hb,kbB hb]
  match i,hx with
  | 0,hx=>simp [exL] at hx;subst hx;exact ⟨rfl,rfl⟩
  | 1,hx=>simp [exL] at hx;subst hx;exact ⟨rfl,rfl⟩
  | 2,hx=>simp [exL] at hx;subst hx;exact ⟨rfl,rfl⟩
  | 3,hx=>simp [exL] at hx;subst hx;exact ⟨rfl,rfl⟩
  | 4,hx=>simp [exL] at hx;subst hx;exact ⟨rfl,rfl⟩
  | 5,hx=>simp [exL] at hx;subst hx;exact ⟨rfl,rfl⟩
  | 6,hx=>simp [exL] at hx;subst hx;exact ⟨rfl,rfl⟩
  | n+7,hx=>simp [exL] at hx
 have FIN:=Lib.hid fin
 clear fin
 go_enter Try.func16,Try.ntmps16
 go_wp2
 go_ret
 exact FIN.out
theorem fits_yes (d:Int) (w:World) (h1:2≤d) (h2:d≤128):Calls Try.prog 17 #[.int .i64 d] w fun e w'=>e=.returned (.bool true)∧w=w':=by
 have h0:(d == 0)=false:=by simp;omega
 go_enter Try.func17,Try.ntmps17
 go_wp2
 go_ret
 exact ⟨rfl,rfl⟩
theorem fits_zero (w:World):Calls Try.prog 17 #[.int .i64 0] w fun e w'=>e=.returned (.bool true)∧w=w':=by
 go_enter Try.func17,Try.ntmps17
 go_wp2
 go_ret
 exact ⟨rfl,rfl⟩
theorem fits_no (d:Int) (w:World) (h0:d≠0) (h:d < 2∨128 < d):Calls Try.prog 17 #[.int .i64 d] w fun e w'=>e=.returned (.bool false)∧w=w':=by
 have h0:(d == 0)=false:=by simp;omega
 by_cases h2:d < 2
 ·have h3:¬2≤d:=by omega
  go_enter Try.func17,Try.ntmps17
  go_wp2
  go_ret
  exact ⟨rfl,rfl⟩
 ·have h3:2≤d:=by omega
  have h4:¬d≤128:=by omega
  go_enter Try.func17,Try.ntmps17
  go_wp2
  go_ret
  exact ⟨rfl,rfl⟩
end
section
open Go.RowKit
theorem exMake_any (w:World):Calls Try.prog 15 #[] w fun e w'=>e=.returned (.agg #[.slice none 0 0,.int .i64 2,.bool false])∧Chg (fun _ _=>False) w w':=by
 go_enter Try.func15,Try.ntmps15
 go_wp2_with fail
 refine kbK (fun w1=>Chg (fun _ _=>False) w w1∧w1.heap[w.heap.size]?=some (.cells #[.slice none 0 0,.int .i64 2,.bool false] 24 (0,0))) ⟨?_,?_⟩ ?_
 ·repeat (first | refine Chg.drew ?_ | refine Chg.drewN ?_ _ | refine Chg.alloc ?_ _ | refine Chg.setCell ?_ (.inr (by simp)) _ | exact zK _ _)
 ·exact kbR _ _ rfl
 rintro w1 ⟨hc,hb⟩
 have p0:=kbB hb 0
 have p1:=kbB hb 1
 have p2:=kbB hb 2
 simp only [zF,zD,zE] at p0 p1 p2
 refine bodyPost_ret (v:=.agg #[.slice none 0 0,.int .i64 2,.bool false]) (by simp [results,Try.results15,go_sem,p0,p1,p2]) rfl ?_
 exact ⟨rfl,hc⟩
theorem zzFits1_any (a:Option Addr) (n c:Nat) (d:Int) (b:Bool) (w:World):Calls Try.prog 7 #[.agg #[.slice a n c,.int .i64 d,.bool b]] w fun e w'=>e=.returned (.bool (decide (n≤2147483647)))∧Chg (fun _ _=>False) w w':=by
 by_cases h:n≤2147483647
 ·have h2:¬(2147483647:Int) < (n:Int):=by omega
  have e:decide (n≤2147483647)=true:=by simpa using h
  rw [e]
  go_enter Try.func7,Try.ntmps7
  go_wp2
  go_ret
  exact ⟨rfl,(zK _ _).alloc _⟩
 ·have h2:(2147483647:Int) < (n:Int):=by omega
  have e:decide (n≤2147483647)=false:=by simpa using h
  rw [e]
  go_enter Try.func7,Try.ntmps7
  go_wp2
  go_ret
  exact ⟨rfl,(zK _ _).alloc _⟩
theorem fits_fit (d:Int) (w:World) (h:FitD d):Calls Try.prog 17 #[.int .i64 d] w fun e w'=>e=.returned (.bool true)∧w=w':=by
 rcases h with rfl | ⟨h1,h2⟩
 ·exact fits_zero w
 ·exact fits_yes d w h1 h2
theorem fits_not (d:Int) (w:World) (h:¬FitD d):Calls Try.prog 17 #[.int .i64 d] w fun e w'=>e=.returned (.bool false)∧w=w' :=
 fits_no d w (fun e=>h (.inl e)) (by
  by_cases h2:d < 2
  ·exact .inl h2
  ·refine .inr ?_
   by_cases h3:128 < d
   ·exact h3
   ·exact absurd (.inr ⟨by omega,by omega⟩) h)
theorem MapIn.mapAt {ord:List Int} {k:Kc ord} {mn mx:Nat} {w:World} {F:Nat→Prop} {t:Nat} {l:List (It ord)} (h:MapIn k mn mx w F t l):MapAt k mn mx w t:=by
 rcases h with ⟨_,_,g3⟩ | ⟨H,h,T,g1,_⟩
 ·exact g3.at_
 ·exact g1.map
theorem Less_any {ord:List Int} {k:Kc ord} {mn mx t:Nat} {w:World} (h:MapAt k mn mx w t) (a b:It ord) :
  Calls Try.prog 79 #[.pointer (some ⟨t,0,none⟩),.agg #[.int .i64 a.1,.int .i64 a.2],.agg #[.int .i64 b.1,.int .i64 b.2]] w fun e w'=>e=.returned (.bool (ltM a b))∧Chg (fun _ _=>False) w w':=by
 have H:=Lib.hid h
 clear h
 go_enter Try.func79,Try.ntmps79
 go_wp2_with fail
 refine kbD (fun w1=>Chg (fun _ _=>False) w w1∧w1.heap[w.heap.size]?=some (.cells #[.int .i64 a.1,.int .i64 a.2] 27 (0,0))∧w1.heap[w.heap.size+1]?=some (.cells #[.int .i64 b.1,.int .i64 b.2] 27 (0,0))) ⟨((zK _ _).alloc _).alloc _,?_,?_⟩ ?_
 ·rw [kcV _ _ (by simp)];exact kbR _ _ rfl
 ·exact kbR _ _ (by simp)
 rintro w1 ⟨hc1,hb1,hb2⟩
 have q0:=kbB hb1 0
 have q1:=kbB hb1 1
 have q2:=kbB hb2 0
 have q3:=kbB hb2 1
 simp only [zF,zD,zE] at q0 q1 q2 q3
 have hm:=H.out.chg hc1 (fun _ _ _ h=>h)
 have c6:=hm.c6l
 unfold kcK at c6
 have HO:=Lib.hid hm.ord
 clear hm hb1 hb2
 refine kbH (fun w'=>w'.cell? ⟨t,6,none⟩=some (.func (.func 63) #[] #[.pointer (some ⟨k.ob,0,none⟩)])∧w'.cell? ⟨w.heap.size,0,none⟩=some (.int .i64 a.1)∧w'.cell? ⟨w.heap.size,1,none⟩=some (.int .i64 a.2)∧w'.cell? ⟨w.heap.size+1,0,none⟩=some (.int .i64 b.1)∧w'.cell? ⟨w.heap.size+1,1,none⟩=some (.int .i64 b.2)) (.soft 0 (.soft 1 (.soft 2 (.soft 3 (.soft 4 (.soft 5 (.hard 6 (.soft 7 .nil)))))))) (by kernel_rfl) (by kernel_rfl) (fun _ _ _ _ _ h=>h) ⟨c6,q0,q1,q2,q3⟩ ?_
 repeat
  first
  | (refine scr_soft (by rfl) ?_ ?_ ?_ ?_
     rotate_left
     ·simp [zI,yielded];done
     ·intro w' hS
      try obtain ⟨a1,a2,a3,a4,a5⟩:=hS
      go_simp
      try with_reducible rfl
     simp only [Act.put,zA,zB,zC])
  | (refine scr_skip (by rfl) ?_ ?_
     ·simp [zI,yielded];done
     simp only [Act.put,zA,zB,zC])
 refine kbY (by rfl) (by simp [zI,yielded]) (fun K hK=>?_)
 go_simp
 refine (kgM a b _ (HO.out.chg (zK (fun _ _=>False) _).drew (fun _ h=>h) (fun _ h=>h))).mono ?_
 rintro e w2 ⟨rfl,hc2⟩
 refine hK _ _ ⟨hc2.q c6,hc2.q q0,hc2.q q1,hc2.q q2,hc2.q q3⟩ ?_
 clear hK K
 repeat
  first
  | (refine scr_soft (by rfl) ?_ ?_ ?_ ?_
     rotate_left
     ·simp [zI,yielded];done
     ·intro w' hS
      try obtain ⟨a1,a2,a3,a4,a5⟩:=hS
      go_simp
      try with_reducible rfl
     simp only [Act.put,zA,zB,zC])
  | (refine scr_skip (by rfl) ?_ ?_
     ·simp [zI,yielded];done
     simp only [Act.put,zA,zB,zC])
 refine kcJ ?_
 go_wp2_with fail
 go_ret
 exact ⟨rfl,hc1.trans ((zK _ _).drew.trans hc2)⟩
end
section
open Go.RowKit
end
section
open Go.RowKit
end
section
open Go.RowKit
end
section
open Go.RowKit
end
end Go.Proofs.Ytnohimhihombmaa
