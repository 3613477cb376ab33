/- GMax, GMaxMut and their law. -/
import Derived.ProofKit
import Derived.OpenShut
import Derived.Carry
import Derived.ChangeSame
import Derived.Deep.SlicePairs
import Derived.ChangeSlices
import Derived.Lib.SmallJoins
import Derived.Stop.Asserts
import Derived.Laws.EntriesVeiled
import Derived.BigQuiet
import Derived.Test.YtnohimhihombmaaA1
import Derived.Test.YtnohimhihombmaaA8b
import Derived.Test.YtnohimhihombmaaA9
namespace Go.Proofs.Ytnohimhihombmaa
set_option linter.unusedSimpArgs false
set_option linter.unusedVariables false
set_option maxRecDepth 100000
set_option maxHeartbeats 40000000
open Value renaming int → Ii, pointer → Ip, slice → Is, tuple → Iu
open IntKind renaming i64 → Ij
open Obj renaming cells → Ic
open Ending renaming returned → Ir
open Option.some renaming inj → Iq
open _root_.Go.Proofs.Try renaming prog → Tp
open List renaming setIfInBounds_toArray → zA, set_cons_zero → zB, set_cons_succ → zC, getElem?_cons_zero → zD, getElem?_cons_succ → zE, getElem?_toArray → zF, getElem?_eq_some_iff → zG, getElem?_eq_getElem → zH, mem_append → zO, length_take → zV, getElem?_map → zp, take_append_drop → zw
open Region renaming wanted → zI
open Act renaming put → zJ
open Chg renaming refl → zK, setCell → zd, drew → ze, drewN → zf
open Lib renaming hid → zL
open Nat renaming le_refl → zi
section
open Go.ChangeShapes Go.WideShapes Go.ChangeAt Go.RowKit
section
variable {H:Type} {enc:TypeId×Value→H} {P:Program}
theorem trodAll_carry (hl:laidOutB P=true) {W W':World} (hb:Below W.heap.size W W'):∀{ts:List TypeId} {vs:List Value} {ds:List (DataW H)} {ps:List MemPlace},
  (ts.all fun t=>P.readableRec t && decide (t < P.types.size))=true→DataW.TrodAll enc P W 0 (fun _=>true) true ts vs ds ps→(∀x∈ps,x.block < W.heap.size)→∀sp:Nat→Bool,(∀p∈ps,sp p.block=true)→DataW.TrodAll enc P W' 0 sp true ts vs ds ps
 | [],_,_,_,_,h,_,_,_=>by
  obtain ⟨rfl,rfl,rfl⟩:=trodAll_nil h
  exact trodAll_mk0
 | t::ts,_,_,_,ht,h,hlt,sp,hsp=>by
  obtain ⟨v,vs1,d,ds1,a,b,rfl,rfl,rfl,h1,h2⟩:=trodAll_cons h
  simp only [List.all_cons,Bool.and_eq_true,decide_eq_true_eq] at ht
  obtain ⟨⟨g1,g2⟩,g3⟩:=ht
  refine ⟨a,b,WideElems.Trod_stays hl g1 g2 h1 (fun x hx=>hb.same (hlt x (zO.2 (.inl hx)))) (fun x hx=>hsp x (zO.2 (.inl hx))),trodAll_carry hl hb g3 h2 (fun x hx=>hlt x (zO.2 (.inr hx))) sp (fun x hx=>hsp x (zO.2 (.inr hx))),rfl⟩
theorem law_post {f:Func} {s:ChangeSpec} {apart fresh handsOn again:Bool} {W W':World} {args:Array Value} {ds gs:List (DataW H)} {before:List MemPlace} {tb:TypeId} (hl:laidOutB P=true)
  (hts:(f.params.toList.all fun t=>P.readableRec t && decide (t < P.types.size))=true) (hr:f.resultTypes=#[tb]) (hb4:P.underlying tb=some .bool)
  (hW:DataW.Whole enc P f.params.toList s.vars apart W args.toList ds gs before) (hv:s.vars=[]) (hfn:s.fn H ds={ results:=[.lit (.bool true)],args:=ds }) (hb:Below W.heap.size W W') :
  s.post enc P f apart fresh handsOn again W args (.bool true) W':=by
 have hW0:=hW
 obtain ⟨p,q,hA,hV,rfl,hz,hn⟩:=hW0
 rw [hv] at hV
 obtain ⟨rfl,rfl⟩:=trodVars_none hV
 have hfn':s.fn H (ds++[])={ results:=[.lit (.bool true)],args:=ds }:=by rw [List.append_nil];exact hfn
 have hvn:(s.fn H (ds++[])).vars=[]:=by rw [hfn']
 have hlt:∀x∈p,x.block < W.heap.size:=fun x hx=>hW.lt x (by simpa using hx)
 have hres:∀(b:Nat) (sp:Nat→Bool) (hd:Bool),DataW.TrodAll enc P W' b sp hd f.resultTypes.toList ((Value.bool true).resultList f.resultTypes.size) (s.fn H (ds++[])).results []:=by
  intro b sp hd
  rw [hfn',hr]
  exact trodAll_mk1 (shut_bool hb4 _)
 have hargs:∀sp:Nat→Bool,(∀x∈p,sp x.block=true)→DataW.TrodAll enc P W' 0 sp true f.params.toList args.toList (s.fn H (ds++[])).args p:=by
  intro sp hsp
  rw [hfn']
  exact trodAll_carry hl hb hts hA hlt sp hsp
 have hvars:∀sp:Nat→Bool,DataW.TrodVars enc P W' sp s.vars (s.fn H (ds++[])).vars []:=by
  intro sp
  rw [hvn,hv]
  exact rfl
 have hold:∀x∈p,(fun b=>decide (b < W.heap.size)) x.block=true:=fun x hx=>by simpa using hlt x hx
 refine ⟨ds,[],p++[],[],p,[],hW,hres _ _ _,hargs _ hold,hvars _,World.keptBut_mono (fun x hx=>⟨hx,?_⟩) (hb.frame (·∈p++[])),fun _=>?_⟩
 ·simpa using hx
 ·refine ⟨ok_one hr rfl (okWide_bool_mk hb4 _),_,_,([]++p)++[],⟨[]++p,[],trodAll_append (hargs _ (fun _ _=>rfl)) (hres _ _ _),hvars _,rfl,?_,?_⟩,?_⟩
  ·intro b off hp
   have hin:MemPlace.cell b off∈p:=by simpa using hp
   rw [hb.frozen (hlt _ hin)]
   exact hz b off (by simpa using hin)
  ·intro ha
   have:=hn ha
   simpa using this
  ·intro x hx _
   simpa using hx
theorem open_items {r:Reach} {b0:Nat} {t e t3:TypeId} {f0 f1:Field} {v:Value} {d:DataW H} {ps:List MemPlace} {w:World} (ht:P.underlying t=some (.slice e)) (he:P.underlying e=some (.struct #[f0,f1])) (ce:P.cellsOf e=2) (o0:f0.offset=0) (o1:f1.offset=1)
  (g0:f0.type=t3) (g1:f1.type=t3) (c3:P.cellsOf t3=1) (h3:P.underlying t3=some (.int .i64)) (hv:Value.okWide P w r b0 t v) (h:DataW.Trod enc P w 0 (fun _=>true) true t v d ps) :
  ∃p l cap,v=.slice p l.length cap∧ItemsAt w p l∧l.length≤cap:=by
 obtain ⟨a,len,cap,rfl⟩:=okWide_slice ht hv
 obtain ⟨fuel,hf⟩:=h
 rcases Deep.open_slice_pairs ht he ce o0 o1 (by rw [g0];exact c3) (by rw [g1];exact c3) hf with ⟨hc,_⟩ | ⟨a',len',cap',m,n,V0,V1,D0,D1,P0,P1,hcs,_,hlc,_,hm,_,hi⟩
 ·simp only [Value.cells,List.cons.injEq,Value.slice.injEq,and_true] at hc
  obtain ⟨rfl,rfl,rfl⟩:=hc
  exact ⟨none,[],0,rfl,.inl rfl,zi _⟩
 ·simp only [Value.cells,List.cons.injEq,Value.slice.injEq,and_true] at hcs
  obtain ⟨rfl,rfl,rfl⟩:=hcs
  have hsp:a'.spot=none:=by
   simp only [Value.okWide,ht,Cell.okWide,Cell.ok] at hv
   exact hv.2.2.2.1
  have haddr:a'=⟨a'.block,a'.off,none⟩:=by
   obtain ⟨b1,o1,s1⟩:=a'
   obtain rfl:s1=none:=hsp
   rfl
  have hm':m=cap:=by simpa using hm
  subst hm'
  refine ⟨some a',(List.range len).map fun i=>(intOf (V0 i),intOf (V1 i)),m,by simp,.inr ⟨a'.block,a'.off,?_,fun i x hx=>?_⟩,by simpa using hlc⟩
  ·exact congrArg some haddr
  ·have hil:i < len:=by
    have:=(zG.1 hx).1
    simpa using this
   have hxe:x=(intOf (V0 i),intOf (V1 i)):=by
    rw [zp,List.getElem?_range hil] at hx
    simpa using hx.symm
   subst hxe
   obtain ⟨k0,k1,k2,k3⟩:=hi i (by omega)
   rw [g0] at k2
   rw [g1] at k3
   obtain ⟨n0,e0,_⟩:=DataW.trod_int h3 k2
   obtain ⟨n1,e1,_⟩:=DataW.trod_int h3 k3
   rw [haddr,kdS] at k0 k1
   have e0':V0 i=Ii Ij n0:=by simpa using e0
   have e1':V1 i=Ii Ij n1:=by simpa using e1
   rw [e0'] at k0
   rw [e1'] at k1
   rw [e0',e1']
   exact ⟨k0,by rw [Nat.add_assoc];exact k1⟩
end
end
section
open Go.ChangeShapes Go.WideShapes Go.ChangeAt Go.RowKit
section
variable {H:Type} {enc:TypeId×Value→H} {P:Program}
theorem open_nums {r:Reach} {b0:Nat} {t e:TypeId} {v:Value} {d:DataW H} {ps:List MemPlace} {w:World} (ht:P.underlying t=some (.slice e)) (he:P.underlying e=some (.int .i64)) (ce:P.cellsOf e=1)
  (hv:Value.okWide P w r b0 t v) (h:DataW.Trod enc P w 0 (fun _=>true) true t v d ps):∃l,SlE intE w v l:=by
 obtain ⟨a,len,cap,rfl⟩:=okWide_slice ht hv
 obtain ⟨fuel,hf⟩:=h
 rcases open_ints ht he ce hf with ⟨hc,_⟩ | ⟨a',len',cap',zs,hcs,_,hlc,_,hz,_,hi,_⟩
 ·simp only [Value.cells,List.cons.injEq,Value.slice.injEq,and_true] at hc
  obtain ⟨rfl,rfl,rfl⟩:=hc
  exact ⟨[],none,0,rfl,zi _,.inl rfl⟩
 ·simp only [Value.cells,List.cons.injEq,Value.slice.injEq,and_true] at hcs
  obtain ⟨rfl,rfl,rfl⟩:=hcs
  have hsp:a'.spot=none:=by
   simp only [Value.okWide,ht,Cell.okWide,Cell.ok] at hv
   exact hv.2.2.2.1
  have haddr:a'=⟨a'.block,a'.off,none⟩:=by
   obtain ⟨b1,o1,s1⟩:=a'
   obtain rfl:s1=none:=hsp
   rfl
  have hz':zs.length=cap:=by simpa using hz
  have hl:(zs.take len).length=len:=by simp;omega
  refine ⟨zs.take len,some a',cap,by rw [hl],by rw [hl];exact hlc,.inr ⟨a'.block,a'.off,congrArg some haddr,fun j u hj=>?_⟩⟩
  have hfl:flat intE.par (zs.take len)=(zs.take len).map fun n=>Value.int .i64 n:=by
   induction zs.take len with
   | nil=>rfl
   | cons x xs ih=>rw [flat_cons,ih];rfl
  rw [hfl,zp] at hj
  cases hx:(zs.take len)[j]? with
  | none=>rw [hx] at hj;cases hj
  | some x =>
   rw [hx] at hj
   obtain rfl:Value.int .i64 x=u:=Iq hj
   have hjl:=(zG.1 hx).1
   rw [hl] at hjl
   have h2:=hi j (by omega)
   rw [haddr,kdS] at h2
   rw [List.getElem?_take_of_lt hjl] at hx
   simpa [List.getD,hx] using h2
end
end
section
open Go.ChangeShapes Go.WideShapes Go.ChangeAt Go.RowKit
section
variable {H:Type} {enc:TypeId×Value→H} {P:Program}
variable {r:Reach} {w:World} {v:Value} {b0:Nat}
theorem okWide_cell {t u:TypeId} {fs:Array Field} {ts:List TypeId} {cs:Array Value} {i:Nat} (ht:P.underlying t=some (.struct fs)) (hts:P.cellTypes P.depth t=some ts)
  (hv:Value.okWide P w r b0 t (.agg cs)) (hi:cs[i]?=some v) (hu:ts[i]?=some u):Cell.okWide P w r b0 u v:=by
 simp only [Value.okWide,ht] at hv
 obtain ⟨cs',e,_,ts',h1,_,h2⟩:=hv
 obtain rfl:cs=cs':=by simpa using e
 rw [hts] at h1
 obtain rfl:=Iq h1
 obtain ⟨u',h3,h4⟩:=h2 i v hi
 have hlt:=(zG.1 hu).1
 rw [Nat.mod_eq_of_lt hlt,hu] at h3
 obtain rfl:=Iq h3
 exact h4
theorem open_numsC {b0 n:Nat} {t e:TypeId} {y:DataW H×List MemPlace} (ht:P.underlying t=some (.slice e)) (he:P.underlying e=some (.int .i64)) (ce:P.cellsOf e=1)
  (hv:Cell.okWide P w r b0 t v) (hf:DataW.trod enc P w 0 (fun _=>true) true n t [v]=some y):∃l,SlE intE w v l:=by
 have hv2:Value.okWide P w r b0 t v:=by simp only [Value.okWide,ht];exact hv
 have hcl:v.cells=#[v]:=by
  obtain ⟨a,len,cap,rfl⟩:=okWide_slice ht hv2
  rfl
 exact open_nums ht he ce hv2 (d:=y.1) (ps:=y.2) ⟨n,by rw [hcl];exact hf⟩
theorem open_make {d:DataW H} {ps:List MemPlace} (hv:Value.okWide Tp w r b0 24 v) (h:DataW.Trod enc Tp w 0 (fun _=>true) true 24 v d ps) :
  ∃sv os dg nl,v=.agg #[sv,Ii Ij dg,.bool nl]∧SlE intE w sv os:=by
 obtain ⟨v0,v1,v2,y0,y1,y2,n,rfl,_,_,h0,h1,h2⟩:=Go.Joins.open_agg3 Try.underlying24 (by kernel_rfl) (by kernel_rfl) hv h
 have c0:=okWide_cell (i:=0) (u:=22) Try.underlying24 (ts:=[22,3,4]) (by kernel_rfl) hv rfl rfl
 obtain ⟨os,hs⟩:=open_numsC Try.underlying22 Try.underlying3 (by kernel_rfl) c0 h0
 obtain ⟨m,e1,_⟩:=DataW.trod_int Try.underlying3 h1
 obtain ⟨bb,e2,_⟩:=DataW.trod_bool Try.underlying4 h2
 have e1':v1=Ii Ij m:=by simpa using e1
 have e2':v2=.bool bb:=by simpa using e2
 subst e1' e2'
 exact ⟨v0,os,m,bb,rfl,hs⟩
theorem open_item {d:DataW H} {ps:List MemPlace} (hv:Value.okWide Tp w r b0 27 v) (h:DataW.Trod enc Tp w 0 (fun _=>true) true 27 v d ps) :
  ∃x:Int×Int,v=.agg #[Ii Ij x.1,Ii Ij x.2]:=by
 obtain ⟨v0,v1,y0,y1,n,rfl,_,_,h0,h1⟩:=Go.Joins.open_agg2 Try.underlying27 (by kernel_rfl) (by kernel_rfl) hv h
 obtain ⟨m,e1,_⟩:=DataW.trod_int Try.underlying3 h0
 obtain ⟨m2,e2,_⟩:=DataW.trod_int Try.underlying3 h1
 have e1':v0=Ii Ij m:=by simpa using e1
 have e2':v1=Ii Ij m2:=by simpa using e2
 subst e1' e2'
 exact ⟨(m,m2),rfl⟩
end
end
section
open Go.RowKit
variable {ord:List Int}
def dg (d:Int):Nat:=if d=0 then 32 else d.toNat
def mnD (d:Int):Nat:=(2 * dg d - 1) / 2
def mxD (d:Int):Nat:=2 * dg d - 1
def FitD (d:Int):Prop:=d=0∨(2≤d∧d≤128)
theorem FitD.dims {d:Int} (h:FitD d):1≤mnD d∧3≤mxD d∧mxD d≤1000∧mnD d≤mxD d / 2∧mnD d≤mxD d - (mxD d / 2+1):=by
 have:2≤dg d∧dg d≤128:=by
  unfold dg
  rcases h with h | ⟨h1,h2⟩
  ·rw [if_pos h];omega
  ·rw [if_neg (by omega)];omega
 unfold mnD mxD
 omega
theorem noCopier (v:Value) (xT:TypeId) (w:World):(Instr.typeAssert (.iface 27 v) xT 138 true).run Tp w=.ok (Iu #[.nilIface,.bool false]) w:=run_typeAssert_lacksB Try.underlying138 (by kernel_rfl) (by kernel_rfl) v xT w
theorem noIsoCopier (v:Value) (xT:TypeId) (w:World):(Instr.typeAssert (.iface 27 v) xT 141 true).run Tp w=.ok (Iu #[.nilIface,.bool false]) w:=run_typeAssert_lacksB Try.underlying141 (by kernel_rfl) (by kernel_rfl) v xT w
theorem degree_any (d:Int) (w:World) (h:FitD d) :
  Calls Tp 76 #[Ii Ij d] w fun e w'=>e=Ir (Iu #[Ii Ij (mnD d),Ii Ij (mxD d)])∧w=w':=by
 rcases h with rfl | ⟨h1,h2⟩
 ·have e1:((mnD 0:Nat):Int)=31:=by simp [mnD,dg]
  have e2:((mxD 0:Nat):Int)=63:=by simp [mxD,dg]
  rw [e1,e2]
  clear e1 e2
  go_enter Try.func76,Try.ntmps76
  go_wp2
  go_ret2
  exact ⟨rfl,rfl⟩
 ·have hdg:dg d=d.toNat:=if_neg (by omega)
  have i1:((mnD d:Nat):Int)=(2 * d - 1) / 2:=by unfold mnD;rw [hdg];omega
  have i2:((mxD d:Nat):Int)=2 * d - 1:=by unfold mxD;rw [hdg];omega
  rw [i1,i2]
  clear i1 i2 hdg
  have e1:(d * 2 - 1).tdiv 2=(2 * d - 1) / 2:=by rw [Int.tdiv_eq_ediv_of_nonneg (by omega)];omega
  have e2:d * 2 - 1=2 * d - 1:=by omega
  go_enter Try.func76,Try.ntmps76
  go_wp2
  go_ret2
  exact ⟨rfl,rfl⟩
theorem init_fresh (k:Kc ord) (t:Nat) (d:Int) (w:World) (h:FitD d) (hb:w.heap[t]?=some (Ic #[.int .u64 k.iso,Ip (some ⟨k.ctr,0,none⟩),Ip none,Ii Ij 0,.bool false,.bool false,kcQ k,Ii Ij 0,Ii Ij 0,Ii Ij 0,Ii Ij 0] 99 (0,0))) (ho:OrdAt k w) (h1:t≠k.ob) (h2:t≠k.rb) :
  Calls Tp 61 #[Ip (some ⟨t,0,none⟩),Ii Ij d] w fun e w'=>e=Ir (Iu #[])∧Chg (fun b _=>b=t) w w'∧MapBlk k (mnD d) (mxD d) w' t none 0:=by
 have c4:=kbB hb 7
 have c5:=kbB hb 8
 have c6:=kbB hb 10
 have c7:=kbB hb 9
 have c8:=kbB hb 4
 have c9:=kbB hb 5
 have z6:=kbC hb 10
 have z7:=kbC hb 9
 have z8:=kbC hb 4
 have z9:=kbC hb 5
 simp only [zF,zD,zE] at c4 c5 c6 c7 c8 c9
 have HB:=zL hb
 have HO:=zL ho
 clear hb ho
 have f1:=noCopier
 have f2:=noIsoCopier
 have hdd:=degree_any d
 obtain ⟨mn,hmn⟩:∃mn,mnD d=mn:=⟨_,rfl⟩
 obtain ⟨mx,hmx⟩:∃mx,mxD d=mx:=⟨_,rfl⟩
 rw [hmn,hmx] at hdd ⊢
 clear hmn hmx
 go_enter Try.func61,Try.ntmps61
 go_wp2_with (go_at_call 76;refine (hdd _ h).mono ?_;rintro e w' ⟨rfl,rfl⟩)
 go_end0
 generalize hwf:World.setCell _ _ _=wf
 have hc:Chg (fun b _=>b=t) w wf:=by
  rw [←hwf]
  repeat (first | refine ze ?_ | refine zf ?_ _ | refine Chg.alloc ?_ _ | refine zd ?_ (.inl rfl) _ | exact zK _ _)
 refine ⟨rfl,hc,?_,HO.out.chg hc (fun _ e=>h1 e.symm) (fun _ e=>h2 e.symm),h1,h2⟩
 rw [←hwf,kbV (kbV (kbV (kbV HB.out _) _) _)]
 rfl
theorem newIso_any (c:Nat) (w:World) (hb:w.heap[c]?=some (Ic #[.int .u64 0] 95 (0,0))) :
  Calls Tp 60 #[Ip (some ⟨c,0,none⟩)] w fun e w'=>e=Ir (.int .u64 1)∧w'=w.setCell ⟨c,0,none⟩ (.int .u64 1):=by
 have c0:=kbB hb 0
 have z0:=kbC hb 0
 simp only [zF,zD] at c0
 clear hb
 go_enter Try.func60,Try.ntmps60
 go_wp2
 go_ret
 exact ⟨rfl,rfl⟩
theorem OrdAt.other {k k2:Kc ord} {w:World} (h:OrdAt k w) (h1:k2.ob=k.ob) (h2:k2.rb=k.rb):OrdAt k2 w:=by
 unfold OrdAt at h ⊢
 rw [h1,h2];exact h
theorem new_any (k0:Kc ord) (d:Int) (b:Bool) (w:World) (h:FitD d) (ho:OrdAt k0 w) :
  Calls Tp 41 #[kcQ k0,.agg #[Ii Ij d,.bool b]] w fun e w'=>e=Ir (Ip (some ⟨w.heap.size+1,0,none⟩))∧Chg (fun _ _=>False) w w' ∧
   MapBlk (⟨1,w.heap.size+2,k0.ob,k0.rb⟩:Kc ord) (mnD d) (mxD d) w' (w.heap.size+1) none 0:=by
 have HO:=zL ho
 have hl:=ho.lt
 clear ho
 have hsf:=fun (a:Addr) (c:Array Value) (w:World)=>run_store Tp w a (.func (.func 63) #[] c) .plain rfl
 unfold kcQ
 go_enter Try.func41,Try.ntmps41
 go_wp2_with fail
 refine kbW (fun w1=>Chg (fun _ _=>False) w w1∧w1.heap[w.heap.size]?=some (Ic #[Ii Ij d,.bool b] 83 (0,0))∧w1.heap[w.heap.size+1]?=some (Ic #[.int .u64 0,Ip (some ⟨w.heap.size+2,0,none⟩),Ip none,Ii Ij 0,.bool false,.bool false,.nilFunc,Ii Ij 0,Ii Ij 0,Ii Ij 0,Ii Ij 0] 99 (0,0)) ∧
  w1.heap[w.heap.size+2]?=some (Ic #[.int .u64 0] 95 (0,0))) ⟨?_,?_,?_,?_⟩ ?_
 ·repeat (first | exact zK _ _ | refine Chg.alloc ?_ _)
 ·rw [kcZ _ _ (by simp;try omega),kcZ _ _ (by simp;try omega)];exact kbT _ _ rfl
 ·rw [kcZ _ _ (by simp;try omega)];exact kbT _ _ (by simp)
 ·exact kbT _ _ (by simp)
 rintro w1 ⟨hc1,hb0,hb1,hb2⟩
 have o0:=kbB hb0 0
 have t0:=kbB hb1 0
 have t6:=kbB hb1 6
 have z0:=kbC hb1 0
 have z6:=kbC hb1 6
 simp only [zF,zD,zE] at o0 t0 t6
 have hl1:=kbF hb2
 have HB1:=zL hb1
 refine (newIso_any _ w1 hb2).mono ?_
 rintro e w2 ⟨rfl,rfl⟩
 clear hb0 hb1 hb2
 go_wp2_with fail
 generalize hw3:World.setCell _ _ _=w3
 have hc3:Chg (fun b _=>b=w.heap.size+1∨b=w.heap.size+2) w1 w3:=by
  rw [←hw3]
  repeat (first | refine ze ?_ | refine zf ?_ _ | refine zd ?_ (.inl (by simp)) _ | exact zK _ _)
 have hb3:w3.heap[w.heap.size+1]?=some (Ic #[.int .u64 1,Ip (some ⟨w.heap.size+2,0,none⟩),Ip none,Ii Ij 0,.bool false,.bool false,kcQ k0,Ii Ij 0,Ii Ij 0,Ii Ij 0,Ii Ij 0] 99 (0,0)):=by
  have h2:(w1.setCell ⟨w.heap.size+2,0,none⟩ (.int .u64 1)).heap[w.heap.size+1]?=_:=(hs_ne _ (by simp)).trans HB1.out
  rw [←hw3,kbV (kbV h2 _)]
  rfl
 clear hw3
 have hc03:Chg (fun _ _=>False) w w3:=hc1.trans' hc3 i3 (fun b o hb h=>by omega)
 refine (init_fresh (⟨1,w.heap.size+2,k0.ob,k0.rb⟩:Kc ord) (w.heap.size+1) d w3 h hb3 ((HO.out.chg hc03 (fun _ h=>h) (fun _ h=>h)).other rfl rfl) (by show w.heap.size+1≠k0.ob;omega) (by show w.heap.size+1≠k0.rb;omega)).mono ?_
 rintro e w4 ⟨rfl,hc4,hB4⟩
 go_wp2_with fail
 go_ret
 exact ⟨rfl,hc03.trans' hc4 i3 (fun b o hb h=>by omega),hB4⟩
end
section
open Go.RowKit
variable {ord:List Int} {k:Kc ord}
def MapIn (k:Kc ord) (mn mx:Nat) (w:World) (F:Nat→Prop) (t:Nat) (l:List (It ord)):Prop :=
 (l=[]∧(∀b,¬F b)∧MapBlk k mn mx w t none 0)∨∃H h,∃T:BT (It ord) h,TreeIn k mn mx w F H t h T∧MapBlk k mn mx w t (some (rid T)) (toL h T).length∧toL h T=l∧1≤(its T).length
def SetPost (k:Kc ord) (mn mx:Nat) (w:World) (F:Nat→Prop) (t:Nat) (l:List (It ord)) (x:It ord) (e:Ending) (w':World):Prop :=
 SetRet l x e∧∃F',MapIn k mn mx w' F' t (insL ltM x l)∧Chg (fun b _=>F b∨b=t) w w'∧∀b,F' b→F b∨w.heap.size≤b
variable {l:List (It ord)} {F:Nat→Prop} {mn mx:Nat} {w:World} {t:Nat}
theorem set_any (h:MapIn k mn mx w F t l) (x:It ord) (hl:l.length < 100000000000000) (hmn:1≤mn) (hmx:3≤mx) (hmx2:mx≤1000) (hmh:mn≤mx / 2) (hmh2:mn≤mx - (mx / 2+1)) :
  Calls Tp 78 #[Ip (some ⟨t,0,none⟩),aggM x,Ip none] w (SetPost k mn mx w F t l x):=by
 have fin:∀(G:Nat→Prop) e w',(∀b,G b→F b)→SetTop k mn mx w G t l x e w'→SetPost k mn mx w F t l x e w':=by
  rintro G e w' hG ⟨hr,F',H',h',T',r1,r2,r3,r4,r5,r6⟩
  exact ⟨hr,F',.inr ⟨H',h',T',r1,r2,r3,r4⟩,r5.mono (fun b _ _ h=>h.imp (hG b) id),fun b hb=>(r6 b hb).imp (hG b) id⟩
 rcases h with ⟨rfl,hF,hB⟩ | ⟨H,h,T,hI,hB,rfl,h1⟩
 ·exact (set_empty hB hmn hmx hmx2 hmh hmh2 x).mono fun e w' h=>fin _ e w' (fun _ h=>h.elim) h
 ·by_cases ha:Avail mx h T x
  ·exact (set_avail hI hB x ha h1 hl).mono fun e w' h=>fin F e w' (fun _ h=>h) h
  ·exact (set_full hI hB x ha hl).mono fun e w' h=>fin F e w' (fun _ h=>h) h
def kgP (l:List (It ord)):List (It ord):=l.foldl (fun acc x=>insL ltM x acc) []
theorem MapIn.chg {w w':World} (h:MapIn k mn mx w F t l) (c:Chg (fun _ _=>False) w w'):MapIn k mn mx w' F t l:=by
 rcases h with ⟨h1,h2,h3⟩ | ⟨H,h,T,h1,h2,h3,h4⟩
 ·exact .inl ⟨h1,h2,h3.chg c i3⟩
 ·exact .inr ⟨H,h,T,⟨h1.fam.chg c i3,h1.map.chg c i3,h1.out,h1.isT,h1.nd,h1.sh,h1.srt,h1.big,h1.m3,h1.m1000,h1.mh,h1.mh2⟩,h2.chg c i3,h3,h4⟩
theorem MapIn.chgA {A:Nat→Nat→Prop} {w w':World} (h:MapIn k mn mx w F t l) (c:Chg A w w') (h1:∀b o,F b→¬A b o) (h2:∀b o,MOwn k t b→¬A b o):MapIn k mn mx w' F t l:=by
 rcases h with ⟨g1,g2,g3⟩ | ⟨H,h,T,g1,g2,g3,g4⟩
 ·exact .inl ⟨g1,g2,g3.chg c h2⟩
 ·exact .inr ⟨H,h,T,⟨g1.fam.chg c h1,g1.map.chg c h2,g1.out,g1.isT,g1.nd,g1.sh,g1.srt,g1.big,g1.m3,g1.m1000,g1.mh,g1.mh2⟩,g2.chg c h2,g3,g4⟩
theorem MapIn.own {t b:Nat} (h:MapIn k mn mx w F t l) (hb:MOwn k t b):b < w.heap.size:=by
 rcases h with ⟨_,_,g3⟩ | ⟨H,h,T,g1,_⟩
 ·exact g3.at_.lt hb
 ·exact g1.map.lt hb
theorem MapIn.famLt {t b:Nat} (h:MapIn k mn mx w F t l) (hb:F b):b < w.heap.size:=by
 rcases h with ⟨_,g2,_⟩ | ⟨H,h,T,g1,_⟩
 ·exact absurd hb (g2 b)
 ·exact g1.fam.lt hb
theorem growL_take {j:Nat} {x:It ord} (h:l[j]?=some x):kgP (l.take (j+1))=insL ltM x (kgP (l.take j)):=by
 unfold kgP
 rw [List.take_add_one,h,List.foldl_append];rfl
theorem growL_len:∀(l acc:List (It ord)),(l.foldl (fun acc x=>insL ltM x acc) acc).length≤acc.length+l.length
 | [],acc=>by simp
 | x::l,acc=>by
  have h1:=growL_len l (insL ltM x acc)
  have h2:=insL_len (lt:=ltM) (x:=x) (l:=acc)
  simp only [List.foldl_cons,List.length_cons]
  split at h2<;>omega
theorem kgB (l:List (It ord)) (j:Nat):(kgP (l.take j)).length≤l.length:=by
 have:=growL_len (l.take j) []
 simp only [List.length_nil,zV] at this
 unfold kgP;omega
end
section
open Go.RowKit
theorem its_head {α:Type} {h:Nat} {T:BT α h} {mn mx:Nat} (hs:Sh mn mx h T) (h1:1≤(its T).length):1≤(toL h T).length:=Nat.le_trans h1 (its_sub hs).length_le
theorem Fam.node {α:Type} {p:Par α} {w:World} {F:Nat→Prop} {H:Nat→Option (NodeR α)} (h:Fam p w F H) {n:Nat} {r:NodeR α} (hn:H n=some r):∃l,NodeAt p w n r l:=by
 obtain ⟨l,h1,_⟩:=h.work hn
 exact ⟨l,h1⟩
theorem Fam.nodeB {α:Type} {p:Par α} {w:World} {F:Nat→Prop} {H:Nat→Option (NodeR α)} (h:Fam p w F H) {n:Nat} {r:NodeR α} (hn:H n=some r):∃l,NodeAt p w n r l∧∀b,Blk n r l b→F b:=by
 obtain ⟨l,h1,h2,_⟩:=h.work hn
 exact ⟨l,h1,h2⟩
end
section
open Go.RowKit
variable {ord:List Int} {k:Kc ord}
theorem blk2 {w:World} {b:Nat} {T:TypeId} {fr:Nat×Nat} {u0 u1:Value} (h:w.heap[b]?=some (Ic #[u0,u1] T fr)) (v0 v1:Value):((w.setCell ⟨b,0,none⟩ v0).setCell ⟨b,1,none⟩ v1).heap[b]?=some (Ic #[v0,v1] T fr):=by
 rw [kbV (kbV h _)];rfl
theorem SetHint_any {mn mx:Nat} {w:World} {F:Nat→Prop} {t:Nat} {l:List (It ord)} (h:MapIn k mn mx w F t l) (x:It ord) (hl:l.length < 100000000000000) (hmn:1≤mn) (hmx:3≤mx) (hmx2:mx≤1000) (hmh:mn≤mx / 2) (hmh2:mn≤mx - (mx / 2+1)) :
  Calls Tp 65 #[Ip (some ⟨t,0,none⟩),aggM x,Ip none] w (SetPost k mn mx w F t l x):=by
 have hmlt:=fun b (hb:MOwn k t b)=>h.own hb
 have hflt:=fun b (hb:F b)=>h.famLt hb
 have hcall:=fun w1 (c:Chg (fun _ _=>False) w w1)=>set_any (h.chg c) x hl hmn hmx hmx2 hmh hmh2
 have HC:=zL hcall
 clear hcall
 unfold aggM at HC ⊢
 go_enter Try.func65,Try.ntmps65
 go_wp2_with fail
 refine kbW (fun w1=>Chg (fun _ _=>False) w w1∧w1.heap[w.heap.size+1]?=some (Ic #[Ii Ij 0,Ii Ij 0] 27 (0,0))) ⟨((zK _ _).alloc _).alloc _,kbT _ _ (by simp)⟩ ?_
 rintro w1 ⟨hc1,hbp⟩
 have hlp:=kbF hbp
 refine (HC.out w1 hc1).mono ?_
 rintro e w2 ⟨hret,F',hM2,hc2,hF2⟩
 have htl:=hmlt t MOwn.self
 have hbp2:w2.heap[w.heap.size+1]?=some (Ic #[Ii Ij 0,Ii Ij 0] 27 (0,0)):=by
  rw [hc2.block hlp (fun _ h=>by
   rcases h with h | h
   ·have:=hflt _ h;omega
   ·omega)]
  exact hbp
 have p0:=kbB hbp2 0
 have p1:=kbB hbp2 1
 have pf0:=kbC hbp2 0
 have pf1:=kbC hbp2 1
 simp only [zF,zD,zE] at p0 p1
 have hsz1:=hc1.size
 have hres:∀wl,Chg (fun b _=>b=w.heap.size+1) w2 wl→SetPost k mn mx w F t l x e wl:=by
  intro wl hcl
  refine ⟨hret,F',hM2.chgA hcl (fun b _ hb e=>?_) (fun b _ hb e=>by have:=hmlt b hb;omega),?_,fun b hb=>?_⟩
  ·rcases hF2 b hb with h | h
   ·have:=hflt _ h;omega
   ·omega
  ·refine (hc1.trans' hc2 (B:=fun b _=>F b∨b=t) (fun _ _ _ h=>h.elim) i3).trans' hcl i3 (fun b o hb e=>by omega)
  ·rcases hF2 b hb with h | h
   ·exact .inl h
   ·exact .inr (by omega)
 have HRES:=zL hres
 have HBP2:=zL hbp2
 clear hres hbp hbp2 HC
 have hret2:=hret
 rcases hret2 with ⟨y,_,rfl⟩ | ⟨_,rfl⟩
 ·go_wp2_with fail
  refine kbQ (fun wl=>Chg (fun b _=>b=w.heap.size+1) w2 wl∧wl.heap[w.heap.size+1]?=some (Ic #[Ii Ij y.1,Ii Ij y.2] 27 (0,0))) ⟨?_,?_⟩ ?_
  ·repeat (first | refine ze ?_ | refine zf ?_ _ | refine zd ?_ (.inl rfl) _ | exact zK _ _)
  ·exact blk2 (blk2 HBP2.out _ _) _ _
  clear p0 p1 pf0 pf1
  rintro wl ⟨hcl,hbl⟩
  have p0:=kbB hbl 0
  have p1:=kbB hbl 1
  simp only [zF,zD,zE] at p0 p1
  refine bodyPost_ret (v:=Iu #[.agg #[Ii Ij y.1,Ii Ij y.2],.bool true]) (by simp [results,Try.results65,go_sem,p0,p1]) rfl ?_
  exact HRES.out _ hcl
 ·go_wp2_with fail
  refine kbQ (fun wl=>Chg (fun b _=>b=w.heap.size+1) w2 wl∧wl.heap[w.heap.size+1]?=some (Ic #[Ii Ij 0,Ii Ij 0] 27 (0,0))) ⟨?_,?_⟩ ?_
  ·repeat (first | refine ze ?_ | refine zf ?_ _ | refine zd ?_ (.inl rfl) _ | exact zK _ _)
  ·exact blk2 (blk2 HBP2.out _ _) _ _
  clear p0 p1 pf0 pf1
  rintro wl ⟨hcl,hbl⟩
  have p0:=kbB hbl 0
  have p1:=kbB hbl 1
  simp only [zF,zD,zE] at p0 p1
  refine bodyPost_ret (v:=Iu #[.agg #[Ii Ij 0,Ii Ij 0],.bool false]) (by simp [results,Try.results65,go_sem,p0,p1]) rfl ?_
  exact HRES.out _ hcl
theorem Set_any {mn mx:Nat} {w:World} {F:Nat→Prop} {t:Nat} {l:List (It ord)} (h:MapIn k mn mx w F t l) (x:It ord) (hl:l.length < 100000000000000) (hmn:1≤mn) (hmx:3≤mx) (hmx2:mx≤1000) (hmh:mn≤mx / 2) (hmh2:mn≤mx - (mx / 2+1)) :
  Calls Tp 44 #[Ip (some ⟨t,0,none⟩),aggM x] w (SetPost k mn mx w F t l x):=by
 have hmlt:=fun b (hb:MOwn k t b)=>h.own hb
 have hflt:=fun b (hb:F b)=>h.famLt hb
 have hcall:=fun w1 (c:Chg (fun _ _=>False) w w1)=>SetHint_any (h.chg c) x hl hmn hmx hmx2 hmh hmh2
 have HC:=zL hcall
 clear hcall
 unfold aggM at HC ⊢
 go_enter Try.func44,Try.ntmps44
 go_wp2_with fail
 refine kbW (fun w1=>Chg (fun _ _=>False) w w1∧w1.heap[w.heap.size+1]?=some (Ic #[Ii Ij 0,Ii Ij 0] 27 (0,0))) ⟨((zK _ _).alloc _).alloc _,kbT _ _ (by simp)⟩ ?_
 rintro w1 ⟨hc1,hbp⟩
 have hlp:=kbF hbp
 refine (HC.out w1 hc1).mono ?_
 rintro e w2 ⟨hret,F',hM2,hc2,hF2⟩
 have htl:=hmlt t MOwn.self
 have hbp2:w2.heap[w.heap.size+1]?=some (Ic #[Ii Ij 0,Ii Ij 0] 27 (0,0)):=by
  rw [hc2.block hlp (fun _ h=>by
   rcases h with h | h
   ·have:=hflt _ h;omega
   ·omega)]
  exact hbp
 have p0:=kbB hbp2 0
 have p1:=kbB hbp2 1
 have pf0:=kbC hbp2 0
 have pf1:=kbC hbp2 1
 simp only [zF,zD,zE] at p0 p1
 have hsz1:=hc1.size
 have hres:∀wl,Chg (fun b _=>b=w.heap.size+1) w2 wl→SetPost k mn mx w F t l x e wl:=by
  intro wl hcl
  refine ⟨hret,F',hM2.chgA hcl (fun b _ hb e=>?_) (fun b _ hb e=>by have:=hmlt b hb;omega),?_,fun b hb=>?_⟩
  ·rcases hF2 b hb with h | h
   ·have:=hflt _ h;omega
   ·omega
  ·refine (hc1.trans' hc2 (B:=fun b _=>F b∨b=t) (fun _ _ _ h=>h.elim) i3).trans' hcl i3 (fun b o hb e=>by omega)
  ·rcases hF2 b hb with h | h
   ·exact .inl h
   ·exact .inr (by omega)
 have HRES:=zL hres
 have HBP2:=zL hbp2
 clear hres hbp hbp2 HC
 have hret2:=hret
 rcases hret2 with ⟨y,_,rfl⟩ | ⟨_,rfl⟩
 ·go_wp2_with fail
  refine kbQ (fun wl=>Chg (fun b _=>b=w.heap.size+1) w2 wl∧wl.heap[w.heap.size+1]?=some (Ic #[Ii Ij y.1,Ii Ij y.2] 27 (0,0))) ⟨?_,?_⟩ ?_
  ·repeat (first | refine ze ?_ | refine zf ?_ _ | refine zd ?_ (.inl rfl) _ | exact zK _ _)
  ·exact blk2 HBP2.out _ _
  clear p0 p1 pf0 pf1
  rintro wl ⟨hcl,hbl⟩
  have p0:=kbB hbl 0
  have p1:=kbB hbl 1
  simp only [zF,zD,zE] at p0 p1
  refine bodyPost_ret (v:=Iu #[.agg #[Ii Ij y.1,Ii Ij y.2],.bool true]) (by simp [results,Try.results44,go_sem,p0,p1]) rfl ?_
  exact HRES.out _ hcl
 ·go_wp2_with fail
  refine kbQ (fun wl=>Chg (fun b _=>b=w.heap.size+1) w2 wl∧wl.heap[w.heap.size+1]?=some (Ic #[Ii Ij 0,Ii Ij 0] 27 (0,0))) ⟨?_,?_⟩ ?_
  ·repeat (first | refine ze ?_ | refine zf ?_ _ | refine zd ?_ (.inl rfl) _ | exact zK _ _)
  ·exact blk2 HBP2.out _ _
  clear p0 p1 pf0 pf1
  rintro wl ⟨hcl,hbl⟩
  have p0:=kbB hbl 0
  have p1:=kbB hbl 1
  simp only [zF,zD,zE] at p0 p1
  refine bodyPost_ret (v:=Iu #[.agg #[Ii Ij 0,Ii Ij 0],.bool false]) (by simp [results,Try.results44,go_sem,p0,p1]) rfl ?_
  exact HRES.out _ hcl
end
section
open Go.RowKit
theorem lock_any (t:Nat) (b:Bool) (w:World):Calls Tp 46 #[Ip (some ⟨t,0,none⟩),.bool b] w fun e w'=>e=Ir (.bool false)∧w=w':=by
 go_enter Try.func46,Try.ntmps46
 go_wp2
 go_ret
 exact ⟨rfl,rfl⟩
def lastV {ord:List Int} (o:Option (It ord)):Value:=match o with
 | some x=>.tuple #[.agg #[Ii Ij x.1,Ii Ij x.2],.bool true]
 | none=>.tuple #[.agg #[Ii Ij 0,Ii Ij 0],.bool false]
theorem MapBlk.empty {ord:List Int} {k:Kc ord} {mn mx t:Nat} {w:World} {root:Option Nat} {cnt:Int} (h:MapBlk k mn mx w t root cnt):w.cell? ⟨t,7,none⟩=some (Ii Ij 0)∧w.cell? ⟨t,8,none⟩=some (Ii Ij 0) :=
 ⟨by rw [kbB h.blk];rfl,by rw [kbB h.blk];rfl⟩
end
section
open Go.RowKit
variable {ord:List Int} {k:Kc ord}
def ClonePost (ord:List Int) (w:World) (e:Ending) (w':World):Prop :=
 ∃v',e=Ir v'∧Chg (fun _ _=>False) w w'∧((ord=[]∧v'=Is none 0 0)∨∃b o cap,v'=Is (some ⟨b,o,none⟩) ord.length cap∧w.heap.size≤b∧b < w'.heap.size∧∀j x,ord[j]?=some x→w'.cell? ⟨b,o+j,none⟩=some (Ii Ij x))
theorem flat_int (xs:List Int) (j:Nat) (x:Int) (h:xs[j]?=some x):(flat intE.par xs)[j]?=some (Ii Ij x):=by
 have h2:(intE.par.enc x)[0]?=some (Ii Ij x):=rfl
 have:=flat_get intE.par h h2
 have e:intE.par.es=1:=rfl
 rw [e] at this
 simpa using this
theorem clone_any (v:Value) (w:World) (hs:SlE intE w v ord) (hlen:ord.length≤2147483647) :
  Calls Tp 62 #[v] w (ClonePost ord w):=by
 obtain ⟨a,cap,rfl,hcap,hc⟩:=hs
 have qS:∀(w:World) (a:Option Addr) (n c:Nat),(binOp .eql 22 (.slice a n c) (Is none 0 0)).run Tp w=.ok (.bool a.isNone) w:=fun w a n c=>Lib.run_eql_slice_nil w _ _ _ _ _ _ _ Try.underlying22
 rcases a with _ | ad
 ·have h0:ord=[]:=by
   rcases hc with h | ⟨b,o,h,_⟩
   ·exact h
   ·cases h
  have hl0:ord.length=0:=by rw [h0];rfl
  rw [hl0]
  have H0:=zL h0
  clear hc h0 hl0 hcap
  go_enter Try.func62,Try.ntmps62
  go_wp2
  go_ret
  exact ⟨_,rfl,zK _ _,.inl ⟨H0.out,rfl⟩⟩
 ·have hsrc:(∃ad',some ad=some ad'∧∀j u,(flat intE.par ord)[j]?=some u→w.cell? (ad'.add j)=some u)∨(ord.length=0∧flat intE.par ord=[]):=by
   rcases hc with h | ⟨b,o,h,hcell⟩
   ·exact .inr ⟨by rw [h];rfl,by rw [h];rfl⟩
   ·refine .inl ⟨ad,rfl,fun j u hj=>?_⟩
    obtain rfl:=Iq h
    rw [kdS];exact hcell j u hj
  have HS:=zL hsrc
  obtain ⟨n,hn⟩:∃n,ord.length=n:=⟨_,rfl⟩
  have HN:=zL hn
  rw [hn] at hlen ⊢
  clear hc hsrc hn
  obtain ⟨i0,hi0,hz0,hz1,hz2⟩:=info_parts infoInt
  go_enter Try.func62,Try.ntmps62
  have hca:Chg (fun _ _=>False) w (w.alloc (Ic #[] 3)):=(zK _ _).alloc _
  go_wp2_with (refine kdH (by rfl) _ _ _ (by rfl) 3 i0 _ 1 8 Try.underlying22 hi0 hz0 hz1 hz2 rfl w.heap.size 0 0 0 (by rfl) [] ?_ rfl (zi _) (some ad) n _ (by rfl) (flat intE.par ord) ?_ ?_ (flat_one _ _) ?_ ?_ ?_)
  ·exact RowAt.of_block (c:=#[]) (kbT _ _ rfl) _ _ (by simp) (by simp) (by simp)
  ·have:=kcW intE.par ord
   have e:intE.par.es=1:=rfl
   rw [this,e,HN.out]
  ·rcases HS.out with ⟨ad',h1,h2⟩ | ⟨h1,h2⟩
   ·exact .inl ⟨ad',h1,fun j u hj=>hca.q (h2 j u hj)⟩
   ·exact .inr ⟨by rw [←HN.out];exact h1,h2⟩
  ·unfold maxLen;omega
  ·omega
  intro b' o' cap' w' happ
  have hrow:=happ.row
  rw [List.nil_append] at hrow
  have hpl:w.heap.size≤b':=by
   rcases happ.place with h | h
   ·have:=h.1;omega
   ·have h2:=h.1;simp at h2;omega
  have hcc:Chg (fun _ _=>False) w w':=hca.trans' happ.chg i3 (fun b o hb h=>by have:=h.1;omega)
  have FIN:=zL (show ClonePost ord w (Ir (Is (some ⟨b',o',none⟩) n cap')) w' from ⟨_,rfl,hcc,.inr ⟨b',o',cap',by rw [HN.out],hpl,hrow.lt,fun j x hx=>hrow.cell (flat_int ord j x hx)⟩⟩)
  clear happ hrow hpl hcc
  go_wp2
  go_ret
  exact FIN.out
def BeforePost (ord:List Int) (w:World) (e:Ending) (w':World):Prop :=
 ∃ob rb,e=Ir (.func (.func 63) #[] #[Ip (some ⟨ob,0,none⟩)])∧Chg (fun _ _=>False) w w'∧w.heap.size≤ob∧w.heap.size≤rb∧∀iso ctr,OrdAt (⟨iso,ctr,ob,rb⟩:Kc ord) w'
theorem before_any' (v:Value) (w:World) (hs:SlE intE w v ord) (hlen:ord.length≤2147483647) :
  Calls Tp 42 #[v] w (BeforePost ord w):=by
 have hmf:∀(fn:Fn) (first cap:Array Value) (w:World),(Instr.makeFunc fn first cap).run Tp w=.ok (.func fn first cap) w:=fun _ _ _ _=>rfl
 have HC:=zL (clone_any v w hs hlen)
 clear hs
 go_enter Try.func42,Try.ntmps42
 go_wp2_with fail
 refine HC.out.mono ?_
 rintro e w1 ⟨v',rfl,hc1,hv⟩
 have hsz:=hc1.size
 have fin:∀w2,w2=w1.alloc (Ic #[v'] 22)→BeforePost ord w (Ir (.func (.func 63) #[] #[Ip (some ⟨w1.heap.size,0,none⟩)])) w2:=by
  rintro w2 rfl
  have hal:Chg (fun _ _=>False) w1 (w1.alloc (Ic #[v'] 22)):=(zK _ _).alloc _
  rcases hv with ⟨h1,h2⟩ | ⟨b,o,cap,h1,h2,h3,h4⟩
  ·exact ⟨w1.heap.size,w1.heap.size,rfl,hc1.trans hal,hsz,hsz,fun iso ctr=>⟨by show w1.heap.size < _;simp,hlen,v',kbT _ _ rfl,.inl ⟨h1,h2⟩⟩⟩
  ·exact ⟨w1.heap.size,b,rfl,hc1.trans hal,hsz,h2,fun iso ctr=>⟨by show b < _;simp;omega,hlen,v',kbT _ _ rfl,.inr ⟨o,cap,h1,fun j x hx=>hal.q (h4 j x hx)⟩⟩⟩
 have FIN:=zL fin
 have hv2:∃a n c,v'=.slice a n c:=by
  rcases hv with ⟨_,h2⟩ | ⟨b,o,cap,h1,_⟩
  ·exact ⟨_,_,_,h2⟩
  ·exact ⟨_,_,_,h1⟩
 obtain ⟨a,n,c,rfl⟩:=hv2
 clear fin hv
 go_wp2
 go_ret
 exact FIN.out _ rfl
theorem options_any (v:Value) (d:Int) (b:Bool) (w:World) (hv:∃a n c,v=.slice a n c) :
  Calls Tp 43 #[.agg #[v,Ii Ij d,.bool b]] w fun e w'=>e=Ir (.agg #[Ii Ij d,.bool b])∧Chg (fun _ _=>False) w w':=by
 obtain ⟨a,n,c,rfl⟩:=hv
 go_enter Try.func43,Try.ntmps43
 go_wp2_with fail
 refine kbQ (fun w1=>Chg (fun _ _=>False) w w1∧w1.heap[w.heap.size+1]?=some (Ic #[Ii Ij d,.bool b] 83 (0,0))) ⟨?_,?_⟩ ?_
 ·repeat (first | refine ze ?_ | refine zf ?_ _ | refine Chg.alloc ?_ _ | refine zd ?_ (.inr (by simp)) _ | exact zK _ _)
 ·exact kbT _ _ (by simp)
 rintro w1 ⟨hc,hb⟩
 have p0:=kbB hb 0
 have p1:=kbB hb 1
 simp only [zF,zD,zE] at p0 p1
 refine bodyPost_ret (v:=.agg #[Ii Ij d,.bool b]) (by simp [results,Try.results43,go_sem,p0,p1]) rfl ?_
 exact ⟨rfl,hc⟩
def GrowPost (ord:List Int) (d:Int) (w:World) (l:List (It ord)) (e:Ending) (w':World):Prop :=
 ∃(k:Kc ord) (t:Nat) (F:Nat→Prop),e=Ir (Ip (some ⟨t,0,none⟩))∧MapIn k (mnD d) (mxD d) w' F t (kgP l)∧Chg (fun _ _=>False) w w'∧(∀b,F b→w.heap.size≤b)∧(∀b,MOwn k t b→w.heap.size≤b)
theorem grow_big (v:Value) (d:Int) (nl:Bool) (p:Option Addr) (cap:Nat) (l:List (It ord)) (w:World) (hd:FitD d) (hs:SlE intE w v ord) (hol:ord.length≤2147483647) (hl:ItemsAt w p l) (hlen:l.length≤8589934592) :
  Calls Tp 24 #[.agg #[v,Ii Ij d,.bool nl],.slice p l.length cap] w (GrowPost ord d w l):=by
 have hv:∃a n c,v=.slice a n c:=by
  obtain ⟨a,c,e,_⟩:=hs
  exact ⟨_,_,_,e⟩
 have HS:=zL hs
 have HL:=zL hl
 have HOP:=zL (fun w1=>options_any v d nl w1 hv)
 have hbf:=fun w1 (c:Chg (fun _ _=>False) w w1)=>before_any' v w1 (HS.out.chg c) hol
 have HBF:=zL hbf
 obtain ⟨a,n,c,rfl⟩:=hv
 have hdim:=hd.dims
 clear hs hl hbf
 go_enter Try.func24,Try.ntmps24
 go_wp2_with fail
 refine kbD (fun w1=>Chg (fun _ _=>False) w w1∧w1.heap[w.heap.size]?=some (Ic #[.slice a n c,Ii Ij d,.bool nl] 24 (0,0))) ⟨(zK _ _).alloc _,kbT _ _ rfl⟩ ?_
 rintro w1 ⟨hc1,hb1⟩
 have q0:=kbB hb1 0
 have q1:=kbB hb1 1
 have q2:=kbB hb1 2
 simp only [zF,zD,zE] at q0 q1 q2
 have hsz1:=hc1.size
 clear hb1
 refine kbM (fun w'=>w'.cell? ⟨w.heap.size,0,none⟩=some (.slice a n c)∧w'.cell? ⟨w.heap.size,1,none⟩=some (Ii Ij d)∧w'.cell? ⟨w.heap.size,2,none⟩=some (.bool nl)) (.soft 0 (.soft 1 (.soft 3 (.hard 2 (.hard 4 (.hard 5 (.soft 6 .nil))))))) (by kernel_rfl) (by kernel_rfl) (fun _ _ _ _ _ h=>h) ⟨q0,q1,q2⟩ ?_
 repeat (first | (refine kbH (by rfl) ?_ ?_ ?_ ?_;rotate_left;(· simp [zI,yielded];done);(· intro w' hS;try obtain ⟨a1,a2,a3⟩:=hS;go_simp;try with_reducible rfl);simp only [zJ,zA,zB,zC]) | (refine kbJ (by rfl) ?_ ?_;(· simp [zI,yielded];done);simp only [zJ,zA,zB,zC]))
 refine kbY (by rfl) (by simp [zI,yielded]) (fun K hK=>?_)
 go_simp
 refine (HBF.out _ hc1.drew).mono ?_
 rintro e w2 ⟨ob,rb,rfl,hc2,hob,hrb,hord⟩
 refine hK _ _ ⟨hc2.q q0,hc2.q q1,hc2.q q2⟩ ?_
 clear hK K
 repeat (first | (refine kbH (by rfl) ?_ ?_ ?_ ?_;rotate_left;(· simp [zI,yielded];done);(· intro w' hS;try obtain ⟨a1,a2,a3⟩:=hS;go_simp;try with_reducible rfl);simp only [zJ,zA,zB,zC]) | (refine kbJ (by rfl) ?_ ?_;(· simp [zI,yielded];done);simp only [zJ,zA,zB,zC]))
 refine kbY (by rfl) (by simp [zI,yielded]) (fun K hK=>?_)
 go_simp
 refine (HOP.out w2).mono ?_
 rintro e w3 ⟨rfl,hc3⟩
 have hc13:=hc2.trans hc3
 refine hK _ _ ⟨hc13.q q0,hc13.q q1,hc13.q q2⟩ ?_
 clear hK K
 repeat (first | (refine kbH (by rfl) ?_ ?_ ?_ ?_;rotate_left;(· simp [zI,yielded];done);(· intro w' hS;try obtain ⟨a1,a2,a3⟩:=hS;go_simp;try with_reducible rfl);simp only [zJ,zA,zB,zC]) | (refine kbJ (by rfl) ?_ ?_;(· simp [zI,yielded];done);simp only [zJ,zA,zB,zC]))
 refine kbY (by rfl) (by simp [zI,yielded]) (fun K hK=>?_)
 go_simp
 refine (new_any (⟨0,0,ob,rb⟩:Kc ord) d nl w3 hd ((hord 0 0).chg hc3 (fun _ h=>h) (fun _ h=>h))).mono ?_
 rintro e w4 ⟨rfl,hc4,hB4⟩
 have hc14:=hc13.trans hc4
 refine hK _ _ ⟨hc14.q q0,hc14.q q1,hc14.q q2⟩ ?_
 clear hK K
 repeat (first | (refine kbH (by rfl) ?_ ?_ ?_ ?_;rotate_left;(· simp [zI,yielded];done);(· intro w' hS;try obtain ⟨a1,a2,a3⟩:=hS;go_simp;try with_reducible rfl);simp only [zJ,zA,zB,zC]) | (refine kbJ (by rfl) ?_ ?_;(· simp [zI,yielded];done);simp only [zJ,zA,zB,zC]))
 refine kcT ?_
 have hsz3:=hc13.size
 have hszd:w1.drew.heap.size=w1.heap.size:=rfl
 obtain ⟨t,ht⟩:∃t,t=w3.heap.size+1:=⟨_,rfl⟩
 obtain ⟨kk,hkk⟩:∃kk:Kc ord,kk=⟨1,w3.heap.size+2,ob,rb⟩:=⟨_,rfl⟩
 rw [←ht,←hkk] at hB4
 rw [←ht]
 have hown:∀b,MOwn kk t b→w.heap.size≤b:=by
  rw [hkk]
  rintro b (h | h | h)
  ·omega
  ·have h2:b=ob:=h;omega
  ·have h2:b=rb:=h;omega
 have hc04:Chg (fun _ _=>False) w w4:=(hc1.trans (zK _ _).drew).trans hc14
 clear ht hkk hord hc4 hc13 hc14 hc2 hc3 q0 q1 q2 HBF HOP HS hob hrb
 go_wp2_with fail
 go_loopw [16] (fun i wr=>∃(j:Nat) (F:Nat→Prop),j≤l.length∧i=Ii Ij j∧MapIn kk (mnD d) (mxD d) wr F t (kgP (l.take j))∧Chg (fun _ _=>False) w wr∧(∀b,F b→w.heap.size≤b)) (fun i _=>l.length - (intOf i).toNat)
 case atStart=>exact ⟨0,fun _=>False,Nat.zero_le _,rfl,.inl ⟨rfl,fun _ h=>h,hB4⟩,hc04,fun _ h=>h.elim⟩
 case round =>
  obtain ⟨j,F,hj,rfl,hM,hc,hF⟩:=hrel
  have hsz:=hc.size
  by_cases hlt:j < l.length
  ·obtain ⟨x,hx⟩:∃x,l[j]?=some x:=⟨_,zH hlt⟩
   rcases HL.out.chg hc with hl0 | ⟨b,o,rfl,hcell⟩
   ·subst hl0;simp at hlt
   obtain ⟨g0,g1⟩:=hcell j x hx
   have i0:(0:Int)≤(j:Int):=by omega
   have i1:(j:Int) < (l.length:Int):=by omega
   have hgl:=kgB l j
   have hgt:=growL_take hx
   have htl:=hown t MOwn.self
   clear hcell hx
   have hs1:=Set_any (hM.chg ((zK (fun _ _=>False) wr).alloc (Ic #[Ii Ij x.1,Ii Ij x.2] 27))) x (by omega) hdim.1 hdim.2.1 hdim.2.2.1 hdim.2.2.2.1 hdim.2.2.2.2
   unfold aggM at hs1
   have HS1:=zL hs1
   clear hs1
   go_wp2_with fail
   refine HS1.out.mono ?_
   rintro e w2 ⟨hret,F',hM2,hc2,hF2⟩
   have hc02:Chg (fun _ _=>False) w w2:=(hc.trans ((zK (fun _ _=>False) wr).alloc _)).trans' hc2 i3 (fun b o hb h=>by
    rcases h with h | h
    ·have:=hF b h;omega
    ·omega)
   have hF2':∀b,F' b→w.heap.size≤b:=fun b hb=>by
    rcases hF2 b hb with h | h
    ·exact hF b h
    ·have h2:wr.heap.size≤(wr.alloc (Ic #[Ii Ij x.1,Ii Ij x.2] 27)).heap.size:=(((zK (fun _ _=>False) wr).alloc _)).size
     omega
   rcases hret with ⟨y,_,rfl⟩ | ⟨_,rfl⟩
   all_goals
    go_wp2_with fail
    go_roundw
    case rel=>exact ⟨j+1,F',by omega,by go_num,by rw [hgt];exact hM2,hc02,hF2'⟩
    case measure=>simp [intOf];omega
  ·obtain rfl:j=l.length:=by omega
   go_wp2_with fail
   go_ret
   exact ⟨kk,t,F,rfl,by rw [List.take_length] at hM;exact hM,hc,hF,hown⟩
theorem grow_any (v:Value) (d:Int) (nl:Bool) (p:Option Addr) (cap:Nat) (l:List (It ord)) (w:World) (hd:FitD d) (hs:SlE intE w v ord) (hol:ord.length≤2147483647) (hl:ItemsAt w p l) (hlen:l.length≤2147483647) :
  Calls Tp 24 #[.agg #[v,Ii Ij d,.bool nl],.slice p l.length cap] w (GrowPost ord d w l) :=
 grow_big v d nl p cap l w hd hs hol hl (by omega)
end
section
open Go.RowKit
theorem rank_list (v:Value) (os:List Int) (w:World) (hs:SlE intE w v os) (hlen:os.length≤2147483647):RankOk v (rkL os) w:=by
 intro w' hc key
 have hs':=hs.chg hc
 obtain ⟨a,cap,rfl⟩:=hs.form
 by_cases h0:os.length=0
 ·have e1:rkL os key=key:=by simp [rkL,h0]
  rw [e1,h0]
  go_enter Try.func33,Try.ntmps33
  go_wp2
  go_ret
  exact ⟨rfl,rfl⟩
 ·obtain ⟨n,hn⟩:∃n,os.length=n:=⟨_,rfl⟩
  have hn0:(0:Int) < (n:Int):=by omega
  have hr:=rem_twice hn0 key
  have g1:=Int.emod_nonneg key (by omega:(n:Int)≠0)
  have g2:=Int.emod_lt_of_pos key hn0
  obtain ⟨q,hq⟩:∃q:Nat,key % (n:Int)=(q:Int):=⟨(key % (n:Int)).toNat,by omega⟩
  have hql:q < os.length:=by omega
  have hx:os[q]?=some os[q]:=zH hql
  have e1:rkL os key=os[q]:=by
   have:¬n=0:=by omega
   simp [rkL,hn,hq,this,hx]
  obtain ⟨b,o,rfl,hcell⟩:=hs'.int hx
  rw [e1,hn]
  obtain ⟨y,hy⟩:∃y,os[q]=y:=⟨_,rfl⟩
  rw [hy] at hcell ⊢
  have t1:=Int.tmod_lt_of_pos key hn0
  have t2:=Int.lt_tmod_of_pos key hn0
  have n1:(n:Int)≤2147483647:=by omega
  have nz:¬(n:Int)=0:=by omega
  have q0:(0:Int)≤(q:Int):=by omega
  have q1:(q:Int) < (n:Int):=by omega
  rw [hq] at hr
  clear hq hx e1 hy g1 g2 h0 hn
  go_enter Try.func33,Try.ntmps33
  go_wp2
  go_ret
  exact ⟨rfl,rfl⟩
end
section
open Go.RowKit
def exL:List (Int×Int):=[(5,1),(3,2),(9,3),(3,4),(1,5),(7,6),(8,7)]
def exCells:Array Value:=#[Ii Ij 5,Ii Ij 1,Ii Ij 3,Ii Ij 2,Ii Ij 9,Ii Ij 3,Ii Ij 3,Ii Ij 4,Ii Ij 1,Ii Ij 5,Ii Ij 7,Ii Ij 6,Ii Ij 8,Ii Ij 7]
def ExPost (w:World) (e:Ending) (w':World):Prop:=∃p,e=Ir (.slice p exL.length 7)∧ItemsAt w' p exL∧Chg (fun _ _=>False) w w'
theorem exItems_any (w:World):Calls Tp 16 #[] w (ExPost w):=by
 have fin:ExPost w (Ir (Is (some ⟨w.heap.size,0,none⟩) 7 7)) (w.alloc (.cells exCells 27)):=by
  refine ⟨_,rfl,.inr ⟨w.heap.size,0,rfl,fun i x hx=>?_⟩,(zK _ _).alloc _⟩
  have hb:(w.alloc (.cells exCells 27)).heap[w.heap.size]?=some (.cells exCells 27 (0,0)):=kbT _ _ rfl
  rw [kbB hb,kbB hb]
  match i,hx with
  | 0,hx=>simp [exL] at hx;subst hx;exact ⟨rfl,rfl⟩
  | 1,hx=>simp [exL] at hx;subst hx;exact ⟨rfl,rfl⟩
  | 2,hx=>simp [exL] at hx;subst hx;exact ⟨rfl,rfl⟩
  | 3,hx=>simp [exL] at hx;subst hx;exact ⟨rfl,rfl⟩
  | 4,hx=>simp [exL] at hx;subst hx;exact ⟨rfl,rfl⟩
  | 5,hx=>simp [exL] at hx;subst hx;exact ⟨rfl,rfl⟩
  | 6,hx=>simp [exL] at hx;subst hx;exact ⟨rfl,rfl⟩
  | n+7,hx=>simp [exL] at hx
 have FIN:=zL fin
 clear fin
 go_enter Try.func16,Try.ntmps16
 go_wp2
 go_ret
 exact FIN.out
theorem fits_yes (d:Int) (w:World) (h1:2≤d) (h2:d≤128):Calls Tp 17 #[Ii Ij d] w fun e w'=>e=Ir (.bool true)∧w=w':=by
 have h0:(d == 0)=false:=by simp;omega
 go_enter Try.func17,Try.ntmps17
 go_wp2
 go_ret
 exact ⟨rfl,rfl⟩
theorem fits_zero (w:World):Calls Tp 17 #[Ii Ij 0] w fun e w'=>e=Ir (.bool true)∧w=w':=by
 go_enter Try.func17,Try.ntmps17
 go_wp2
 go_ret
 exact ⟨rfl,rfl⟩
theorem fits_no (d:Int) (w:World) (h0:d≠0) (h:d < 2∨128 < d):Calls Tp 17 #[Ii Ij d] w fun e w'=>e=Ir (.bool false)∧w=w':=by
 have h0:(d == 0)=false:=by simp;omega
 by_cases h2:d < 2
 ·have h3:¬2≤d:=by omega
  go_enter Try.func17,Try.ntmps17
  go_wp2
  go_ret
  exact ⟨rfl,rfl⟩
 ·have h3:2≤d:=by omega
  have h4:¬d≤128:=by omega
  go_enter Try.func17,Try.ntmps17
  go_wp2
  go_ret
  exact ⟨rfl,rfl⟩
end
section
open Go.RowKit
theorem exMake_any (w:World):Calls Tp 15 #[] w fun e w'=>e=Ir (.agg #[Is none 0 0,Ii Ij 2,.bool false])∧Chg (fun _ _=>False) w w':=by
 go_enter Try.func15,Try.ntmps15
 go_wp2_with fail
 refine kbQ (fun w1=>Chg (fun _ _=>False) w w1∧w1.heap[w.heap.size]?=some (Ic #[Is none 0 0,Ii Ij 2,.bool false] 24 (0,0))) ⟨?_,?_⟩ ?_
 ·repeat (first | refine ze ?_ | refine zf ?_ _ | refine Chg.alloc ?_ _ | refine zd ?_ (.inr (by simp)) _ | exact zK _ _)
 ·exact kbT _ _ rfl
 rintro w1 ⟨hc,hb⟩
 have p0:=kbB hb 0
 have p1:=kbB hb 1
 have p2:=kbB hb 2
 simp only [zF,zD,zE] at p0 p1 p2
 refine bodyPost_ret (v:=.agg #[Is none 0 0,Ii Ij 2,.bool false]) (by simp [results,Try.results15,go_sem,p0,p1,p2]) rfl ?_
 exact ⟨rfl,hc⟩
theorem zzFits1_any (a:Option Addr) (n c:Nat) (d:Int) (b:Bool) (w:World):Calls Tp 7 #[.agg #[.slice a n c,Ii Ij d,.bool b]] w fun e w'=>e=Ir (.bool (decide (n≤2147483647)))∧Chg (fun _ _=>False) w w':=by
 by_cases h:n≤2147483647
 ·have h2:¬(2147483647:Int) < (n:Int):=by omega
  have e:decide (n≤2147483647)=true:=by simpa using h
  rw [e]
  go_enter Try.func7,Try.ntmps7
  go_wp2
  go_ret
  exact ⟨rfl,(zK _ _).alloc _⟩
 ·have h2:(2147483647:Int) < (n:Int):=by omega
  have e:decide (n≤2147483647)=false:=by simpa using h
  rw [e]
  go_enter Try.func7,Try.ntmps7
  go_wp2
  go_ret
  exact ⟨rfl,(zK _ _).alloc _⟩
theorem fits_fit (d:Int) (w:World) (h:FitD d):Calls Tp 17 #[Ii Ij d] w fun e w'=>e=Ir (.bool true)∧w=w':=by
 rcases h with rfl | ⟨h1,h2⟩
 ·exact fits_zero w
 ·exact fits_yes d w h1 h2
theorem fits_not (d:Int) (w:World) (h:¬FitD d):Calls Tp 17 #[Ii Ij d] w fun e w'=>e=Ir (.bool false)∧w=w' :=
 fits_no d w (fun e=>h (.inl e)) (by
  by_cases h2:d < 2
  ·exact .inl h2
  ·refine .inr ?_
   by_cases h3:128 < d
   ·exact h3
   ·exact absurd (.inr ⟨by omega,by omega⟩) h)
theorem MapIn.mapAt {ord:List Int} {k:Kc ord} {mn mx:Nat} {w:World} {F:Nat→Prop} {t:Nat} {l:List (It ord)} (h:MapIn k mn mx w F t l):MapAt k mn mx w t:=by
 rcases h with ⟨_,_,g3⟩ | ⟨H,h,T,g1,_⟩
 ·exact g3.at_
 ·exact g1.map
theorem Less_any {ord:List Int} {k:Kc ord} {mn mx t:Nat} {w:World} (h:MapAt k mn mx w t) (a b:It ord) :
  Calls Tp 79 #[Ip (some ⟨t,0,none⟩),.agg #[Ii Ij a.1,Ii Ij a.2],.agg #[Ii Ij b.1,Ii Ij b.2]] w fun e w'=>e=Ir (.bool (ltM a b))∧Chg (fun _ _=>False) w w':=by
 have H:=zL h
 clear h
 go_enter Try.func79,Try.ntmps79
 go_wp2_with fail
 refine kbD (fun w1=>Chg (fun _ _=>False) w w1∧w1.heap[w.heap.size]?=some (Ic #[Ii Ij a.1,Ii Ij a.2] 27 (0,0))∧w1.heap[w.heap.size+1]?=some (Ic #[Ii Ij b.1,Ii Ij b.2] 27 (0,0))) ⟨((zK _ _).alloc _).alloc _,?_,?_⟩ ?_
 ·rw [kcZ _ _ (by simp)];exact kbT _ _ rfl
 ·exact kbT _ _ (by simp)
 rintro w1 ⟨hc1,hb1,hb2⟩
 have q0:=kbB hb1 0
 have q1:=kbB hb1 1
 have q2:=kbB hb2 0
 have q3:=kbB hb2 1
 simp only [zF,zD,zE] at q0 q1 q2 q3
 have hm:=H.out.chg hc1 i3
 have c6:=hm.c6l
 unfold kcQ at c6
 have HO:=zL hm.ord
 clear hm hb1 hb2
 refine kbM (fun w'=>w'.cell? ⟨t,6,none⟩=some (.func (.func 63) #[] #[Ip (some ⟨k.ob,0,none⟩)])∧w'.cell? ⟨w.heap.size,0,none⟩=some (Ii Ij a.1)∧w'.cell? ⟨w.heap.size,1,none⟩=some (Ii Ij a.2)∧w'.cell? ⟨w.heap.size+1,0,none⟩=some (Ii Ij b.1)∧w'.cell? ⟨w.heap.size+1,1,none⟩=some (Ii Ij b.2)) (.soft 0 (.soft 1 (.soft 2 (.soft 3 (.soft 4 (.soft 5 (.hard 6 (.soft 7 .nil)))))))) (by kernel_rfl) (by kernel_rfl) (fun _ _ _ _ _ h=>h) ⟨c6,q0,q1,q2,q3⟩ ?_
 repeat (first | (refine kbH (by rfl) ?_ ?_ ?_ ?_;rotate_left;(· simp [zI,yielded];done);(· intro w' hS;try obtain ⟨a1,a2,a3,a4,a5⟩:=hS;go_simp;try with_reducible rfl);simp only [zJ,zA,zB,zC]) | (refine kbJ (by rfl) ?_ ?_;(· simp [zI,yielded];done);simp only [zJ,zA,zB,zC]))
 refine kbY (by rfl) (by simp [zI,yielded]) (fun K hK=>?_)
 go_simp
 refine (less_any a b _ (HO.out.chg (zK (fun _ _=>False) _).drew (fun _ h=>h) (fun _ h=>h))).mono ?_
 rintro e w2 ⟨rfl,hc2⟩
 refine hK _ _ ⟨hc2.q c6,hc2.q q0,hc2.q q1,hc2.q q2,hc2.q q3⟩ ?_
 clear hK K
 repeat (first | (refine kbH (by rfl) ?_ ?_ ?_ ?_;rotate_left;(· simp [zI,yielded];done);(· intro w' hS;try obtain ⟨a1,a2,a3,a4,a5⟩:=hS;go_simp;try with_reducible rfl);simp only [zJ,zA,zB,zC]) | (refine kbJ (by rfl) ?_ ?_;(· simp [zI,yielded];done);simp only [zJ,zA,zB,zC]))
 refine kcT ?_
 go_wp2_with fail
 go_ret
 exact ⟨rfl,hc1.trans ((zK _ _).drew.trans hc2)⟩
end
section
open Go.RowKit
def OutI (w:World) (v:Value) (l:List (Int×Int)) (base:Nat):Prop:=(l=[]∧v=Is none 0 0)∨RowI w v l base
variable {l:List (Int×Int)} {v:Value} {base:Nat}
theorem RowI.chg {w w':World} (h:RowI w v l base) (c:Chg (fun _ _=>False) w w'):RowI w' v l base:=by
 obtain ⟨b,o,cap,h1,h2,h3,h4⟩:=h
 exact ⟨b,o,cap,h1,h2,h3,h4.chg c (fun _ _ h=>h)⟩
theorem RowI.mono {w:World} {base base':Nat} (h:RowI w v l base) (hb:base'≤base):RowI w v l base':=by
 obtain ⟨b,o,cap,h1,h2,h3,h4⟩:=h
 exact ⟨b,o,cap,h1,h2,by omega,h4⟩
theorem OutI.chg {w w':World} (h:OutI w v l base) (c:Chg (fun _ _=>False) w w'):OutI w' v l base:=h.imp id (fun h=>h.chg c)
theorem OutI.items {w:World} (h:OutI w v l base):∃p cap,v=.slice p l.length cap∧ItemsAt w p l∧l.length≤cap:=by
 rcases h with ⟨rfl,rfl⟩ | h
 ·exact ⟨none,0,rfl,.inl rfl,zi _⟩
 ·obtain ⟨p,cap,h1,h2⟩:=h.items
  obtain ⟨b,o,cap',h3,h4,_⟩:=h
  rw [h1] at h3
  have:cap=cap':=by injection h3
  exact ⟨p,cap,h1,h2,by omega⟩
theorem putL_ins {lt:Int×Int→Int×Int→Bool} {x:Int×Int} {i:Nat} {b:Bool}
  (h:i≤l.length∧(∀j y,j < i→l[j]?=some y→lt y x=true)∧(∀y,l[i]?=some y→lt y x=false)∧((∃y,l[i]?=some y∧lt x y=false∧b=true)∨((∀y,l[i]?=some y→lt x y=true)∧b=false))) :
  putL l x i b=insL lt x l∧putF l i b=fndL lt x l:=by
 obtain ⟨h1,h2,h3,h4⟩:=h
 have hp:∀a∈l.take i,lt a x=true:=by
  intro a ha
  obtain ⟨j,g1,g2⟩:=kfR ha
  exact h2 j a g1 g2
 have e1:insL lt x l=l.take i++insL lt x (l.drop i):=by
  conv=>lhs;rw [←zw i l]
  exact insL_pre hp
 have e2:fndL lt x l=fndL lt x (l.drop i):=by
  conv=>lhs;rw [←zw i l]
  exact fndL_pre hp
 rcases h4 with ⟨y,hy,hxy,rfl⟩ | ⟨h4,rfl⟩
 ·have hi:=(zG.1 hy).1
  have hd:l.drop i=y::l.drop (i+1):=by rw [List.drop_eq_getElem_cons hi,(zG.1 hy).2]
  rw [e1,e2,hd]
  have:=h3 y hy
  exact ⟨by simp [putL,insL,this,hxy],by simp [putF,fndL,this,hxy,hy]⟩
 ·rw [e1,e2]
  cases hd:l.drop i with
  | nil=>exact ⟨by simp [putL,insL,hd],by simp [putF,fndL]⟩
  | cons y ys =>
   have hy:l[i]?=some y:=by
    have:=List.getElem?_drop (xs:=l) (i:=i) (j:=0)
    rw [hd] at this;simpa using this.symm
   exact ⟨by simp [putL,insL,hd,h3 y hy,h4 y hy],by simp [putF,fndL,h3 y hy,h4 y hy]⟩
def PutPost2 (rk:Int→Int) (l:List (Int×Int)) (x:Int×Int) (w:World) (e:Ending) (w':World):Prop :=
 ∃v,e=Ir (Iu #[v,foundV (fndL (ltR rk) x l)])∧RowI w' v (insL (ltR rk) x l) w.heap.size∧Chg (fun _ _=>False) w w'
theorem put_out_big (ordv:Value) (rk:Int→Int) (v:Value) (l:List (Int×Int)) (base:Nat) (x:Int×Int) (w:World) (hR:RankOk ordv rk w) (h:OutI w v l base) (hlen:l.length≤8589934593) :
  Calls Tp 39 #[ordv,v,itemV x] w (PutPost2 rk l x w):=by
 have fin:∀e w',PutPost rk l x w e w'→PutPost2 rk l x w e w':=by
  rintro e w' ⟨v,i,b,h1,h2,h3,h4⟩
  obtain ⟨g1,g2⟩:=putL_ins h1
  rw [g1] at h3
  rw [g2] at h2
  exact ⟨v,h2,h3,h4⟩
 rcases h with ⟨rfl,rfl⟩ | h
 ·exact (put_none ordv rk x w hR).mono fin
 ·obtain ⟨b,o,cap,rfl,h2,_⟩:=id h
  obtain ⟨p,cap',hv,hi⟩:=h.items
  obtain ⟨rfl,rfl⟩:some (⟨b,o,none⟩:Addr)=p∧cap=cap':=by injection hv with h1 h2 h3;exact ⟨h1,h3⟩
  refine (put_some_big ordv rk b o cap l x w hR ?_ hlen h2).mono fin
  rcases hi with rfl | ⟨b2,o2,hp,hc⟩
  ·intro i y hy;simp at hy
  ·obtain ⟨rfl,rfl⟩:b=b2∧o=o2:=by simpa using hp
   exact hc
def treeL (lt:Int×Int→Int×Int→Bool) (l:List (Int×Int)):List (Int×Int):=l.foldl (fun acc x=>insL lt x acc) []
theorem treeL_take {lt:Int×Int→Int×Int→Bool} {j:Nat} {x:Int×Int} (h:l[j]?=some x):treeL lt (l.take (j+1))=insL lt x (treeL lt (l.take j)):=by
 unfold treeL
 rw [List.take_add_one,h,List.foldl_append];rfl
theorem treeL_len' (lt:Int×Int→Int×Int→Bool):∀(l acc:List (Int×Int)),(l.foldl (fun acc x=>insL lt x acc) acc).length≤acc.length+l.length
 | [],acc=>by simp
 | x::l,acc=>by
  have h1:=treeL_len' lt l (insL lt x acc)
  have h2:=insL_len (lt:=lt) (x:=x) (l:=acc)
  simp only [List.foldl_cons,List.length_cons]
  split at h2<;>omega
theorem treeL_len (lt:Int×Int→Int×Int→Bool) (l:List (Int×Int)):(treeL lt l).length≤l.length:=by
 have:=treeL_len' lt l []
 simpa [treeL] using this
theorem treeL_take_len (lt:Int×Int→Int×Int→Bool) (l:List (Int×Int)) (j:Nat):(treeL lt (l.take j)).length≤l.length:=by
 have:=treeL_len lt (l.take j)
 simp only [zV] at this
 omega
def TreePost (lt:Int×Int→Int×Int→Bool) (l:List (Int×Int)) (w:World) (e:Ending) (w':World):Prop:=∃v,e=Ir v∧OutI w' v (treeL lt l) w.heap.size∧Chg (fun _ _=>False) w w'
theorem tree_big (ordv:Value) (rk:Int→Int) (p:Option Addr) (cap:Nat) (l:List (Int×Int)) (w:World) (hR:RankOk ordv rk w) (hl:ItemsAt w p l) (hlen:l.length≤8589934592) :
  Calls Tp 22 #[ordv,.slice p l.length cap] w (TreePost (ltR rk) l w):=by
 have HR:=zL hR
 clear hR
 go_enter Try.func22,Try.ntmps22
 go_wp2_with fail
 go_loopw [5,10] (fun v i wr=>∃(j:Nat),j≤l.length∧i=Ii Ij j∧OutI wr v (treeL (ltR rk) (l.take j)) w.heap.size∧Chg (fun _ _=>False) w wr) (fun _ i _=>l.length - (intOf i).toNat)
 case atStart=>exact ⟨0,Nat.zero_le _,rfl,.inl ⟨rfl,rfl⟩,zK _ _⟩
 case round =>
  obtain ⟨j,hj,rfl,hM,hc⟩:=hrel
  have hsz:=hc.size
  by_cases hlt:j < l.length
  ·obtain ⟨x,hx⟩:∃x,l[j]?=some x:=⟨_,zH hlt⟩
   rcases hl.chg hc with hl0 | ⟨b,o,rfl,hcell⟩
   ·subst hl0;simp at hlt
   obtain ⟨g0,g1⟩:=hcell j x hx
   have i0:(0:Int)≤(j:Int):=by omega
   have i1:(j:Int) < (l.length:Int):=by omega
   have hgl:=treeL_take_len (ltR rk) l j
   have hgt:=treeL_take (lt:=ltR rk) hx
   clear hcell hx
   have HM:=zL hM
   clear hM
   go_wp2_with fail
   have hca:Chg (fun _ _=>False) w (wr.alloc (Ic #[Ii Ij x.1,Ii Ij x.2] 27)):=hc.alloc _
   refine (put_out_big ordv rk _ _ w.heap.size x _ (HR.out.chg hca) (HM.out.chg ((zK _ _).alloc _)) (by omega)).mono ?_
   rintro e w2 ⟨v2,rfl,hr2,hc2⟩
   have hsz2:=hca.size
   go_wp2_with fail
   go_roundw
   case rel=>exact ⟨j+1,by omega,by go_num,by rw [hgt];exact .inr (hr2.mono hsz2),hca.trans hc2⟩
   case measure=>simp [intOf];omega
  ·obtain rfl:j=l.length:=by omega
   go_wp2_with fail
   go_ret
   exact ⟨_,rfl,by rw [List.take_length] at hM;exact hM,hc⟩
theorem tree_any (ordv:Value) (rk:Int→Int) (p:Option Addr) (cap:Nat) (l:List (Int×Int)) (w:World) (hR:RankOk ordv rk w) (hl:ItemsAt w p l) (hlen:l.length≤2147483647) :
  Calls Tp 22 #[ordv,.slice p l.length cap] w (TreePost (ltR rk) l w) :=
 tree_big ordv rk p cap l w hR hl (by omega)
end
section
open Go.RowKit
end
section
open Go.RowKit
end
section
open Go.RowKit
end
end Go.Proofs.Ytnohimhihombmaa
