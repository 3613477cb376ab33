/- List.Scan, whatever the queue; Clear of a list that was scanned. -/
import Derived.Deep.Cut
import Derived.Deep.CutRange
import Derived.BigQuiet
import Derived.Deep.QuietTactic
import Derived.StillTailTactics
import Derived.Test.YtnohimhihombmaaA2
import Derived.Test.YtnohimhihombmaaA9
import Derived.Test.YtnohimhihombmaaL1
import Derived.Test.YtnohimhihombmaaX0
import Derived.Test.YtnohimhihombmaaYb
namespace Go.Proofs.Ytnohimhihombmaa
set_option linter.unusedSimpArgs false
set_option linter.unusedVariables false
set_option maxRecDepth 100000
set_option maxHeartbeats 40000000
open Value renaming int → Ii, pointer → Ip, slice → Is, tuple → Iu
open IntKind renaming i64 → Ij
open Obj renaming cells → Ic
open Ending renaming returned → Ir
open Option.some renaming inj → Iq
open _root_.Go.Proofs.Try renaming prog → Tp
open List renaming setIfInBounds_toArray → zA, set_cons_zero → zB, set_cons_succ → zC, getElem?_cons_zero → zD, getElem?_cons_succ → zE, getElem?_toArray → zF, getElem?_eq_some_iff → zG, getElem?_eq_getElem → zH, length_append → zT, length_take → zV, length_set → zW, filterMap_cons → zX, filterMap_nil → zY, getElem?_set_ne → zr
open Region renaming wanted → zI
open Act renaming put → zJ
open Chg renaming refl → zK
open Lib renaming hid → zL
open IntWalk renaming i64_in → zh
open Nat renaming le_refl → zi, le_trans → zj
section
open Go.RowKit
def CapOk (v:Value):Prop:=∀a m c,v=.slice a m c→c≤maxLen
section
variable {P:Program} {α:Type}
theorem run_append_E3 (p:El α) (w:World) (t ty:TypeId) (i:TypeInfo) (z:Value) (bytes:Nat) (ht:P.underlying t=some (.slice p.T)) (hi:P.info? p.T=some i) (hz:i.zero=some z)
  (hsize:i.size=p.es) (hby:i.bytes=bytes) (hzs:z.cells.size=p.es) (v:Value) (xs:List α) (base:Nat) (how:OwnE p w v xs base) (hbase:base≤w.heap.size)
  (ad:Addr) (m c:Nat) (ys:List α) (hm:ys.length=m) (hm0:0 < m) (hsrc:∀j u,(flat p.par ys)[j]?=some u→w.cell? (ad.add j)=some u) (h63:xs.length+m≤maxLen) (hbytes:(xs.length+m) * bytes≤140737488355328) :
  ∃v' w',(Builtin.append_ #[t,t] ty #[v,Is (some ad) m c]).run P w=.ok v' w'∧OwnE p w' v' (xs++ys) base∧Chg (fun b _=>v.ownBlock=some b) w w'∧(v'.ownBlock=v.ownBlock∨∃nb,v'.ownBlock=some nb∧w.heap.size≤nb)∧(CapOk v→CapOk v'):=by
 have hfl:(flat p.par ys).length=m * p.es:=by rw [kcW,hm];rfl
 have hone:∀u∈flat p.par ys,u.oneCell'=true:=flat_one p.par ys
 obtain ⟨v1,w1,hr1,h1,h2,h3,_⟩:=run_append_E2 (P:=P) p w t ty i z bytes ht hi hz hsize hby hzs v xs base how hbase ad m c ys hm hm0 hsrc h63 hbytes
 refine ⟨v1,w1,hr1,h1,h2,h3,fun hcap a0 m0 c0 e0=>?_⟩
 rcases how with ⟨rfl,rfl⟩ | ⟨b,o,cap,rfl,h2,h3,h4⟩
 ·simp only [List.length_nil,Nat.zero_add] at h63 hbytes
  have hr:=run_append_nil (P:=P) w t ty p.T i z ht hi hz ad m c (flat p.par ys) (by rw [hfl,hsize]) hsrc hm0 (by simp only [maxLen] at h63;omega) (by rw [hby];omega)
  rw [hr] at hr1
  injection hr1 with e1 e2
  rw [←e1] at e0
  injection e0 with f1 f2 f3
  rw [←f3]
  exact grownCap_le_maxLen w m 0 p.T h63
 ·obtain ⟨b',o',cap',w',hr,hA⟩:=kfH (P:=P) w t ty p.T i z p.es bytes ht hi hz hsize hby hzs b o xs.length cap (flat p.par xs) h4 (kcW p.par xs) ad m c (flat p.par ys) hfl hsrc hone h63 hbytes
  rw [hr] at hr1
  injection hr1 with e1 e2
  rw [←e1] at e0
  injection e0 with f1 f2 f3
  rw [←f3]
  rcases hA.place with h | h
  ·rw [h.2.2];exact hcap _ _ _ rfl
  ·exact h.2.2.2
theorem wp_append_E3 (p:El α) {o':Oper} {a:Act} {w:World} {K:Act→World→Prop} {Q:Exit→Act→World→Prop} (s x:Operand) (t:TypeId)
  (ho:o'.op=.call { callee:=.builtin .append,args:=#[s,x],argTypes:=#[t,t] }) (i:TypeInfo) (z:Value) (bytes:Nat) (ht:P.underlying t=some (.slice p.T)) (hi:P.info? p.T=some i) (hz:i.zero=some z)
  (hsize:i.size=p.es) (hby:i.bytes=bytes) (hzs:z.cells.size=p.es) (v:Value) (hs:a.eval s=v) (xs:List α) (base:Nat) (how:OwnE p w v xs base) (hbase:base≤w.heap.size)
  (ad:Addr) (m c:Nat) (hx:a.eval x=Is (some ad) m c) (ys:List α) (hm:ys.length=m) (hm0:0 < m) (hsrc:∀j u,(flat p.par ys)[j]?=some u→w.cell? (ad.add j)=some u) (h63:xs.length+m≤maxLen) (hbytes:(xs.length+m) * bytes≤140737488355328)
  (h:∀v' w',OwnE p w' v' (xs++ys) base→Chg (fun b _=>v.ownBlock=some b) w w'→(v'.ownBlock=v.ownBlock∨∃nb,v'.ownBlock=some nb∧w.heap.size≤nb)→(CapOk v→CapOk v')→K (a.put o'.dst v') w'):o'.wp P a w K Q:=by
 obtain ⟨v',w',hr,h2,h3,h4,h5⟩:=run_append_E3 (P:=P) p w t o'.type i z bytes ht hi hz hsize hby hzs v xs base how hbase ad m c ys hm hm0 hsrc h63 hbytes
 unfold Oper.wp execOp
 simp only [ho,resolve,invoke,builtin,Sem.run_bind,Sem.run_pure,Result.andThen_ok,List.map_toArray,List.map_cons,List.map_nil,hs,hx,hr]
 exact h v' w' h2 h3 h4 h5
end
def Tr (ord:List Int):Type:=Σ h:Nat,BT (It ord) h
def Bk (ord:List Int):Type:=It ord×Option (Tr ord)
def Tr.items {ord:List Int} (T:Tr ord):List (It ord):=toL T.1 T.2
def Tr.node {ord:List Int} (T:Tr ord):Nat:=rid T.2
def Bk.kin {ord:List Int} (d:Bk ord):List (It ord):=match d.2 with
 | none=>[]
 | some T=>T.items
def Bk.np {ord:List Int} (d:Bk ord):Option Nat:=d.2.map Tr.node
def Bk.npA {ord:List Int} (d:Bk ord):Option Addr:=d.np.map fun b=>⟨b,0,none⟩
def Bk.plain {ord:List Int} (d:Bk ord):It ord×List (It ord):=(d.1,d.kin)
def ltE {ord:List Int} (a b:Bk ord):Bool:=ltM a.1 b.1
theorem swoE {ord:List Int}:Swo (ltE (ord:=ord)):=⟨fun a b=>swoM.asymm a.1 b.1,fun a b c=>swoM.ntrans a.1 b.1 c.1⟩
def encE {ord:List Int} (d:Bk ord):List Value:=[Ii Ij d.1.1,Ii Ij d.1.2,.pointer d.npA]
def aggE {ord:List Int} (d:Bk ord):Value:=.agg #[Ii Ij d.1.1,Ii Ij d.1.2,.pointer d.npA]
def eitE (ord:List Int):El (Bk ord) where
 es:=3
 enc:=encE
 T:=128
 epos:=by omega
 elen:=fun _=>rfl
 eone:=by
  intro x v hv
  simp only [encE,List.mem_cons,List.not_mem_nil,or_false] at hv
  rcases hv with rfl | rfl | rfl
  ·rfl
  ·rfl
  ·rfl
theorem infoEit:(Try.prog.info? 128).map (fun i=>(i.zero,i.size,i.bytes))=some (some (.agg #[Ii Ij 0,Ii Ij 0,Ip none]),3,24):=by kernel_rfl
section
variable {ord:List Int}
theorem flatE_cons3 (d:Bk ord) (D:List (Bk ord)):flat (eitE ord).par (d::D)=Ii Ij d.1.1::Ii Ij d.1.2::.pointer d.npA::flat (eitE ord).par D:=rfl
theorem flatE_len (D:List (Bk ord)):(flat (eitE ord).par D).length=D.length * 3:=kcW _ D
theorem flatE_set (x:Bk ord):∀(D:List (Bk ord)) (i:Nat),i < D.length →
  (((flat (eitE ord).par D).set (i * 3) (Ii Ij x.1.1)).set (i * 3+1) (Ii Ij x.1.2)).set (i * 3+2) (.pointer x.npA)=flat (eitE ord).par (D.set i x)
 | d::D,0,_=>rfl
 | d::D,i+1,h=>by
  rw [zC,flatE_cons3,flatE_cons3,←flatE_set x D i (by simpa using h),show (i+1) * 3=i * 3+1+1+1 by omega]
  rfl
def QRow (w:World) (b o cap:Nat) (D:List (Bk ord)):Prop:=D.length≤cap∧RowAt w 128 b o (cap * 3) (flat (eitE ord).par D)
variable {D:List (Bk ord)} {b o cap:Nat} {w:World}
theorem QRow.cell (h:QRow w b o cap D) {j:Nat} {d:Bk ord} (hj:D[j]?=some d) :
  w.cell? ⟨b,o+j * 3,none⟩=some (Ii Ij d.1.1)∧w.cell? ⟨b,o+j * 3+1,none⟩=some (Ii Ij d.1.2)∧w.cell? ⟨b,o+j * 3+2,none⟩=some (.pointer d.npA):=by
 have e0:=h.2.cell (flat_get (eitE ord).par hj (q:=0) (v:=Ii Ij d.1.1) rfl)
 have e1:=h.2.cell (flat_get (eitE ord).par hj (q:=1) (v:=Ii Ij d.1.2) rfl)
 have e2:=h.2.cell (flat_get (eitE ord).par hj (q:=2) (v:=.pointer d.npA) rfl)
 exact ⟨e0,by rw [Nat.add_assoc];exact e1,by rw [Nat.add_assoc];exact e2⟩
theorem QRow.fz (h:QRow w b o cap D) (q:Nat):w.frozen? ⟨b,q,none⟩=false:=h.2.frozen q
theorem QRow.lt (h:QRow w b o cap D):b < w.heap.size:=h.2.lt
theorem QRow.set (h:QRow w b o cap D) (i:Nat) (x:Bk ord) (hi:i < D.length) :
  QRow (((w.setCell ⟨b,o+i * 3,none⟩ (Ii Ij x.1.1)).setCell ⟨b,o+i * 3+1,none⟩ (Ii Ij x.1.2)).setCell ⟨b,o+i * 3+2,none⟩ (.pointer x.npA)) b o cap (D.set i x):=by
 refine ⟨by rw [zW];exact h.1,?_⟩
 have h3:=((h.2.setCell (i * 3) (Ii Ij x.1.1)).setCell (i * 3+1) (Ii Ij x.1.2)).setCell (i * 3+2) (.pointer x.npA)
 rw [flatE_set x D i hi] at h3
 exact h3
theorem QRow.beyond (h:QRow w b o cap D) (i:Nat) (v:Value) (hi:D.length * 3≤i):QRow (w.setCell ⟨b,o+i,none⟩ v) b o cap D:=by
 refine ⟨h.1,?_⟩
 have h3:=h.2.setCell i v
 rw [List.set_eq_of_length_le (by rw [flatE_len];exact hi)] at h3
 exact h3
theorem QRow.there (h:QRow w b o cap D) {i:Nat} (hi:i < cap * 3):∃v,w.cell? ⟨b,o+i,none⟩=some v:=h.2.there hi
theorem QRow.take (h:QRow w b o cap D) (n:Nat) (hn:n≤D.length):QRow w b o cap (D.take n):=by
 refine ⟨by rw [zV];have:=h.1;omega,?_⟩
 have h3:=h.2.part 0 (n * 3) (cap * 3) (by rw [flatE_len];omega) (by have:=h.1;omega) (by omega)
 rw [List.drop_zero,Nat.add_zero] at h3
 have e:(flat (eitE ord).par D).take (n * 3)=flat (eitE ord).par (D.take n):=flat_take (eitE ord).par D n
 rw [e] at h3
 exact h3
theorem QRow.chg {A:Nat→Nat→Prop} {w w':World} (h:QRow w b o cap D) (c:Chg A w w') (hA:∀o,¬A b o):QRow w' b o cap D:=⟨h.1,h.2.chg c fun _ _=>hA _⟩
theorem QRow.drew (h:QRow w b o cap D):QRow w.drew b o cap D:=⟨h.1,h.2.drew⟩
theorem own_row {v:Value} {base:Nat} (h:OwnE (eitE ord) w v D base) (hD:D≠[]):∃b o cap,v=Is (some ⟨b,o,none⟩) D.length cap∧base≤b∧QRow w b o cap D:=by
 rcases h with ⟨h0,_⟩ | ⟨b,o,cap,rfl,h2,h3,h4⟩
 ·exact absurd h0 hD
 ·exact ⟨b,o,cap,rfl,h3,h2,h4⟩
theorem row_own {base:Nat} (h:QRow w b o cap D) (hb:base≤b):OwnE (eitE ord) w (Is (some ⟨b,o,none⟩) D.length cap) D base :=
 .inr ⟨b,o,cap,rfl,h.1,hb,h.2⟩
end
end
section
open Go.RowKit
variable {c np:Int} {lv q:Value} {b:Nat}
theorem ListB.chg {A:Nat→Nat→Prop} {w w':World} (h:ListB w b lv c np q) (hc:Chg A w w') (hA:∀o,¬A b o):ListB w' b lv c np q:=by
 unfold ListB
 rw [hc.block (kbF h) hA];exact h
theorem ListB.keep {w w':World} (h:ListB w b lv c np q) (hc:Chg (fun _ _=>False) w w'):ListB w' b lv c np q:=h.chg hc (fun _ h=>h)
theorem ListB.drew {w:World} (h:ListB w b lv c np q):ListB w.drew b lv c np q:=h
theorem push_any {ord:List Int} {k:Kc ord} {w:World} {b base:Nat} {q:Value} {D:List (Bk ord)} (d:Bk ord) (hl:ListB w b (kcQ k) c np q) (hq:OwnE (eitE ord) w q D base) (hh:kfF ltE D) (ho:OrdAt k w) (hb:b < base) (hbw:base≤w.heap.size) (hkb:k.ob < base∧k.rb < base∧k.ob≠b∧k.rb≠b) (hD:D.length≤1000000000000) :
  Calls Tp 82 #[Ip (some ⟨b,0,none⟩),aggE d] w fun e w'=>e=Ir (Iu #[])∧∃q' D',D'.Perm (D++[d])∧kfF ltE D'∧ListB w' b (kcQ k) c np q'∧OwnE (eitE ord) w' q' D' base∧Chg (fun x _=>x=b∨q.ownBlock=some x) w w'∧(q'.ownBlock=q.ownBlock∨∃nb,q'.ownBlock=some nb∧w.heap.size≤nb)∧(CapOk q→CapOk q'):=by
 obtain ⟨i0,hi0,hz0,hz1,hz2⟩:=info_parts infoEit
 have HL:=zL hl
 have HQ:=zL hq
 have HH:=zL hh
 have HO:=zL ho
 have hol:∀x,q.ownBlock=some x→base≤x∧x < w.heap.size:=fun x hx=>hq.own_lt hx
 have HOL:=zL hol
 have HKB:=zL hkb
 clear hl hq hh ho hol hkb
 unfold aggE
 go_enter Try.func82,Try.ntmps82
 go_upto_region 1 with fail
 refine kbD (fun w1=>Chg (fun _ _=>False) w w1∧w1.heap[w.heap.size]?=some (Ic #[Ii Ij d.1.1,Ii Ij d.1.2,.pointer d.npA] 128 (0,0))) ⟨(zK _ _).alloc _,kbT _ _ rfl⟩ ?_
 rintro w1 ⟨hc1,hb1⟩
 have hl1:ListB w1 b (kcQ k) c np q:=by
  unfold ListB
  rw [hc1.block (kbF HL.out) (fun _ h=>h)];exact HL.out
 have c3:=hl1.c3
 have z3:=hl1.fz 3
 have x0:=kbB hb1 0
 have x1:=kbB hb1 1
 have x2:=kbB hb1 2
 simp only [zF,zD,zE] at x0 x1 x2
 have HL1:=zL hl1
 have hs1:=hc1.size
 clear hl1 hb1
 refine kfD (fun w'=>w'.cell? ⟨b,3,none⟩=some q∧w'.cell? ⟨w.heap.size,0,none⟩=some (Ii Ij d.1.1)∧w'.cell? ⟨w.heap.size,1,none⟩=some (Ii Ij d.1.2)∧w'.cell? ⟨w.heap.size,2,none⟩=some (.pointer d.npA)) 8
  [(0,true),(1,true),(2,true),(3,true),(4,true),(5,true),(6,false),(7,false),(8,false),(9,false),(10,false)] (by kernel_rfl) (by kernel_rfl) (fun _ _ _ _ _ h=>h) ⟨c3,x0,x1,x2⟩ ?_
 iterate 6
  refine kcN (by rfl) ?_ (by simp [zI,yielded]) ?_ ?_
  rotate_left
  ·intro w' hS
   try obtain ⟨a1,a2,a3,a4⟩:=hS
   go_simp
   try with_reducible rfl
  simp only [zJ,zA,zB,zC]
 refine kcR (by rfl) (by simp [zI,yielded]) (fun K hK=>?_)
 go_simp
 have hca:Chg (fun _ _=>False) w1 (w1.alloc (Ic #[Ii Ij d.1.1,Ii Ij d.1.2,.pointer d.npA] 128)).drew:=((zK _ _).alloc _).drew
 refine hK _ _ (fun _=>⟨hca.q c3,hca.q x0,hca.q x1,hca.q x2⟩) ?_
 clear hK K
 refine kcR (by rfl) (by simp [zI,yielded]) (fun K hK=>?_)
 refine wp_append_E3 (eitE ord) _ _ _ (by rfl) i0 _ 24 Try.underlying65 hi0 hz0 hz1 hz2 rfl q (by rfl) D base ((HQ.out.keep hc1).keep hca) (zj (zj hbw hs1) hca.size) ⟨w1.heap.size,0,none⟩ 1 _ (by rfl) [d] rfl (by decide) ?_ ?_ ?_ ?_
 ·exact El.src1 (eitE ord) (c:=#[Ii Ij d.1.1,Ii Ij d.1.2,.pointer d.npA]) (kbT _ _ (by simp)) _ rfl
 ·unfold maxLen;omega
 ·omega
 intro v6 w6 g1 g2 g3 gc
 have hc6:Chg (fun x _=>q.ownBlock=some x) w1 w6:=hca.trans' g2 (B:=fun x _=>q.ownBlock=some x) (fun _ _ _ h=>h.elim) i3
 have hnw:¬q.ownBlock=some w.heap.size:=fun e=>by have:=(HOL.out _ e).2;omega
 have hno:¬q.ownBlock=some b:=fun e=>by have:=(HOL.out b e).1;omega
 have hb6:ListB w6 b (kcQ k) c np q:=by
  unfold ListB
  rw [hc6.block (kbF HL1.out) (fun _ h=>hno h)];exact HL1.out
 have hb7:ListB (w6.setCell ⟨b,3,none⟩ v6) b (kcQ k) c np v6:=by
  unfold ListB
  rw [kbV hb6 v6];rfl
 have hc7:Chg (fun x _=>x=b∨q.ownBlock=some x) w (w6.setCell ⟨b,3,none⟩ v6):=((hc1.mono (fun _ _ _ h=>h.elim)).trans (hc6.mono (fun _ _ _ h=>.inr h))).setCell (.inl (.inl rfl)) _
 have hown7:OwnE (eitE ord) (w6.setCell ⟨b,3,none⟩ v6) v6 (D++[d]) base:=g1.chg ((zK (fun x _=>x=b) w6).setCell (.inl rfl) _) (fun x _ hx h=>by omega)
 obtain ⟨qb,qo,cap,rfl,hqb,hrow⟩:=own_row hown7 (by simp)
 have hv7:(Value.slice (some ⟨qb,qo,none⟩) ((D++[d]).length:Nat) cap).ownBlock=q.ownBlock∨∃nb,(Value.slice (some ⟨qb,qo,none⟩) ((D++[d]).length:Nat) cap).ownBlock=some nb∧w.heap.size≤nb:=g3.imp id fun ⟨nb,h1,h2⟩=>⟨nb,h1,by have:=hca.size;omega⟩
 have hqs:q.ownBlock=some qb∨w.heap.size≤qb:=by
  rcases hv7 with h | ⟨nb,h,h2⟩
  ·exact .inl (h▸rfl)
  ·have:qb=nb:=Iq h
   exact .inr (by omega)
 have hup:=up_init HH.out d
 obtain ⟨n,hn⟩:∃n,D.length=n:=⟨_,rfl⟩
 obtain ⟨N,hN⟩:∃N,(D++[d]).length=N:=⟨_,rfl⟩
 have hal:n+1=N:=by rw [←hN,←hn];simp
 rw [hN] at hb7 hv7 hc7 hrow gc ⊢
 refine hK _ _ (fun _=>⟨hb6.c3,hc6.cell hnw x0,hc6.cell hnw x1,hc6.cell hnw x2⟩) ?_
 clear hK K
 rw [hn] at hup hD
 have c6:=hb6.c3
 have z6:=hb6.fz 3
 have HB7:=zL hb7
 have HC7:=zL hc7
 have HR7:=zL hrow
 have HV7:=zL (And.intro hv7 gc)
 have HUP:=zL hup
 have HQS:=zL hqs
 have HAL:=zL hal
 have HQB:=zL hqb
 have HLN:=zL hN
 have s1:Ij.wrap ((N:Int) - 1)=(n:Int):=(by rw [zh _ (by omega)];omega)
 clear hca g1 g2 g3 gc hb7 hc7 hown7 hv7 c3 z3 hc1 HQ hrow hup hqs hs1 HL1 HL hn hal HH hN hqb
 iterate 3
  refine kcR (by rfl) (by simp [zI,yielded]) (fun K hK=>?_)
  go_simp
  refine hK _ _ (fun h=>absurd h (by decide)) ?_
  clear hK K
 refine kdQ ?_
 refine kbQ (fun w7=>ListB w7 b (kcQ k) c np (Is (some ⟨qb,qo,none⟩) N cap)∧QRow w7 qb qo cap (D++[d])∧Chg (fun x _=>x=b∨q.ownBlock=some x) w w7) ⟨HB7.out,HR7.out,HC7.out⟩ ?_
 clear HB7 HR7 HC7 x0 x1 x2 hc6 c6 z6 hb6
 rintro w7 ⟨hb7,hr7,hc7⟩
 have c3:=hb7.c3
 have HB7:=zL hb7
 have HR7:=zL hr7
 have HC7:=zL hc7
 clear hb7 hr7 hc7
 have hdiv:∀i:Nat,0 < i→((i:Int) - 1).tdiv 2=(((i - 1) / 2:Nat):Int):=fun i hi=>by
  rw [Int.tdiv_eq_ediv_of_nonneg (by omega)];omega
 have HDV:=zL hdiv
 clear hdiv
 go_wp2_with fail
 go_loopw [4,5] (fun iv jv wr=>∃(i:Nat) (j:Int) (L:List (Bk ord)),iv=Ii Ij i∧jv=Ii Ij j∧(0 < i→j=(((i - 1) / 2:Nat):Int))∧i < N∧L.length=N∧L.Perm (D++[d])∧HUp ltE L i∧ListB wr b (kcQ k) c np (Is (some ⟨qb,qo,none⟩) N cap)∧QRow wr qb qo cap L∧Chg (fun x _=>x=b∨q.ownBlock=some x) w wr) (fun iv _ _=>(intOf iv).toNat)
 case atStart=>exact ⟨n,_,D++[d],rfl,rfl,HDV.out n,by have:=HAL.out;omega,HLN.out,List.Perm.refl _,HUP.out,HB7.out,HR7.out,HC7.out⟩
 case round =>
  obtain ⟨i,j,L,rfl,rfl,hj,hiN,hlen,hperm,hup,hbr,hrow,hcw⟩:=hrel
  have HBR:=zL hbr
  have HROW:=zL hrow
  have HCW:=zL hcw
  have HP:=zL hperm
  have HU:=zL hup
  have HLEN:=zL hlen
  have r3:=hbr.c3
  have r0:=hbr.c0
  unfold kcQ at r0
  by_cases hi0:i=0
  ·subst hi0
   have e0:(((0:Nat):Int) == 0)=true:=rfl
   have HJ:=zL hj
   clear hbr hrow hcw hperm hup hlen c3 hj
   go_wp2_with fail
   refine kbM (fun w'=>True) (.soft 0 (.soft 1 (.soft 2 (.soft 3 (.soft 4 (.soft 5 (.soft 6 (.soft 7 (.soft 8 (.soft 9 (.soft 10 (.soft 11 (.soft 12 (.soft 13 (.soft 14 (.soft 15 (.soft 16 (.soft 17 (.soft 18 (.soft 19 (.soft 20 (.soft 21 (.soft 22 (.hard 23 (.soft 24 .nil))))))))))))))))))))))))) (by kernel_rfl) (by kernel_rfl) (fun _ _ _ _ _ h=>h) trivial ?_
   repeat (first | (refine kbH (by rfl) ?_ ?_ ?_ ?_;rotate_left;(· simp [zI,yielded];done);(· intro w' hS;go_simp;try with_reducible rfl);simp only [zJ,zA,zB,zC]) | (refine kbJ (by rfl) ?_ ?_;(· simp [zI,yielded];done);simp only [zJ,zA,zB,zC]))
   refine kfW (by rfl) (by simp [zI,yielded]) ?_
   repeat (first | (refine kbH (by rfl) ?_ ?_ ?_ ?_;rotate_left;(· simp [zI,yielded];done);(· intro w' hS;go_simp;try with_reducible rfl);simp only [zJ,zA,zB,zC]) | (refine kbJ (by rfl) ?_ ?_;(· simp [zI,yielded];done);simp only [zJ,zA,zB,zC]))
   refine kcT ?_
   go_wp2_with fail
   refine bodyPost_end (v:=Iu #[]) (by simp [results,Try.results82,go_sem]) rfl ⟨rfl,_,L,HP.out,up_done0 HU.out,ListB.drew HBR.out,?_,HCW.out.drew,HV7.out.1,HV7.out.2⟩
   rw [←HLEN.out];exact row_own HROW.out.drew HQB.out
  ·obtain ⟨p,hp⟩:∃p,(i - 1) / 2=p:=⟨_,rfl⟩
   have hjp:=hj (by omega)
   rw [hp] at hjp
   subst hjp
   have hpi:p < i:=by omega
   obtain ⟨x,hx⟩:∃x,L[i]?=some x:=⟨_,zH (by omega)⟩
   obtain ⟨y,hy⟩:∃y,L[p]?=some y:=⟨_,zH (by omega)⟩
   have e0:((i:Int) != 0)=true:=bne_iff_ne.2 (by omega)
   have i1:(0:Int)≤(i:Int):=by omega
   have i2:(i:Int) < (N:Int):=by omega
   have i3:(0:Int)≤(p:Int):=by omega
   have i4:(p:Int) < (N:Int):=by omega
   obtain ⟨x0,x1,x2⟩:=hrow.cell hx
   obtain ⟨y0,y1,y2⟩:=hrow.cell hy
   have HX:=zL hx
   have HY:=zL hy
   have HPI:=zL hp
   have hqc:qb≠b:=fun e=>by
    rcases HQS.out with h | h
    ·have:=(HOL.out _ h).1;omega
    ·omega
   have hor:OrdAt k wr:=HO.out.chg hcw (fun _ h=>by
    rcases h with h | h
    ·exact HKB.out.2.2.1 h
    ·have:=(HOL.out _ h).1;have:=HKB.out.1;omega) (fun _ h=>by
    rcases h with h | h
    ·exact HKB.out.2.2.2 h
    ·have:=(HOL.out _ h).1;have:=HKB.out.2.1;omega)
   have HOR:=zL hor
   clear hbr hrow hcw hperm hup hlen c3 hj hx hy hp hor
   go_wp2_with fail
   refine kbM (fun w'=>w'.cell? ⟨b,0,none⟩=some (.func (.func 63) #[] #[Ip (some ⟨k.ob,0,none⟩)])∧w'.cell? ⟨b,3,none⟩=some (Is (some ⟨qb,qo,none⟩) N cap)∧w'.cell? ⟨qb,qo+i * 3,none⟩=some (Ii Ij x.1.1)∧w'.cell? ⟨qb,qo+i * 3+1,none⟩=some (Ii Ij x.1.2)∧w'.cell? ⟨qb,qo+p * 3,none⟩=some (Ii Ij y.1.1)∧w'.cell? ⟨qb,qo+p * 3+1,none⟩=some (Ii Ij y.1.2)) (.soft 0 (.soft 1 (.soft 2 (.soft 3 (.soft 4 (.soft 5 (.soft 6 (.soft 7 (.soft 8 (.soft 9 (.soft 10 (.soft 11 (.soft 12 (.soft 13 (.soft 14 (.soft 15 (.soft 16 (.soft 17 (.soft 18 (.soft 19 (.soft 20 (.soft 21 (.soft 22 (.hard 23 (.soft 24 .nil))))))))))))))))))))))))) (by kernel_rfl) (by kernel_rfl) (fun _ _ _ _ _ h=>h) ⟨r0,r3,x0,x1,y0,y1⟩ ?_
   repeat (first | (refine kbH (by rfl) ?_ ?_ ?_ ?_;rotate_left;(· simp [zI,yielded];done);(· intro w' hS;try obtain ⟨a1,a2,a3,a4,a5,a6⟩:=hS;go_simp;try with_reducible rfl);simp only [zJ,zA,zB,zC]) | (refine kbJ (by rfl) ?_ ?_;(· simp [zI,yielded];done);simp only [zJ,zA,zB,zC]))
   refine kbY (by rfl) (by simp [zI,yielded]) (fun K hK=>?_)
   go_simp
   refine (less_any x.1 y.1 _ (HOR.out.chg (zK (fun _ _=>False) _).drew (fun _ h=>h) (fun _ h=>h))).mono ?_
   rintro e w2 ⟨rfl,hc2⟩
   refine hK _ _ ⟨hc2.q r0,hc2.q r3,hc2.q x0,hc2.q x1,hc2.q y0,hc2.q y1⟩ ?_
   clear hK K
   repeat (first | (refine kbH (by rfl) ?_ ?_ ?_ ?_;rotate_left;(· simp [zI,yielded];done);(· intro w' hS;try obtain ⟨a1,a2,a3,a4,a5,a6⟩:=hS;go_simp;try with_reducible rfl);simp only [zJ,zA,zB,zC]) | (refine kbJ (by rfl) ?_ ?_;(· simp [zI,yielded];done);simp only [zJ,zA,zB,zC]))
   refine kcT ?_
   have hc3:Chg (fun _ _=>False) wr w2:=(zK _ _).drew.trans hc2
   have hb2:=HBR.out.keep hc3
   have hr2:=HROW.out.chg hc3 (fun _ h=>h)
   have hw2:Chg (fun x _=>x=b∨q.ownBlock=some x) w w2:=HCW.out.trans (hc3.mono (fun _ _ _ h=>h.elim))
   have HB2:=zL hb2
   have HR2:=zL hr2
   have HW2:=zL hw2
   obtain ⟨vl,hvl⟩:∃vl,ltM x.1 y.1=vl:=⟨_,rfl⟩
   rw [hvl]
   have HVL:=zL hvl
   clear hb2 hr2 hw2 hc2 hc3 r0 r3 x0 x1 x2 y0 y1 y2 hvl
   cases vl
   ·go_wp2_with fail
    refine bodyPost_end (v:=Iu #[]) (by simp [results,Try.results82,go_sem]) rfl ⟨rfl,_,L,HP.out,up_done HU.out HX.out (by rw [HPI.out];exact HY.out) HVL.out,HB2.out,?_,HW2.out,HV7.out.1,HV7.out.2⟩
    rw [←HLEN.out];exact row_own HR2.out HQB.out
   ·have r3:=HB2.out.c3
    obtain ⟨x0,x1,x2⟩:=HR2.out.cell HX.out
    obtain ⟨y0,y1,y2⟩:=HR2.out.cell HY.out
    have fz:=HR2.out.fz
    go_wp2_with fail
    refine wp_region_callp (fun w'=>w'.cell? ⟨b,3,none⟩=some (Is (some ⟨qb,qo,none⟩) N cap)∧w'.cell? ⟨qb,qo+i * 3,none⟩=some (Ii Ij x.1.1)∧w'.cell? ⟨qb,qo+i * 3+1,none⟩=some (Ii Ij x.1.2)∧w'.cell? ⟨qb,qo+i * 3+2,none⟩=some (.pointer x.npA)∧w'.cell? ⟨qb,qo+p * 3,none⟩=some (Ii Ij y.1.1)∧w'.cell? ⟨qb,qo+p * 3+1,none⟩=some (Ii Ij y.1.2)∧w'.cell? ⟨qb,qo+p * 3+2,none⟩=some (.pointer y.npA))
     25 [9] [0,1,2,3,4,5,6,7,8,10,11,12,13,14,15,16,17,18,19,20,21,22,23,24] _ [(26,true),(27,false)] (by kernel_rfl) (by kernel_rfl) (fun _ _ _ _ _ h=>h) rfl rfl rfl ⟨r3,x0,x1,x2,y0,y1,y2⟩ ?_
    simp only [kbK,zX,zY,zD,zE]
    refine kbR ?_ rfl ?_ ?_
    rotate_left
    ·intro w' hS
     try obtain ⟨a1⟩:=hS
     go_simp
     try with_reducible rfl
    simp only [zJ,zA,zB,zC]
    refine kbS ?_
    iterate 24
     refine kbR ?_ rfl ?_ ?_
     rotate_left
     ·intro w' hS
      try obtain ⟨a1,a2,a3,a4,a5,a6,a7⟩:=hS
      go_simp
      try with_reducible rfl
     simp only [zJ,zA,zB,zC]
    refine kbS ?_
    have hil:i < L.length:=(zG.1 HX.out).1
    have hpl:p < L.length:=(zG.1 HY.out).1
    have r1:=HR2.out.set p x hpl
    have r2:=r1.set i y (by rw [zW];exact hil)
    have n0:¬(p:Int)=(i:Int):=by omega
    have hst:ListB _ b (kcQ k) c np (Is (some ⟨qb,qo,none⟩) N cap):=(((((HB2.out.chg ((zK (fun x _=>x=qb) _).setCell (.inl rfl) (a:=⟨qb,qo+p * 3,none⟩) (Ii Ij x.1.1)) (fun _ e=>hqc e.symm)).chg ((zK (fun x _=>x=qb) _).setCell (.inl rfl) (a:=⟨qb,qo+p * 3+1,none⟩) (Ii Ij x.1.2)) (fun _ e=>hqc e.symm)).chg ((zK (fun x _=>x=qb) _).setCell (.inl rfl) (a:=⟨qb,qo+p * 3+2,none⟩) (.pointer x.npA)) (fun _ e=>hqc e.symm)).chg ((zK (fun x _=>x=qb) _).setCell (.inl rfl) (a:=⟨qb,qo+i * 3,none⟩) (Ii Ij y.1.1)) (fun _ e=>hqc e.symm)).chg ((zK (fun x _=>x=qb) _).setCell (.inl rfl) (a:=⟨qb,qo+i * 3+1,none⟩) (Ii Ij y.1.2)) (fun _ e=>hqc e.symm)).chg ((zK (fun x _=>x=qb) _).setCell (.inl rfl) (a:=⟨qb,qo+i * 3+2,none⟩) (.pointer y.npA)) (fun _ e=>hqc e.symm)
    have HST:=zL hst
    have R2:=zL r2
    obtain ⟨v0,v1,v2⟩:=r1.cell (j:=i) (d:=x) (by rw [zr (by omega)];exact HX.out)
    clear r1 r2 hst
    refine wp_hide (fun K hK=>?_)
    go_simp
    refine hK _ _ ?_
    clear hK K
    refine kcN (by rfl) ?_ (by simp [zI,yielded]) ?_ ?_
    rotate_left
    ·intro w' hS
     try obtain ⟨a1⟩:=hS
     go_simp
     try with_reducible rfl
    simp only [zJ,zA,zB,zC]
    refine kcR (by rfl) (by simp [zI,yielded]) (fun K hK=>?_)
    go_simp
    refine hK _ _ (fun _=>trivial) ?_
    clear hK K
    refine kdQ ?_
    refine kbQ (fun wz=>ListB wz b (kcQ k) c np (Is (some ⟨qb,qo,none⟩) N cap)∧QRow wz qb qo cap ((L.set p x).set i y)∧Chg (fun x _=>x=b∨q.ownBlock=some x) w wz) ⟨ListB.drew HST.out,R2.out.drew,?_⟩ ?_
    ·refine HW2.out.trans' (B:=fun x _=>x=b∨q.ownBlock=some x) (A':=fun x _=>x=qb) ?_ (fun _ _ _ h=>h) (fun x _ hx e=>by subst e;rcases HQS.out with h | h<;>first | exact .inr h | omega)
     repeat (first | refine Chg.setCell ?_ (.inl rfl) _ | refine Chg.drew ?_ | exact zK _ _)
    clear r3 x0 x1 x2 y0 y1 y2 v0 v1 v2 fz HST R2
    rintro wz ⟨hbz,hrz,hcz⟩
    have HBZ:=zL hbz
    have HRZ:=zL hrz
    have HCZ:=zL hcz
    clear hbz hrz hcz
    have hab:∃z:Int,((p:Int) - 1).tdiv 2=z∧-1≤z∧z≤(p:Int)∧(0 < p→z=(((p - 1) / 2:Nat):Int)):=by
     by_cases h0:0 < p
     ·exact ⟨_,HDV.out p h0,by omega,by omega,fun _=>rfl⟩
     ·have:p=0:=by omega
      subst this
      exact ⟨0,rfl,by omega,by omega,fun h=>absurd h h0⟩
    obtain ⟨z,hz,hz1,hz2,hz3⟩:=hab
    have hNb:N≤1000000000001:=by have:=HAL.out;omega
    have s2:Ij.wrap ((p:Int) - 1)=(p:Int) - 1:=zh _ (by omega)
    have s3:Ij.wrap z=z:=zh _ (by omega)
    have HZ3:=zL hz3
    clear hz3
    go_wp2_with fail
    exact ⟨⟨p,z,(L.set p x).set i y,rfl,rfl,HZ3.out,by omega,by rw [zW,zW];exact HLEN.out,(swp_perm HY.out HX.out (by omega)).trans HP.out,up_step swoE HU.out (by omega) HPI.out.symm HX.out HY.out HVL.out,HBZ.out,HRZ.out,HCZ.out⟩,by simp [intOf];omega⟩
end
section
open Go.RowKit
def AppPost {ord:List Int} (k:Kc ord) (w:World) (b base:Nat) (c np:Int) (q:Value) (D:List (Bk ord)) (d:Bk ord) (e:Ending) (w':World):Prop :=
 e=Ir (Iu #[])∧∃q' D',D'.Perm (D++[d])∧kfF ltE D'∧ListB w' b (kcQ k) (c+1+d.kin.length) np q'∧OwnE (eitE ord) w' q' D' base∧Chg (fun x _=>x=b∨q.ownBlock=some x) w w'∧(q'.ownBlock=q.ownBlock∨∃nb,q'.ownBlock=some nb∧w.heap.size≤nb)∧(CapOk q→CapOk q')
theorem blk4c1 {w:World} {b:Nat} {lv q:Value} {c np:Int} (h:ListB w b lv c np q) (c':Int):ListB (w.setCell ⟨b,1,none⟩ (Ii Ij c')) b lv c' np q:=by
 unfold ListB
 rw [kbV h _];rfl
theorem append_any {ord:List Int} {k:Kc ord} {w:World} {b base:Nat} {c np:Int} {q:Value} {D:List (Bk ord)} (d:Bk ord) (hl:ListB w b (kcQ k) c np q) (hq:OwnE (eitE ord) w q D base) (hh:kfF ltE D) (ho:OrdAt k w) (hb:b < base) (hbw:base≤w.heap.size) (hkb:k.ob < base∧k.rb < base∧k.ob≠b∧k.rb≠b) (hD:D.length≤1000000000000)
  (hn:∀T,d.2=some T→T.node≠b∧w.cell? ⟨T.node,1,none⟩=some (Ii Ij T.items.length)) (hc0:0≤c) (hc1:c+d.kin.length≤1000000000000000) :
  Calls Tp 75 #[Ip (some ⟨b,0,none⟩),.agg #[Ii Ij d.1.1,Ii Ij d.1.2],.pointer d.npA] w (AppPost k w b base c np q D d):=by
 have HL:=zL hl
 have HO:=zL ho
 have HKB:=zL hkb
 have HOL:=zL (show ∀x,q.ownBlock=some x→base≤x∧x < w.heap.size from fun x hx=>hq.own_lt hx)
 have HP:=zL (fun w' (cc:Chg (fun x _=>x=b) w w') (c':Int) (h1:ListB w' b (kcQ k) c' np q)=>push_any (k:=k) d h1 (hq.chg cc (fun x _ hx e=>by omega)) hh (ho.chg cc (fun _ e=>hkb.2.2.1 e) (fun _ e=>hkb.2.2.2 e)) hb (zj hbw cc.size) hkb hD)
 have c1:=hl.c1
 have z1:=hl.fz 1
 have s1:Ij.wrap (c+1)=c+1:=zh _ (by omega)
 have HN:=zL hn
 have hlt:b < w.heap.size:=kbF hl
 have fin:∀w' e w2,Chg (fun x _=>x=b) w w'→(e=Ending.returned (Iu #[])∧∃q' D',D'.Perm (D++[d])∧kfF ltE D'∧ListB w2 b (kcQ k) (c+1+d.kin.length) np q'∧OwnE (eitE ord) w2 q' D' base∧Chg (fun x _=>x=b∨q.ownBlock=some x) w' w2∧(q'.ownBlock=q.ownBlock∨∃nb,q'.ownBlock=some nb∧w'.heap.size≤nb)∧(CapOk q→CapOk q'))→AppPost k w b base c np q D d e w2:=by
  rintro w' e w2 cc ⟨he,q',D',p1,p2,p3,p4,p5,p6,p7⟩
  exact ⟨he,q',D',p1,p2,p3,p4,(cc.mono (fun _ _ _ h=>.inl h)).trans p5,p6.imp id fun ⟨nb,h1,h2⟩=>⟨nb,h1,zj cc.size h2⟩,p7⟩
 have HFIN:=zL fin
 clear hq hh ho hkb fin hl hn
 obtain ⟨x,dt⟩:=d
 rcases dt with _ | T
 ·show Calls _ _ #[_,.agg #[Ii Ij x.1,Ii Ij x.2],Ip none] _ _
  go_enter Try.func75,Try.ntmps75
  go_upto_region 2 with fail
  refine kbD (fun w1=>Chg (fun x _=>x=b) w w1∧ListB w1 b (kcQ k) (c+1) np q∧w1.heap[w.heap.size]?=some (Ic #[Ii Ij x.1,Ii Ij x.2] 27 (0,0))) ⟨((zK _ _).setCell (.inl rfl) _).alloc _,?_,?_⟩ ?_
  ·exact (blk4c1 HL.out _).keep ((zK _ _).alloc _)
  ·exact kbT _ _ (by simp)
  rintro w1 ⟨hc2,hl1,hb1⟩
  have x0:=kbB hb1 0
  have x1:=kbB hb1 1
  simp only [zF,zD,zE] at x0 x1
  have HC:=zL hc2
  have hp:=HP.out w1 hc2 (c+1) hl1
  unfold aggE at hp
  have HP2:=zL hp
  clear hc2 hl1 hb1 hp c1 z1
  go_wp2_with fail
  refine HP2.out.mono ?_
  rintro e w2 ⟨rfl,h3⟩
  have H3:=zL h3
  clear h3 x0 x1
  go_wp2_with fail
  refine bodyPost_end (v:=Iu #[]) (by simp [results,Try.results75,go_sem]) rfl ?_
  refine HFIN.out w1 _ w2 HC.out ⟨rfl,?_⟩
  obtain ⟨q',D',p1,p2,p3,p4⟩:=H3.out
  exact ⟨q',D',p1,p2,by simpa [Bk.kin] using p3,p4⟩
 ·obtain ⟨hnb,hnc⟩:=HN.out T rfl
  obtain ⟨m,hm⟩:∃m,T.items.length=m:=⟨_,rfl⟩
  have hmk:(Bk.kin (x,some T):List (It ord)).length=m:=hm
  rw [hm] at hnc
  rw [hmk] at hc1
  have s2:Ij.wrap (c+1+m)=c+1+m:=zh _ (by omega)
  have HM:=zL hmk
  have hnl:=World.block_lt_of_cell? _ _ hnc
  have hnl2:T.node < w.heap.size:=hnl
  clear hm hmk hnl
  show Calls _ _ #[_,.agg #[Ii Ij x.1,Ii Ij x.2],Ip (some ⟨T.node,0,none⟩)] _ _
  go_enter Try.func75,Try.ntmps75
  go_upto_region 2 with fail
  refine kbD (fun w1=>Chg (fun x _=>x=b) w w1∧ListB w1 b (kcQ k) (c+1) np q∧w1.heap[w.heap.size]?=some (Ic #[Ii Ij x.1,Ii Ij x.2] 27 (0,0))) ⟨((zK _ _).setCell (.inl rfl) _).alloc _,?_,?_⟩ ?_
  ·exact (blk4c1 HL.out _).keep ((zK _ _).alloc _)
  ·exact kbT _ _ (by simp)
  rintro w1 ⟨hc2,hl1,hb1⟩
  have t1:=hc2.cell (fun e=>hnb e) hnc
  have d1:=hl1.c1
  have y1:=hl1.fz 1
  have HL1:=zL hl1
  have HB1:=zL hb1
  have HC:=zL hc2
  clear hc2 hl1 hb1 c1 z1 hnc
  go_upto_region 3 with fail
  go_still_tail 9,(by kernel_rfl)
  go_upto_region 4 with fail
  refine kbD (fun w2=>Chg (fun x _=>x=b) w w2∧ListB w2 b (kcQ k) (c+1+m) np q∧w2.heap[w.heap.size]?=some (Ic #[Ii Ij x.1,Ii Ij x.2] 27 (0,0))) ⟨(HC.out.setCell (.inl rfl) _).drew,ListB.drew (blk4c1 HL1.out _),?_⟩ ?_
  ·rw [kbZ,hs_ne _ (by omega)];exact HB1.out
  clear HC HL1 HB1 t1 d1 y1
  rintro w1 ⟨hc2,hl1,hb1⟩
  have x0:=kbB hb1 0
  have x1:=kbB hb1 1
  simp only [zF,zD,zE] at x0 x1
  have HC:=zL hc2
  have hp:=HP.out w1 hc2 (c+1+m) hl1
  unfold aggE at hp
  have HP2:=zL hp
  clear hc2 hl1 hb1 hp
  go_wp2_with fail
  refine HP2.out.mono ?_
  rintro e w2 ⟨rfl,h3⟩
  have H3:=zL h3
  clear h3 x0 x1
  go_wp2_with fail
  refine bodyPost_end (v:=Iu #[]) (by simp [results,Try.results75,go_sem]) rfl ?_
  refine HFIN.out w1 _ w2 HC.out ⟨rfl,?_⟩
  rw [HM.out]
  exact H3.out
end
section
open Go.RowKit
def ExtSpec (ord:List Int) (h:Nat):Prop:=∀(k0:Kc ord) (mn mx:Nat) (w:World) (F:Nat→Prop) (H:HN ord) (T:BT (It ord) h) (n:Int) (ob b2 b3 rb:Nat) (acc:List (It ord)),
 Fam (parM k0) w F H→IsT H h T→Sh mn mx h T→Kept n ob b2 b3 rb w acc→(∀b,F b→¬TakeB ob rb b)→acc.length+(toL h T).length≤1000000000000 →
 Calls Tp 72 #[Ip (some ⟨rid T,0,none⟩),fnG b2 b3] w (kfC n ob b2 b3 rb acc (toL h T) w)
theorem ext_leaf (ord:List Int):ExtSpec ord 0:=by
 intro k0 mn mx w F H T n ob b2 b3 rb acc hF hT hs hK hFb hlen
 obtain ⟨l0,hn0⟩:=hF.node hT.root
 have hlen':acc.length+T.2.length≤1000000000000:=hlen
 have HK:=zL hK
 clear hK hlen
 unfold fnG
 go_enter Try.func72,Try.ntmps72
 have hc1:Chg (fun _ _=>False) w w:=zK _ _
 have n3:=hn0.c3n rfl
 go_wp2_with (go_at_call 51;refine (kcJ _ none _ ?_).mono ?_;(focus go_simp);rintro e w' ⟨rfl,rfl⟩)
 go_loopw [5] (fun i wr=>∃(k:Nat) (acc':List (It ord)),i=Ii Ij k∧k≤T.2.length∧Kept n ob b2 b3 rb wr acc'∧runL (kcF n) acc T.2=runL (kcF n) acc' (T.2.drop k)∧acc'.length+(T.2.length - k)≤1000000000000∧Chg (fun b _=>TakeB ob rb b) w wr) (fun i _=>T.2.length - (intOf i).toNat)
 case atStart=>exact ⟨0,acc,rfl,Nat.zero_le _,HK.out.keep hc1,rfl,by omega,hc1.mono (fun _ _ _ h=>h.elim)⟩
 case round =>
  obtain ⟨k,acc',rfl,hk,hkp,hrun,hal,hc⟩:=hrel
  clear n3
  obtain ⟨l,hn⟩:=(hF.chg hc (fun b o hb h=>hFb b hb h)).node hT.root
  have n2:wr.cell? ⟨rid T,2,none⟩=some (Is (some ⟨l.ib,l.io,none⟩) T.2.length l.ic):=hn.c2
  by_cases hlt:k < T.2.length
  rotate_left
  ·have hnlt:¬(k:Int) < (T.2.length:Int):=by omega
   rw [List.drop_eq_nil_of_le (by omega)] at hrun
   have HR:=zL hrun
   have HKP:=zL hkp
   clear hrun hkp
   go_wp2
   go_ret
   unfold kfC
   show _=Ending.returned (.bool (runL (kcF n) acc T.2).2)∧Kept n ob b2 b3 rb wr (runL (kcF n) acc T.2).1∧_
   rw [HR.out]
   exact ⟨rfl,HKP.out,hc⟩
  ·obtain ⟨x,hx⟩:∃x,T.2[k]?=some x:=⟨_,zH (by omega)⟩
   have ik:=hn.mkey (j:=k) hx
   have iv:=hn.mval (j:=k) hx
   rw [kfG hx] at hrun
   have hp:=fun w1 (h:Kept n ob b2 b3 rb w1 acc')=>kgD x h (by omega)
   have HR:=zL hrun
   have HKP:=zL hkp
   have i0:(0:Int)≤(k:Int):=by omega
   have i1:(k:Int) < (T.2.length:Int):=by omega
   clear hrun hkp hx
   cases hb:kcF n (acc'++[x])
   all_goals
    rw [hb] at hp
    have HP:=zL hp
    have HB:=zL hb
    clear hp hb
    go_wp2_with fail
    refine (HP.out _ HKP.out).mono ?_
    rintro e w2 ⟨rfl,hk2,hc2⟩
    have hc02:=hc.trans hc2
   ·go_wp2
    go_ret
    unfold kfC
    show _=Ending.returned (.bool (runL (kcF n) acc T.2).2)∧Kept n ob b2 b3 rb w2 (runL (kcF n) acc T.2).1∧_
    rw [HR.out,kgR HB.out]
    exact ⟨rfl,hk2,hc02⟩
   ·go_wp2
    go_roundw
    case rel=>exact ⟨k+1,acc'++[x],by go_num,by omega,hk2,by rw [HR.out,kfB HB.out],by simp;omega,hc02⟩
    case measure=>simp [intOf];omega
theorem ext_branch {ord:List Int} {h:Nat} (ih:ExtSpec ord h):ExtSpec ord (h+1):=by
 intro k0 mn mx w F H T n ob b2 b3 rb acc hF hT hs hK hFb hlen
 obtain ⟨l0,hn0,hblk⟩:=hF.nodeB hT.root
 have hk:(kbP (h+1) T).kids=some (T.2.2.map fun c=>some (rid c)):=rfl
 have hrb:¬TakeB ob rb (rid T):=hFb _ (hblk _ (.inl rfl))
 have hkl:T.2.2.length=T.2.1.length+1:=hs.2.1
 have hml:(T.2.2.map (toL h)).length=T.2.1.length+1:=by simpa using hkl
 have hlen':acc.length+(kcM T.2.1 (T.2.2.map (toL h))).length≤1000000000000:=hlen
 have hits:T.2.1.length≤1000000000000:=by have:=(its_sub hs).length_le;have h2:(its T).length=T.2.1.length:=rfl;omega
 have HKL:=zL hkl
 have HML:=zL hml
 have HLEN:=zL hlen'
 have HK:=zL hK
 have hih:=fun (c:BT (It ord) h) (hcm:c∈T.2.2) (w1:World) (acc1:List (It ord)) (hc1:Chg (fun b _=>TakeB ob rb b) w w1) (h1:Kept n ob b2 b3 rb w1 acc1) (h2:acc1.length+(toL h c).length≤1000000000000) =>
  ih k0 mn mx w1 F H c n ob b2 b3 rb acc1 (hF.chg hc1 (fun b o hb h=>hFb b hb h)) (hT.kid hcm) (hs.2.2 c hcm).2 h1 hFb h2
 unfold fnG at hih
 have HIH:=zL hih
 clear hK hlen hkl hml hlen' hih
 unfold fnG
 go_enter Try.func72,Try.ntmps72
 have hc1:Chg (fun _ _=>False) w w:=zK _ _
 have n3:=hn0.c3s hk
 go_wp2_with (go_at_call 51;refine (kcJ _ (some ⟨l0.cc,0,none⟩) _ ?_).mono ?_;(focus go_simp);rintro e w' ⟨rfl,rfl⟩)
 go_loopw [6] (fun i wr=>∃(k:Nat) (acc':List (It ord)),i=Ii Ij k∧k≤T.2.1.length∧Kept n ob b2 b3 rb wr acc'∧runL (kcF n) acc (toL (h+1) T)=runL (kcF n) acc' (kcM (T.2.1.drop k) ((T.2.2.map (toL h)).drop k))∧acc'.length+(kcM (T.2.1.drop k) ((T.2.2.map (toL h)).drop k)).length≤1000000000000∧Chg (fun b _=>TakeB ob rb b) w wr) (fun i _=>T.2.1.length - (intOf i).toNat)
 case atStart=>exact ⟨0,acc,rfl,Nat.zero_le _,HK.out.keep hc1,rfl,HLEN.out,hc1.mono (fun _ _ _ h=>h.elim)⟩
 case round =>
  obtain ⟨k,acc',rfl,hkk,hkp,hrun,hal,hc⟩:=hrel
  clear n3
  obtain ⟨c,hcj⟩:∃c,T.2.2[k]?=some c:=⟨_,zH (by have:=HKL.out;omega)⟩
  have hcm:c∈T.2.2:=List.mem_of_getElem? hcj
  have hkc:=(zG.1 hcj).1
  have htj:(T.2.2.map (toL h))[k]?=some (toL h c):=by simp [hcj]
  obtain ⟨l,hn⟩:=(hF.chg hc (fun b o hb h=>hFb b hb h)).node hT.root
  have n2:wr.cell? ⟨rid T,2,none⟩=some (Is (some ⟨l.ib,l.io,none⟩) T.2.1.length l.ic):=hn.c2
  have n3:=hn.c3s hk
  have nc:=hn.cc hk
  rw [List.length_map] at nc
  have kc:wr.cell? ⟨l.cb,l.co+k,none⟩=some (Ip (some ⟨rid c,0,none⟩)):=hn.kidc hk (j:=k) (o:=some (rid c)) (by simp [hcj])
  have HKP:=zL hkp
  have i0:(0:Int)≤(k:Int):=by omega
  have i2:(k:Int) < (T.2.2.length:Int):=by omega
  by_cases hlt:k < T.2.1.length
  ·obtain ⟨x,hx⟩:∃x,T.2.1[k]?=some x:=⟨_,zH (by omega)⟩
   rw [inter_drop hx htj] at hrun hal
   have HR:=zL hrun
   have HX:=zL hx
   have HAL:=zL hal
   have i1:(k:Int) < (T.2.1.length:Int):=by omega
   clear hrun hkp hx hcj htj hal
   cases hb2:(runL (kcF n) acc' (toL h c)).2
   all_goals
    have hkid:=HIH.out c hcm wr acc' hc HKP.out (by have:=HAL.out;simp only [zT] at this;omega)
    unfold kfC at hkid
    rw [hb2] at hkid
    have HKID:=zL hkid
    have HB2:=zL hb2
    clear hkid hb2
    go_wp2_with fail
    refine HKID.out.mono ?_
    rintro e w5 ⟨rfl,hk5,hc5⟩
    have hc05:=hc.trans hc5
    have HK5:=zL hk5
    clear hk5 n2 n3 nc kc
   ·go_wp2
    go_ret
    unfold kfC
    show _=Ending.returned (.bool (runL (kcF n) acc (toL (h+1) T)).2)∧Kept n ob b2 b3 rb w5 (runL (kcF n) acc (toL (h+1) T)).1∧_
    rw [HR.out,kfJ HB2.out,HB2.out]
    exact ⟨rfl,HK5.out,hc05⟩
   ·have hrt2:=runL_true _ _ _ HB2.out
    have HRT2:=zL hrt2
    have hk5:=HK5.out
    rw [hrt2] at hk5
    obtain ⟨l5,hn5⟩:=(hF.chg hc05 (fun b o hb h=>hFb b hb h)).node hT.root
    have n2:w5.cell? ⟨rid T,2,none⟩=some (Is (some ⟨l5.ib,l5.io,none⟩) T.2.1.length l5.ic):=hn5.c2
    have ik:=hn5.mkey (j:=k) HX.out
    have iv:=hn5.mval (j:=k) HX.out
    have hp:=fun w1 (h:Kept n ob b2 b3 rb w1 (acc'++toL _ c))=>kgD x h (by have:=HAL.out;simp only [zT] at this ⊢;omega)
    have HK6:=zL hk5
    clear hrt2 hk5
    cases hb:kcF n ((acc'++toL h c)++[x])
    all_goals
     rw [hb] at hp
     have HP:=zL hp
     have HB1:=zL hb
     clear hp hb
     go_wp2_with fail
     refine (HP.out _ HK6.out).mono ?_
     rintro e w4 ⟨rfl,hk4,hc4⟩
     have hc04:=hc05.trans hc4
     have HK4:=zL hk4
     clear hk4
    ·go_wp2
     go_ret
     unfold kfC
     show _=Ending.returned (.bool (runL (kcF n) acc (toL (h+1) T)).2)∧Kept n ob b2 b3 rb w4 (runL (kcF n) acc (toL (h+1) T)).1∧_
     rw [HR.out,kdT HB2.out,HRT2.out,kgR HB1.out]
     exact ⟨rfl,HK4.out,hc04⟩
    ·go_wp2
     go_roundw
     case rel=>exact ⟨k+1,_,by go_num,by omega,HK4.out,by rw [HR.out,kdT HB2.out,HRT2.out,kfB HB1.out],by have:=HAL.out;simp only [zT,List.length_cons,List.length_nil] at this ⊢;omega,hc04⟩
     case measure=>simp [intOf];omega
  ·obtain rfl:k=T.2.1.length:=by omega
   have hdr:kcM (T.2.1.drop T.2.1.length) ((T.2.2.map (toL h)).drop T.2.1.length)=toL h c:=by
    rw [List.drop_length,kfG htj,List.drop_eq_nil_of_le (by have:=HML.out;omega),kgM]
   rw [hdr] at hrun hal
   have HR:=zL hrun
   have hkid:=HIH.out c hcm wr.drew acc' hc.drew (HKP.out.keep (zK _ _).drew) hal
   unfold kfC at hkid
   have HKID:=zL hkid
   have HCB:=zL (show ¬TakeB ob rb l.cc from hFb _ (by
    obtain ⟨lx,hx1,hx2⟩:=(hF.chg hc (fun b o hb h=>hFb b hb h)).nodeB hT.root
    have e1:=hn.c3s hk
    rw [hx1.c3s hk] at e1
    have e2:lx.cc=l.cc:=by simpa using e1
    rw [←e2]
    exact hx2 _ (.inr (.inr ⟨by rw [hk];simp,.inl rfl⟩))))
   have HCC:=zL (show ¬TakeB ob rb l.cb from hFb _ (by
    obtain ⟨lx,hx1,hx2⟩:=(hF.chg hc (fun b o hb h=>hFb b hb h)).nodeB hT.root
    have e1:=hn.c3s hk
    rw [hx1.c3s hk] at e1
    have e2:lx.cc=l.cc:=by simpa using e1
    have e3:=hn.cc hk
    rw [←e2,hx1.cc hk] at e3
    have e4:lx.cb=l.cb:=by
     iterate 3
      injection e3 with e3
     injection e3
    rw [←e4]
    exact hx2 _ (.inr (.inr ⟨by rw [hk];simp,.inr rfl⟩))))
   have s1:Ij.wrap (T.2.1.length:Int)=(T.2.1.length:Int):=zh _ (by omega)
   have s2:((T.2.2.length:Int) - 1)=(T.2.1.length:Int):=by have:=HKL.out;omega
   have hnlt:¬((T.2.1.length:Nat):Int) < (T.2.1.length:Int):=by omega
   clear hrun hkp hcj htj hal hdr hkid
   cases hb2:(runL (kcF n) acc' (toL h c)).2
   all_goals
    rw [hb2] at HKID
    have HB2:=zL hb2
    clear hb2
    go_wp2_with fail
    refine kbM (fun w'=>w'.cell? ⟨rid T,3,none⟩=some (Ip (some ⟨l.cc,0,none⟩))∧w'.cell? ⟨l.cc,0,none⟩=some (Is (some ⟨l.cb,l.co,none⟩) T.2.2.length l.ck)∧w'.cell? ⟨l.cb,l.co+T.2.1.length,none⟩=some (Ip (some ⟨rid c,0,none⟩))) (.soft 0 (.soft 1 (.soft 2 (.soft 3 (.soft 4 (.soft 5 (.soft 6 (.soft 7 (.soft 8 (.soft 9 (.soft 10 (.soft 11 (.soft 12 (.soft 13 (.soft 14 (.soft 15 (.soft 16 (.hard 17 (.soft 18 .nil))))))))))))))))))) (by kernel_rfl) (by kernel_rfl) (fun _ _ _ _ _ h=>h) ⟨n3,nc,kc⟩ ?_
    repeat (first | (refine kbH (by rfl) ?_ ?_ ?_ ?_;rotate_left;(· simp [zI,yielded];done);(· intro w' hS;try obtain ⟨a1,a2,a3⟩:=hS;go_simp;try with_reducible rfl);simp only [zJ,zA,zB,zC]) | (refine kbJ (by rfl) ?_ ?_;(· simp [zI,yielded];done);simp only [zJ,zA,zB,zC]))
    refine kbY (by rfl) (by simp [zI,yielded]) (fun K hK=>?_)
    go_simp
    refine HKID.out.mono ?_
    rintro e w3 ⟨rfl,hk3,hc3⟩
    refine hK _ _ ⟨hc3.cell hrb n3,hc3.cell HCB.out nc,hc3.cell HCC.out kc⟩ ?_
    clear hK K
    repeat (first | (refine kbH (by rfl) ?_ ?_ ?_ ?_;rotate_left;(· simp [zI,yielded];done);(· intro w' hS;try obtain ⟨a1,a2,a3⟩:=hS;go_simp;try with_reducible rfl);simp only [zJ,zA,zB,zC]) | (refine kbJ (by rfl) ?_ ?_;(· simp [zI,yielded];done);simp only [zJ,zA,zB,zC]))
    refine kcT ?_
    have hc03:=hc.drew.trans hc3
    have HK3:=zL hk3
    clear hk3 n3 nc kc
    go_wp2_with fail
    go_ret
    unfold kfC
    show _=Ending.returned (.bool (runL (kcF n) acc (toL (h+1) T)).2)∧Kept n ob b2 b3 rb w3 (runL (kcF n) acc (toL (h+1) T)).1∧_
    rw [HR.out,HB2.out]
    exact ⟨rfl,HK3.out,hc03⟩
theorem ext_all (ord:List Int):(h:Nat)→ExtSpec ord h
 | 0=>ext_leaf ord
 | h+1=>ext_branch (ext_all ord h)
end
section
open Go.RowKit
variable {ord:List Int} {k:Kc ord}
theorem taker1_lim {n:Int} {ob b2 b3 rb lim:Nat} {w:World} {acc:List (It ord)} (x:It ord) (h:Kept n ob b2 b3 rb w acc) (hlim:∀v y,w.heap[ob]?=some (Ic #[v] 25 (0,0))→v.ownBlock=some y→y < lim) (hlw:lim≤w.heap.size) (hlen:acc.length≤1000000000000) :
  Calls Tp 53 #[.agg #[Ii Ij x.1,Ii Ij x.2],Ip (some ⟨b2,0,none⟩),Ip (some ⟨b3,0,none⟩)] w fun e w' =>
   e=Ir (.bool (kcF n (acc++[x])))∧Kept n ob b2 b3 rb w' (acc++[x])∧Chg (fun b _=>b=ob∨(rb≤b∧b < lim)) w w':=by
 obtain ⟨i0,hi0,hz0,hz1,hz2⟩:=info_parts infoItem
 have HK:=zL h
 go_enter Try.func53,Try.ntmps53
 go_wp2
 refine kbD (fun w1=>Chg (fun _ _=>False) w w1∧w1.heap[w.heap.size]?=some (Ic #[Ii Ij x.1,Ii Ij x.2] 27 (0,0))) ⟨(zK _ _).alloc _,kbT _ _ rfl⟩ ?_
 clear h
 rintro w1 ⟨hc1,hb1⟩
 obtain ⟨v,g1,g2⟩:=HK.out.o
 obtain ⟨_,p2,p3,l0,l2,l3,n2,n3,hr⟩:=HK.out.keep hc1
 have h1:w1.heap[ob]?=some (Ic #[v] 25 (0,0)):=by rw [hc1.block (kbF g1) (fun _ h=>h)];exact g1
 have h2:=g2.keep hc1
 have hvl:∀b,v.ownBlock=some b→rb≤b∧b < lim:=fun b hb=>⟨(g2.own_lt hb).1,hlim v b g1 hb⟩
 have HVL:=zL hvl
 clear g1 g2 hvl
 have o0:=kbB h1 0
 have q2:=kbB p2 0
 have x0:=kbB hb1 0
 have x1:=kbB hb1 1
 have z0:=kbC h1 0
 simp only [zF,zD,zE] at o0 q2 x0 x1
 have hsz1:=hc1.size
 have HOW:=zL h2
 have HB:=zL h1
 clear h2 h1
 refine kfD (fun w'=>w'.cell? ⟨ob,0,none⟩=some v∧w'.cell? ⟨b2,0,none⟩=some (Ip (some ⟨ob,0,none⟩))∧w'.cell? ⟨w.heap.size,0,none⟩=some (Ii Ij x.1)∧w'.cell? ⟨w.heap.size,1,none⟩=some (Ii Ij x.2)) 8
  [(0,true),(1,true),(2,true),(3,true),(4,true),(5,false),(6,false),(7,true),(8,false)] (by kernel_rfl) (by kernel_rfl) (fun _ _ _ _ _ h=>h) ⟨o0,q2,x0,x1⟩ ?_
 iterate 5
  refine kcN (by rfl) ?_ (by simp [zI,yielded]) ?_ ?_
  rotate_left
  ·intro w' hS
   try obtain ⟨a1,a2,a3,a4⟩:=hS
   go_simp
   try with_reducible rfl
  simp only [zJ,zA,zB,zC]
 refine kcR (by rfl) (by simp [zI,yielded]) (fun K hK=>?_)
 go_simp
 have hc2:Chg (fun _ _=>False) w1 (w1.alloc (Ic #[Ii Ij x.1,Ii Ij x.2] 27)).drew:=((zK _ _).alloc _).drew
 refine hK _ _ (fun _=>⟨hc2.q o0,hc2.q q2,hc2.q x0,hc2.q x1⟩) ?_
 clear hK K
 refine kcR (by rfl) (by simp [zI,yielded]) (fun K hK=>?_)
 refine wp_append_E2 itemE _ _ _ (by rfl) i0 _ 16 Try.underlying25 hi0 hz0 hz1 hz2 rfl v (by rfl) acc rb (HOW.out.keep hc2) (zj hr hc2.size) ⟨w1.heap.size,0,none⟩ 1 _ (by rfl) [x] rfl (by decide) ?_ ?_ ?_ ?_
 ·exact El.src1 itemE (c:=#[Ii Ij x.1,Ii Ij x.2]) (kbT _ _ (by simp)) _ rfl
 ·unfold maxLen;omega
 ·omega
 intro v' w2 g1 g2 _
 obtain ⟨a1,c1,hv',hlc⟩:∃a1 c1,v'=.slice a1 (acc.length+1) c1∧True:=by
  obtain ⟨a1,c1,e,_⟩:=g1.sl
  exact ⟨a1,c1,by rw [e];simp,trivial⟩
 subst hv'
 have hgv:Chg (fun b _=>v.ownBlock=some b) w1 w2:=(hc2.mono (fun _ _ _ h=>h.elim)).trans g2
 have hg:Chg (fun b _=>rb≤b) w1 w2:=hgv.mono (fun b _ _ h=>(HVL.out b h).1)
 have hs:∀{b:Nat} {ob:Obj},b < rb→w1.heap[b]?=some ob→w2.heap[b]?=some ob:=fun h g=>by rw [hg.block (kbF g) (fun _ h2=>by omega)];exact g
 have x0':=hgv.cell (a:=⟨w.heap.size,0,none⟩) (fun h=>by have:=(HVL.out w.heap.size h).2;omega) x0
 have x1':=hgv.cell (a:=⟨w.heap.size,1,none⟩) (fun h=>by have:=(HVL.out w.heap.size h).2;omega) x1
 have o0':=hg.cell (a:=⟨ob,0,none⟩) (fun h=>by have h2:rb≤ob:=h;omega) o0
 have q2':=hg.cell (a:=⟨b2,0,none⟩) (fun h=>by have h2:rb≤b2:=h;omega) q2
 have h1':=hs l0 HB.out
 have p2':=hs l2 p2
 have p3':=hs l3 p3
 refine hK _ _ (fun _=>⟨o0',q2',x0',x1'⟩) ?_
 clear hK K
 have z0':=kbC h1' 0
 have HB2:=zL h1'
 have HP2:=zL p2'
 have HP3:=zL p3'
 have hsz2:=hg.size
 clear h1' p2' p3' p2 p3 z0
 refine kcN (by rfl) ?_ (by simp [zI,yielded]) ?_ ?_
 rotate_left
 ·intro w' hS
  try obtain ⟨a1,a2,a3,a4⟩:=hS
  go_simp
  try with_reducible rfl
 simp only [zJ,zA,zB,zC]
 refine kcR (by rfl) (by simp [zI,yielded]) (fun K hK=>?_)
 go_simp
 refine hK _ _ (fun h=>absurd h (by decide)) (kdQ ?_)
 clear hK K
 have hob:(w2.setCell ⟨ob,0,none⟩ (.slice a1 (acc.length+1) c1)).heap[ob]?=some (Ic #[.slice a1 (acc.length+1) c1] 25 (0,0)):=by rw [kbV HB2.out];rfl
 have hst:Chg (fun b _=>b=ob) w2 (w2.setCell ⟨ob,0,none⟩ (.slice a1 (acc.length+1) c1)):=(zK _ _).setCell (.inl rfl) _
 have hfin:Kept n ob b2 b3 rb (w2.setCell ⟨ob,0,none⟩ (.slice a1 (acc.length+1) c1)) (acc++[x]):=by
  have ho:∀{b:Nat} {o:Obj},ob≠b→w2.heap[b]?=some o→(w2.setCell ⟨ob,0,none⟩ (.slice a1 (acc.length+1) c1)).heap[b]?=some o:=fun h g=>by rw [hst.block (kbF g) (fun _ e=>h e.symm)];exact g
  exact ⟨⟨_,hob,g1.chgOwn hst (fun b _ hb e=>by have:=(g1.own_lt hb).1;omega)⟩,ho n2 HP2.out,ho n3 HP3.out,l0,l2,l3,n2,n3,zj hr (zj hsz2 hst.size)⟩
 have hall:Chg (fun b _=>b=ob∨(rb≤b∧b < lim)) w (w2.setCell ⟨ob,0,none⟩ (.slice a1 (acc.length+1) c1)):=((hc1.mono (fun _ _ _ h=>h.elim)).trans (hgv.mono (fun b _ _ h=>.inr (HVL.out b h)))).trans (hst.mono (fun _ _ _ h=>.inl h))
 have HFIN:=zL hfin
 have HALL:=zL hall
 have k1:=kbB hob 0
 have k2:=hst.cell (a:=⟨b2,0,none⟩) (fun h=>n2 h.symm) q2'
 have k3:=hst.cell (a:=⟨b3,0,none⟩) (fun h=>n3 h.symm) (kbB HP3.out 0)
 simp only [zF,zD,zE] at k1 k3
 clear hob hst hfin hall o0 q2 x0 x1 o0' q2' x0' x1' hc2 hg hgv g1 g2
 have hcn:kcF n (acc++[x])=(decide (n < 1) || decide (((acc.length:Int)+1) < n)):=by unfold kcF;simp
 have HCN:=zL hcn
 clear hcn
 have la1:(0:Int)≤(acc.length:Int):=by omega
 have la2:(acc.length:Int)≤1000000000000:=by omega
 by_cases hn1:n < 1
 ·have HD:=zL (show kcF n (acc++[x])=true by rw [HCN.out];simp [hn1])
  go_wp2_with fail
  go_quiet (fail)
  go_wp2
  go_ret
  refine ⟨?_,HFIN.out.keep ((zK _ _).drewN _),HALL.out.drewN _⟩
  show Ending.returned (.bool true)=_
  rw [HD.out]
 ·have hd:decide (n < 1)=false:=by simpa using hn1
  have HD:=zL (show kcF n (acc++[x])=decide (((acc.length:Int)+1) < n) by rw [HCN.out,hd];rfl)
  go_wp2_with fail
  go_quiet (fail)
  go_wp2
  go_ret
  refine ⟨?_,HFIN.out.keep ((zK _ _).drewN _),HALL.out.drewN _⟩
  show Ending.returned (.bool (decide (((acc.length:Int)+1) < n)))=_
  rw [HD.out]
end
section
open Go.RowKit
def PopPost {ord:List Int} (k:Kc ord) (w:World) (b qb qo cap:Nat) (c np:Int) (L:List (Bk ord)) (m:Bk ord) (e:Ending) (w':World):Prop :=
 e=Ir (Iu #[aggE m,.bool true])∧∃L' bl,L[L.length - 1]?=some bl∧L'.Perm ((L.set 0 bl).take (L.length - 1))∧kfF ltE L'∧ListB w' b (kcQ k) c np (Is (some ⟨qb,qo,none⟩) (L.length - 1:Nat) cap)∧QRow w' qb qo cap L'∧Chg (fun x _=>x=b∨x=qb) w w'
variable {c np:Int} {w:World}
theorem blk4c3 {b:Nat} {lv q:Value} (h:ListB w b lv c np q) (q':Value):ListB (w.setCell ⟨b,3,none⟩ q') b lv c np q':=by
 unfold ListB
 rw [kbV h _];rfl
theorem blk3 {b:Nat} {T:TypeId} {fr:Nat×Nat} {u0 u1 u2:Value} (h:w.heap[b]?=some (Ic #[u0,u1,u2] T fr)) (v0 v1 v2:Value):(((w.setCell ⟨b,0,none⟩ v0).setCell ⟨b,1,none⟩ v1).setCell ⟨b,2,none⟩ v2).heap[b]?=some (Ic #[v0,v1,v2] T fr):=by
 rw [kbV (kbV (kbV h _) _) _];rfl
theorem pop_none {b:Nat} {lv:Value} {a:Option Addr} {cap:Nat} (hl:ListB w b lv c np (.slice a 0 cap)) :
  Calls Tp 73 #[Ip (some ⟨b,0,none⟩)] w fun e w'=>e=Ir (Iu #[.agg #[Ii Ij 0,Ii Ij 0,Ip none],.bool false])∧Chg (fun _ _=>False) w w':=by
 have c3:=hl.c3
 have hlt:b < w.heap.size:=kbF hl
 clear hl
 go_enter Try.func73,Try.ntmps73
 go_upto_region 1 with fail
 refine kbD (fun w1=>Chg (fun _ _=>False) w w1∧w1.heap[w.heap.size]?=some (Ic #[Ii Ij 0,Ii Ij 0,Ip none] 128 (0,0))) ⟨(zK _ _).alloc _,kbT _ _ rfl⟩ ?_
 rintro w1 ⟨hc1,hb1⟩
 have d3:=hc1.q c3
 have x0:=kbB hb1 0
 have x1:=kbB hb1 1
 have x2:=kbB hb1 2
 have z0:=kbC hb1 0
 have z1:=kbC hb1 1
 have z2:=kbC hb1 2
 simp only [zF,zD,zE] at x0 x1 x2
 have HB1:=zL hb1
 have HC1:=zL hc1
 clear hb1 hc1 c3
 go_wp2_with fail
 refine kbQ (fun wl=>Chg (fun _ _=>False) w wl∧wl.heap[w.heap.size]?=some (Ic #[Ii Ij 0,Ii Ij 0,Ip none] 128 (0,0))∧Chg (fun x _=>x=w.heap.size) w1 wl) ⟨?_,blk3 HB1.out _ _ _,(((zK _ _).setCell (.inl rfl) _).setCell (.inl rfl) _).setCell (.inl rfl) _⟩ ?_
 ·exact (((HC1.out.setCell (.inr (zi _)) _).setCell (.inr (zi _)) _).setCell (.inr (zi _)) _)
 clear x0 x1 x2 z0 z1 z2
 rintro wl ⟨hcl,hbl,hcw⟩
 have p0:=kbB hbl 0
 have p1:=kbB hbl 1
 have p2:=kbB hbl 2
 simp only [zF,zD,zE] at p0 p1 p2
 refine bodyPost_ret (v:=Iu #[.agg #[Ii Ij 0,Ii Ij 0,Ip none],.bool false]) (by simp [results,Try.results73,go_sem,p0,p1,p2]) rfl ?_
 exact ⟨rfl,hcl⟩
structure PopW {ord:List Int} (k:Kc ord) (w wx:World) (b qb qo cap n:Nat) (c np:Int) (M:List (Bk ord)) (m:Bk ord):Prop where
 lb:ListB wx b (kcQ k) c np (Is (some ⟨qb,qo,none⟩) n cap)
 row:QRow wx qb qo cap M
 res:wx.heap[w.heap.size]?=some (Ic #[Ii Ij 0,Ii Ij 0,Ip none] 128 (0,0))
 got:wx.heap[w.heap.size+1]?=some (Ic #[Ii Ij m.1.1,Ii Ij m.1.2,.pointer m.npA] 128 (0,0))
 chg:Chg (fun x _=>x=b∨x=qb) w wx
variable {b qb qo cap n:Nat} {ord:List Int} {k:Kc ord} {m:Bk ord}
theorem PopW.keep {w wx wy:World} {M:List (Bk ord)} (h:PopW k w wx b qb qo cap n c np M m) (hc:Chg (fun _ _=>False) wx wy):PopW k w wy b qb qo cap n c np M m :=
 ⟨h.lb.keep hc,h.row.chg hc (fun _ h=>h),by rw [hc.block (kbF h.res) (fun _ h=>h)];exact h.res,by rw [hc.block (kbF h.got) (fun _ h=>h)];exact h.got,h.chg.trans (hc.mono (fun _ _ _ h=>h.elim))⟩
theorem PopW.drew {w wx:World} {M:List (Bk ord)} (h:PopW k w wx b qb qo cap n c np M m):PopW k w wx.drew b qb qo cap n c np M m:=h.keep (zK _ _).drew
theorem PopW.swap {w wx wy:World} {M M':List (Bk ord)} (h:PopW k w wx b qb qo cap n c np M m) (hc:Chg (fun x _=>x=qb) wx wy) (hr:QRow wy qb qo cap M') (hqb:qb≠b) (h1:qb≠w.heap.size) (h2:qb≠w.heap.size+1):PopW k w wy b qb qo cap n c np M' m :=
 ⟨h.lb.chg hc (fun _ e=>hqb e.symm),hr,by rw [hc.block (kbF h.res) (fun _ e=>h1 e.symm)];exact h.res,by rw [hc.block (kbF h.got) (fun _ e=>h2 e.symm)];exact h.got,h.chg.trans (hc.mono (fun _ _ _ e=>.inr e))⟩
theorem lt_mid {α:Type} {lt:α→α→Bool} (s:Swo lt) {a y z:α} (h1:lt a y=true) (h2:lt a z=false):lt y z=false:=by
 cases h:lt y z with
 | false=>rfl
 | true=>have:=s.trans h1 h;rw [h2] at this;cases this
def popIn (f:Func):Code:=cI (cI (cI (cL (cR (cR (cR (cR (cR (cR (f.body.getD .skip))))))))))
def popA (f:Func):Code:=cR (cR (cR (popIn f)))
def NormP (N:Act→World→Prop):Exit→Act→World→Prop
 | .normal,a,w=>N a w
 | _,_,_=>False
theorem wp_seqP {Pr:Program} {x y:Code} {Q:Exit→Act→World→Prop} {a:Act} {M:Act→World→Prop} (h:x.wp Pr (NormP M) a w) (h2:∀a w,M a w→y.wp Pr Q a w):(x.seq y).wp Pr Q a w:=by
 refine wp_seq (wp_mono h fun e a w he=>?_)
 cases e with
 | normal=>exact h2 a w he
 | _=>exact he.elim
theorem ev_slotP {a:Act} {n:Nat} {v:Value} (h:a.tmps[n]?=some v):a.eval (.tmp n)=v:=by
 show a.tmps.getD n undef=_
 rw [Array.getD_eq_getD_getElem?,h];rfl
def fr155 (f:Nat→Value):Array Value:=#[f 0,f 1,f 2,f 3,f 4,f 5,f 6,f 7,f 8,f 9,f 10,f 11,f 12,f 13,f 14,f 15,f 16,f 17,f 18,f 19,f 20,f 21,f 22,f 23,f 24,f 25,f 26,f 27,f 28,f 29,f 30,f 31,f 32,f 33,f 34,f 35,f 36,f 37,f 38,f 39,f 40,f 41,f 42,f 43,f 44,f 45,f 46,f 47,f 48,f 49,f 50,f 51,f 52,f 53,f 54,f 55,f 56,f 57,f 58,f 59,f 60,f 61,f 62,f 63,f 64,f 65,f 66,f 67,f 68,f 69,f 70,f 71,f 72,f 73,f 74,f 75,f 76,f 77,f 78,f 79,f 80,f 81,f 82,f 83,f 84,f 85,f 86,f 87,f 88,f 89,f 90,f 91,f 92,f 93,f 94,f 95,f 96,f 97,f 98,f 99,f 100,f 101,f 102,f 103,f 104,f 105,f 106,f 107,f 108,f 109,f 110,f 111,f 112,f 113,f 114,f 115,f 116,f 117,f 118,f 119,f 120,f 121,f 122,f 123,f 124,f 125,f 126,f 127,f 128,f 129,f 130,f 131,f 132,f 133,f 134,f 135,f 136,f 137,f 138,f 139,f 140,f 141,f 142,f 143,f 144,f 145,f 146,f 147,f 148,f 149,f 150,f 151,f 152,f 153,f 154]
def PopH (b r i:Nat) (a:Act):Prop:=a.defers=[]∧a.tmps.size=155∧a.tmps[0]?=some (Ip (some ⟨b,0,none⟩))∧a.tmps[2]?=some (Ip (some ⟨r,0,none⟩))∧a.tmps[4]?=some (Ip (some ⟨r+1,0,none⟩))∧a.tmps[5]?=some (Ii Ij i)
def PopFr (b r i s d1 d2:Nat) (a:Act):Prop:=a.defers=[]∧a.tmps.size=155∧a.tmps[0]?=some (Ip (some ⟨b,0,none⟩))∧a.tmps[2]?=some (Ip (some ⟨r,0,none⟩))∧a.tmps[4]?=some (Ip (some ⟨r+1,0,none⟩))∧a.tmps[5]?=some (Ii Ij i)∧a.tmps[6]?=some (Ii Ij s)∧a.tmps[7]?=some (Ii Ij d1)∧a.tmps[8]?=some (Ii Ij d2)
section
variable {ord:List Int} {k:Kc ord} {w wr:World} {b r qb qo cap n i s d1 d2:Nat} {c np:Int} {M:List (Bk ord)} {m:Bk ord}
theorem PopH.lit {a} (h:PopH b r i a):∃f,a=⟨fr155 f,[]⟩∧f 0=Ip (some ⟨b,0,none⟩)∧f 2=Ip (some ⟨r,0,none⟩)∧f 4=Ip (some ⟨r+1,0,none⟩)∧f 5=Ii Ij i:=by
 obtain ⟨t,_⟩:=a
 obtain ⟨rfl,hs,h0,h2,h4,h5⟩:=h
 obtain ⟨f,rfl⟩:∃f,t=fr155 f:=⟨fun i=>(t[i]?).getD undef,(arr_lit t 155 hs).trans rfl⟩
 exact ⟨f,rfl,Iq h0,Iq h2,Iq h4,Iq h5⟩
theorem PopFr.head {a} (h:PopFr b r i s d1 d2 a):PopH b r i a:=⟨h.1,h.2.1,h.2.2.1,h.2.2.2.1,h.2.2.2.2.1,h.2.2.2.2.2.1⟩
theorem PopFr.lit {a} (h:PopFr b r i s d1 d2 a):∃f,a=⟨fr155 f,[]⟩∧f 0=Ip (some ⟨b,0,none⟩)∧f 2=Ip (some ⟨r,0,none⟩)∧f 4=Ip (some ⟨r+1,0,none⟩)∧f 5=Ii Ij i∧f 6=Ii Ij s∧f 7=Ii Ij d1∧f 8=Ii Ij d2:=by
 obtain ⟨f,rfl,e0,e2,e4,e5⟩:=h.head.lit
 obtain ⟨_,_,_,_,_,_,h6,h7,h8⟩:=h
 exact ⟨f,rfl,e0,e2,e4,e5,Iq h6,Iq h7,Iq h8⟩
theorem pop_cmp10 (a:Act) (hfr:PopFr b r i s d1 d2 a) (hW:PopW k w wr b qb qo cap n c np M m) (ho:OrdAt k wr) (hM:M.length=n) (hs:d1 < n→s < n) :
  (cL (cL (popA Try.f73))).wp Tp (NormP fun a' w'=>∃v,a'.tmps[90]?=some (.bool v)∧(v=true→d1 < n∧∀x y,M[s]?=some x→M[d1]?=some y→ltE x y=false)∧(v=false→∀x y,M[s]?=some x→M[d1]?=some y→ltE x y=true)∧PopFr b r i s d1 d2 a'∧PopW k w w' b qb qo cap n c np M m) a wr:=by
 conv=>arg 2;whnf
 obtain ⟨f,rfl,e0,e2,e4,e5,e6,e7,e8⟩:=hfr.lit
 unfold fr155 at *
 have r3:=hW.lb.c3
 have HW:=zL hW
 have HM:=zL hM
 rw [e0,e2,e4,e5,e6,e7,e8]
 by_cases hd:d1 < n
 ·obtain ⟨x,hx⟩:∃x,M[s]?=some x:=⟨_,zH (by have:=hs hd;omega)⟩
  obtain ⟨y,hy⟩:∃y,M[d1]?=some y:=⟨_,zH (by omega)⟩
  have r0:=hW.lb.c0
  unfold kcQ at r0
  obtain ⟨x0,x1,x2⟩:=hW.row.cell hx
  obtain ⟨y0,y1,y2⟩:=hW.row.cell hy
  have j1:(0:Int)≤(s:Int):=by omega
  have j2:(s:Int) < (n:Int):=by have:=hs hd;omega
  have j3:(0:Int)≤(d1:Int):=by omega
  have j4:(d1:Int) < (n:Int):=by omega
  have HX:=zL (And.intro hx hy)
  have HD:=zL hd
  have HO:=zL ho
  clear hfr e0 e2 e4 e5 e6 e7 e8 hW hM hs x2 y2 hx hy ho hd
  refine kbM (fun w'=>w'.cell? ⟨b,0,none⟩=some (.func (.func 63) #[] #[Ip (some ⟨k.ob,0,none⟩)])∧w'.cell? ⟨b,3,none⟩=some (Is (some ⟨qb,qo,none⟩) n cap)∧w'.cell? ⟨qb,qo+s * 3,none⟩=some (Ii Ij x.1.1)∧w'.cell? ⟨qb,qo+s * 3+1,none⟩=some (Ii Ij x.1.2)∧w'.cell? ⟨qb,qo+d1 * 3,none⟩=some (Ii Ij y.1.1)∧w'.cell? ⟨qb,qo+d1 * 3+1,none⟩=some (Ii Ij y.1.2)) (.soft 0 (.soft 1 (.soft 2 (.soft 3 (.soft 4 (.soft 5 (.soft 6 (.soft 7 (.soft 8 (.soft 9 (.soft 10 (.soft 11 (.soft 12 (.soft 13 (.soft 14 (.soft 15 (.soft 16 (.soft 17 (.soft 18 (.soft 19 (.soft 20 (.soft 21 (.soft 22 (.soft 23 (.soft 24 (.soft 25 (.soft 26 (.soft 27 (.hard 28 (.soft 29 (.soft 30 .nil))))))))))))))))))))))))))))))) (by kernel_rfl) (by kernel_rfl) (fun _ _ _ _ _ h=>h) ⟨r0,r3,x0,x1,y0,y1⟩ ?_
  repeat (first | (refine kbH (by rfl) ?_ ?_ ?_ ?_;rotate_left;(· simp [zI,yielded];done);(· intro w' hS;try obtain ⟨a1,a2,a3,a4,a5,a6⟩:=hS;go_simp;try with_reducible rfl);simp only [zJ,zA,zB,zC]) | (refine kbJ (by rfl) ?_ ?_;(· simp [zI,yielded];done);simp only [zJ,zA,zB,zC]))
  refine kbY (by rfl) (by simp [zI,yielded]) (fun K hK=>?_)
  go_simp
  refine (less_any x.1 y.1 _ (HO.out.chg (zK (fun _ _=>False) _).drew (fun _ h=>h) (fun _ h=>h))).mono ?_
  rintro e w2 ⟨rfl,hc2⟩
  refine hK _ _ ⟨hc2.q r0,hc2.q r3,hc2.q x0,hc2.q x1,hc2.q y0,hc2.q y1⟩ ?_
  clear hK K
  repeat (first | (refine kbH (by rfl) ?_ ?_ ?_ ?_;rotate_left;(· simp [zI,yielded];done);(· intro w' hS;try obtain ⟨a1,a2,a3,a4,a5,a6⟩:=hS;go_simp;try with_reducible rfl);simp only [zJ,zA,zB,zC]) | (refine kbJ (by rfl) ?_ ?_;(· simp [zI,yielded];done);simp only [zJ,zA,zB,zC]))
  refine kcT ?_
  have hv:∀x' y',M[s]?=some x'→M[d1]?=some y'→ltE x' y'=ltM x.1 y.1:=fun x' y' h1 h2=>by
   rw [HX.out.1] at h1;rw [HX.out.2] at h2
   obtain rfl:=Iq h1
   obtain rfl:=Iq h2
   rfl
  exact ⟨!ltM x.1 y.1,rfl,(fun h=>⟨HD.out,fun x' y' h1 h2=>by rw [hv x' y' h1 h2];simpa using h⟩),(fun h x' y' h1 h2=>by rw [hv x' y' h1 h2];simpa using h),⟨rfl,rfl,rfl,rfl,rfl,rfl,rfl,rfl,rfl⟩,HW.out.keep ((zK (fun _ _=>False) wr).drew.trans hc2)⟩
 ·have j4:¬(d1:Int) < (n:Int):=by omega
  have hno:∀y,M[d1]?=some y→False:=fun y hy=>by have:=(zG.1 hy).1;omega
  have HNO:=zL hno
  clear hfr e0 e2 e4 e5 e6 e7 e8 hW hM hs ho hno
  refine kbM (fun w'=>w'.cell? ⟨b,3,none⟩=some (Is (some ⟨qb,qo,none⟩) n cap)) (.soft 0 (.soft 1 (.soft 2 (.soft 3 (.soft 4 (.soft 5 (.soft 6 (.soft 7 (.soft 8 (.soft 9 (.soft 10 (.soft 11 (.soft 12 (.soft 13 (.soft 14 (.soft 15 (.soft 16 (.soft 17 (.soft 18 (.soft 19 (.soft 20 (.soft 21 (.soft 22 (.soft 23 (.soft 24 (.soft 25 (.soft 26 (.soft 27 (.hard 28 (.soft 29 (.soft 30 .nil))))))))))))))))))))))))))))))) (by kernel_rfl) (by kernel_rfl) (fun _ _ _ _ _ h=>h) r3 ?_
  repeat (first | (refine kbH (by rfl) ?_ ?_ ?_ ?_;rotate_left;(· simp [zI,yielded];done);(· intro w' hS;go_simp;try with_reducible rfl);simp only [zJ,zA,zB,zC]) | (refine kbJ (by rfl) ?_ ?_;(· simp [zI,yielded];done);simp only [zJ,zA,zB,zC]))
  refine kfW (by rfl) (by simp [zI,yielded]) ?_
  simp only [zJ,zA,zB,zC]
  repeat (first | (refine kbH (by rfl) ?_ ?_ ?_ ?_;rotate_left;(· simp [zI,yielded];done);(· intro w' hS;go_simp;try with_reducible rfl);simp only [zJ,zA,zB,zC]) | (refine kbJ (by rfl) ?_ ?_;(· simp [zI,yielded];done);simp only [zJ,zA,zB,zC]))
  refine kcT ?_
  exact ⟨false,rfl,(fun h=>by cases h),(fun _ x' y' _ h2=>(HNO.out y' h2).elim),⟨rfl,rfl,rfl,rfl,rfl,rfl,rfl,rfl,rfl⟩,HW.out.drew⟩
theorem pop_cmp12 (a:Act) (hfr:PopFr b r i s d1 d2 a) (hW:PopW k w wr b qb qo cap n c np M m) (ho:OrdAt k wr) (hM:M.length=n) (hs:d2 < n→s < n) :
  (cL (cL (cR (popA Try.f73)))).wp Tp (NormP fun a' w'=>∃v,a'.tmps[122]?=some (.bool v)∧(v=true→d2 < n∧∀x y,M[s]?=some x→M[d2]?=some y→ltE x y=false)∧(v=false→∀x y,M[s]?=some x→M[d2]?=some y→ltE x y=true)∧PopFr b r i s d1 d2 a'∧PopW k w w' b qb qo cap n c np M m) a wr:=by
 conv=>arg 2;whnf
 obtain ⟨f,rfl,e0,e2,e4,e5,e6,e7,e8⟩:=hfr.lit
 unfold fr155 at *
 have r3:=hW.lb.c3
 have HW:=zL hW
 have HM:=zL hM
 rw [e0,e2,e4,e5,e6,e7,e8]
 by_cases hd:d2 < n
 ·obtain ⟨x,hx⟩:∃x,M[s]?=some x:=⟨_,zH (by have:=hs hd;omega)⟩
  obtain ⟨y,hy⟩:∃y,M[d2]?=some y:=⟨_,zH (by omega)⟩
  have r0:=hW.lb.c0
  unfold kcQ at r0
  obtain ⟨x0,x1,x2⟩:=hW.row.cell hx
  obtain ⟨y0,y1,y2⟩:=hW.row.cell hy
  have j1:(0:Int)≤(s:Int):=by omega
  have j2:(s:Int) < (n:Int):=by have:=hs hd;omega
  have j3:(0:Int)≤(d2:Int):=by omega
  have j4:(d2:Int) < (n:Int):=by omega
  have HX:=zL (And.intro hx hy)
  have HD:=zL hd
  have HO:=zL ho
  clear hfr e0 e2 e4 e5 e6 e7 e8 hW hM hs x2 y2 hx hy ho hd
  refine kbM (fun w'=>w'.cell? ⟨b,0,none⟩=some (.func (.func 63) #[] #[Ip (some ⟨k.ob,0,none⟩)])∧w'.cell? ⟨b,3,none⟩=some (Is (some ⟨qb,qo,none⟩) n cap)∧w'.cell? ⟨qb,qo+s * 3,none⟩=some (Ii Ij x.1.1)∧w'.cell? ⟨qb,qo+s * 3+1,none⟩=some (Ii Ij x.1.2)∧w'.cell? ⟨qb,qo+d2 * 3,none⟩=some (Ii Ij y.1.1)∧w'.cell? ⟨qb,qo+d2 * 3+1,none⟩=some (Ii Ij y.1.2)) (.soft 0 (.soft 1 (.soft 2 (.soft 3 (.soft 4 (.soft 5 (.soft 6 (.soft 7 (.soft 8 (.soft 9 (.soft 10 (.soft 11 (.soft 12 (.soft 13 (.soft 14 (.soft 15 (.soft 16 (.soft 17 (.soft 18 (.soft 19 (.soft 20 (.soft 21 (.soft 22 (.soft 23 (.soft 24 (.soft 25 (.soft 26 (.soft 27 (.hard 28 (.soft 29 (.soft 30 .nil))))))))))))))))))))))))))))))) (by kernel_rfl) (by kernel_rfl) (fun _ _ _ _ _ h=>h) ⟨r0,r3,x0,x1,y0,y1⟩ ?_
  repeat (first | (refine kbH (by rfl) ?_ ?_ ?_ ?_;rotate_left;(· simp [zI,yielded];done);(· intro w' hS;try obtain ⟨a1,a2,a3,a4,a5,a6⟩:=hS;go_simp;try with_reducible rfl);simp only [zJ,zA,zB,zC]) | (refine kbJ (by rfl) ?_ ?_;(· simp [zI,yielded];done);simp only [zJ,zA,zB,zC]))
  refine kbY (by rfl) (by simp [zI,yielded]) (fun K hK=>?_)
  go_simp
  refine (less_any x.1 y.1 _ (HO.out.chg (zK (fun _ _=>False) _).drew (fun _ h=>h) (fun _ h=>h))).mono ?_
  rintro e w2 ⟨rfl,hc2⟩
  refine hK _ _ ⟨hc2.q r0,hc2.q r3,hc2.q x0,hc2.q x1,hc2.q y0,hc2.q y1⟩ ?_
  clear hK K
  repeat (first | (refine kbH (by rfl) ?_ ?_ ?_ ?_;rotate_left;(· simp [zI,yielded];done);(· intro w' hS;try obtain ⟨a1,a2,a3,a4,a5,a6⟩:=hS;go_simp;try with_reducible rfl);simp only [zJ,zA,zB,zC]) | (refine kbJ (by rfl) ?_ ?_;(· simp [zI,yielded];done);simp only [zJ,zA,zB,zC]))
  refine kcT ?_
  have hv:∀x' y',M[s]?=some x'→M[d2]?=some y'→ltE x' y'=ltM x.1 y.1:=fun x' y' h1 h2=>by
   rw [HX.out.1] at h1;rw [HX.out.2] at h2
   obtain rfl:=Iq h1
   obtain rfl:=Iq h2
   rfl
  exact ⟨!ltM x.1 y.1,rfl,(fun h=>⟨HD.out,fun x' y' h1 h2=>by rw [hv x' y' h1 h2];simpa using h⟩),(fun h x' y' h1 h2=>by rw [hv x' y' h1 h2];simpa using h),⟨rfl,rfl,rfl,rfl,rfl,rfl,rfl,rfl,rfl⟩,HW.out.keep ((zK (fun _ _=>False) wr).drew.trans hc2)⟩
 ·have j4:¬(d2:Int) < (n:Int):=by omega
  have hno:∀y,M[d2]?=some y→False:=fun y hy=>by have:=(zG.1 hy).1;omega
  have HNO:=zL hno
  clear hfr e0 e2 e4 e5 e6 e7 e8 hW hM hs ho hno
  refine kbM (fun w'=>w'.cell? ⟨b,3,none⟩=some (Is (some ⟨qb,qo,none⟩) n cap)) (.soft 0 (.soft 1 (.soft 2 (.soft 3 (.soft 4 (.soft 5 (.soft 6 (.soft 7 (.soft 8 (.soft 9 (.soft 10 (.soft 11 (.soft 12 (.soft 13 (.soft 14 (.soft 15 (.soft 16 (.soft 17 (.soft 18 (.soft 19 (.soft 20 (.soft 21 (.soft 22 (.soft 23 (.soft 24 (.soft 25 (.soft 26 (.soft 27 (.hard 28 (.soft 29 (.soft 30 .nil))))))))))))))))))))))))))))))) (by kernel_rfl) (by kernel_rfl) (fun _ _ _ _ _ h=>h) r3 ?_
  repeat (first | (refine kbH (by rfl) ?_ ?_ ?_ ?_;rotate_left;(· simp [zI,yielded];done);(· intro w' hS;go_simp;try with_reducible rfl);simp only [zJ,zA,zB,zC]) | (refine kbJ (by rfl) ?_ ?_;(· simp [zI,yielded];done);simp only [zJ,zA,zB,zC]))
  refine kfW (by rfl) (by simp [zI,yielded]) ?_
  simp only [zJ,zA,zB,zC]
  repeat (first | (refine kbH (by rfl) ?_ ?_ ?_ ?_;rotate_left;(· simp [zI,yielded];done);(· intro w' hS;go_simp;try with_reducible rfl);simp only [zJ,zA,zB,zC]) | (refine kbJ (by rfl) ?_ ?_;(· simp [zI,yielded];done);simp only [zJ,zA,zB,zC]))
  refine kcT ?_
  exact ⟨false,rfl,(fun h=>by cases h),(fun _ x' y' _ h2=>(HNO.out y' h2).elim),⟨rfl,rfl,rfl,rfl,rfl,rfl,rfl,rfl,rfl⟩,HW.out.drew⟩
theorem pop_swap (a:Act) (hfr:PopFr b w.heap.size i s d1 d2 a) (hW:PopW k w wr b qb qo cap n c np M m) (hM:M.length=n) (his:i < s) (hqb:qb≠b) (hqw:qb < w.heap.size) {x z:Bk ord} (hx:M[i]?=some x) (hz:M[s]?=some z) :
  (cL (cR (cR (cR (popA Try.f73))))).wp Tp (NormP fun a' w'=>PopFr b w.heap.size i s d1 d2 a'∧PopW k w w' b qb qo cap n c np ((M.set s x).set i z) m) a wr:=by
 conv=>arg 2;whnf
 obtain ⟨f,rfl,e0,e2,e4,e5,e6,e7,e8⟩:=hfr.lit
 unfold fr155 at *
 have hil:i < M.length:=(zG.1 hx).1
 have hsl:s < M.length:=(zG.1 hz).1
 have r3:=hW.lb.c3
 obtain ⟨x0,x1,x2⟩:=hW.row.cell hx
 obtain ⟨y0,y1,y2⟩:=hW.row.cell hz
 have fz:=hW.row.fz
 have j1:(0:Int)≤(i:Int):=by omega
 have j2:(i:Int) < (n:Int):=by omega
 have j3:(0:Int)≤(s:Int):=by omega
 have j4:(s:Int) < (n:Int):=by omega
 have r1:=hW.row.set s x hsl
 have r2:=r1.set i z (by rw [zW];exact hil)
 have n0:¬(s:Int)=(i:Int):=by omega
 obtain ⟨v0,v1,v2⟩:=r1.cell (j:=i) (d:=x) (by rw [zr (by omega)];exact hx)
 have R2:=zL r2.drew
 have HW:=zL hW
 rw [e0,e2,e4,e5,e6,e7,e8]
 clear hfr e0 e2 e4 e5 e6 e7 e8 hW hM hx hz r1 r2 hil hsl
 refine wp_region_callp (fun w'=>w'.cell? ⟨b,3,none⟩=some (Is (some ⟨qb,qo,none⟩) n cap)∧w'.cell? ⟨qb,qo+i * 3,none⟩=some (Ii Ij x.1.1)∧w'.cell? ⟨qb,qo+i * 3+1,none⟩=some (Ii Ij x.1.2)∧w'.cell? ⟨qb,qo+i * 3+2,none⟩=some (.pointer x.npA)∧w'.cell? ⟨qb,qo+s * 3,none⟩=some (Ii Ij z.1.1)∧w'.cell? ⟨qb,qo+s * 3+1,none⟩=some (Ii Ij z.1.2)∧w'.cell? ⟨qb,qo+s * 3+2,none⟩=some (.pointer z.npA))
  25 [9] [0,1,2,3,4,5,6,7,8,10,11,12,13,14,15,16,17,18,19,20,21,22,23,24] _ [(26,true),(27,false)] (by kernel_rfl) (by kernel_rfl) (fun _ _ _ _ _ h=>h) rfl rfl rfl ⟨r3,x0,x1,x2,y0,y1,y2⟩ ?_
 simp only [kbK,zX,zY,zD,zE]
 refine kbR ?_ rfl ?_ ?_
 rotate_left
 ·intro w' hS
  try obtain ⟨a1⟩:=hS
  go_simp
  try with_reducible rfl
 simp only [zJ,zA,zB,zC]
 refine kbS ?_
 iterate 24
  refine kbR ?_ rfl ?_ ?_
  rotate_left
  ·intro w' hS
   try obtain ⟨a1,a2,a3,a4,a5,a6,a7⟩:=hS
   go_simp
   try with_reducible rfl
  simp only [zJ,zA,zB,zC]
 refine kbS ?_
 refine wp_hide (fun K hK=>?_)
 go_simp
 refine hK _ _ ?_
 clear hK K
 refine kcN (by rfl) ?_ (by simp [zI,yielded]) ?_ ?_
 rotate_left
 ·intro w' hS
  try obtain ⟨a1⟩:=hS
  go_simp
  try with_reducible rfl
 simp only [zJ,zA,zB,zC]
 refine kcR (by rfl) (by simp [zI,yielded]) (fun K hK=>?_)
 go_simp
 refine hK _ _ (fun _=>trivial) ?_
 clear hK K
 refine kdQ ?_
 refine kbQ (fun wz=>Chg (fun x _=>x=qb) _ wz∧QRow wz qb qo cap ((M.set s x).set i z)) ⟨((((((zK _ _).setCell (.inl rfl) _).setCell (.inl rfl) _).setCell (.inl rfl) _).setCell (.inl rfl) _).setCell (.inl rfl) _).setCell (.inl rfl) _ |>.drew,R2.out⟩ ?_
 clear x0 x1 x2 y0 y1 y2 v0 v1 v2 fz R2
 rintro wz ⟨hcz,hrz⟩
 exact ⟨⟨rfl,rfl,rfl,rfl,rfl,rfl,rfl,rfl,rfl⟩,HW.out.swap hcz hrz hqb (by omega) (by omega)⟩
theorem pop_r7 (a:Act) (hfr:PopH b r i a):(cL (popIn Try.f73)).wp Tp (NormP fun a' w'=>w'=wr∧PopH b r i a'∧a'.tmps[6]?=some (Ii Ij i)) a wr:=by
 conv=>arg 2;whnf
 obtain ⟨f,rfl,e0,e2,e4,e5⟩:=hfr.lit
 unfold fr155 at *
 rw [e0,e2,e4,e5]
 clear hfr e0 e2 e4 e5
 go_wp2_with fail
 first
  | exact ⟨rfl,⟨⟨rfl,rfl,rfl,rfl,rfl,rfl⟩,rfl⟩⟩
  | exact ⟨⟨rfl,rfl,rfl,rfl,rfl,rfl⟩,rfl⟩
theorem pop_r8 (a:Act) (hfr:PopH b r i a) (s6:a.tmps[6]?=some (Ii Ij i)) (hb:i≤1000000000000):(cL (cR (popIn Try.f73))).wp Tp (NormP fun a' w'=>w'=wr∧PopH b r i a'∧a'.tmps[6]?=some (Ii Ij i)∧a'.tmps[7]?=some (Ii Ij ((i * 2+1:Nat):Int))) a wr:=by
 conv=>arg 2;whnf
 obtain ⟨f,rfl,e0,e2,e4,e5⟩:=hfr.lit
 unfold fr155 at *
 simp only [zF,zE,zD,Option.some.injEq] at s6
 obtain ⟨q,hq⟩:∃q,i * 2=q:=⟨_,rfl⟩
 obtain ⟨q1,hq1⟩:∃q1,q+1=q1:=⟨_,rfl⟩
 have s1:Ij.wrap ((i:Int) * 2)=(q:Int):=(by rw [zh _ (by omega)];omega)
 have s2:Ij.wrap ((q:Int)+1)=(q1:Int):=(by rw [zh _ (by omega)];omega)
 rw [e0,e2,e4,e5,s6,hq,hq1]
 clear hfr e0 e2 e4 e5 s6 hb hq hq1
 go_wp2_with fail
 first
  | exact ⟨rfl,⟨⟨rfl,rfl,rfl,rfl,rfl,rfl⟩,rfl,rfl⟩⟩
  | exact ⟨⟨rfl,rfl,rfl,rfl,rfl,rfl⟩,rfl,rfl⟩
theorem pop_r9 (a:Act) (hfr:PopH b r i a) (s6:a.tmps[6]?=some (Ii Ij i)) (s7:a.tmps[7]?=some (Ii Ij ((i * 2+1:Nat):Int))) (hb:i≤1000000000000):(cL (cR (cR (popIn Try.f73)))).wp Tp (NormP fun a' w'=>w'=wr∧PopFr b r i i (i * 2+1) (i * 2+2) a') a wr:=by
 conv=>arg 2;whnf
 obtain ⟨f,rfl,e0,e2,e4,e5⟩:=hfr.lit
 unfold fr155 at *
 simp only [zF,zE,zD,Option.some.injEq] at s6 s7
 obtain ⟨q,hq⟩:∃q,i * 2=q:=⟨_,rfl⟩
 obtain ⟨q1,hq1⟩:∃q1,q+1=q1:=⟨_,rfl⟩
 obtain ⟨q2,hq2⟩:∃q2,q+2=q2:=⟨_,rfl⟩
 have s1:Ij.wrap ((i:Int) * 2)=(q:Int):=(by rw [zh _ (by omega)];omega)
 have s2:Ij.wrap ((q:Int)+2)=(q2:Int):=(by rw [zh _ (by omega)];omega)
 rw [hq,hq1] at s7
 rw [e0,e2,e4,e5,s6,s7,hq,hq1,hq2]
 clear hfr e0 e2 e4 e5 s6 s7 hb hq hq1 hq2
 go_wp2_with fail
 first
  | exact ⟨rfl,⟨rfl,rfl,rfl,rfl,rfl,rfl,rfl,rfl,rfl⟩⟩
  | exact ⟨rfl,rfl,rfl,rfl,rfl,rfl,rfl,rfl,rfl⟩
theorem pop_r11 (a:Act) (hfr:PopFr b r i s d1 d2 a):(cT (cR (cL (popA Try.f73)))).wp Tp (NormP fun a' w'=>w'=wr∧PopFr b r i d1 d1 d2 a') a wr:=by
 conv=>arg 2;whnf
 obtain ⟨f,rfl,e0,e2,e4,e5,e6,e7,e8⟩:=hfr.lit
 unfold fr155 at *
 rw [e0,e2,e4,e5,e6,e7,e8]
 clear hfr e0 e2 e4 e5 e6 e7 e8
 go_wp2_with fail
 first
  | exact ⟨rfl,⟨rfl,rfl,rfl,rfl,rfl,rfl,rfl,rfl,rfl⟩⟩
  | exact ⟨rfl,rfl,rfl,rfl,rfl,rfl,rfl,rfl,rfl⟩
theorem pop_r13 (a:Act) (hfr:PopFr b r i s d1 d2 a):(cT (cR (cL (cR (popA Try.f73))))).wp Tp (NormP fun a' w'=>w'=wr∧PopFr b r i d2 d1 d2 a') a wr:=by
 conv=>arg 2;whnf
 obtain ⟨f,rfl,e0,e2,e4,e5,e6,e7,e8⟩:=hfr.lit
 unfold fr155 at *
 rw [e0,e2,e4,e5,e6,e7,e8]
 clear hfr e0 e2 e4 e5 e6 e7 e8
 go_wp2_with fail
 first
  | exact ⟨rfl,⟨rfl,rfl,rfl,rfl,rfl,rfl,rfl,rfl,rfl⟩⟩
  | exact ⟨rfl,rfl,rfl,rfl,rfl,rfl,rfl,rfl,rfl⟩
theorem pop_r14 (a:Act) (hfr:PopFr b r i s d1 d2 a):(cL (cL (cR (cR (popA Try.f73))))).wp Tp (NormP fun a' w'=>w'=wr∧a'.tmps[126]?=some (.bool ((s:Int) == (i:Int)))∧PopFr b r i s d1 d2 a') a wr:=by
 conv=>arg 2;whnf
 obtain ⟨f,rfl,e0,e2,e4,e5,e6,e7,e8⟩:=hfr.lit
 unfold fr155 at *
 rw [e0,e2,e4,e5,e6,e7,e8]
 clear hfr e0 e2 e4 e5 e6 e7 e8
 go_wp2_with fail
 first
  | exact ⟨rfl,⟨rfl,⟨rfl,rfl,rfl,rfl,rfl,rfl,rfl,rfl,rfl⟩⟩⟩
  | exact ⟨rfl,⟨rfl,rfl,rfl,rfl,rfl,rfl,rfl,rfl,rfl⟩⟩
theorem pop_r16 (a:Act) (hfr:PopFr b r i s d1 d2 a):(cR (cR (cR (cR (popA Try.f73))))).wp Tp (NormP fun a' w'=>w'=wr∧PopH b r s a') a wr:=by
 conv=>arg 2;whnf
 obtain ⟨f,rfl,e0,e2,e4,e5,e6,e7,e8⟩:=hfr.lit
 unfold fr155 at *
 rw [e0,e2,e4,e5,e6,e7,e8]
 clear hfr e0 e2 e4 e5 e6 e7 e8
 go_wp2_with fail
 first
  | exact ⟨rfl,⟨rfl,rfl,rfl,rfl,rfl,rfl⟩⟩
  | exact ⟨rfl,rfl,rfl,rfl,rfl,rfl⟩
def PopL (P0:List (Bk ord)) (k:Kc ord) (w:World) (b qb qo cap n:Nat) (c np:Int) (m:Bk ord) (i:Nat) (M:List (Bk ord)) (wr:World):Prop :=
 (n=0→i=0)∧(0 < n→i < n)∧M.length=n∧M.Perm P0∧HDown ltE M i∧PopW k w wr b qb qo cap n c np M m
def PopR (P0:List (Bk ord)) (k:Kc ord) (w:World) (b qb qo cap n:Nat) (c np:Int) (m:Bk ord) (i:Nat):Exit→Act→World→Prop
 | .normal,a,wr=>∃i' M,i < i'∧PopH b w.heap.size i' a∧PopL P0 k w b qb qo cap n c np m i' M wr
 | .exit id,a,wr=>id=0∧(∃i',PopH b w.heap.size i' a)∧∃M:List (Bk ord),M.Perm P0∧kfF ltE M∧PopW k w wr b qb qo cap n c np M m
 | _,_,_=>False
theorem pop_round {P0:List (Bk ord)} (a:Act) (hh:PopH b w.heap.size i a) (hL:PopL P0 k w b qb qo cap n c np m i M wr) (ho:OrdAt k w) (hkb:k.ob≠b∧k.rb≠b∧k.ob≠qb∧k.rb≠qb) (hqb:qb≠b) (hqw:qb < w.heap.size) (hn:n≤1000000000000) :
  (popIn Try.f73).wp Tp (PopR P0 k w b qb qo cap n c np m i) a wr:=by
 obtain ⟨hi0,hin,hML,hperm,hdn,hW⟩:=hL
 have hib:i≤1000000000000:=by
  rcases Nat.eq_zero_or_pos n with h | h
  ·have:=hi0 h;omega
  ·have:=hin h;omega
 have hor:∀wx,PopW k w wx b qb qo cap n c np M m→OrdAt k wx:=fun wx hx=>ho.chg hx.chg (fun _ h=>h.elim hkb.1 hkb.2.2.1) (fun _ h=>h.elim hkb.2.1 hkb.2.2.2)
 refine wp_seqP (x:=cL (popIn Try.f73)) (y:=cR (popIn Try.f73)) (pop_r7 (wr:=wr) a hh) ?_
 clear hh a
 rintro a w2 ⟨rfl,hh,s6⟩
 refine wp_seqP (x:=cL (cR (popIn Try.f73))) (y:=cR (cR (popIn Try.f73))) (pop_r8 (wr:=w2) a hh s6 hib) ?_
 clear hh s6 a
 rintro a w3 ⟨rfl,hh,s6,s7⟩
 refine wp_seqP (x:=cL (cR (cR (popIn Try.f73)))) (y:=popA Try.f73) (pop_r9 (wr:=w3) a hh s6 s7 hib) ?_
 clear hh s6 s7 a
 rintro a w4 ⟨rfl,hf⟩
 -- the left child
 refine wp_seqP (x:=cL (popA Try.f73)) (y:=cR (popA Try.f73)) (M:=fun a w'=>∃s,PopFr b w.heap.size i s (i * 2+1) (i * 2+2) a∧PopW k w w' b qb qo cap n c np M m∧((s=i∧(∀x y,M[i]?=some x→M[i * 2+1]?=some y→ltE x y=true))∨(s=i * 2+1∧s < n∧∀x y,M[i]?=some x→M[s]?=some y→ltE x y=false))) ?_ ?_
 ·refine wp_seqP (x:=cL (cL (popA Try.f73))) (y:=cR (cL (popA Try.f73))) (pop_cmp10 a hf hW (hor _ hW) hML (fun h=>by omega)) ?_
  clear hf a hW
  rintro a w5 ⟨v,s90,hv1,hv2,hf,hW⟩
  cases v
  ·refine wp_cond_false (ev_slotP s90) (wp_skip ?_)
   exact ⟨i,hf,hW,.inl ⟨rfl,hv2 rfl⟩⟩
  ·refine wp_cond_true (ev_slotP s90) ?_
   refine wp_mono (pop_r11 (wr:=w5) a hf) ?_
   intro e a' w' he
   cases e<;>first | exact he.elim | skip
   obtain ⟨rfl,hf⟩:=he
   exact ⟨_,hf,hW,.inr ⟨rfl,(hv1 rfl).1,(hv1 rfl).2⟩⟩
 clear hf a hW
 rintro a w5 ⟨s,hf,hW,hs⟩
 have hsn:i * 2+2 < n→s < n:=fun h=>by rcases hs with ⟨h1,_⟩ | ⟨_,h1,_⟩<;>omega
 -- the right child
 refine wp_seqP (x:=cL (cR (popA Try.f73))) (y:=cR (cR (popA Try.f73))) (M:=fun a w'=>∃s',PopFr b w.heap.size i s' (i * 2+1) (i * 2+2) a∧PopW k w w' b qb qo cap n c np M m∧((s'=i∧kfF ltE M)∨(i < s'∧s' < n∧∀x z,M[i]?=some x→M[s']?=some z→HDown ltE ((M.set s' x).set i z) s'))) ?_ ?_
 ·refine wp_seqP (x:=cL (cL (cR (popA Try.f73)))) (y:=cR (cL (cR (popA Try.f73)))) (pop_cmp12 a hf hW (hor _ hW) hML hsn) ?_
  clear hf a hW
  rintro a w6 ⟨v,s122,hv1,hv2,hf,hW⟩
  cases v
  ·refine wp_cond_false (ev_slotP s122) (wp_skip ?_)
   refine ⟨s,hf,hW,?_⟩
   rcases hs with ⟨rfl,h1⟩ | ⟨rfl,h1,h2⟩
   ·refine .inl ⟨rfl,?_⟩
    rcases Nat.eq_zero_or_pos n with h0 | h0
    ·obtain rfl:M=[]:=List.length_eq_zero_iff.1 (by omega)
     intro j x y h0 h1 h2;simp at h1
    ·obtain ⟨x,hx⟩:∃x,M[s]?=some x:=⟨_,zH (by rw [hML];exact hin h0)⟩
     exact down_done hdn hx (fun y hy=>swoE.asymm _ _ (h1 x y hx hy)) (fun y hy=>swoE.asymm _ _ (hv2 rfl x y hx hy))
   ·refine .inr ⟨by omega,h1,fun x z hx hz=>down_step hdn hx hz (.inl rfl) (h2 x z hx hz) (fun d u hd h0 h3 hu=>?_)⟩
    obtain rfl:d=i * 2+2:=by omega
    exact swoE.asymm _ _ (hv2 rfl z u hz hu)
  ·refine wp_cond_true (ev_slotP s122) ?_
   refine wp_mono (pop_r13 (wr:=w6) a hf) ?_
   intro e a' w' he
   cases e<;>first | exact he.elim | skip
   obtain ⟨rfl,hf⟩:=he
   obtain ⟨g1,g2⟩:=hv1 rfl
   refine ⟨_,hf,hW,.inr ⟨by omega,g1,fun x z hx hz=>?_⟩⟩
   obtain ⟨y,hy⟩:∃y,M[i * 2+1]?=some y:=⟨_,zH (by omega)⟩
   have hxz:ltE x z=false:=by
    rcases hs with ⟨rfl,h1⟩ | ⟨rfl,h1,h2⟩
    ·exact g2 x z hx hz
    ·exact swoE.ntrans _ _ _ (h2 x y hx hy) (g2 y z hy hz)
   refine down_step hdn hx hz (.inr rfl) hxz (fun d u hd h0 h3 hu=>?_)
   obtain rfl:d=i * 2+1:=by omega
   rw [hy] at hu
   obtain rfl:=Iq hu
   rcases hs with ⟨rfl,h1⟩ | ⟨rfl,h1,h2⟩
   ·exact lt_mid swoE (h1 x _ hx hy) hxz
   ·exact g2 _ z hy hz
 clear hf a hW
 rintro a w6 ⟨s',hf,hW,hs'⟩
 rcases hs' with ⟨rfl,hheap⟩ | ⟨his,hsn',hdn'⟩
 ·refine wp_seq (x:=cL (cR (cR (popA Try.f73)))) (y:=cR (cR (cR (popA Try.f73)))) ?_
  refine wp_seqP (x:=cL (cL (cR (cR (popA Try.f73))))) (y:=cR (cL (cR (cR (popA Try.f73))))) (pop_r14 (wr:=w6) a hf) ?_
  clear hf a
  rintro a w7 ⟨rfl,s126,hf⟩
  rw [beq_self_eq_true] at s126
  refine wp_cond_true (ev_slotP s126) (wp_exit ?_)
  exact ⟨rfl,⟨_,hf.head⟩,M,hperm,hheap,hW⟩
 ·refine wp_seqP (x:=cL (cR (cR (popA Try.f73)))) (y:=cR (cR (cR (popA Try.f73)))) (M:=fun a w'=>PopFr b w.heap.size i s' (i * 2+1) (i * 2+2) a∧w'=w6) ?_ ?_
  ·refine wp_seqP (x:=cL (cL (cR (cR (popA Try.f73))))) (y:=cR (cL (cR (cR (popA Try.f73))))) (pop_r14 (wr:=w6) a hf) ?_
   clear hf a
   rintro a w7 ⟨rfl,s126,hf⟩
   rw [show ((s':Int) == (i:Int))=false from beq_eq_false_iff_ne.2 (by omega)] at s126
   exact wp_cond_false (ev_slotP s126) (wp_skip ⟨hf,rfl⟩)
  ·clear hf a
   rintro a w7 ⟨hf,rfl⟩
   obtain ⟨x,hx⟩:∃x,M[i]?=some x:=⟨_,zH (by omega)⟩
   obtain ⟨z,hz⟩:∃z,M[s']?=some z:=⟨_,zH (by omega)⟩
   refine wp_seqP (x:=cL (cR (cR (cR (popA Try.f73))))) (y:=cR (cR (cR (cR (popA Try.f73))))) (pop_swap a hf hW hML his hqb hqw hx hz) ?_
   clear hf a hW
   rintro a w8 ⟨hf,hW⟩
   refine wp_mono (pop_r16 (wr:=w8) a hf) ?_
   intro e a' w' he
   cases e<;>first | exact he.elim | skip
   obtain ⟨rfl,hh⟩:=he
   exact ⟨s',_,his,hh,fun h=>by omega,fun _=>hsn',by rw [zW,zW];exact hML,(swp_perm hz hx (by omega)).trans hperm,hdn' x z hx hz,hW⟩
end
theorem pop_some {b qb qo cap:Nat} {L:List (Bk ord)} (hl:ListB w b (kcQ k) c np (Is (some ⟨qb,qo,none⟩) L.length cap)) (hq:QRow w qb qo cap L) (hh:kfF ltE L) (ho:OrdAt k w) (hm:L[0]?=some m) (hkb:k.ob≠b∧k.rb≠b∧k.ob≠qb∧k.rb≠qb) (hqb:qb≠b) (hD:L.length≤1000000000000) :
  Calls Tp 73 #[Ip (some ⟨b,0,none⟩)] w (PopPost k w b qb qo cap c np L m):=by
 have hL0:0 < L.length:=(zG.1 hm).1
 obtain ⟨bl,hbl⟩:∃bl,L[L.length - 1]?=some bl:=⟨_,zH (by omega)⟩
 have hdn:=down_init (b:=bl) hh
 have hml:((L.set 0 bl).take (L.length - 1)).length=L.length - 1:=by rw [zV,zW];omega
 obtain ⟨N,hN⟩:∃N,L.length=N:=⟨_,rfl⟩
 obtain ⟨n,hn⟩:∃n,N - 1=n:=⟨_,rfl⟩
 have hNn:n+1=N:=by omega
 have FIN:=zL (fun (w':World) L' (p1:L'.Perm ((L.set 0 bl).take n)) (p2:kfF ltE L') (p3:ListB w' b (kcQ k) c np (Is (some ⟨qb,qo,none⟩) n cap)) (p4:QRow w' qb qo cap L') (p5:Chg (fun x _=>x=b∨x=qb) w w')=>(show PopPost k w b qb qo cap c np L m (Ir (Iu #[aggE m,.bool true])) w' from ⟨rfl,L',bl,hbl,by rw [hN,hn];exact p1,p2,by rw [hN,hn];exact p3,p4,p5⟩))
 have hr0:=hq
 rw [hN] at hl hdn hml hD hL0 hbl
 rw [hn] at hdn hml hbl
 have HL:=zL hl
 have HQ:=zL hq
 have HO:=zL ho
 have HKB:=zL hkb
 have HDN:=zL hdn
 have HML:=zL hml
 have HLN:=zL hN
 have hbw:b < w.heap.size:=kbF hl
 have hqw:qb < w.heap.size:=hq.lt
 obtain ⟨x0,x1,x2⟩:=hq.cell hm
 obtain ⟨y0,y1,y2⟩:=hq.cell hbl
 rw [Nat.zero_mul,Nat.add_zero] at x0 x1 x2
 have c3:=hl.c3
 have e0:((N:Int) == 0)=false:=beq_eq_false_iff_ne.2 (by omega)
 have e1:(0:Int) < (N:Int):=by omega
 have e2:Ij.wrap ((N:Int) - 1)=(n:Int):=(by rw [zh _ (by omega)];omega)
 have e3:(0:Int)≤(n:Int):=by omega
 have e4:(n:Int) < (N:Int):=by omega
 clear hl hq ho hkb hh hdn hml hn hN hm hbl hr0
 go_enter Try.func73,Try.ntmps73
 go_upto_region 4 with fail
 refine kbD (fun w1=>Chg (fun _ _=>False) w w1∧w1.heap[w.heap.size]?=some (Ic #[Ii Ij 0,Ii Ij 0,Ip none] 128 (0,0))∧w1.heap[w.heap.size+1]?=some (Ic #[Ii Ij 0,Ii Ij 0,Ip none] 128 (0,0))) ⟨((zK _ _).alloc _).alloc _,?_,kbT _ _ (by simp)⟩ ?_
 ·rw [kcZ _ _ (by simp)];exact kbT _ _ rfl
 rintro w1 ⟨hc1,hb1,hb2⟩
 have d3:=hc1.q c3
 have d0:=hc1.q x0
 have d1:=hc1.q x1
 have d2:=hc1.q x2
 have f0:=hc1.q y0
 have f1:=hc1.q y1
 have f2:=hc1.q y2
 have t0:=kbB hb2 0
 have t1:=kbB hb2 1
 have t2:=kbB hb2 2
 have u0:=kbC hb2 0
 have u1:=kbC hb2 1
 have u2:=kbC hb2 2
 simp only [zF,zD,zE] at t0 t1 t2
 have hq1:=HQ.out.chg hc1 (fun _ h=>h)
 have g0:=hq1.fz qo
 have g1:=hq1.fz (qo+1)
 have g2:=hq1.fz (qo+2)
 have n1:¬qb=w.heap.size+1:=by omega
 have n2:¬w.heap.size+1=qb:=by omega
 have HB1:=zL hb1
 have HB2:=zL hb2
 have HC1:=zL hc1
 have HQ1:=zL hq1
 have HL1:=zL (HL.out.keep hc1)
 clear hb1 hb2 hc1 c3 x0 x1 x2 y0 y1 y2 hq1
 refine kfD (fun w'=>w'.cell? ⟨b,3,none⟩=some (Is (some ⟨qb,qo,none⟩) N cap)∧w'.cell? ⟨qb,qo,none⟩=some (Ii Ij m.1.1)∧w'.cell? ⟨qb,qo+1,none⟩=some (Ii Ij m.1.2)∧w'.cell? ⟨qb,qo+2,none⟩=some (.pointer m.npA)∧w'.cell? ⟨qb,qo+n * 3,none⟩=some (Ii Ij bl.1.1)∧w'.cell? ⟨qb,qo+n * 3+1,none⟩=some (Ii Ij bl.1.2)∧w'.cell? ⟨qb,qo+n * 3+2,none⟩=some (.pointer bl.npA)) 23
  [(0,true),(1,true),(2,true),(3,true),(4,true),(5,true),(6,true),(7,true),(8,true),(9,true),(10,true),(11,true),(12,true),(13,true),(14,true),(15,true),(16,true),(17,true),(18,true),(19,true),(20,true),(21,true),(22,false),(23,false),(24,false)] (by kernel_rfl) (by kernel_rfl) (fun _ _ _ _ _ h=>h) ⟨d3,d0,d1,d2,f0,f1,f2⟩ ?_
 iterate 22
  refine kcN (by rfl) ?_ (by simp [zI,yielded]) ?_ ?_
  rotate_left
  ·intro w' hS
   try obtain ⟨a1,a2,a3,a4,a5,a6,a7⟩:=hS
   go_simp
   try with_reducible rfl
  simp only [zJ,zA,zB,zC]
 refine kcR (by rfl) (by simp [zI,yielded]) (fun K hK=>?_)
 go_simp
 have hca:Chg (fun x _=>x=w.heap.size+1) w1 (((w1.setCell ⟨w.heap.size+1,0,none⟩ (Ii Ij m.1.1)).setCell ⟨w.heap.size+1,1,none⟩ (Ii Ij m.1.2)).setCell ⟨w.heap.size+1,2,none⟩ (.pointer m.npA)):=(((zK _ _).setCell (.inl rfl) _).setCell (.inl rfl) _).setCell (.inl rfl) _
 have hb9:¬b=w.heap.size+1:=by omega
 refine hK _ _ (fun _=>⟨hca.drew.cell hb9 d3,hca.drew.cell n1 d0,hca.drew.cell n1 d1,hca.drew.cell n1 d2,hca.drew.cell n1 f0,hca.drew.cell n1 f1,hca.drew.cell n1 f2⟩) ?_
 clear hK K
 have hbm:=blk3 HB2.out (Ii Ij m.1.1) (Ii Ij m.1.2) (.pointer m.npA)
 have hb1':=HB1.out
 rw [←hca.block (kbF hb1') (fun _ e=>by omega)] at hb1'
 have hl2:=HL1.out.chg hca (fun _=>hb9)
 have hq2:=HQ1.out.chg hca (fun _=>n1)
 obtain ⟨wm,hwm⟩:∃wm,wm=(((w1.setCell ⟨w.heap.size+1,0,none⟩ (Ii Ij m.1.1)).setCell ⟨w.heap.size+1,1,none⟩ (Ii Ij m.1.2)).setCell ⟨w.heap.size+1,2,none⟩ (.pointer m.npA)):=⟨_,rfl⟩
 rw [←hwm] at hbm hb1' hl2 hq2 hca ⊢
 have HCM:=zL ((HC1.out.mono (fun _ _ _ h=>h.elim)).trans' (B:=fun x _=>x=b∨x=qb) hca i3 (fun x _ hx e=>by omega))
 have hq3:=hq2.set 0 bl (by rw [HLN.out];omega)
 rw [Nat.zero_mul,Nat.add_zero] at hq3
 have HBM:=zL hbm
 have HB1':=zL hb1'
 have HL2:=zL hl2
 have HQ2:=zL hq2
 have HQ3:=zL hq3
 have d0:=hca.cell n1 d0
 have d1:=hca.cell n1 d1
 have d2:=hca.cell n1 d2
 have g0:=hq2.fz qo
 have g1:=hq2.fz (qo+1)
 have g2:=hq2.fz (qo+2)
 clear hbm hb1' hl2 hq2 hq3 hca hwm d3 f0 f1 f2 t0 t1 t2 u0 u1 u2 HL1 HQ1 HB2 HB1 HC1
 iterate 2
  refine kcR (by rfl) (by simp [zI,yielded]) (fun K hK=>?_)
  go_simp
  refine hK _ _ (fun h=>absurd h (by decide)) ?_
  clear hK K
 refine kdQ ?_
 refine kbQ (fun w4=>Chg (fun x _=>x=qb) wm w4∧QRow w4 qb qo cap (L.set 0 bl)) ⟨((((zK _ _).setCell (.inl rfl) _).setCell (.inl rfl) _).setCell (.inl rfl) _).drew,HQ3.out.drew⟩ ?_
 rintro w4 ⟨hc4,hq4⟩
 have hl4:=HL2.out.chg hc4 (fun _ e=>hqb e.symm)
 have hbm4:=HBM.out
 rw [←hc4.block (kbF hbm4) (fun _=>n2)] at hbm4
 have hb14:=HB1'.out
 rw [←hc4.block (kbF hb14) (fun _ e=>by omega)] at hb14
 have HC4:=zL (HCM.out.trans' (B:=fun x _=>x=b∨x=qb) hc4 i3 (fun x _ hx e=>.inr e))
 have d3:=hl4.c3
 have z3:=hl4.fz 3
 have e5:(n:Int)≤(cap:Int):=by have:=hq4.1;rw [zW,HLN.out] at this;omega
 have HL4:=zL hl4
 have HQ4:=zL hq4
 have HB4:=zL hb14
 have HBM4:=zL hbm4
 clear d0 d1 d2 g0 g1 g2 hc4 hq4 hl4 hbm4 hb14 HCM HL2 HQ2 HQ3 HBM HB1'
 go_upto_region 5 with fail
 go_still_tail 12,(by kernel_rfl)
 go_wp2_with fail
 refine kbD (fun w5=>PopW k w w5 b qb qo cap n c np ((L.set 0 bl).take n) m) ⟨ListB.drew (blk4c3 HL4.out _),?_,?_,?_,(HC4.out.setCell (.inl (.inl rfl)) _).drew⟩ ?_
 ·exact ((HQ4.out.chg ((zK (fun x _=>x=b) _).setCell (.inl rfl) _) (fun _ e=>hqb e)).drew).take n (by rw [zW,HLN.out];omega)
 ·rw [kbZ,hs_ne _ (by omega)];exact HB4.out
 ·rw [kbZ,hs_ne _ (by omega)];exact HBM4.out
 clear HL4 HQ4 HB4 HBM4 HC4 d3 z3
 intro w5 hw5
 have HW5:=zL hw5
 clear hw5 HL HQ
 refine wp_loop (fun a wr=>∃i M,PopH b w.heap.size i a∧PopL ((L.set 0 bl).take n) k w b qb qo cap n c np m i M wr) (fun a _=>n - (intOf ((a.tmps[5]?).getD undef)).toNat) ?_ ?_
 ·exact ⟨0,_,⟨rfl,rfl,rfl,rfl,rfl,rfl⟩,fun _=>rfl,id,HML.out,List.Perm.refl _,HDN.out,HW5.out⟩
 ·rintro a wr ⟨i,M,hh,hL⟩
  refine wp_block ?_
  refine wp_mono (pop_round a hh hL HO.out HKB.out hqb hqw (by omega)) ?_
  intro e a' w' he
  cases e with
  | normal =>
   obtain ⟨i',M',h1,h2,h3⟩:=he
   refine ⟨⟨i',M',h2,h3⟩,?_⟩
   have f1:a'.tmps[5]?=some (Ii Ij i'):=h2.2.2.2.2.2
   have f0:a.tmps[5]?=some (Ii Ij i):=hh.2.2.2.2.2
   have k1:=h3.1
   have k2:=h3.2.1
   rw [f1,f0]
   show n - ((i':Int)).toNat < n - ((i:Int)).toNat
   omega
  | exit id =>
   obtain ⟨rfl,⟨i',hh'⟩,M',hp,hheap,hW⟩:=he
   rename_i hK
   refine hK _ _ ?_
   clear hK
   obtain ⟨f,rfl,e0,e2,e4,e5⟩:=hh'.lit
   unfold fr155 at *
   have x0:=kbB hW.got 0
   have x1:=kbB hW.got 1
   have x2:=kbB hW.got 2
   have p0:=kbB hW.res 0
   have p1:=kbB hW.res 1
   have p2:=kbB hW.res 2
   have z0:=kbC hW.res 0
   have z1:=kbC hW.res 1
   have z2:=kbC hW.res 2
   simp only [zF,zD,zE] at x0 x1 x2 p0 p1 p2
   have HWF:=zL hW
   have HPM:=zL hp
   have HHP:=zL hheap
   rw [e0,e2,e4,e5]
   clear hW hp hheap hh hh' hL e0 e2 e4 e5
   go_wp2_with fail
   clear p0 p1 p2
   refine kbQ (fun wl=>Chg (fun x _=>x=b∨x=qb) w wl∧wl.heap[w.heap.size]?=some (Ic #[Ii Ij m.1.1,Ii Ij m.1.2,.pointer m.npA] 128 (0,0))∧Chg (fun x _=>x=w.heap.size) w' wl) ⟨?_,blk3 HWF.out.res _ _ _,(((zK _ _).setCell (.inl rfl) _).setCell (.inl rfl) _).setCell (.inl rfl) _⟩ ?_
   ·exact (((HWF.out.chg.setCell (.inr (zi _)) _).setCell (.inr (zi _)) _).setCell (.inr (zi _)) _)
   clear x0 x1 x2 z0 z1 z2
   rintro wl ⟨hcl,hbl,hcw⟩
   have p0:=kbB hbl 0
   have p1:=kbB hbl 1
   have p2:=kbB hbl 2
   simp only [zF,zD,zE] at p0 p1 p2
   refine bodyPost_ret (v:=Iu #[.agg #[Ii Ij m.1.1,Ii Ij m.1.2,.pointer m.npA],.bool true]) (by simp [results,Try.results73,go_sem,p0,p1,p2]) rfl ?_
   exact FIN.out wl M' HPM.out HHP.out (HWF.out.lb.chg hcw (fun _ e=>by have e:b=w.heap.size:=e;omega)) (HWF.out.row.chg hcw (fun _ e=>by have e:qb=w.heap.size:=e;omega)) hcl
  | _=>exact he.elim
end
section
open Go.RowKit
section
variable {ord:List Int}
def flatD (S:List (Bk ord)):List (It ord):=S.flatMap fun d=>d.1::d.kin
theorem flatD_cons (d:Bk ord) (S:List (Bk ord)):flatD (d::S)=d.1::(d.kin++flatD S):=rfl
def ScB (ob rb b qb:Nat) (x:Nat):Prop:=TakeB ob rb x∨x=b∨x=qb
structure ScanW (k:Kc ord) (n:Int) (ob b2 b3 rb b qb qo cap:Nat) (c:Int) (S:List (Bk ord)) (acc:List (It ord)) (w wr:World) (acc':List (It ord)) (M S':List (Bk ord)) (j:Nat):Prop where
 lb:ListB wr b (kcQ k) c j (Is (some ⟨qb,qo,none⟩) M.length cap)
 row:QRow wr qb qo cap M
 heap:kfF ltE M
 perm:M.Perm S'
 srt:Srt ltE S'
 cnt:j+M.length≤cap
 kept:Kept n ob b2 b3 rb wr acc'
 run:(runL (kcF n) acc (flatD S)).1=(runL (kcF n) acc' (flatD S')).1
 len:acc'.length+(flatD S').length≤1000000000000
 sub:∀d∈S',d∈S
 chg:Chg (fun x _=>ScB ob rb b qb x) w wr
theorem ScanW.keep {k:Kc ord} {n:Int} {ob b2 b3 rb b qb qo cap:Nat} {c:Int} {S:List (Bk ord)} {acc:List (It ord)} {w wr wx:World} {acc':List (It ord)} {M S':List (Bk ord)} {j:Nat} (h:ScanW k n ob b2 b3 rb b qb qo cap c S acc w wr acc' M S' j) (hc:Chg (fun _ _=>False) wr wx):ScanW k n ob b2 b3 rb b qb qo cap c S acc w wx acc' M S' j :=
 ⟨h.lb.keep hc,h.row.chg hc (fun _ h=>h),h.heap,h.perm,h.srt,h.cnt,h.kept.keep hc,h.run,h.len,h.sub,h.chg.trans (hc.mono (fun _ _ _ h=>h.elim))⟩
def slLenQ (o:Option Value):Nat:=match o with
 | some (.slice _ n _)=>n
 | _=>0
theorem blk4c2 {w:World} {b:Nat} {lv q:Value} {c np:Int} (h:ListB w b lv c np q) (np':Int):ListB (w.setCell ⟨b,2,none⟩ (Ii Ij np')) b lv c np' q:=by
 unfold ListB
 rw [kbV h _];rfl
structure ScanSep (k:Kc ord) (F:Nat→Prop) (ob b2 b3 rb b qb:Nat):Prop where
 bl:b < rb
 ql:qb < rb
 bo:b≠ob∧b≠b2∧b≠b3
 qo:qb≠ob∧qb≠b2∧qb≠b3
 qb_:qb≠b
 fo:∀x,F x→¬ScB ob rb b qb x
 ko:k.ob < rb∧k.rb < rb∧k.ob≠b∧k.rb≠b∧k.ob≠qb∧k.rb≠qb∧k.ob≠ob∧k.rb≠ob
theorem ScanSep.ordAt {k:Kc ord} {F:Nat→Prop} {ob b2 b3 rb b qb:Nat} {w w':World} (h:ScanSep k F ob b2 b3 rb b qb) (ho:OrdAt k w) (c:Chg (fun x _=>ScB ob rb b qb x) w w'):OrdAt k w':=by
 obtain ⟨h1,h2,h3,h4,h5,h6,h7,h8⟩:=h.ko
 refine ho.chg c (fun _ e=>?_) (fun _ e=>?_)
 ·rcases e with (e | e) | e | e<;>first | contradiction | omega
 ·rcases e with (e | e) | e | e<;>first | contradiction | omega
theorem Kept.aside {n:Int} {ob b2 b3 rb:Nat} {w w':World} {acc:List (Int×Int)} {A:Nat→Nat→Prop} (h:Kept n ob b2 b3 rb w acc) (c:Chg A w w') (h1:∀x o,A x o→x≠ob∧x≠b2∧x≠b3∧x < rb):Kept n ob b2 b3 rb w' acc:=by
 obtain ⟨⟨v,h2,h3⟩,p2,p3,l0,l2,l3,n2,n3,hr⟩:=h
 refine ⟨⟨v,by rw [c.block (kbF h2) (fun o e=>(h1 _ o e).1 rfl)];exact h2,h3.chgOwn c (fun b o hb e=>?_)⟩,by rw [c.block (kbF p2) (fun o e=>(h1 _ o e).2.1 rfl)];exact p2,by rw [c.block (kbF p3) (fun o e=>(h1 _ o e).2.2.1 rfl)];exact p3,l0,l2,l3,n2,n3,zj hr c.size⟩
 have h5:=(h3.own_lt hb).1
 have h6:=(h1 _ o e).2.2.2
 omega
theorem scan_row {k:Kc ord} {mn mx:Nat} {w:World} {F:Nat→Prop} {H:HN ord} {n:Int} {ob b2 b3 rb b qb qo cap:Nat} {c:Int} {acc:List (It ord)} {D S:List (Bk ord)}
  (hW:ScanW k n ob b2 b3 rb b qb qo cap c S acc w w acc D S 0) (hs:ScanSep k F ob b2 b3 rb b qb) (ho:OrdAt k w) (hF:Fam (parM k) w F H) (hT:∀d∈S,∀T,d.2=some T→IsT H T.1 T.2∧Sh mn mx T.1 T.2) (hcap:cap≤9223372036854775807) (hD:D.length≤1000000000000) :
  Calls Tp 54 #[Ip (some ⟨b,0,none⟩),fnG b2 b3] w fun e w'=>e=Ir (Iu #[])∧Kept n ob b2 b3 rb w' (runL (kcF n) acc (flatD S)).1∧(∃np' a' n' cap',ListB w' b (kcQ k) c np' (.slice a' n' cap'))∧Chg (fun x _=>ScB ob rb b qb x) w w':=by
 have HW:=zL hW
 have HS:=zL hs
 have HO:=zL ho
 have HF:=zL hF
 have HT:=zL hT
 have c2:w.cell? ⟨b,2,none⟩=some (Ii Ij 0):=hW.lb.c2
 have c3:=hW.lb.c3
 have k0:(0:Int)≤(cap:Int):=by omega
 have FIN:=zL (fun (w':World) acc' np' a' n' cap' (h1:(runL (kcF n) acc (flatD S)).1=acc') (h2:Kept n ob b2 b3 rb w' acc') (h3:ListB w' b (kcQ k) c np' (.slice a' n' cap')) (h4:Chg (fun x _=>ScB ob rb b qb x) w w')=>(show Ending.returned (Iu #[])=Ir (Iu #[])∧Kept n ob b2 b3 rb w' (runL (kcF n) acc (flatD S)).1∧(∃np' a' n' cap',ListB w' b (kcQ k) c np' (.slice a' n' cap'))∧Chg (fun x _=>ScB ob rb b qb x) w w' from ⟨rfl,by rw [h1];exact h2,⟨np',a',n',cap',h3⟩,h4⟩))
 clear hW hs ho hF hT
 unfold fnG
 go_enter Try.func54,Try.ntmps54
 go_wp2_with fail
 go_quiet (fail)
 refine kbQ (fun w1=>Chg (fun _ _=>False) w w1) ((zK _ _).drewN _) ?_
 intro w1 hc1
 have d2:=hc1.q c2
 have HC1:=zL hc1
 clear hc1 c2 c3
 go_wp2_with fail
 refine wp_loop (fun a' w'=>a'=_∧w'=_) (fun _ _=>0) ⟨rfl,rfl⟩ ?_
 rintro a' w' ⟨rfl,hw⟩
 have hw':=hw.symm
 subst hw'
 clear hw
 go_wp2_with fail
 clear d2
 go_loopw [8] (fun _ wr=>∃(acc':List (It ord)) (M S':List (Bk ord)) (j:Nat),ScanW k n ob b2 b3 rb b qb qo cap c S acc w wr acc' M S' j∧M.length≤D.length) (fun _ wr=>slLenQ (wr.cell? ⟨b,3,none⟩))
 case atStart=>exact ⟨acc,D,S,0,HW.out.keep HC1.out,zi _⟩
 case round =>
  obtain ⟨acc',M,S',j,hW,hMD⟩:=hrel
  have hms:slLenQ (wr.cell? ⟨b,3,none⟩)=M.length:=by rw [hW.lb.c3];rfl
  rw [hms]
  have HWR:=zL hW
  clear hW hms
  rcases M with _ | ⟨z0,M0⟩
  ·have hl:=HWR.out.lb
   have HL:=zL hl
   clear hl
   go_wp2_with fail
   refine (pop_none (a:=some ⟨qb,qo,none⟩) (cap:=cap) HL.out).mono ?_
   rintro e w2 ⟨rfl,hc2⟩
   have HC2:=zL hc2
   clear hc2
   go_wp2_with fail
   refine kbQ (fun wf=>Chg (fun _ _=>False) wr wf) (HC2.out.alloc _) ?_
   intro wf hcf
   have hWf:=HWR.out.keep hcf
   have hS':S'=[]:=List.perm_nil.1 HWR.out.perm.symm
   subst hS'
   refine bodyPost_ret (v:=Iu #[]) (by simp [results,Try.results54,go_sem]) rfl ?_
   exact ⟨rfl,(FIN.out _ acc' _ _ _ _ HWR.out.run hWf.kept hWf.lb hWf.chg).2⟩
  ·obtain ⟨z,S2,rfl⟩:∃z S2,S'=z::S2:=by
    rcases S' with _ | ⟨z,S2⟩
    ·exact absurd (HWR.out.perm.length_eq) (by simp)
    ·exact ⟨z,S2,rfl⟩
   obtain ⟨M,hM⟩:∃M,z0::M0=M:=⟨_,rfl⟩
   have hMp:0 < M.length:=by rw [←hM];simp
   rw [hM] at HWR hMD ⊢
   clear hM
   obtain ⟨q0,bl,q1,q2,q3⟩:=pop_law swoE HWR.out.heap HWR.out.perm HWR.out.srt
   have hpop:=pop_some HWR.out.lb HWR.out.row HWR.out.heap (HS.out.ordAt HO.out HWR.out.chg) q0 ⟨HS.out.ko.2.2.1,HS.out.ko.2.2.2.1,HS.out.ko.2.2.2.2.1,HS.out.ko.2.2.2.2.2.1⟩ HS.out.qb_ (by omega)
   have HPOP:=zL hpop
   have Q1:=zL q1
   have Q2:=zL q2
   clear q0 q1 q2 q3 hpop
   go_wp2_with fail
   refine HPOP.out.mono ?_
   rintro e w2 ⟨rfl,L',bl',p1,p2,p3,p4,p5,p6⟩
   have hbl:bl'=bl:=Iq (p1.symm.trans Q1.out)
   subst hbl
   have hperm:=p2.trans Q2.out
   have hL':L'.length=M.length - 1:=by
    have h1:=hperm.length_eq
    have h2:=HWR.out.perm.length_eq
    simp only [List.length_cons] at h2;omega
   rw [←hL'] at p4
   have HP:=zL (And.intro hperm (And.intro p3 (And.intro p4 (And.intro p5 p6))))
   have HLL:=zL hL'
   clear HPOP Q1 Q2 p1 p2 p3 p4 p5 p6 hperm hL'
   unfold aggE
   go_upto_region 9 with fail
   refine kbD (fun w3=>Chg (fun _ _=>False) w2 w3∧w3.heap[w2.heap.size]?=some (Ic #[Ii Ij z.1.1,Ii Ij z.1.2,.pointer z.npA] 128 (0,0))) ⟨(zK _ _).alloc _,kbT _ _ rfl⟩ ?_
   rintro w3 ⟨hc3,hb3⟩
   have hl3:=HP.out.2.2.1.keep hc3
   have hq3:=HP.out.2.2.2.1.chg hc3 (fun _ h=>h)
   have t0:=kbB hb3 0
   have t1:=kbB hb3 1
   have t2:=kbB hb3 2
   simp only [zF,zD,zE] at t0 t1 t2
   have c2:=hl3.c2
   have c3:=hl3.c3
   obtain ⟨x,hx⟩:∃x:Nat,x+(j+1)=cap:=⟨cap - (j+1),by have:=HWR.out.cnt;omega⟩
   have hxM:L'.length≤x:=by have:=HWR.out.cnt;have:=HLL.out;omega
   obtain ⟨v0,y0⟩:=hq3.there (i:=x * 3) (by omega)
   obtain ⟨v1,y1⟩:=hq3.there (i:=x * 3+1) (by omega)
   obtain ⟨v2,y2⟩:=hq3.there (i:=x * 3+2) (by omega)
   rw [←Nat.add_assoc] at y1 y2
   have f0:=hq3.fz (qo+x * 3)
   have f1:=hq3.fz (qo+x * 3+1)
   have f2:=hq3.fz (qo+x * 3+2)
   have s1:Ij.wrap ((cap:Int) - (j:Int))=(cap:Int) - (j:Int):=zh _ (by omega)
   have s2:Ij.wrap ((cap:Int) - (j:Int) - 1)=(x:Int):=(by rw [zh _ (by omega)];omega)
   have s3:(0:Int)≤(x:Int):=by omega
   have s4:(x:Int) < (cap:Int):=by omega
   have HB3:=zL hb3
   have HC3:=zL hc3
   have HL3:=zL hl3
   have HQ3:=zL hq3
   have HX:=zL hx
   clear hc3 hb3 hl3 hq3 hx
   go_upto_region 10 with fail
   go_still_tail 22,(by kernel_rfl)
   go_upto_region 11 with fail
   refine kbD (fun w4=>Chg (fun x _=>x=qb) w3 w4∧QRow w4 qb qo cap L') ⟨((((zK _ _).setCell (.inl rfl) _).setCell (.inl rfl) _).setCell (.inl rfl) _).drew,?_⟩ ?_
   ·have r1:=HQ3.out.beyond (x * 3) (Ii Ij z.1.1) (by omega)
    have r2:=r1.beyond (x * 3+1) (Ii Ij z.1.2) (by omega)
    have r3:=r2.beyond (x * 3+2) (.pointer z.npA) (by omega)
    exact r3.drew
   clear t0 t1 t2 y0 y1 y2 f0 f1 f2 c2 c3 HQ3
   rintro w4 ⟨hc4,hq4⟩
   have hl4:=HL3.out.chg hc4 (fun _ e=>HS.out.qb_ e.symm)
   have hb4:=HB3.out
   have hqt:qb < w2.heap.size:=HP.out.2.2.2.1.lt
   have hbt:b < w2.heap.size:=kbF HP.out.2.2.1
   rw [←hc4.block (kbF hb4) (fun _ e=>by have e:w2.heap.size=qb:=e;omega)] at hb4
   have c2:=hl4.c2
   have z2:=hl4.fz 2
   have s5:Ij.wrap ((j:Int)+1)=((j+1:Nat):Int):=(by rw [zh _ (by have:=HX.out;omega)];omega)
   have HL4:=zL hl4
   have HQ4:=zL hq4
   have HB4:=zL hb4
   have HC4:=zL (HC3.out.mono (B:=fun x _=>x=qb) (fun _ _ _ h=>h.elim) |>.trans hc4)
   clear hl4 hb4 hc4 hq4 HL3 HB3 HC3
   go_upto_region 12 with fail
   refine kbD (fun w5=>Chg (fun x _=>x=qb∨x=b) w2 w5∧QRow w5 qb qo cap L'∧ListB w5 b (kcQ k) c (j+1:Nat) (Is (some ⟨qb,qo,none⟩) L'.length cap)∧w5.heap[w2.heap.size]?=some (Ic #[Ii Ij z.1.1,Ii Ij z.1.2,.pointer z.npA] 128 (0,0))) ⟨(HC4.out.mono (fun _ _ _ h=>.inl h)).setCell (.inl (.inr rfl)) _,HQ4.out.chg ((zK (fun x _=>x=b) _).setCell (.inl rfl) _) (fun _ e=>HS.out.qb_ e),blk4c2 HL4.out _,?_⟩ ?_
   ·rw [hs_ne _ (by omega)];exact HB4.out
   clear c2 z2 HL4 HQ4 HB4 HC4
   rintro w5 ⟨hc5,hq5,hl5,hb5⟩
   have hc25:Chg (fun x _=>ScB ob rb b qb x) w w5:=(HWR.out.chg.trans (HP.out.2.2.2.2.mono (fun _ _ _ h=>.inr h))).trans (hc5.mono (fun _ _ _ h=>.inr h.symm))
   have hk2:Kept n ob b2 b3 rb w2 acc':=HWR.out.kept.aside HP.out.2.2.2.2 (fun x _ e=>by
    rcases e with rfl | rfl
    ·exact ⟨HS.out.bo.1,HS.out.bo.2.1,HS.out.bo.2.2,HS.out.bl⟩
    ·exact ⟨HS.out.qo.1,HS.out.qo.2.1,HS.out.qo.2.2,HS.out.ql⟩)
   have hk5:Kept n ob b2 b3 rb w5 acc':=hk2.aside hc5 (fun x _ e=>by
    rcases e with rfl | rfl
    ·exact ⟨HS.out.qo.1,HS.out.qo.2.1,HS.out.qo.2.2,HS.out.ql⟩
    ·exact ⟨HS.out.bo.1,HS.out.bo.2.1,HS.out.bo.2.2,HS.out.bl⟩)
   have hln:=HWR.out.len
   rw [flatD_cons,List.length_cons,zT] at hln
   have htk:=taker1_lim (lim:=w2.heap.size) z.1 hk5 (fun v y h1 h2=>by
    obtain ⟨v',g1,g2⟩:=hk2.o
    have h3:=g1
    rw [←hc5.block (kbF g1) (fun _ e=>e.elim (fun e=>HS.out.qo.1 e.symm) (fun e=>HS.out.bo.1 e.symm))] at h3
    rw [h1] at h3
    have e:v=v':=by simpa using h3
    subst e
    exact (g2.own_lt h2).2) hc5.size (by omega)
   have t0:=kbB hb5 0
   have t1:=kbB hb5 1
   have t2:=kbB hb5 2
   simp only [zF,zD,zE] at t0 t1 t2
   have hok:=HS.out.ordAt HO.out hc25
   have hob:=hk5.lo
   have hrb:rb≤w2.heap.size:=hk2.rw_
   have HL5:=zL hl5
   have HQ5:=zL hq5
   have HB5:=zL hb5
   have HC5:=zL hc25
   have HLN:=zL hln
   clear hc25 hk2 hk5 hln hok hl5 hq5 hb5 hc5
   have hsub2:∀d∈S2,d∈S:=fun d hd=>HWR.out.sub d (List.mem_cons_of_mem _ hd)
   have hcn2:j+1+L'.length≤cap:=by have:=HX.out;omega
   have NXT:=zL (fun (wx:World) acc2 (h1:ListB wx b (kcQ k) c (j+1:Nat) (Is (some ⟨qb,qo,none⟩) L'.length cap)) (h2:QRow wx qb qo cap L') (h3:Kept n ob b2 b3 rb wx acc2) (h4:(runL (kcF n) acc (flatD S)).1=(runL (kcF n) acc2 (flatD S2)).1) (h5:acc2.length+(flatD S2).length≤1000000000000) (h6:Chg (fun x _=>ScB ob rb b qb x) w wx) =>
    (show ScanW k n ob b2 b3 rb b qb qo cap c S acc w wx acc2 L' S2 (j+1) from ⟨h1,h2,HP.out.2.1,HP.out.1,(List.pairwise_cons.1 HWR.out.srt).2,hcn2,h3,h4,h5,hsub2,h6⟩))
   have hll:=HLL.out
   clear hsub2 hcn2
   cases hb:kcF n (acc'++[z.1])
   all_goals
    rw [hb] at htk
    have HTK:=zL htk
    have HB1:=zL hb
    clear htk hb
    go_wp2_with fail
    refine HTK.out.mono ?_
    rintro e w6 ⟨rfl,hk6,hc6⟩
    have hc6':Chg (fun x _=>ScB ob rb b qb x) w5 w6:=hc6.mono (fun x _ _ e=>.inl (e.elim .inl (fun e=>.inr e.1)))
    have hc26:=HC5.out.trans hc6'
    have hl6:=HL5.out.chg hc6 (fun _ e=>by have:=HS.out.bo.1;have:=HS.out.bl;rcases e with e | e<;>omega)
    have hq6:=HQ5.out.chg hc6 (fun _ e=>by have:=HS.out.qo.1;have:=HS.out.ql;rcases e with e | e<;>omega)
    have hb6:=HB5.out
    rw [←hc6.block (kbF hb6) (fun _ e=>by rcases e with e | e<;>omega)] at hb6
    have u2:=kbB hb6 2
    simp only [zF,zD,zE] at u2
    have HK6:=zL hk6
    have HC6:=zL hc26
    have HL6:=zL hl6
    have HQ6:=zL hq6
    clear hk6 hc6 hc6' hc26 hl6 hq6 hb6 t0 t1 t2
   ·go_wp2_with fail
    refine bodyPost_ret (v:=Iu #[]) (by simp [results,Try.results54,go_sem]) rfl ?_
    refine ⟨rfl,(FIN.out _ (acc'++[z.1]) _ _ _ _ ?_ HK6.out HL6.out HC6.out).2⟩
    rw [HWR.out.run,flatD_cons,kgR HB1.out]
   ·rcases hzt:z.2 with _ | T
    ·have hnp:z.npA=none:=by simp [Bk.npA,Bk.np,hzt]
     have hkn:z.kin=[]:=by simp [Bk.kin,hzt]
     rw [hnp] at u2 ⊢
     have HKN:=zL hkn
     clear hkn hnp hzt
     go_wp2_with fail
     refine ⟨⟨acc'++[z.1],L',S2,j+1,NXT.out _ _ HL6.out HQ6.out HK6.out ?_ ?_ HC6.out,by omega⟩,?_⟩
     ·rw [HWR.out.run,flatD_cons,kfB HB1.out,HKN.out];rfl
     ·have:=HLN.out;simp only [zT,List.length_cons,List.length_nil];omega
     ·rw [HL6.out.c3];show L'.length < M.length;omega
    ·have hnp:z.npA=some ⟨T.node,0,none⟩:=by simp [Bk.npA,Bk.np,hzt]
     have hkn:z.kin=T.items:=by simp [Bk.kin,hzt]
     obtain ⟨hIT,hSh⟩:=HT.out z (HWR.out.sub z List.mem_cons_self) T hzt
     have hlT:(acc'++[z.1]).length+(toL T.1 T.2).length≤1000000000000:=by
      have:=HLN.out
      rw [hkn] at this
      have e:T.items.length=(toL T.1 T.2).length:=rfl
      simp only [zT,List.length_cons,List.length_nil];omega
     have hex:=ext_all ord T.1 k mn mx w6 F H T.2 n ob b2 b3 rb (acc'++[z.1]) (HF.out.chg HC6.out (fun x _ hx e=>HS.out.fo x hx e)) hIT hSh HK6.out (fun x hx e=>HS.out.fo x hx (.inl e)) hlT
     unfold kfC fnG at hex
     have hnd:rid T.2=T.node:=rfl
     rw [hnd] at hex
     rw [hnp] at u2 ⊢
     have HKN:=zL hkn
     clear hkn hnp hzt hIT hSh hnd
     cases hb2:(runL (kcF n) (acc'++[z.1]) (toL T.1 T.2)).2
     all_goals
      rw [hb2] at hex
      have HEX:=zL hex
      have HB2:=zL hb2
      clear hex hb2
      go_wp2_with fail
      refine HEX.out.mono ?_
      rintro e w7 ⟨rfl,hk7,hc7⟩
      have hc27:=HC6.out.trans (hc7.mono (fun _ _ _ e=>.inl e))
      have hl7:=HL6.out.chg hc7 (fun _ e=>by have:=HS.out.bo.1;have:=HS.out.bl;rcases e with e | e<;>omega)
      have hq7:=HQ6.out.chg hc7 (fun _ e=>by have:=HS.out.qo.1;have:=HS.out.ql;rcases e with e | e<;>omega)
      have HK7:=zL hk7
      have HC7:=zL hc27
      have HL7:=zL hl7
      have HQ7:=zL hq7
      clear hk7 hc7 hc27 hl7 hq7 u2
      go_wp2_with fail
     ·skip
      refine bodyPost_ret (v:=Iu #[]) (by simp [results,Try.results54,go_sem]) rfl ?_
      refine ⟨rfl,(FIN.out _ _ _ _ _ _ ?_ HK7.out HL7.out HC7.out).2⟩
      rw [HWR.out.run,flatD_cons,kfB HB1.out,HKN.out]
      exact congrArg Prod.fst (kfJ HB2.out)
     ·have hrt:=runL_true _ _ _ HB2.out
      have hk7:=HK7.out
      rw [hrt] at hk7
      refine ⟨⟨acc'++[z.1]++toL T.1 T.2,L',S2,j+1,NXT.out _ _ HL7.out HQ7.out hk7 ?_ ?_ HC7.out,by omega⟩,?_⟩
      ·rw [HWR.out.run,flatD_cons,kfB HB1.out,HKN.out]
       exact (congrArg Prod.fst (kdT HB2.out)).trans (by rw [hrt])
      ·have:=HLN.out
       rw [HKN.out] at this
       have e:T.items.length=(toL T.1 T.2).length:=rfl
       simp only [zT,List.length_cons,List.length_nil];omega
      ·rw [HL7.out.c3];show L'.length < M.length;omega
end
end
section
open Go.RowKit
variable {ord:List Int} {k:Kc ord}
section
variable {ord:List Int}
theorem scan_nil {w:World} {b b2 b3:Nat} {lv:Value} {c:Int} (hl:ListB w b lv c 0 (Is none 0 0)) :
  Calls Tp 54 #[Ip (some ⟨b,0,none⟩),fnG b2 b3] w fun e w'=>e=Ir (Iu #[])∧Chg (fun _ _=>False) w w':=by
 have c2:w.cell? ⟨b,2,none⟩=some (Ii Ij 0):=hl.c2
 have c3:=hl.c3
 have HL:=zL hl
 clear hl
 unfold fnG
 go_enter Try.func54,Try.ntmps54
 go_wp2_with fail
 go_quiet (fail)
 refine kbQ (fun w1=>Chg (fun _ _=>False) w w1) ((zK _ _).drewN _) ?_
 intro w1 hc1
 have d2:=hc1.q c2
 have HC1:=zL hc1
 have HL1:=zL (HL.out.keep hc1)
 clear hc1 c2 c3
 go_wp2_with fail
 refine wp_loop (fun a' w'=>a'=_∧w'=_) (fun _ _=>0) ⟨rfl,rfl⟩ ?_
 rintro a' w' ⟨rfl,hw⟩
 have hw':=hw.symm
 subst hw'
 clear hw
 go_wp2_with fail
 clear d2
 refine wp_loop (fun a' w'=>a'=_∧w'=_) (fun _ _=>0) ⟨rfl,rfl⟩ ?_
 rintro a' w' ⟨rfl,hw⟩
 have hw':=hw.symm
 subst hw'
 clear hw
 go_wp2_with fail
 refine (pop_none (a:=none) (cap:=0) HL1.out).mono ?_
 rintro e w2 ⟨rfl,hc2⟩
 have HC2:=zL hc2
 clear hc2
 go_wp2_with fail
 refine kbQ (fun wf=>Chg (fun _ _=>False) w wf) ((HC1.out.trans HC2.out).alloc _) ?_
 intro wf hcf
 refine bodyPost_ret (v:=Iu #[]) (by simp [results,Try.results54,go_sem]) rfl ?_
 exact ⟨rfl,hcf⟩
def ScV (ob rb b:Nat) (q:Value) (x:Nat):Prop:=TakeB ob rb x∨x=b∨q.ownBlock=some x
theorem Scan_any {k:Kc ord} {mn mx:Nat} {w:World} {F:Nat→Prop} {H:HN ord} {n:Int} {ob b2 b3 rb b base:Nat} {q:Value} {c:Int} {acc:List (It ord)} {D S:List (Bk ord)}
  (hl:ListB w b (kcQ k) c 0 q) (hq:OwnE (eitE ord) w q D base) (hh:kfF ltE D) (hp:D.Perm S) (hS:Srt ltE S) (hk:Kept n ob b2 b3 rb w acc) (hln:acc.length+(flatD S).length≤1000000000000)
  (hb:b < rb∧b≠ob∧b≠b2∧b≠b3∧∀x,q.ownBlock=some x→x≠b) (hql:∀x,q.ownBlock=some x→x < rb) (hob:ob < base∨∀x,q.ownBlock=some x→x≠ob) (hqt:∀x,q.ownBlock=some x→x≠b2∧x≠b3) (hF0:∀x,F x→¬TakeB ob rb x) (hFb:¬F b) (hFq:∀x,q.ownBlock=some x→¬F x)
  (hko:k.ob < rb∧k.rb < rb∧k.ob≠b∧k.rb≠b∧k.ob < base∧k.rb < base∧k.ob≠ob∧k.rb≠ob) (ho:OrdAt k w) (hF:Fam (parM k) w F H) (hT:∀d∈S,∀T,d.2=some T→IsT H T.1 T.2∧Sh mn mx T.1 T.2) (hcap:CapOk q) (hD:D.length≤1000000000000) :
  Calls Tp 54 #[Ip (some ⟨b,0,none⟩),fnG b2 b3] w fun e w'=>e=Ir (Iu #[])∧Kept n ob b2 b3 rb w' (runL (kcF n) acc (flatD S)).1∧(∃np' a' n' cap',ListB w' b (kcQ k) c np' (.slice a' n' cap'))∧Chg (fun x _=>ScV ob rb b q x) w w':=by
 rcases hq with ⟨rfl,rfl⟩ | ⟨qb,qo,cap,rfl,h2,h3,h4⟩
 ·obtain rfl:S=[]:=List.perm_nil.1 hp.symm
  refine (scan_nil (b2:=b2) (b3:=b3) hl).mono ?_
  rintro e w' ⟨rfl,hc⟩
  exact ⟨rfl,hk.keep hc,⟨_,_,_,_,hl.keep hc⟩,hc.mono (fun _ _ _ h=>h.elim)⟩
 ·have hqb:(Value.slice (some ⟨qb,qo,none⟩) (D.length:Nat) cap).ownBlock=some qb:=rfl
  have hne:qb≠ob:=by
   rcases hob with h | h
   ·omega
   ·exact h qb hqb
  have hsep:ScanSep k F ob b2 b3 rb b qb:=⟨hb.1,hql qb hqb,⟨hb.2.1,hb.2.2.1,hb.2.2.2.1⟩,⟨hne,hqt qb hqb⟩,hb.2.2.2.2 qb hqb,fun x hx e=>by
   rcases e with e | rfl | rfl
   ·exact hF0 x hx e
   ·exact hFb hx
   ·exact hFq _ hqb hx,⟨hko.1,hko.2.1,hko.2.2.1,hko.2.2.2.1,by omega,by omega,hko.2.2.2.2.2.2.1,hko.2.2.2.2.2.2.2⟩⟩
  refine (scan_row (c:=c) (qo:=qo) (cap:=cap) (D:=D) (S:=S) ⟨hl,⟨h2,h4⟩,hh,hp,hS,by omega,hk,rfl,hln,fun _ h=>h,zK _ _⟩ hsep ho hF hT (by have:=hcap _ _ _ rfl;simp only [maxLen] at this;omega) hD).mono ?_
  rintro e w' ⟨rfl,g1,g2,g3⟩
  exact ⟨rfl,g1,g2,g3.mono (fun x _ _ e=>by
   rcases e with e | e | rfl
   ·exact .inl e
   ·exact .inr (.inl e)
   ·exact .inr (.inr hqb))⟩
end
end
end Go.Proofs.Ytnohimhihombmaa
