/- A list out of what DeleteRange returns. -/
import Derived.Test.YtnohimhihombmaaA2
import Derived.Test.YtnohimhihombmaaA10
import Derived.Test.YtnohimhihombmaaYb
import Derived.Test.YtnohimhihombmaaX1
import Derived.Test.YtnohimhihombmaaX2
import Derived.Test.YtnohimhihombmaaX3
import Derived.Test.YtnohimhihombmaaX4
import Derived.Test.YtnohimhihombmaaX6
import Derived.Test.YtnohimhihombmaaYasc
namespace Go.Proofs.Ytnohimhihombmaa
set_option linter.unusedSimpArgs false
set_option linter.unusedVariables false
set_option maxRecDepth 100000
set_option maxHeartbeats 40000000
open Value renaming int → Ii, pointer → Ip, slice → Is, tuple → Iu
open IntKind renaming i64 → Ij
open Obj renaming cells → Ic
open Ending renaming returned → Ir
open Option.some renaming inj → Iq
open _root_.Go.Proofs.Try renaming prog → Tp
open List renaming setIfInBounds_toArray → zA, set_cons_zero → zB, set_cons_succ → zC, getElem?_cons_zero → zD, getElem?_cons_succ → zE, getElem?_toArray → zF, getElem?_eq_some_iff → zG, getElem?_eq_getElem → zH, mem_cons_self → zP, mem_cons → zR, mem_of_getElem? → zS, length_append → zT
open Region renaming wanted → zI
open Chg renaming refl → zK
open Lib renaming hid → zL
open Option renaming some.injEq → zc
open Nat renaming le_refl → zi, le_trans → zj
open Go.RowKit
section
variable {ord:List Int}{k:Kc ord}
def insR (rk:Int→Int)(lo hi:It ord)(inc:Bool)(x:It ord):Bool:=!ltR rk x lo&&(ltR rk x hi||(inc&&!ltR rk hi x))
theorem Inside_any (ordv:Value)(rk:Int→Int)(x lo hi:It ord)(inc:Bool)(w:World)(hR:RankOk ordv rk w) :
  Calls Tp 21 #[ordv,itemV x,itemV lo,itemV hi,.bool inc] w fun e w'=>e=Ir (.bool (insR rk lo hi inc x))∧Chg (fun _ _=>False) w w':=by
 have hb:=fun (a b:It ord) w1 (c:Chg (fun _ _=>False) w w1)=>before_any ordv rk a b w1 (hR.chg c)
 unfold itemV at hb ⊢
 have HB:=zL hb
 clear hb hR
 go_enter Try.func21,Try.ntmps21
 go_wp2_with fail
 refine kbW (fun w1=>Chg (fun _ _=>False) w w1∧w1.heap[w.heap.size]?=some (Ic #[Ii Ij x.1,Ii Ij x.2] 27 (0,0))∧w1.heap[w.heap.size+1]?=some (Ic #[Ii Ij lo.1,Ii Ij lo.2] 27 (0,0))∧w1.heap[w.heap.size+2]?=some (Ic #[Ii Ij hi.1,Ii Ij hi.2] 27 (0,0))) ⟨(((zK _ _).alloc _).alloc _).alloc _,?_,?_,?_⟩ ?_
 ·rw [kcZ _ _ (by simp;try omega),kcZ _ _ (by simp)];exact kbT _ _ rfl
 ·rw [kcZ _ _ (by simp;try omega)];exact kbT _ _ (by simp)
 ·exact kbT _ _ (by simp)
 rintro w1 ⟨hc1,hb0,hb1,hb2⟩
 have x0:=kbB hb0 0
 have x1:=kbB hb0 1
 have l0:=kbB hb1 0
 have l1:=kbB hb1 1
 have h0:=kbB hb2 0
 have h1:=kbB hb2 1
 simp only [zF,zD,zE] at x0 x1 l0 l1 h0 h1
 clear hb0 hb1 hb2
 refine (HB.out x lo _ hc1).mono ?_
 rintro e w2 ⟨rfl,hc2⟩
 replace x0:=hc2.q x0
 replace x1:=hc2.q x1
 replace l0:=hc2.q l0
 replace l1:=hc2.q l1
 replace h0:=hc2.q h0
 replace h1:=hc2.q h1
 have hc02:=hc1.trans hc2
 obtain ⟨v1,hv1⟩:∃v,ltR rk x lo=v:=⟨_,rfl⟩
 rw [hv1]
 have HV1:=zL hv1
 clear hv1
 cases v1
 ·go_wp2_with fail
  refine (HB.out x hi _ hc02).mono ?_
  rintro e w3 ⟨rfl,hc3⟩
  replace x0:=hc3.q x0
  replace x1:=hc3.q x1
  replace l0:=hc3.q l0
  replace l1:=hc3.q l1
  replace h0:=hc3.q h0
  replace h1:=hc3.q h1
  have hc03:=hc02.trans hc3
  obtain ⟨v2,hv2⟩:∃v,ltR rk x hi=v:=⟨_,rfl⟩
  rw [hv2]
  have HV2:=zL hv2
  clear hv2
  cases v2
  ·cases inc
   ·go_wp2_with fail
    go_ret
    exact ⟨by unfold insR;rw [HV1.out,HV2.out];rfl,hc03⟩
   ·go_wp2_with fail
    refine (HB.out hi x _ hc03).mono ?_
    rintro e w4 ⟨rfl,hc4⟩
    have hc04:=hc03.trans hc4
    obtain ⟨v3,hv3⟩:∃v,ltR rk hi x=v:=⟨_,rfl⟩
    rw [hv3]
    have HV3:=zL hv3
    clear hv3
    go_wp2_with fail
    go_ret
    exact ⟨by unfold insR;rw [HV1.out,HV2.out,HV3.out];simp,hc04⟩
  ·go_wp2_with fail
   go_ret
   exact ⟨by unfold insR;rw [HV1.out,HV2.out];rfl,hc03⟩
 ·go_wp2_with fail
  go_ret
  exact ⟨by unfold insR;rw [HV1.out];rfl,hc02⟩
end
section
variable {ord:List Int}{k:Kc ord}
section
variable {ord:List Int}
theorem perm_srt:∀{l1 l2:List (It ord)},Srt ltM l1→Srt ltM l2→l1.Perm l2→l1=l2
 |[],l2,_,_,h=>(List.nil_perm.1 h).symm
 |a::l1,[],_,_,h=>by have:=h.length_eq;simp at this
 |a::l1,b::l2,h1,h2,h=>by
  obtain ⟨g1,g2⟩:=List.pairwise_cons.1 h1
  obtain ⟨k1,k2⟩:=List.pairwise_cons.1 h2
  have e:a=b:=by
   have ha:a∈b::l2:=h.subset zP
   have hb:b∈a::l1:=h.symm.subset zP
   rcases zR.1 ha with ha | ha
   ·exact ha
   ·rcases zR.1 hb with hb | hb
    ·exact hb.symm
    ·have:=swoM.asymm _ _ (g1 b hb)
     rw [k1 a ha] at this;cases this
  subst e
  rw [perm_srt g2 k2 (List.Perm.cons_inv h)]
theorem ins_yes {X:DrX ord}{u:It ord}(h1:ltM u X.lo=false)(h2:X.st u=false):insR (rkL ord) X.lo X.hi X.inc u=true:=by
 have h1':ltR (rkL ord) u X.lo=false:=h1
 unfold DrX.st at h2
 unfold insR
 rw [h1']
 cases hi:X.inc
 ·rw [hi] at h2
  simp only [Bool.false_eq_true,if_false,Bool.not_eq_false'] at h2
  have h2':ltR (rkL ord) u X.hi=true:=h2
  rw [h2'];rfl
 ·rw [hi] at h2
  simp only [if_true] at h2
  have h2':ltR (rkL ord) X.hi u=false:=h2
  rw [h2'];simp
theorem ins_no {X:DrX ord}{u:It ord}(h:ltM u X.lo=true∨X.st u=true):insR (rkL ord) X.lo X.hi X.inc u=false:=by
 unfold insR
 rcases h with h | h
 ·have h':ltR (rkL ord) u X.lo=true:=h
  rw [h'];rfl
 ·unfold DrX.st at h
  cases hi:X.inc
  ·rw [hi] at h
   simp only [Bool.false_eq_true,if_false,Bool.not_eq_true'] at h
   have h':ltR (rkL ord) u X.hi=false:=h
   rw [h'];simp
  ·rw [hi] at h
   simp only [if_true] at h
   have h':ltR (rkL ord) X.hi u=true:=h
   have h2:ltR (rkL ord) u X.hi=false:=swoM.asymm _ _ h
   rw [h',h2];simp
theorem DrF.split {X:DrX ord}{L:List (It ord)}{D:List (Bk ord)}{H:HN ord}(h:DrF X.st X.lo X.L0 L D X.mn X.mx H)(hs:Srt ltM X.L0) :
  kdM (pl D)=X.L0.filter (insR (rkL ord) X.lo X.hi X.inc)∧L=X.L0.filter (fun u=>!insR (rkL ord) X.lo X.hi X.inc u):=by
 have e1:(kdM (pl D)).filter (insR (rkL ord) X.lo X.hi X.inc)=kdM (pl D):=List.filter_eq_self.2 fun u hu=>ins_yes (h.ins u hu).1 (h.ins u hu).2
 have e2:L.filter (insR (rkL ord) X.lo X.hi X.inc)=[]:=List.filter_eq_nil_iff.2 fun u hu=>by rw [ins_no (h.out u hu)];simp
 have e3:(kdM (pl D)).filter (fun u=>!insR (rkL ord) X.lo X.hi X.inc u)=[]:=List.filter_eq_nil_iff.2 fun u hu=>by rw [ins_yes (h.ins u hu).1 (h.ins u hu).2];simp
 have e4:L.filter (fun u=>!insR (rkL ord) X.lo X.hi X.inc u)=L:=List.filter_eq_self.2 fun u hu=>by rw [ins_no (h.out u hu)];rfl
 have p1:=h.perm.filter (insR (rkL ord) X.lo X.hi X.inc)
 have p2:=h.perm.filter (fun u=>!insR (rkL ord) X.lo X.hi X.inc u)
 rw [List.filter_append,e1,e2,List.append_nil] at p1
 rw [List.filter_append,e3,e4,List.nil_append] at p2
 exact ⟨perm_srt h.srtE (List.Pairwise.sublist List.filter_sublist hs) p1,perm_srt h.srtL (List.Pairwise.sublist List.filter_sublist hs) p2⟩
end
end
section
variable {ord:List Int}{k:Kc ord}
section
variable {ord:List Int}
def OptB (op:Option Nat)(inc:Bool)(w:World):Prop:=match op with
 |none=>inc=false
 |some b=>w.heap[b]?=some (.cells #[.bool false,.bool inc] 117 (0,0))
def optV2 (op:Option Nat):Value:=.pointer (op.map fun b=>⟨b,0,none⟩)
def mkX (k:Kc ord)(mn mx t d s:Nat)(F0:Nat→Prop)(lo hi:It ord)(inc:Bool)(L0:List (It ord))(bh bp base:Nat):DrX ord:=⟨k,mn,mx,t,d,s,bh,bp,base,F0,lo,hi,inc,L0⟩
structure DelR (k:Kc ord) (mn mx t:Nat) (F:Nat→Prop) (lo hi:It ord) (inc:Bool) (l:List (It ord)) (w w':World) (base:Nat) (c:Int) (q:Value) (F':Nat→Prop) (H':HN ord) (Dq D:List (Bk ord)):Prop where
 qo:OwnE (eitE ord) w' q Dq base
 qc:CapOk q
 hp:kfF ltE Dq
 pm:Dq.Perm D
 srt:Srt ltE D
 ct:c=(l.filter (insR (rkL ord) lo hi inc)).length
 fl:flatD D=l.filter (insR (rkL ord) lo hi inc)
 fam:Fam (parM k) w' F' H'
 fs:∀b,F' b→F b∨base≤b
 qF:∀b,q.ownBlock=some b→¬F' b
 tr:∀d∈D,∀T,d.2=some T→IsT H' T.1 T.2∧Sh mn mx T.1 T.2
 map:∃F2:Nat→Prop,(∀b,F2 b→F' b)∧MapIn k mn mx w' F2 t (l.filter fun u=>!insR (rkL ord) lo hi inc u)
 ob:OrdAt k w'
 chg:Chg (fun b _=>F b∨b=t∨base≤b) w w'
theorem flatD_pl:∀(D:List (Bk ord)),flatD D=kdM (pl D)
 |[]=>rfl
 |d::D=>by
  rw [flatD_cons,flatD_pl D]
  show _=kdM (d.plain::pl D)
  rw [kdY];rfl
theorem OptB.chg {op:Option Nat}{inc:Bool}{w w':World}(h:OptB op inc w)(c:Chg (fun _ _=>False) w w'):OptB op inc w':=by
 cases op with
 |none=>exact h
 |some b =>
  have h':w.heap[b]?=some (Ic #[.bool false,.bool inc] 117 (0,0)):=h
  show w'.heap[b]?=_
  rw [c.block (kbF h') (fun _ h=>h)];exact h'
theorem DrOut.delR {k:Kc ord}{mn mx t d bh bp base s:Nat}{F:Nat→Prop}{lo hi:It ord}{inc:Bool}{l:List (It ord)}{w w1 w2 w3:World}{c:Int}{q:Value}{F':Nat→Prop}{H':HN ord}{L:List (It ord)}{Dq D:List (Bk ord)}
  (ho:DrOut (mkX k mn mx t d s F lo hi inc l bh bp base) w1 w2 c q F' H' L Dq D)(ok:DrOk (mkX k mn mx t d s F lo hi inc l bh bp base))(hl:Srt ltM l)(hll:l.length≤100000000000000)(hc1:Chg (fun _ _=>False) w w1)(hc3:Chg (fun b _=>b=d) w2 w3)(hw:w.heap.size≤d)(hs:s=w1.heap.size) :
  DelR k mn mx t F lo hi inc l w w3 w.heap.size c q F' H' Dq D:=by
 have hsz:=hc1.size
 obtain ⟨hs1,hs2⟩:kdM (pl D)=l.filter (insR (rkL ord) lo hi inc)∧L=l.filter (fun u=>!insR (rkL ord) lo hi inc u):=ho.fin.split hl
 have hfs:∀b,F' b→F b∨base≤b:=ho.fs
 have o1:s+5≤bh:=ok.o1
 have o2:bh<bp:=ok.o2
 have o3:bp<base:=ok.o3
 have hfl:∀b,F b→b<s:=ok.fl
 have hdl:d<s∧¬F d:=ok.dl
 have htl:∀b,MOwn k t b→b<s∧¬F b∧b≠d:=ok.tl
 have hFd:∀b (_:Nat),F' b→¬b=d:=fun b _ hb e=>by
  rcases hfs b hb with h | h
  ·exact hdl.2 (e▸h)
  ·omega
 have hqd:∀b (_:Nat),q.ownBlock=some b→¬b=d:=fun b _ hb e=>by
  have h1:base≤b:=(ho.qo.own_lt hb).1
  omega
 have hMd:∀b (_:Nat),MOwn k t b→¬b=d:=fun b _ hb=>(htl b hb).2.2
 have hMF:∀b,MOwn k t b→¬F' b:=fun b hb hf=>by
  rcases hfs b hf with h | h
  ·exact (htl b hb).2.1 h
  ·have:=(htl b hb).1;omega
 have hob:OrdAt k w2:=by
  rcases ho.map with ⟨_,h⟩ | ⟨_,_,_,_,_,_,_,h⟩
  ·exact h.ord
  ·exact h.ord
 have hbase:w.heap.size≤base:=by omega
 have hct:c=(kdM (pl D)).length:=ho.ct
 have hmap:∃F2:Nat→Prop,(∀b,F2 b→F' b)∧MapIn k mn mx w2 F2 t L:=by
  rcases ho.map with ⟨rfl,h⟩ | ⟨h',T,h1,h2,h3,h4,h5,h6⟩
  ·exact ⟨fun _=>False,fun _ h=>h.elim,.inl ⟨rfl,fun _ h=>h,h⟩⟩
  ·refine ⟨F',fun _ h=>h,.inr ⟨H',h',T,⟨ho.fam,h6.at_,hMF,h1,h2,h3,?_,?_,ok.m3,ok.m1000,ok.mh,ok.mh2⟩,h6,h4,h5⟩⟩
   ·rw [h4];exact ho.fin.srtL
   ·have h7:(kdM (pl D)++L).length=l.length:=ho.fin.perm.length_eq
    rw [zT] at h7
    rw [h4];omega
 obtain ⟨F2,hF2,hM2⟩:=hmap
 rw [hs2] at hM2
 refine ⟨(ho.qo.chgOwn hc3 hqd).mono hbase,ho.qc,ho.hp,ho.pm,List.pairwise_map.1 (blocks_srt _ ho.fin.srtE),by rw [hct,hs1],by rw [flatD_pl,hs1],ho.fam.chg hc3 hFd,?_,ho.qF,ho.fin.tr,⟨F2,hF2,?_⟩,?_,?_⟩
 ·intro b hb
  exact (hfs b hb).imp id (fun h=>by omega)
 ·exact hM2.chgA hc3 (fun b o hb=>hFd b o (hF2 b hb)) hMd
 ·exact hob.chg hc3 (fun o=>hMd _ o (.inr (.inl rfl))) (fun o=>hMd _ o (.inr (.inr rfl)))
 ·refine (hc1.trans' ho.chg (B:=fun b _=>F b∨b=t∨w.heap.size≤b) (fun _ _ _ h=>h.elim) (fun b o hb h=>?_)).trans' hc3 (B:=fun b _=>F b∨b=t∨w.heap.size≤b) i3 (fun b o hb h=>.inr (.inr (by omega)))
  have h':F b∨b=t∨b=d∨s≤b:=h
  rcases h' with h | h | h | h
  ·exact .inl h
  ·exact .inr (.inl h)
  ·exact .inr (.inr (by omega))
  ·exact .inr (.inr (by omega))
end
end
section
variable {ord:List Int}{k:Kc ord}
section
variable {ord:List Int}
structure LsOk (k:Kc ord) (mn mx b base lim:Nat) (w:World) (c:Int) (q:Value) (F:Nat→Prop) (H:HN ord) (Dq D:List (Bk ord)) (L:List (It ord)):Prop where
 lb:ListB w b (kcQ k) c 0 q
 qo:OwnE (eitE ord) w q Dq base
 qc:CapOk q
 hp:kfF ltE Dq
 pm:Dq.Perm D
 srt:Srt ltE D
 ct:c=L.length
 fl:flatD D=L
 fam:Fam (parM k) w F H
 qF:∀x,q.ownBlock=some x→¬F x
 tr:∀d∈D,∀T,d.2=some T→IsT H T.1 T.2∧Sh mn mx T.1 T.2
 ob:OrdAt k w
 fb:¬F b
 qb:∀x,q.ownBlock=some x→x≠b
 kb:k.ob≠b∧k.rb≠b∧k.ob<base∧k.rb<base
 bl:b<lim
 ql:∀x,q.ownBlock=some x→x<lim
 fll:∀x,F x→x<lim
 kl:k.ob<lim∧k.rb<lim
 lw:lim≤w.heap.size
 len:L.length≤1000000000000
variable {mn mx b base lim:Nat}{Dq D:List (Bk ord)}{L:List (It ord)}{F:Nat→Prop}{H:HN ord}{q:Value}{c:Int}
theorem LsOk.chg {k:Kc ord}{w w':World}(h:LsOk k mn mx b base lim w c q F H Dq D L)(hc:Chg (fun x _=>lim≤x) w w'):LsOk k mn mx b base lim w' c q F H Dq D L :=
 ⟨h.lb.chg hc (fun _ e=>by have:=h.bl;omega),h.qo.chgOwn hc (fun x _ hx e=>by have:=h.ql x hx;omega),h.qc,h.hp,h.pm,h.srt,h.ct,h.fl,h.fam.chg hc (fun x _ hx e=>by have:=h.fll x hx;omega),h.qF,h.tr,h.ob.chg hc (fun _ e=>by have:=h.kl.1;omega) (fun _ e=>by have:=h.kl.2;omega),h.fb,h.qb,h.kb,h.bl,h.ql,h.fll,h.kl,zj h.lw hc.size,h.len⟩
theorem flatD_len:∀(D:List (Bk ord)),D.length≤(flatD D).length
 |[]=>zi _
 |d::D=>by
  have:=flatD_len D
  rw [flatD_cons]
  simp only [List.length_cons,zT]
  omega
theorem LsOk.scan {k:Kc ord}{w:World}{n:Int}{ob b2 b3 rb:Nat}(h:LsOk k mn mx b base lim w c q F H Dq D L)
  (hk:Kept n ob b2 b3 rb w [])(ho:lim≤ob)(h2:lim≤b2)(h3:lim≤b3)(hr:lim≤rb) :
  Calls Tp 54 #[Ip (some ⟨b,0,none⟩),fnG b2 b3] w fun e w'=>e=Ir (Iu #[])∧Kept n ob b2 b3 rb w' (firstN n L)∧(∃np' a' n' cap',ListB w' b (kcQ k) c np' (.slice a' n' cap'))∧Chg (fun x _=>x=b∨q.ownBlock=some x∨x=ob∨rb≤x) w w':=by
 have hbl:=h.bl
 have hkl:=h.kl
 have hlen:=h.len
 have hDl:=h.pm.length_eq
 have hfl:=flatD_len D
 rw [h.fl] at hfl
 refine (Scan_any (mn:=mn) (mx:=mx) (acc:=[]) h.lb h.qo h.hp h.pm h.srt hk (by rw [h.fl];simpa using hlen) ⟨by omega,by omega,by omega,by omega,h.qb⟩ (fun x hx=>by have:=h.ql x hx;omega) (.inr fun x hx=>by have:=h.ql x hx;omega) (fun x hx=>by have:=h.ql x hx;omega) ?_ h.fb h.qF ⟨by omega,by omega,h.kb.1,h.kb.2.1,h.kb.2.2.1,h.kb.2.2.2,by omega,by omega⟩ h.ob h.fam h.tr h.qc (by omega)).mono ?_
 ·intro x hx e
  have:=h.fll x hx
  rcases e with e | e<;>omega
 ·rintro e w' ⟨rfl,g1,g2,g3⟩
  rw [h.fl,runL_first] at g1
  exact ⟨rfl,g1,g2,g3.mono (fun x _ _ e=>by
   rcases e with (e | e) | e | e
   ·exact .inr (.inr (.inl e))
   ·exact .inr (.inr (.inr e))
   ·exact .inl e
   ·exact .inr (.inl e))⟩
theorem scanned_any {k:Kc ord}{w:World}(h:LsOk k mn mx b base lim w c q F H Dq D L) :
  Calls Tp 36 #[Ip (some ⟨b,0,none⟩)] w fun e w'=>∃v,e=Ir v∧OwnE itemE w' v L w.heap.size∧(∃np' a' n' cap',ListB w' b (kcQ k) c np' (.slice a' n' cap'))∧Chg (fun x _=>x=b∨q.ownBlock=some x∨w.heap.size≤x) w w':=by
 have HL:=zL h
 have HLW:=zL h.lw
 clear h
 go_enter Try.func36,Try.ntmps36
 go_wp2_with fail
 refine kbW (fun w1=>Chg (fun _ _=>False) w w1∧w1.heap[w.heap.size]?=some (Ic #[Is none 0 0] 25 (0,0))∧w1.heap.size=w.heap.size+1) ⟨(zK _ _).alloc _,kbT _ _ rfl,by simp⟩ ?_
 rintro w1 ⟨hc1,hb1,hs1⟩
 have HS1:=zL hs1
 clear hs1
 have HKT:=zL (taker_kept (n:=0) hb1)
 clear hb1
 refine (taker_any w.heap.size 0 w1).mono ?_
 rintro e w2 ⟨rfl,hw2⟩
 have hk:Kept 0 w.heap.size w1.heap.size (w1.heap.size+1) w2.heap.size w2 []:=by rw [hw2];exact HKT.out
 have hc2:Chg (fun _ _=>False) w1 w2:=by rw [hw2];exact ((zK _ _).alloc _).alloc _
 have HS2:=zL (show w2.heap.size=w1.heap.size+2 by rw [hw2];simp)
 clear hw2 HKT
 have hc12:=hc1.trans hc2
 have hsc:=(HL.out.chg (hc12.mono (fun _ _ _ h=>h.elim))).scan hk HLW.out (by have:=HLW.out;have:=HS1.out;omega) (by have:=HLW.out;have:=HS1.out;omega) (by have:=HLW.out;have:=HS1.out;have:=HS2.out;omega)
 unfold fnG at hsc
 have HSC:=zL hsc
 clear hsc hk
 go_wp2_with fail
 refine HSC.out.mono ?_
 rintro e w3 ⟨rfl,hk3,hl3,hc3⟩
 have hf0:firstN 0 L=L:=by unfold firstN;rw [if_pos (.inl (by omega))]
 rw [hf0] at hk3
 obtain ⟨⟨v,g1,g2⟩,_⟩:=hk3
 have kk0:=kbB g1 0
 simp only [zF,zD] at kk0
 clear g1
 have HL3:=zL hl3
 have HG2:=zL g2
 clear hl3 g2
 go_wp2_with fail
 go_ret
 exact ⟨v,rfl,HG2.out.mono (by have:=HS1.out;have:=HS2.out;omega),HL3.out,hc12.trans' hc3 (fun _ _ _ h=>h.elim) (fun x _ hx e=>by
  rcases e with e | e | e | e
  ·exact .inl e
  ·exact .inr (.inl e)
  ·exact .inr (.inr (by omega))
  ·exact .inr (.inr (by omega)))⟩
end
end
section
variable {ord:List Int}{k:Kc ord}
section
variable {ord:List Int}
theorem dr_test {X:DrX ord}{w0:World}(ok:DrOk X)(a:Act)(w:World){h0:Nat}{T0:BT (It ord) h0}{F:Nat→Prop}{H:HN ord}{p:It ord}{c:Int}{q:Value}{Dq D:List (Bk ord)}{st:Value}{B P:List Nat}{off h:Nat}{T:BT (It ord) (h+1)}{i:Nat}{fd:Bool}
  (hfr:DrFr X a)(s16:a.tmps[16]?=some st)(s17:a.tmps[17]?=some (Ip (some ⟨rid T,0,none⟩)))(s18:a.tmps[18]?=some (Ii Ij i))(s19:a.tmps[19]?=some (.bool fd))(hm:DrM X w0 w h0 T0 F H p c q Dq D st B P off (h+1) T)(hi:i≤T.2.1.length) :
  (drTest Try.f58).wp Tp (kfZ (TestQ X w0 T0 F H p c q Dq D st B P off T i fd)) a w:=by
 by_cases c1:i<T.2.1.length-1
 rotate_left
 ·exact dr_testA ok a w hfr s16 s17 s18 s19 hm hi c1
 by_cases c2:X.mn<T.2.1.length
 ·exact dr_testB ok a w hfr s16 s17 s18 s19 hm hi c1 c2
 by_cases c4:(kdG P B (rid T)).length=1
 ·exact dr_testC ok a w hfr s16 s17 s18 s19 hm hi c1 c2 c4
 ·exact dr_testD ok a w hfr s16 s17 s18 s19 hm hi c1 c2 c4
end
end
section
variable {ord:List Int}{k:Kc ord}
section
variable {ord:List Int}
def RdQ (X:DrX ord)(w0:World){h0:Nat}(T0:BT (It ord) h0)(F:Nat→Prop)(H:HN ord)(p:It ord)(c:Int)(q:Value)(Dq D:List (Bk ord))(st:Value)(B P:List Nat)(off:Nat){h:Nat}(T:BT (It ord) h)(i:Nat)(fd:Bool)(sl:Nat)(v:Value)(a:Act)(w:World):Prop :=
 a.tmps[sl]?=some v∧DrFr X a∧a.tmps[16]?=some st∧a.tmps[17]?=some (Ip (some ⟨rid T,0,none⟩))∧a.tmps[18]?=some (Ii Ij i)∧a.tmps[19]?=some (.bool fd)∧DrM X w0 w h0 T0 F H p c q Dq D st B P off h T
variable {Dq D:List (Bk ord)}{h0:Nat}{T0:BT (It ord) h0}{X:DrX ord}{F:Nat→Prop}{B P:List Nat}{w0:World}{H:HN ord}{p:It ord}{st:Value}{q:Value}{fd:Bool}{c:Int}{i:Nat}
theorem dr_r19L (ok:DrOk X)(a:Act)(w:World){off :Nat}{T:BT (It ord) (0)}
  (hfr:DrFr X a)(s16:a.tmps[16]?=some st)(s17:a.tmps[17]?=some (Ip (some ⟨rid T,0,none⟩)))(s18:a.tmps[18]?=some (Ii Ij i))(s19:a.tmps[19]?=some (.bool fd))(hm:DrM X w0 w h0 T0 F H p c q Dq D st B P off (0) T) :
  (cL (cL (drNext Try.f58))).wp Tp (kfZ (RdQ X w0 T0 F H p c q Dq D st B P off T i fd 97 (.bool false))) a w:=by
 conv=>arg 2;whnf
 obtain ⟨f,rfl,e4,e5,e7,e10,e11,e13,e14,e15⟩:=hfr.lit
 unfold kdJ at *
 simp only [zF,zE,zD,zc] at s16 s17 s18 s19
 have HM:=zL hm
 obtain ⟨l1,hnx⟩:=hm.dw.fam.node hm.isT.root
 have n3:=hnx.c3n rfl
 rw [e4,e5,e7,e10,e11,e13,e14,e15,s16,s17,s18,s19]
 clear hfr hm e4 e5 e7 e10 e11 e13 e14 e15 s16 s17 s18 s19 hnx
 go_wp2_with fail
 exact ⟨rfl,⟨rfl,rfl,rfl,rfl,rfl,rfl,rfl,rfl,rfl,rfl⟩,rfl,rfl,rfl,rfl,HM.out⟩
theorem dr_r19B (ok:DrOk X)(a:Act)(w:World){off h:Nat}{T:BT (It ord) (h+1)}
  (hfr:DrFr X a)(s16:a.tmps[16]?=some st)(s17:a.tmps[17]?=some (Ip (some ⟨rid T,0,none⟩)))(s18:a.tmps[18]?=some (Ii Ij i))(s19:a.tmps[19]?=some (.bool fd))(hm:DrM X w0 w h0 T0 F H p c q Dq D st B P off (h+1) T) :
  (cL (cL (drNext Try.f58))).wp Tp (kfZ (RdQ X w0 T0 F H p c q Dq D st B P off T i fd 97 (.bool true))) a w:=by
 conv=>arg 2;whnf
 obtain ⟨f,rfl,e4,e5,e7,e10,e11,e13,e14,e15⟩:=hfr.lit
 unfold kdJ at *
 simp only [zF,zE,zD,zc] at s16 s17 s18 s19
 have HM:=zL hm
 obtain ⟨l1,hnx⟩:=hm.dw.fam.node hm.isT.root
 have n3:=hnx.c3s (show (kbP (h+1) T).kids=some (T.2.2.map fun c=>some (rid c)) from rfl)
 rw [e4,e5,e7,e10,e11,e13,e14,e15,s16,s17,s18,s19]
 clear hfr hm e4 e5 e7 e10 e11 e13 e14 e15 s16 s17 s18 s19 hnx
 go_wp2_with fail
 exact ⟨rfl,⟨rfl,rfl,rfl,rfl,rfl,rfl,rfl,rfl,rfl,rfl⟩,rfl,rfl,rfl,rfl,HM.out⟩
theorem dr_r37 (ok:DrOk X)(a:Act)(w:World){off h:Nat}{T:BT (It ord) (h+1)}
  (hfr:DrFr X a)(s16:a.tmps[16]?=some st)(s17:a.tmps[17]?=some (Ip (some ⟨rid T,0,none⟩)))(s18:a.tmps[18]?=some (Ii Ij i))(s19:a.tmps[19]?=some (.bool fd))(hm:DrM X w0 w h0 T0 F H p c q Dq D st B P off (h+1) T) :
  (cL (cL (cR (drBr Try.f58)))).wp Tp (kfZ (RdQ X w0 T0 F H p c q Dq D st B P off T i fd 301 (.bool fd))) a w:=by
 conv=>arg 2;whnf
 obtain ⟨f,rfl,e4,e5,e7,e10,e11,e13,e14,e15⟩:=hfr.lit
 unfold kdJ at *
 simp only [zF,zE,zD,zc] at s16 s17 s18 s19
 have HM:=zL hm
 rw [e4,e5,e7,e10,e11,e13,e14,e15,s16,s17,s18,s19]
 clear hfr hm e4 e5 e7 e10 e11 e13 e14 e15 s16 s17 s18 s19
 go_wp2_with fail
 exact ⟨rfl,⟨rfl,rfl,rfl,rfl,rfl,rfl,rfl,rfl,rfl,rfl⟩,rfl,rfl,rfl,rfl,HM.out⟩
theorem ev_slot {a:Act}{n:Nat}{v:Value}(h:a.tmps[n]?=some v):a.eval (.tmp n)=v:=by
 show a.tmps.getD n undef=_
 rw [Array.getD_eq_getD_getElem?,h];rfl
theorem dr_next (ok:DrOk X)(mR nL:Nat)(a:Act)(w:World)(hJ:LabJ X w0 mR nL a w) :
  (drNext Try.f58).wp Tp (NextQ X w0 mR nL (jmu X a w)) a w:=by
 obtain ⟨hfr,h0,T0,F,H,p,c,q,Dq,D,st,B,P,off,h,T,i,fd,s16,s17,s18,s19,hm,hmR,hpj⟩:=hJ
 have hjl:2*(toL h0 T0).length≤jmu X a w:=by unfold jmu;rw [hm.dw.cnt_eq];omega
 cases h with
 |zero =>
  have hj1:2*(toL h0 T0).length<jmu X a w:=by
   obtain ⟨l1,hnx⟩:=hm.dw.fam.node hm.isT.root
   have n3:=hnx.c3n rfl
   unfold jmu
   rw [hm.dw.cnt_eq,s17]
   have e:isPtr (w.cell? ⟨ptrB (some (Ip (some ⟨rid T,0,none⟩))),3,none⟩)=false:=by
    show isPtr (w.cell? ⟨rid T,3,none⟩)=false
    rw [n3];rfl
   rw [e,Bool.and_false]
   simp
  obtain ⟨mJ,hmJ⟩:∃mJ,jmu X a w=mJ:=⟨_,rfl⟩
  rw [hmJ] at hj1 ⊢
  clear hjl hmJ
  obtain ⟨hiT,hcut⟩:=hpj
  conv=>arg 2;whnf
  refine kdP (M:=RdQ X w0 T0 F H p c q Dq D st B P off T i fd 97 (.bool false)) (kdP (dr_r19L ok a w hfr s16 s17 s18 s19 hm) ?_) ?_
  ·intro a w hz
   exact wp_cond_false (ev_slot hz.1) (wp_skip hz)
  ·clear hfr s16 s17 s18 s19 hm a w
   rintro a w ⟨_,hfr,s16,s17,s18,s19,hm⟩
   exact dr_leaf ok mR nL mJ a w hfr s16 s17 s18 hm hmR hj1 hiT hcut
 |succ h =>
  obtain ⟨mJ,hmJ⟩:∃mJ,jmu X a w=mJ:=⟨_,rfl⟩
  rw [hmJ] at hjl ⊢
  clear hmJ
  have hi:i≤T.2.1.length:=by
   cases fd
   ·exact hpj.1.le
   ·exact Nat.le_of_lt hpj.1
  conv=>arg 2;whnf
  refine wp_seqL (X:=X) (w0:=w0) (mR:=mR) (nL:=nL) (mJ:=mJ) (N:=fun _ _=>True) (M:=fun _ _=>False) (fun _ _ _ _ h=>h) ?_ (fun _ _ h=>h.elim)
  refine kdP (dr_r19B ok a w hfr s16 s17 s18 s19 hm) ?_
  clear hfr s16 s17 s18 s19 hm a w
  rintro a w ⟨s97,hfr,s16,s17,s18,s19,hm⟩
  refine wp_cond_true (ev_slot s97) ?_
  clear s97
  -- the test and the pair
  refine wp_seqL (X:=X) (w0:=w0) (mR:=mR) (nL:=nL) (mJ:=mJ) (N:=fun _ _=>True) (M:=TestQ X w0 T0 F H p c q Dq D st B P off T i fd) (fun e a w hn h=>by cases e<;>first|exact h | exact (hn rfl).elim) ?_ ?_
  ·refine kdP (dr_test ok a w hfr s16 s17 s18 s19 hm hi) ?_
   clear hfr s16 s17 s18 s19 hm a w
   intro a w hz
   obtain ⟨b,s146,hb,hfr,s16,s17,s18,s19,hm⟩:=hz
   cases b
   ·exact wp_cond_false (ev_slot s146) (wp_skip ⟨false,s146,hb,hfr,s16,s17,s18,s19,hm⟩)
   ·obtain ⟨h1,h2,y,h3,h4⟩:=hb rfl
    refine wp_cond_true (ev_slot s146) ?_
    refine wp_mono (dr_pair ok mR nL mJ a w hfr s16 s17 s18 s19 hm hmR hjl h1 h2 h3 h4 hpj) ?_
    intro e a w he
    cases e<;>first|exact he | exact he.elim
  ·clear hfr s16 s17 s18 s19 hm a w
   rintro a w ⟨b1,b2,b3,hfr,s16,s17,s18,s19,hm⟩
   clear b2 b3
   refine wp_seqL (X:=X) (w0:=w0) (mR:=mR) (nL:=nL) (mJ:=mJ) (N:=fun _ _=>True) (M:=fun a w=>fd=false∧RdQ X w0 T0 F H p c q Dq D st B P off T i fd 301 (.bool fd) a w) (fun e a w hn h=>by cases e<;>first|exact h | exact (hn rfl).elim) ?_ ?_
   ·refine kdP (dr_r37 ok a w hfr s16 s17 s18 s19 hm) ?_
    clear hfr s16 s17 s18 s19 hm a w
    intro a w hz
    cases fd
    ·exact wp_cond_false (ev_slot hz.1) (wp_skip ⟨rfl,hz⟩)
    ·obtain ⟨s301,hfr,s16,s17,s18,s19,hm⟩:=hz
     refine wp_cond_true (ev_slot s301) ?_
     refine wp_mono (dr_found ok mR nL mJ a w hfr s16 s17 s18 hm hmR hpj.1 hpj.2) ?_
     intro e a w he
     cases e<;>first|exact he | exact he.elim
   ·clear hfr s16 s17 s18 s19 hm a w
    rintro a w ⟨rfl,s301,hfr,s16,s17,s18,s19,hm⟩
    obtain ⟨hpos,hnL,z,hz1,hz2,hc⟩:=hpj
    refine wp_mono (dr_down ok mR nL mJ a w hfr s16 s17 s18 hm hmR hpos hnL hz1 hz2 hc) ?_
    intro e a w he
    cases e<;>first|exact he | exact he.elim
end
end
section
variable {ord:List Int}{k:Kc ord}
section
variable {ord:List Int}
theorem posJ_of {X:DrX ord}{w0 w:World}{h0:Nat}{T0:BT (It ord) h0}{F:Nat→Prop}{H:HN ord}{p:It ord}{c:Int}{q:Value}{Dq D:List (Bk ord)}{st:Value}{B P:List Nat}{off h:Nat}{T:BT (It ord) h}(hm:DrM X w0 w h0 T0 F H p c q Dq D st B P off h T)
  {z:Nat}(hz1:off≤z)(hz2:z≤off+(toL h T).length)(hc:CutP ltM p (toL h0 T0) z){i:Nat}{fd:Bool}(hf:(fd=true∧∃y,HitAt ltM (its T) p i y)∨(fd=false∧PosAt ltM (its T) p i)):PosJ p (toL h0 T0) off (toL h T).length h T i fd:=by
 have atz:∀{u:It ord} {j:Nat},(toL h0 T0)[j]?=some u→ltM u p=true→j<z:=fun {u j} hu hl=>by
  apply Nat.lt_of_not_le
  intro hle
  have hmem:u∈(toL h0 T0).drop z:=by
   refine zS (i:=j-z) ?_
   rw [List.getElem?_drop,show z+(j-z)=j by omega];exact hu
  rw [hc.2 u hmem] at hl;cases hl
 have atz2:∀{u:It ord} {j:Nat},(toL h0 T0)[j]?=some u→ltM u p=false→z≤j:=fun {u j} hu hl=>by
  apply Nat.le_of_not_lt
  intro hlt
  have hmem:u∈(toL h0 T0).take z:=by
   refine zS (i:=j) ?_
   rw [List.getElem?_take_of_lt hlt];exact hu
  rw [hc.1 u hmem] at hl;cases hl
 have hsh0:=hm.ds.di.sh
 cases h with
 |zero =>
  have hT:its T=T.2:=rfl
  rw [hT] at hf
  have hL:toL 0 T=T.2:=rfl
  rw [hL] at hz2
  have hle:i≤T.2.length:=by
   rcases hf with ⟨_,y,hy⟩ | ⟨_,hp⟩
   ·exact Nat.le_of_lt (zG.1 hy.at_).1
   ·exact hp.le
  have hleft:∀j y,j<i→T.2[j]?=some y→ltM y p=true:=by
   rcases hf with ⟨_,y,hy⟩ | ⟨_,hp⟩
   ·exact hy.left
   ·exact hp.left
  have hge:off+i≤z:=by
   cases i with
   |zero=>exact hz1
   |succ j =>
    obtain ⟨u,hu⟩:∃u,T.2[j]?=some u:=⟨_,zH (by omega)⟩
    have:=atz (item_leaf hm.rd hsh0 hu) (hleft j u (by omega) hu)
    omega
  have hlez:z≤off+i:=by
   rcases hf with ⟨_,y,hy⟩ | ⟨_,hp⟩
   ·exact atz2 (item_leaf hm.rd hsh0 hy.at_) hy.n1
   ·by_cases hil:i=T.2.length
    ·rw [hil];exact hz2
    ·obtain ⟨u,hu⟩:∃u,T.2[i]?=some u:=⟨_,zH (by omega)⟩
     exact atz2 (item_leaf hm.rd hsh0 hu) (swoM.asymm _ _ (hp.right i u (zi _) hu))
  obtain rfl:z=off+i:=by omega
  exact ⟨hle,hc⟩
 |succ h =>
  have hT:its T=T.2.1:=rfl
  rw [hT] at hf
  rcases hf with ⟨rfl,y,hy⟩ | ⟨rfl,hp⟩
  ·have hit:=item_at hm.rd hsh0 hy.at_
   have hi:=(zG.1 hy.at_).1
   have hle:=atz2 hit hy.n1
   obtain ⟨g,hg⟩:∃g,off+(pre (T.2.1.take i) ((T.2.2.map (toL h)).take i)).length+(((T.2.2.map (toL h))[i]?).getD []).length=g:=⟨_,rfl⟩
   rw [hg] at hit hle
   have hsrt:=hm.ds.di.srt
   have hge:g≤z:=by
    apply Nat.le_of_not_lt
    intro hlt
    obtain ⟨hgl,hge⟩:=zG.1 hit
    obtain ⟨u,hu⟩:∃u,(toL h0 T0)[z]?=some u:=⟨_,zH (by omega)⟩
    obtain ⟨hzl,hze⟩:=zG.1 hu
    have huy:ltM u y=true:=by
     have:=List.pairwise_iff_getElem.1 hsrt z g hzl hgl hlt
     rw [hze,hge] at this;exact this
    have:=atz hu (swoM.lt_of_lt_of_nlt huy hy.n2)
    omega
   obtain rfl:z=g:=by omega
   exact ⟨hi,by rw [hg];exact hc⟩
  ·exact ⟨hp,zi _,z,hz1,hz2,hc⟩
theorem dr_r18 {X:DrX ord}{w0:World}(ok:DrOk X)(mR:Nat)(a:Act)(w:World)(hL:LabL X w0 mR a w) :
  (cL (drBody Try.f58)).wp Tp (fun e a' w'=>e=.normal∧LabJ X w0 mR (lmu a w) a' w') a w:=by
 conv=>arg 2;whnf
 obtain ⟨hfr,h0,T0,F,H,p,c,q,Dq,D,st,B,P,off,h,T,s16,s17,hm,hmR,z,hz1,hz2,hc⟩:=hL
 obtain ⟨l1,hnx⟩:=hm.dw.fam.node hm.isT.root
 have hlm:lmu a w=(toL h T).length:=by
  have n1:=hnx.c1
  rw [kcH] at n1
  unfold lmu
  rw [s17]
  show numO (w.cell? ⟨rid T,1,none⟩)=_
  rw [n1];rfl
 rw [hlm]
 clear hlm
 obtain ⟨f,rfl,e4,e5,e7,e10,e11,e13,e14,e15⟩:=hfr.lit
 unfold kdJ at *
 simp only [zF,zE,zD,zc] at s16 s17
 obtain ⟨sa,sc,hsf⟩:=hm.dw.so.sl.form
 subst hsf
 obtain ⟨N,hN⟩:∃N,(kdG P B (rid T)).length=N:=⟨_,rfl⟩
 have hdp:=hm.depth ok
 rw [hN] at hdp hm
 obtain ⟨NP,hNP⟩:∃NP,P.length=NP:=⟨_,rfl⟩
 rw [hNP] at hdp
 have s1:Ij.wrap ((N:Int)-1)=(NP:Int):=by rw [IntWalk.i64_in _ (by omega)];omega
 have hsl:=hm.sh.len
 have hmx:=ok.m1000
 have hse:=find_o (some X.bh) X.t NP p hm.dw.mb.at_ hnx (by rw [kbG];exact its_srt hm.sh hm.srt) (by rw [kbG];omega) (by rw [kbG];exact hm.pos ok) (fun b e=>by obtain rfl:=Iq e;exact hm.dw.xh) (by omega)
 rw [kbG] at hse
 unfold aggM hintV at hse
 have HSE:=zL hse
 have HM:=zL hm
 have HN:=zL hN
 have HC:=zL hc
 have x5:=kbB hm.dw.x5 0
 have x0:=kbB hm.dw.xp 0
 have x1:=kbB hm.dw.xp 1
 simp only [zF,zD,zE] at x5 x0 x1
 rw [e4,e5,e7,e10,e11,e13,e14,e15,s16,s17,hN]
 clear hfr hm hse hnx e4 e5 e7 e10 e11 e13 e14 e15 s16 s17 hN hNP hsl hdp hc
 go_wp2_with fail
 refine HSE.out.mono ?_
 rintro e w3 ⟨i,fd,rfl,hw3,hh3,hf⟩
 have hm3:DrM X w0 w3 h0 T0 F H p c q Dq D (.slice sa N sc) B P off h T:=⟨HM.out.dw.hint ok hw3 (hh3 _ rfl),HM.out.ds,HM.out.hp,HM.out.pm,HM.out.ct,HM.out.one,HM.out.rd⟩
 have hpj:=posJ_of hm3 hz1 hz2 HC.out hf
 have HM3:=zL hm3
 have HPJ:=zL hpj
 clear hw3 hh3 hf hm3 hpj hz1 hz2
 go_wp2_with fail
 exact ⟨⟨rfl,rfl,rfl,rfl,rfl,rfl,rfl,rfl,rfl,rfl⟩,h0,T0,F,H,p,c,q,Dq,D,_,B,P,off,h,T,i,fd,rfl,rfl,rfl,rfl,HM3.out,hmR,HPJ.out⟩
def RoundQ (X:DrX ord)(w0:World)(mR nL:Nat):Exit→Act→World→Prop
 |.goto l,a,w=>l=0∧LabR X w0 a w∧drCnt X w<mR
 |.exit id,a,w=>id=1∧LabL X w0 mR a w∧lmu a w<nL
 |.ret,a,w=>DrEnd X w0 a w
 |_,_,_=>False
theorem dr_body {X:DrX ord}{w0:World}(ok:DrOk X)(mR:Nat)(a:Act)(w:World)(hL:LabL X w0 mR a w) :
  (Code.scope (drBody Try.f58)).wp Tp (RoundQ X w0 mR (lmu a w)) a w:=by
 refine wp_scope_labO (c1:=cL (drBody Try.f58)) (rest:=drNext Try.f58) 1 0 (LabJ X w0 mR (lmu a w)) (jmu X) (by kernel_rfl) (by kernel_rfl) (dr_r18 ok mR a w hL) ?_
 intro a' w' hJ
 refine wp_mono (dr_next ok mR (lmu a w) a' w' hJ) ?_
 intro e a2 w2 he
 cases e with
 |goto l =>
  rcases he with ⟨rfl,h1,h2⟩ | ⟨rfl,h1,h2⟩
  ·exact .inl ⟨rfl,h1,h2⟩
  ·exact .inr ⟨rfl,rfl,h1,h2⟩
 |_=>exact he
end
end
section
variable {ord:List Int}{k:Kc ord}
section
variable {ord:List Int}
def RestQ (X:DrX ord)(w0:World)(mR:Nat):Exit→Act→World→Prop
 |.goto l,a,w=>l=0∧LabR X w0 a w∧drCnt X w<mR
 |.ret,a,w=>DrEnd X w0 a w
 |_,_,_=>False
variable {F:Nat→Prop}{X:DrX ord}{w0:World}{H:HN ord}{p:It ord}{st:Value}{q:Value}{c:Int}
theorem dr_restE (ok:DrOk X)(mR:Nat)(a:Act)(w:World){Dq D:List (Bk ord)}
  (hfr:DrFr X a)(s16:a.tmps[16]?=some st)(hh:kfF ltE Dq)(hp:Dq.Perm D)(hct:c=(kdM (pl D)).length)(hW:DrW X w0 w F H none 0 p c q Dq st [])(hF:DrF X.st X.lo X.L0 [] D X.mn X.mx H) :
  (drRest Try.f58).wp Tp (RestQ X w0 mR) a w:=by
 conv=>arg 2;whnf
 obtain ⟨f,rfl,e4,e5,e7,e10,e11,e13,e14,e15⟩:=hfr.lit
 unfold kdJ at *
 simp only [zF,zE,zD,zc] at s16
 obtain ⟨sa,sc,hsf⟩:=hW.so.sl.form
 subst hsf
 obtain ⟨qa,qc,hqf⟩:=hW.qo.sl.form
 subst hqf
 have l0:=hW.lb.c0
 have l1:=hW.lb.c1
 have l2:=hW.lb.c2
 have l3:=hW.lb.c3
 unfold kcQ at l0
 have r0:=kbB hW.x10 0
 have r1:=kbB hW.x10 1
 have r2:=kbB hW.x10 2
 have r3:=kbB hW.x10 3
 simp only [zF,zD,zE] at r0 r1 r2 r3
 have r4:=kbC hW.x10 0
 have r5:=kbC hW.x10 1
 have r6:=kbC hW.x10 2
 have r7:=kbC hW.x10 3
 have x5:=kbB hW.x5 0
 simp only [zF,zD] at x5
 have c2:w.cell? ⟨X.t,2,none⟩=some (Ip none):=hW.mb.c2
 have HW:=zL hW
 have HF:=zL hF
 have HP:=zL hp
 have HH:=zL hh
 have HT:=zL hct
 rw [e4,e5,e7,e10,e11,e13,e14,e15,s16]
 clear hfr hW hF hp hh hct e4 e5 e7 e10 e11 e13 e14 e15 s16
 go_wp2_with fail
 refine kbQ (fun wf=>Chg (fun b _=>b=X.s+3) w wf∧wf.heap[X.s+3]?=some (Ic #[kcQ X.k,Ii Ij c,Ii Ij 0,(.slice qa Dq.length qc)] 67 (0,0))) ⟨((((zK _ _).setCell (.inl rfl) _).setCell (.inl rfl) _).setCell (.inl rfl) _).setCell (.inl rfl) _,blk4r HW.out.x10 _ _ _ _⟩ ?_
 clear l0 l1 l2 l3 r0 r1 r2 r3 r4 r5 r6 r7
 rintro wf ⟨hcf,hbf⟩
 exact ⟨rfl,rfl,c,_,F,H,[],Dq,D,hbf,(DrOut.mk HW.out.lb HW.out.qo HW.out.qc HH.out HP.out HT.out HW.out.fam HW.out.fs HW.out.qF HF.out (.inl ⟨rfl,HW.out.mb⟩) HW.out.chg HW.out.rw_).res ok hcf⟩
def LabS (X:DrX ord)(w0:World){h0:Nat}(T0:BT (It ord) h0)(F:Nat→Prop)(H:HN ord)(p:It ord)(c:Int)(q:Value)(Dq:List (Bk ord))(st:Value)(a:Act)(w:World):Prop :=
 DrFr X a∧a.tmps[16]?=some st∧DrW X w0 w F H (some (rid T0)) (toL h0 T0).length p c q Dq st []
variable {h0:Nat}{T0:BT (It ord) h0}{Dq:List (Bk ord)}
theorem dr_r14 (ok:DrOk X)(a:Act)(w:World)(hS:LabS X w0 T0 F H p c q Dq st a w) :
  (cL (drRest Try.f58)).wp Tp (kfZ (LabS X w0 T0 F H p c q Dq st)) a w:=by
 conv=>arg 2;whnf
 obtain ⟨hfr,s16,hW⟩:=hS
 obtain ⟨f,rfl,e4,e5,e7,e10,e11,e13,e14,e15⟩:=hfr.lit
 unfold kdJ at *
 simp only [zF,zE,zD,zc] at s16
 obtain ⟨sa,sc,hsf⟩:=hW.so.sl.form
 subst hsf
 have x5:=kbB hW.x5 0
 simp only [zF,zD] at x5
 have c2:w.cell? ⟨X.t,2,none⟩=some (Ip (some ⟨rid T0,0,none⟩)):=hW.mb.c2
 have HW:=zL hW
 rw [e4,e5,e7,e10,e11,e13,e14,e15,s16]
 clear hfr hW e4 e5 e7 e10 e11 e13 e14 e15 s16
 go_wp2_with fail
 exact ⟨⟨rfl,rfl,rfl,rfl,rfl,rfl,rfl,rfl,rfl,rfl⟩,rfl,HW.out⟩
theorem dr_r16 (ok:DrOk X)(a:Act)(w:World)(hS:LabS X w0 T0 F H p c q Dq st a w)(hIT:IsT H h0 T0) :
  (cL (cR (drRest Try.f58))).wp Tp (kfZ fun a w=>a.tmps[17]?=some (Ip (some ⟨rid T0,0,none⟩))∧LabS X w0 T0 F H p c q Dq st a w) a w:=by
 conv=>arg 2;whnf
 obtain ⟨hfr,s16,hW⟩:=hS
 obtain ⟨f,rfl,e4,e5,e7,e10,e11,e13,e14,e15⟩:=hfr.lit
 unfold kdJ at *
 simp only [zF,zE,zD,zc] at s16
 obtain ⟨sa,sc,hsf⟩:=hW.so.sl.form
 subst hsf
 have x5:=kbB hW.x5 0
 simp only [zF,zD] at x5
 have c2:w.cell? ⟨X.t,2,none⟩=some (Ip (some ⟨rid T0,0,none⟩)):=hW.mb.c2
 have c0:=hW.mb.at_.c0
 obtain ⟨l0,hn0⟩:=hW.fam.node hIT.root
 have n0:=hn0.c0
 have HW:=zL hW
 rw [e4,e5,e7,e10,e11,e13,e14,e15,s16]
 clear hfr hW hn0 hIT e4 e5 e7 e10 e11 e13 e14 e15 s16
 refine kbM (fun w'=>w'.cell? ⟨X.s,0,none⟩=some (Ip (some ⟨X.t,0,none⟩))) (.soft 0 (.soft 1 (.soft 2 (.soft 3 (.hard 4 (.soft 5 .nil)))))) (by kernel_rfl) (by kernel_rfl) (fun _ _ _ _ _ h=>h) x5 ?_
 repeat ((first|(refine kbH (by rfl) ?_ ?_ ?_ ?_;rotate_left;(· simp [zI,yielded]);(· intro _ _;go_simp;try with_reducible rfl))|(refine kbJ (by rfl) ?_ ?_;(· simp [zI,yielded])));simp only [Act.put,zA,zB,zC])
 refine kbY (by rfl) (by simp [zI,yielded]) (fun K hK=>?_)
 go_simp
 refine (kcD X.t (rid T0) X.k _ _ w.drew c2 n0 c0).mono ?_
 rintro e w5 ⟨rfl,m5,hw5⟩
 have hc5:Chg (fun _ _=>False) w w5:=by rw [hw5];exact ((zK _ _).drew).drewN _
 refine hK _ _ (hc5.q x5) ?_
 clear hK K
 repeat ((first|(refine kbH (by rfl) ?_ ?_ ?_ ?_;rotate_left;(· simp [zI,yielded]);(· intro _ _;go_simp;try with_reducible rfl))|(refine kbJ (by rfl) ?_ ?_;(· simp [zI,yielded])));simp only [Act.put,zA,zB,zC])
 refine kcT ?_
 exact ⟨rfl,⟨rfl,rfl,rfl,rfl,rfl,rfl,rfl,rfl,rfl,rfl⟩,rfl,HW.out.keep hc5⟩
theorem dr_r17 (ok:DrOk X)(a:Act)(w:World)(s17:a.tmps[17]?=some (Ip (some ⟨rid T0,0,none⟩)))(hS:LabS X w0 T0 F H p c q Dq st a w) :
  (cL (cR (cR (drRest Try.f58)))).wp Tp (kfZ fun a w=>∃st',DrFr X a∧a.tmps[16]?=some st'∧a.tmps[17]?=some (Ip (some ⟨rid T0,0,none⟩))∧DrW X w0 w F H (some (rid T0)) (toL h0 T0).length p c q Dq st' (kdG [] [] (rid T0))) a w:=by
 conv=>arg 2;whnf
 obtain ⟨hfr,s16,hW⟩:=hS
 obtain ⟨f,rfl,e4,e5,e7,e10,e11,e13,e14,e15⟩:=hfr.lit
 unfold kdJ at *
 simp only [zF,zE,zD,zc] at s16 s17
 obtain ⟨i0,hi0,hz0,hz1,hz2⟩:=info_parts infoStkR
 obtain ⟨sa,sc,hsf⟩:=hW.so.sl.form
 replace hsf:st=.slice sa 0 sc:=hsf
 subst hsf
 have HW:=zL hW
 rw [e4,e5,e7,e10,e11,e13,e14,e15,s16,s17]
 clear hfr hW e4 e5 e7 e10 e11 e13 e14 e15 s16 s17
 have hca:=(zK (fun _ _=>False) w).alloc (Ic #[Ip (some ⟨(rid T0),0,none⟩),Ii Ij 0] 133)
 have HOW:=zL (HW.out.so.keep hca)
 have hbs:X.base≤(w.alloc (Ic #[Ip (some ⟨(rid T0),0,none⟩),Ii Ij 0] 133)).heap.size:=zj HW.out.rw_ hca.size
 go_wp2_with (refine wpList_append_E2 stkR (by rfl) _ _ _ (by rfl) i0 _ 16 Try.underlying132 hi0 hz0 hz1 hz2 rfl (.slice sa 0 sc) (by rfl) ([]:List (Nat×Int)) X.base HOW.out hbs ⟨w.heap.size,0,none⟩ 1 _ (by rfl) [((rid T0),0)] rfl (by decide) ?_ ?_ ?_ ?_)
 ·first|exact El.src1 stkR (c:=#[Ip (some ⟨(rid T0),0,none⟩),Ii Ij 0]) (kbT _ _ (by first|rfl | simp)) _ rfl | exact fun _ _ h=>h
 ·unfold maxLen;decide
 ·decide
 intro v6 w6 g1 g2 g3
 have hB6:=HW.out.stack ok g1 (hca.trans' g2 (B:=fun b _=>((.slice sa 0 sc):Value).ownBlock=some b) (fun _ _ _ h=>h.elim) i3) (g3.imp id fun ⟨nb,h1,h2⟩=>.inr ⟨nb,h1,by first|omega | exact zj hca.size h2⟩)
 have HB6:=zL hB6
 obtain ⟨va,vc,hvf⟩:=g1.sl.form
 subst hvf
 clear hca hbs g1 g2 g3 hB6
 go_wp2_with fail
 exact ⟨_,⟨rfl,rfl,rfl,rfl,rfl,rfl,rfl,rfl,rfl,rfl⟩,rfl,rfl,HB6.out⟩
theorem dr_rest (ok:DrOk X)(a:Act)(w:World)(hR:LabR X w0 a w) :
  (drRest Try.f58).wp Tp (RestQ X w0 (drCnt X w)) a w:=by
 obtain ⟨hfr,F,H,p,c,q,Dq,D,st,s16,hh,hp,hct,h | ⟨h0,T0,hW,hS,h1,z,hz,hcut⟩⟩:=hR
 ·exact dr_restE ok _ a w hfr s16 hh hp hct h.1 h.2
 ·rw [hW.cnt_eq]
  obtain ⟨mR,hmR⟩:∃mR,(toL h0 T0).length=mR:=⟨_,rfl⟩
  rw [hmR]
  have hmR':(toL h0 T0).length≤mR:=Nat.le_of_eq hmR
  clear hmR
  have hIT:=hS.di.isT
  refine kdP (x:=cL (drRest Try.f58)) (y:=cR (drRest Try.f58)) (dr_r14 ok a w ⟨hfr,s16,hW⟩) ?_
  clear hfr s16 hW a w
  intro a w hz2
  refine kdP (x:=cL (cR (drRest Try.f58))) (y:=cR (cR (drRest Try.f58))) (dr_r16 ok a w hz2 hIT) ?_
  clear hz2 a w
  rintro a w ⟨s17,hz2⟩
  refine kdP (x:=cL (cR (cR (drRest Try.f58)))) (y:=Code.block 0 (Code.loop (Code.block 1 (Code.scope (drBody Try.f58))))) (dr_r17 ok a w s17 hz2) ?_
  clear s17 hz2 a w
  rintro a w ⟨st',hfr,s16,s17,hW⟩
  refine wp_block ?_
  refine wp_loop (LabL X w0 mR) lmu ?_ ?_
  ·exact ⟨hfr,h0,T0,F,H,p,c,q,Dq,D,st',[],[],0,h0,T0,s16,s17,⟨hW,hS,hh,hp,hct,h1,.nil⟩,hmR',z,Nat.zero_le _,by omega,hcut⟩
  ·intro a w hL
   refine wp_block ?_
   refine wp_mono (dr_body ok mR a w hL) ?_
   intro e a2 w2 he
   cases e with
   |exit id =>
    obtain ⟨rfl,h1,h2⟩:=he
    exact ⟨h1,h2⟩
   |goto l=>exact he
   |ret=>exact he
   |normal=>exact he.elim
   |_=>exact he.elim
end
end
section
variable {ord:List Int}{k:Kc ord}
section
variable {ord:List Int}
theorem cut_ex {p:It ord}:∀{L:List (It ord)},Srt ltM L→∃z,z≤L.length∧CutP ltM p L z
 |[],_=>⟨0,zi _,fun _ h=>by simp at h,fun _ h=>by simp at h⟩
 |a::L,hs=>by
  obtain ⟨h1,h2⟩:=List.pairwise_cons.1 hs
  cases ha:ltM a p
  ·refine ⟨0,Nat.zero_le _,fun _ h=>by simp at h,fun u hu=>?_⟩
   rw [List.drop_zero] at hu
   rcases zR.1 hu with rfl | hu
   ·exact ha
   ·cases hc:ltM u p
    ·rfl
    ·rw [swoM.trans (h1 u hu) hc] at ha;cases ha
  ·obtain ⟨z,hz,g1,g2⟩:=cut_ex h2
   refine ⟨z+1,by simp;exact hz,fun u hu=>?_,fun u hu=>g2 u hu⟩
   rw [List.take_succ_cons] at hu
   rcases zR.1 hu with rfl | hu
   ·exact ha
   ·exact g1 u hu
variable {l:List (It ord)}{F:Nat→Prop}{lo hi:It ord}{inc:Bool}
theorem labR_start {k:Kc ord}{mn mx t d s bh bp base:Nat}{w0 w:World}{a:Act}(hM:MapIn k mn mx w F t l)(hfr:DrFr (mkX k mn mx t d s F lo hi inc l bh bp base) a)(s16:a.tmps[16]?=some (Is none 0 0))
  (hW:∀(H:HN ord) (rt:Option Nat) (cnt:Int),Fam (parM k) w F H→MapBlk k mn mx w t rt cnt→DrW (mkX k mn mx t d s F lo hi inc l bh bp base) w0 w F H rt cnt lo 0 (Is none 0 0) [] (Is none 0 0) []) :
  LabR (mkX k mn mx t d s F lo hi inc l bh bp base) w0 a w:=by
 rcases hM with ⟨rfl,hF,hB⟩ | ⟨H,h,T,hI,hB,rfl,h1⟩
 ·have hf:Fam (parM k) w F (fun _=>none):=(Fam.empty (parM k) w).mono (fun _ h=>h.elim) (fun b hb=>(hF b hb).elim)
  have hn:kfF (ltE (ord:=ord)) []:=fun _ _ _ _ h=>by simp at h
  exact ⟨hfr,F,fun _=>none,lo,0,_,[],[],_,s16,hn,List.Perm.refl _,rfl,.inl ⟨hW _ none 0 hf hB,⟨List.Perm.refl _,List.Pairwise.nil,List.Pairwise.nil,(fun _ h=>by cases h),(fun _ h=>by cases h),(fun _ h=>by cases h)⟩⟩⟩
 ·have hn:kfF (ltE (ord:=ord)) []:=fun _ _ _ _ h=>by simp at h
  obtain ⟨z,hz,hc⟩:=cut_ex (p:=lo) hI.srt
  exact ⟨hfr,F,H,lo,0,_,[],[],_,s16,hn,List.Perm.refl _,rfl,.inr ⟨h,T,hW H _ _ hI.fam hB,⟨dr_start hI.isT hI.nd hI.sh hI.srt,DrG.start swoM _ _ _,(fun _ h=>by cases h)⟩,h1,z,hz,hc⟩⟩
theorem drw_start {k:Kc ord}{mn mx t d s bh bp base:Nat}{w0 w:World}
  (x5:w.heap[s]?=some (Ic #[Ip (some ⟨t,0,none⟩)] 51 (0,0)))(x7:w.heap[s+2]?=some (Ic #[Ii Ij hi.1,Ii Ij hi.2] 27 (0,0)))
  (x10:w.heap[s+3]?=some (Ic #[.nilFunc,Ii Ij 0,Ii Ij 0,Is none 0 0] 67 (0,0)))(x12:w.heap[s+4]?=some (Ic #[.bool inc] 4 (0,0)))(xh:HintB bh w)(xp:w.heap[bp]?=some (Ic #[Ii Ij lo.1,Ii Ij lo.2] 27 (0,0)))
  (lb:ListB w d (kcQ k) 0 0 (Is none 0 0))(hc:Chg (fun b _=>F b∨b=t∨b=d∨s≤b) w0 w)(hb:base≤w.heap.size) :
  ∀(H:HN ord) (rt:Option Nat) (cnt:Int),Fam (parM k) w F H→MapBlk k mn mx w t rt cnt→DrW (mkX k mn mx t d s F lo hi inc l bh bp base) w0 w F H rt cnt lo 0 (Is none 0 0) [] (Is none 0 0) []:=by
 intro H rt cnt hF hB
 refine ⟨x5,x7,x10,x12,xh,xp,hB,hF,fun b hb=>.inl hb,lb,OwnE.nil _ _ _,?_,OwnE.nil _ _ _,fun b hb=>(by cases hb),fun b hb=>(by cases hb),fun b hb=>(by cases hb),hc,hb⟩
 intro a m c e
 injection e with e1 e2 e3
 subst e3
 exact Nat.zero_le _
def StartF (t d:Nat)(op:Option Nat)(lo hi:It ord)(w:World)(a:Act)(w1:World):Prop :=
 (a.defers=[]∧a.tmps.size=657∧a.tmps[3]?=some (optV2 op)∧a.tmps[4]?=some (Ip (some ⟨d,0,none⟩))∧a.tmps[5]?=some (Ip (some ⟨w.heap.size,0,none⟩))∧a.tmps[6]?=some (Ip (some ⟨w.heap.size+1,0,none⟩))∧a.tmps[7]?=some (Ip (some ⟨w.heap.size+2,0,none⟩))∧a.tmps[10]?=some (Ip (some ⟨w.heap.size+3,0,none⟩))) ∧
 Chg (fun _ _=>False) w w1∧w1.heap.size=w.heap.size+4∧w1.heap[w.heap.size]?=some (Ic #[Ip (some ⟨t,0,none⟩)] 51 (0,0))∧w1.heap[w.heap.size+1]?=some (Ic #[Ii Ij lo.1,Ii Ij lo.2] 27 (0,0)) ∧
 w1.heap[w.heap.size+2]?=some (Ic #[Ii Ij hi.1,Ii Ij hi.2] 27 (0,0))∧w1.heap[w.heap.size+3]?=some (Ic #[.nilFunc,Ii Ij 0,Ii Ij 0,Is none 0 0] 67 (0,0))
def WholeQ (k:Kc ord)(mn mx t d:Nat)(F:Nat→Prop)(lo hi:It ord)(inc:Bool)(l:List (It ord))(w:World)(e:Exit)(a:Act)(w':World):Prop :=
 e=.ret∧∃bh bp base,DrOk (mkX k mn mx t d w.heap.size F lo hi inc l bh bp base)∧DrEnd (mkX k mn mx t d w.heap.size F lo hi inc l bh bp base) w a w'
theorem dr_first {k:Kc ord}{mn mx t d:Nat}{w:World}{op:Option Nat}(hM:MapIn k mn mx w F t l)(hl:ListB w d .nilFunc 0 0 (Is none 0 0))(hop:OptB op inc w)(hod:op≠some d)(hdF:¬F d)(hdt:∀b,MOwn k t b→b≠d)(a:Act)(w1:World)(hst:StartF t d op lo hi w a w1)
  {J:Act→World→Prop}{Q:Exit→Act→World→Prop}(hj:∀a w',(∃bh bp base,(w.heap.size+5≤bh∧bh<bp∧bp<base)∧LabR (mkX k mn mx t d w.heap.size F lo hi inc l bh bp base) w a w')→(drRest Try.f58).wp Tp (Exit.jump 0 J Q) a w') :
  (drScope Try.f58).wp Tp (Exit.jump 0 J Q) a w1:=by
 conv=>arg 2;whnf
 obtain ⟨tmps,defers⟩:=a
 obtain ⟨⟨hd,hs,s3,s4,s5,s6,s7,s10⟩,hc1,hsz,b0,b1,b2,b3⟩:=hst
 obtain ⟨f,rfl⟩:=frame657 tmps hs
 unfold kdJ at *
 simp only [zF,zE,zD,zc] at s3 s4 s5 s6 s7 s10
 replace hd:defers=[]:=hd
 subst hd
 have hdl:=kbF hl
 have htl:t<w.heap.size:=hM.own MOwn.self
 have HJ:=zL hj
 have HM:=zL hM
 have HL:=zL hl
 have HDF:=zL (And.intro hdF hdt)
 have HC1:=zL hc1
 have HB:=zL (And.intro b0 (And.intro b1 (And.intro b2 b3)))
 have x0:=kbB b0 0
 simp only [zF,zD] at x0
 rw [s3,s4,s5,s6,s7,s10]
 have hob:∀b,op=some b→w1.cell? ⟨b,0,none⟩=some (.bool false)∧w1.cell? ⟨b,1,none⟩=some (.bool inc):=fun b e=>by
  subst e
  have h1:w.heap[b]?=some (Ic #[.bool false,.bool inc] 117 (0,0)):=hop
  have h2:w1.heap[b]?=some (Ic #[.bool false,.bool inc] 117 (0,0)):=by rw [hc1.block (kbF h1) (fun _ h=>h)];exact h1
  have g0:=kbB h2 0
  have g1:=kbB h2 1
  simp only [zF,zD,zE] at g0 g1
  exact ⟨g0,g1⟩
 have hoi:op=none→inc=false:=fun e=>by subst e;exact hop
 clear hs s3 s4 s5 s6 s7 s10 hj hM hc1 b0 b1 b2 b3 hl hop hod hdF hdt
 cases op
 ·obtain rfl:=hoi rfl
  clear hob hoi
  simp only [optV2,Option.map_none,Option.map_some]
  go_wp2_with fail
  refine (lock_any t true _).mono ?_
  rintro e w' ⟨rfl,rfl⟩
  go_wp2_with fail
  refine kbW (fun w2=>Chg (fun _ _=>False) w1 w2∧w2.heap[w.heap.size+4]?=some (Ic #[.bool false] 4 (0,0))) ⟨(zK _ _).alloc _,kbT _ _ hsz.symm⟩ ?_
  rintro w2 ⟨hc2,hb4⟩
  have hc02:=HC1.out.trans hc2
  refine (LClear_any (HL.out.keep hc02)).mono ?_
  rintro e w3 ⟨rfl,hl3,hc3⟩
  have hc23:Chg (fun b _=>b=d) w1 w3:=(hc2.mono (fun _ _ _ h=>h.elim)).trans hc3
  have hc03:Chg (fun b _=>b=d) w w3:=(HC1.out.mono (fun _ _ _ h=>h.elim)).trans hc23
  have hM3:=HM.out.chgA hc03 (fun b _ hb e=>HDF.out.1 (e▸hb)) (fun b _ hb e=>HDF.out.2 b hb e)
  have hb43:w3.heap[w.heap.size+4]?=some (Ic #[.bool false] 4 (0,0)):=by rw [hc3.block (kbF hb4) (fun _ e=>by omega)];exact hb4
  have hs3:=kbF hb43
  have keep3:∀{b:Nat} {o:Obj},w.heap.size≤b→w1.heap[b]?=some o→w3.heap[b]?=some o:=fun hn h=>by rw [hc23.block (kbF h) (fun _ e=>by omega)];exact h
  have c0:=keep3 (zi _) HB.out.1
  have c1:=keep3 (by omega) HB.out.2.1
  have c2:=keep3 (by omega) HB.out.2.2.1
  have c3:=keep3 (by omega) HB.out.2.2.2
  have HC:=zL (And.intro c0 (And.intro c2 (And.intro c3 hb43)))
  have x5:=kbB c0 0
  have p0:=kbB c1 0
  have p1:=kbB c1 1
  simp only [zF,zD,zE] at x5 p0 p1
  have y6:=hM3.mapAt.c6l
  unfold kcQ at y6
  have l0:=hl3.c0
  have z0:=hl3.fz 0
  have HL3:=zL hl3
  have HM3:=zL hM3
  have HC3:=zL hc03
  clear hc2 hb4 hc02 hl3 hc3 hc23 hc03 hM3 hb43 keep3 c0 c1 c2 c3 x0
  go_upto_region 12 with fail
  refine kbD (fun w4=>Chg (fun b _=>b=d) w3 w4∧ListB w4 d (kcQ k) 0 0 (Is none 0 0)∧w4.heap[w3.heap.size]?=some hintO0∧w4.heap.size=w3.heap.size+1) ⟨((zK _ _).setCell (.inl rfl) _).alloc _,?_,?_,by simp⟩ ?_
  ·unfold ListB
   have h1:=kbV (o:=0) HL3.out (kcQ k)
   exact (kcZ _ _ (kbF h1)).trans h1
  ·exact kbT _ _ (by simp)
  rintro w4 ⟨hc4,hl4,hh4,hs4⟩
  have keep4:∀{b:Nat} {o:Obj},w.heap.size≤b→w3.heap[b]?=some o→w4.heap[b]?=some o:=fun hn h=>by rw [hc4.block (kbF h) (fun _ e=>by omega)];exact h
  have hC:w4.heap[w.heap.size]?=some (Ic #[Ip (some ⟨t,0,none⟩)] 51 (0,0))∧w4.heap[w.heap.size+2]?=some (Ic #[Ii Ij hi.1,Ii Ij hi.2] 27 (0,0))∧w4.heap[w.heap.size+3]?=some (Ic #[.nilFunc,Ii Ij 0,Ii Ij 0,Is none 0 0] 67 (0,0))∧w4.heap[w.heap.size+4]?=some (Ic #[.bool false] 4 (0,0)) :=
   ⟨keep4 (zi _) HC.out.1,keep4 (by omega) HC.out.2.1,keep4 (by omega) HC.out.2.2.1,keep4 (by omega) HC.out.2.2.2⟩
  replace p0:=hc4.cell (show ¬w.heap.size+1=d by omega) p0
  replace p1:=hc4.cell (show ¬w.heap.size+1=d by omega) p1
  have hc04:=HC3.out.trans hc4
  have hM4:=HM3.out.chgA hc4 (fun b _ hb e=>HDF.out.1 (e▸hb)) (fun b _ hb e=>HDF.out.2 b hb e)
  have HC4:=zL hC
  have HL4:=zL hl4
  have HH4:=zL hh4
  have HM4:=zL hM4
  have HC04:=zL hc04
  have HS4:=zL hs4
  clear hc4 hl4 hh4 hs4 keep4 hC hM4 hc04 x5 y6 l0 z0
  go_upto_region 14 with fail
  refine kbD (fun w5=>Chg (fun _ _=>False) w4 w5∧w5.heap[w4.heap.size]?=some (Ic #[Ii Ij lo.1,Ii Ij lo.2] 27 (0,0))) ⟨(zK _ _).alloc _,kbT _ _ rfl⟩ ?_
  rintro w5 ⟨hc5,hp5⟩
  have hc05:Chg (fun b _=>F b∨b=t∨b=d∨w.heap.size≤b) w w5:=(HC04.out.mono (fun _ _ _ e=>.inr (.inr (.inl e)))).trans (hc5.mono (fun _ _ _ h=>h.elim))
  have keep5:∀{b:Nat} {o:Obj},w4.heap[b]?=some o→w5.heap[b]?=some o:=fun h=>by rw [hc5.block (kbF h) (fun _ e=>e)];exact h
  have hs5:=kbF hp5
  have hs45:=HS4.out
  refine wp_label ?_
  rename_i hK
  refine hK _ _ ?_
  refine HJ.out _ _ ⟨w3.heap.size,w4.heap.size,w4.heap.size+1,⟨by omega,by omega,by omega⟩,?_⟩
  refine labR_start (HM4.out.chg hc5) ⟨rfl,rfl,rfl,rfl,rfl,rfl,rfl,rfl,rfl,rfl⟩ rfl (drw_start (keep5 HC4.out.1) (keep5 HC4.out.2.1) (keep5 HC4.out.2.2.1) (keep5 HC4.out.2.2.2) ⟨_,keep5 HH4.out,hintC0⟩ hp5 (HL4.out.keep hc5) hc05 (by omega))
 ·obtain ⟨o0,o1⟩:=hob _ rfl
  clear hob hoi
  simp only [optV2,Option.map_none,Option.map_some]
  go_wp2_with fail
  refine (lock_any t true _).mono ?_
  rintro e w' ⟨rfl,rfl⟩
  go_wp2_with fail
  refine kbW (fun w2=>Chg (fun _ _=>False) w1 w2∧w2.heap[w.heap.size+4]?=some (Ic #[.bool inc] 4 (0,0))) ⟨(zK _ _).alloc _,kbT _ _ hsz.symm⟩ ?_
  rintro w2 ⟨hc2,hb4⟩
  have hc02:=HC1.out.trans hc2
  refine (LClear_any (HL.out.keep hc02)).mono ?_
  rintro e w3 ⟨rfl,hl3,hc3⟩
  have hc23:Chg (fun b _=>b=d) w1 w3:=(hc2.mono (fun _ _ _ h=>h.elim)).trans hc3
  have hc03:Chg (fun b _=>b=d) w w3:=(HC1.out.mono (fun _ _ _ h=>h.elim)).trans hc23
  have hM3:=HM.out.chgA hc03 (fun b _ hb e=>HDF.out.1 (e▸hb)) (fun b _ hb e=>HDF.out.2 b hb e)
  have hb43:w3.heap[w.heap.size+4]?=some (Ic #[.bool inc] 4 (0,0)):=by rw [hc3.block (kbF hb4) (fun _ e=>by omega)];exact hb4
  have hs3:=kbF hb43
  have keep3:∀{b:Nat} {o:Obj},w.heap.size≤b→w1.heap[b]?=some o→w3.heap[b]?=some o:=fun hn h=>by rw [hc23.block (kbF h) (fun _ e=>by omega)];exact h
  have c0:=keep3 (zi _) HB.out.1
  have c1:=keep3 (by omega) HB.out.2.1
  have c2:=keep3 (by omega) HB.out.2.2.1
  have c3:=keep3 (by omega) HB.out.2.2.2
  have HC:=zL (And.intro c0 (And.intro c2 (And.intro c3 hb43)))
  have x5:=kbB c0 0
  have p0:=kbB c1 0
  have p1:=kbB c1 1
  simp only [zF,zD,zE] at x5 p0 p1
  have y6:=hM3.mapAt.c6l
  unfold kcQ at y6
  have l0:=hl3.c0
  have z0:=hl3.fz 0
  have HL3:=zL hl3
  have HM3:=zL hM3
  have HC3:=zL hc03
  clear hc2 hb4 hc02 hl3 hc3 hc23 hc03 hM3 hb43 keep3 c0 c1 c2 c3 x0
  go_upto_region 12 with fail
  refine kbD (fun w4=>Chg (fun b _=>b=d) w3 w4∧ListB w4 d (kcQ k) 0 0 (Is none 0 0)∧w4.heap[w3.heap.size]?=some hintO0∧w4.heap.size=w3.heap.size+1) ⟨((zK _ _).setCell (.inl rfl) _).alloc _,?_,?_,by simp⟩ ?_
  ·unfold ListB
   have h1:=kbV (o:=0) HL3.out (kcQ k)
   exact (kcZ _ _ (kbF h1)).trans h1
  ·exact kbT _ _ (by simp)
  rintro w4 ⟨hc4,hl4,hh4,hs4⟩
  have keep4:∀{b:Nat} {o:Obj},w.heap.size≤b→w3.heap[b]?=some o→w4.heap[b]?=some o:=fun hn h=>by rw [hc4.block (kbF h) (fun _ e=>by omega)];exact h
  have hC:w4.heap[w.heap.size]?=some (Ic #[Ip (some ⟨t,0,none⟩)] 51 (0,0))∧w4.heap[w.heap.size+2]?=some (Ic #[Ii Ij hi.1,Ii Ij hi.2] 27 (0,0))∧w4.heap[w.heap.size+3]?=some (Ic #[.nilFunc,Ii Ij 0,Ii Ij 0,Is none 0 0] 67 (0,0))∧w4.heap[w.heap.size+4]?=some (Ic #[.bool inc] 4 (0,0)) :=
   ⟨keep4 (zi _) HC.out.1,keep4 (by omega) HC.out.2.1,keep4 (by omega) HC.out.2.2.1,keep4 (by omega) HC.out.2.2.2⟩
  replace p0:=hc4.cell (show ¬w.heap.size+1=d by omega) p0
  replace p1:=hc4.cell (show ¬w.heap.size+1=d by omega) p1
  have hc04:=HC3.out.trans hc4
  have hM4:=HM3.out.chgA hc4 (fun b _ hb e=>HDF.out.1 (e▸hb)) (fun b _ hb e=>HDF.out.2 b hb e)
  have HC4:=zL hC
  have HL4:=zL hl4
  have HH4:=zL hh4
  have HM4:=zL hM4
  have HC04:=zL hc04
  have HS4:=zL hs4
  clear hc4 hl4 hh4 hs4 keep4 hC hM4 hc04 x5 y6 l0 z0
  go_upto_region 14 with fail
  refine kbD (fun w5=>Chg (fun _ _=>False) w4 w5∧w5.heap[w4.heap.size]?=some (Ic #[Ii Ij lo.1,Ii Ij lo.2] 27 (0,0))) ⟨(zK _ _).alloc _,kbT _ _ rfl⟩ ?_
  rintro w5 ⟨hc5,hp5⟩
  have hc05:Chg (fun b _=>F b∨b=t∨b=d∨w.heap.size≤b) w w5:=(HC04.out.mono (fun _ _ _ e=>.inr (.inr (.inl e)))).trans (hc5.mono (fun _ _ _ h=>h.elim))
  have keep5:∀{b:Nat} {o:Obj},w4.heap[b]?=some o→w5.heap[b]?=some o:=fun h=>by rw [hc5.block (kbF h) (fun _ e=>e)];exact h
  have hs5:=kbF hp5
  have hs45:=HS4.out
  refine wp_label ?_
  rename_i hK
  refine hK _ _ ?_
  refine HJ.out _ _ ⟨w3.heap.size,w4.heap.size,w4.heap.size+1,⟨by omega,by omega,by omega⟩,?_⟩
  refine labR_start (HM4.out.chg hc5) ⟨rfl,rfl,rfl,rfl,rfl,rfl,rfl,rfl,rfl,rfl⟩ rfl (drw_start (keep5 HC4.out.1) (keep5 HC4.out.2.1) (keep5 HC4.out.2.2.1) (keep5 HC4.out.2.2.2) ⟨_,keep5 HH4.out,hintC0⟩ hp5 (HL4.out.keep hc5) hc05 (by omega))
end
end
section
variable {ord:List Int}{k:Kc ord}
section
variable {ord:List Int}
def ReusePost (k:Kc ord)(mn mx t d:Nat)(F:Nat→Prop)(lo hi:It ord)(inc:Bool)(l:List (It ord))(w:World)(e:Ending)(w':World):Prop :=
 ∃(bh bp base:Nat) (c:Int) (q:Value) (F':Nat→Prop) (H':HN ord) (L:List (It ord)) (Dq D:List (Bk ord)),e=Ir (.agg #[kcQ k,Ii Ij c,Ii Ij 0,q])∧DrOk (mkX k mn mx t d w.heap.size F lo hi inc l bh bp base)∧DrOut (mkX k mn mx t d w.heap.size F lo hi inc l bh bp base) w w' c q F' H' L Dq D
theorem dr_scope {k:Kc ord}{mn mx t d:Nat}{w:World}{F:Nat→Prop}{l:List (It ord)}{lo hi:It ord}{inc:Bool}{op:Option Nat}(hM:MapIn k mn mx w F t l)(hl:ListB w d .nilFunc 0 0 (Is none 0 0))(hop:OptB op inc w)(hod:op≠some d)(hdF:¬F d)(hdt:∀b,MOwn k t b→b≠d)
  (hok:∀bh bp base,(w.heap.size+5≤bh∧bh<bp∧bp<base)→DrOk (mkX k mn mx t d w.heap.size F lo hi inc l bh bp base))(a:Act)(w1:World)(hst:StartF t d op lo hi w a w1) :
  (Code.scope (drScope Try.f58)).wp Tp (WholeQ k mn mx t d F lo hi inc l w) a w1:=by
 refine wp_scope_lab2 (rest:=drRest Try.f58) 0 (fun a w'=>∃bh bp base,(w.heap.size+5≤bh∧bh<bp∧bp<base)∧LabR (mkX k mn mx t d w.heap.size F lo hi inc l bh bp base) w a w') (fun _ w'=>drCnt (mkX k mn mx t d w.heap.size F lo hi inc l 0 0 0) w') (by kernel_rfl) ?_ ?_
 ·rintro a w' ⟨bh,bp,base,hb,hR⟩
  refine wp_mono (dr_rest (hok bh bp base hb) a w' hR) ?_
  intro e a2 w2 he
  cases e with
  |goto l =>
   obtain ⟨rfl,h1,h2⟩:=he
   exact ⟨rfl,⟨bh,bp,base,hb,h1⟩,h2⟩
  |ret=>exact ⟨rfl,bh,bp,base,hok bh bp base hb,he⟩
  |_=>exact he.elim
 ·intro hj
  exact dr_first hM hl hop hod hdF hdt a w1 hst hj
theorem DeleteRangeReuse_any {k:Kc ord}{mn mx t d:Nat}{w:World}{F:Nat→Prop}{l:List (It ord)}{lo hi:It ord}{inc:Bool}{op:Option Nat}(hM:MapIn k mn mx w F t l)(hl:ListB w d .nilFunc 0 0 (Is none 0 0))(hdF:¬F d)(hdt:∀b,MOwn k t b→b≠d)(hop:OptB op inc w)(hod:op≠some d)
  (m1:1≤mn)(m3:3≤mx)(m1000:mx≤1000)(mh:mn≤mx / 2)(mh2:mn≤mx-(mx / 2+1))(hll:l.length≤1000000000000) :
  Calls Tp 58 #[Ip (some ⟨t,0,none⟩),.agg #[Ii Ij lo.1,Ii Ij lo.2],.agg #[Ii Ij hi.1,Ii Ij hi.2],optV2 op,Ip (some ⟨d,0,none⟩)] w (ReusePost k mn mx t d F lo hi inc l w):=by
 have hout:∀b,MOwn k t b→¬F b:=by
  rcases hM with ⟨_,hF,_⟩ | ⟨H,h,T,hI,_⟩
  ·exact fun b _=>hF b
  ·exact hI.out
 have hdl:=kbF hl
 have HSC:=zL (fun a w1 (hst:StartF t d op lo hi w a w1)=>dr_scope (lo:=lo) (hi:=hi) hM hl hop hod hdF hdt (fun bh bp base h=>(⟨fun b hb=>⟨hM.own hb,hout b hb,hdt b hb⟩,⟨kbF hl,hdF⟩,fun b hb=>hM.famLt hb,h.1,h.2.1,h.2.2,m1,m3,m1000,mh,mh2,hll⟩:DrOk (mkX k mn mx t d w.heap.size F lo hi inc l bh bp base))) a w1 hst)
 clear hM hl hop hout hdF hdt hod hll m1 m3 m1000 mh mh2
 have hre:∀(a:Act) (w':World) (e:Exit),WholeQ k mn mx t d F lo hi inc l w e a w'→bodyPost Tp Try.f58 (ReusePost k mn mx t d F lo hi inc l w) e a w':=by
  rintro a w' e ⟨rfl,bh,bp,base,hok,hd,h10,c,q,F',H',L,Dq,D,hb,ho⟩
  have r0:=kbB hb 0
  have r1:=kbB hb 1
  have r2:=kbB hb 2
  have r3:=kbB hb 3
  simp only [zF,zD,zE] at r0 r1 r2 r3
  have hg:a.tmps[10]?=some (Ip (some ⟨w.heap.size+3,0,none⟩)):=h10
  refine bodyPost_ret (v:=.agg #[kcQ k,Ii Ij c,Ii Ij 0,q]) ?_ hd ?_
  ·have r0':w'.cell? ⟨w.heap.size+3,0,none⟩=some (kcQ k):=r0
   have r1':w'.cell? ⟨w.heap.size+3,1,none⟩=some (Ii Ij c):=r1
   have r2':w'.cell? ⟨w.heap.size+3,2,none⟩=some (Ii Ij 0):=r2
   have r3':w'.cell? ⟨w.heap.size+3,3,none⟩=some q:=r3
   simp [results,Try.results58,go_sem,hg,r0',r1',r2',r3']
  ·exact ⟨bh,bp,base,c,q,F',H',L,Dq,D,rfl,hok,ho⟩
 have HRE:=zL hre
 clear hre
 go_enter Try.func58,Try.ntmps58
 refine wp_mono (Q:=WholeQ k mn mx t d F lo hi inc l w) ?_ (fun e a w' he=>HRE.out a w' e he)
 refine kdP (M:=StartF t d op lo hi w) ?_ (fun a w1 hst=>HSC.out a w1 hst)
 clear HSC HRE
 go_wp2_with fail
 refine ⟨⟨rfl,rfl,rfl,rfl,rfl,rfl,rfl,rfl⟩,(((zK _ _).alloc _).alloc _).alloc _ |>.alloc _,by simp,?_,?_,?_,?_⟩
 ·rw [kcZ _ _ (by simp;try omega),kcZ _ _ (by simp;try omega),kcZ _ _ (by simp)];exact kbT _ _ rfl
 ·rw [kcZ _ _ (by simp;try omega),kcZ _ _ (by simp;try omega)];exact kbT _ _ (by simp)
 ·rw [kcZ _ _ (by simp;try omega)];exact kbT _ _ (by simp)
 ·exact kbT _ _ (by simp)
end
end
section
variable {ord:List Int}{k:Kc ord}
section
variable {ord:List Int}
theorem MapIn.srtL {k:Kc ord}{mn mx t:Nat}{w:World}{F:Nat→Prop}{l:List (It ord)}(h:MapIn k mn mx w F t l):Srt ltM l:=by
 rcases h with ⟨rfl,_⟩ | ⟨H,h,T,hI,_,rfl,_⟩
 ·exact List.Pairwise.nil
 ·exact hI.srt
theorem DeleteRange_any {k:Kc ord}{mn mx t:Nat}{w:World}{F:Nat→Prop}{l:List (It ord)}{lo hi:It ord}{inc:Bool}{op:Option Nat}(hM:MapIn k mn mx w F t l)(hop:OptB op inc w)
  (m1:1≤mn)(m3:3≤mx)(m1000:mx≤1000)(mh:mn≤mx / 2)(mh2:mn≤mx-(mx / 2+1))(hll:l.length≤1000000000000) :
  Calls Tp 34 #[Ip (some ⟨t,0,none⟩),.agg #[Ii Ij lo.1,Ii Ij lo.2],.agg #[Ii Ij hi.1,Ii Ij hi.2],optV2 op] w fun e w'=>∃(c:Int) (q:Value) (F':Nat→Prop) (H':HN ord) (Dq D:List (Bk ord)),e=Ir (.agg #[kcQ k,Ii Ij c,Ii Ij 0,q])∧DelR k mn mx t F lo hi inc l w w' w.heap.size c q F' H' Dq D:=by
 have hFl:∀b,F b→b<w.heap.size:=fun b hb=>hM.famLt hb
 have hOl:∀b,MOwn k t b→b<w.heap.size:=fun b hb=>hM.own hb
 have hopl:∀b,op=some b→b<w.heap.size:=fun b e=>by subst e;exact kbF hop
 have HRE:=zL (fun (w1:World) (hc:Chg (fun _ _=>False) w w1) (hl:ListB w1 (w.heap.size+2) .nilFunc 0 0 (Is none 0 0))=>DeleteRangeReuse_any (lo:=lo) (hi:=hi) (hM.chg hc) hl (fun h=>by have:=hFl _ h;omega) (fun b hb e=>by have:=hOl b hb;omega) (hop.chg hc) (fun e=>by have:=hopl _ e;omega) m1 m3 m1000 mh mh2 hll)
 have HS:=zL hM.srtL
 have HLL:=zL hll
 clear hM hop m1 m3 m1000 mh mh2 hll hFl hOl hopl
 go_enter Try.func34,Try.ntmps34
 go_wp2_with fail
 refine kbW (fun w1=>Chg (fun _ _=>False) w w1∧ListB w1 (w.heap.size+2) .nilFunc 0 0 (Is none 0 0)) ⟨(((zK _ _).alloc _).alloc _).alloc _,kbT _ _ (by simp)⟩ ?_
 rintro w1 ⟨hc1,hl1⟩
 refine (HRE.out w1 hc1 hl1).mono ?_
 rintro e w2 ⟨bh,bp,base,c,q,F',H',L,Dq,D,rfl,hok,ho⟩
 have lb:ListB w2 (w.heap.size+2) (kcQ k) c 0 q:=ho.lb
 obtain ⟨qa,qc,hqf⟩:=ho.qo.sl.form
 subst hqf
 have l0:=lb.c0
 have l1:=lb.c1
 have l2:=lb.c2
 have l3:=lb.c3
 have z0:=lb.fz 0
 have z1:=lb.fz 1
 have z2:=lb.fz 2
 have z3:=lb.fz 3
 unfold kcQ at l0
 have HLB:=zL lb
 have HO:=zL ho
 have HOK:=zL hok
 clear lb ho hok hl1
 unfold kcQ
 go_wp2_with fail
 refine kbQ (fun wf=>Chg (fun b _=>b=w.heap.size+2) w2 wf∧ListB wf (w.heap.size+2) (kcQ k) c 0 (.slice qa Dq.length qc)) ⟨((((zK _ _).setCell (.inl rfl) _).setCell (.inl rfl) _).setCell (.inl rfl) _).setCell (.inl rfl) _,blk4r HLB.out _ _ _ _⟩ ?_
 clear l0 l1 l2 l3 z0 z1 z2 z3
 rintro wf ⟨hcf,hbf⟩
 have l0:=hbf.c0
 have l1:=hbf.c1
 have l2:=hbf.c2
 have l3:=hbf.c3
 refine bodyPost_ret (v:=.agg #[kcQ k,Ii Ij c,Ii Ij 0,.slice qa Dq.length qc]) (by simp [results,Try.results34,go_sem,l0,l1,l2,l3]) rfl ?_
 exact ⟨c,_,F',H',Dq,D,rfl,HO.out.delR HOK.out HS.out (by have:=HLL.out;omega) hc1 hcf (by omega) rfl⟩
end
end
section
variable {ord:List Int}{k:Kc ord}
section
variable {ord:List Int}
theorem DelR.ls {k:Kc ord}{mn mx t:Nat}{F:Nat→Prop}{lo hi:It ord}{inc:Bool}{l:List (It ord)}{w w3 w5:World}{base b:Nat}{c:Int}{q:Value}{F':Nat→Prop}{H':HN ord}{Dq D:List (Bk ord)}(h:DelR k mn mx t F lo hi inc l w w3 base c q F' H' Dq D)
  (hb:(b<base∧¬F b)∨w3.heap.size≤b)(hbo:k.ob≠b∧k.rb≠b)(hk:k.ob<base∧k.rb<base)(hbw:base≤w3.heap.size)(hc:Chg (fun x _=>x=b) w3 w5)(hl:ListB w5 b (kcQ k) c 0 q)(hll:l.length≤1000000000000) :
  LsOk k mn mx b base w5.heap.size w5 c q F' H' Dq D (l.filter (insR (rkL ord) lo hi inc)):=by
 have hsz:=hc.size
 have hFb:¬F' b:=fun e=>by
  have h2:=h.fam.lt e
  rcases hb with h1 | h1
  ·rcases h.fs b e with h3 | h3
   ·exact h1.2 h3
   ·omega
  ·omega
 have hqb:∀x,q.ownBlock=some x→x≠b:=fun x hx e=>by
  have h2:=h.qo.own_lt hx
  rcases hb with h1 | h1<;>omega
 have hfl:=List.length_filter_le (insR (rkL ord) lo hi inc) l
 exact ⟨hl,h.qo.chgOwn hc (fun x _ hx=>hqb x hx),h.qc,h.hp,h.pm,h.srt,h.ct,h.fl,h.fam.chg hc (fun x _ hx e=>hFb (e▸hx)),h.qF,h.tr,h.ob.chg hc (fun _=>hbo.1) (fun _=>hbo.2),hFb,hqb,⟨hbo.1,hbo.2,hk.1,hk.2⟩,kbF hl,fun x hx=>by have:=(h.qo.own_lt hx).2;omega,fun x hx=>by have:=h.fam.lt hx;omega,⟨by omega,by omega⟩,zi _,by omega⟩
end
end
end Go.Proofs.Ytnohimhihombmaa
