/- The order copied, the function less made of it; grow. -/
import Derived.Stop.Asserts
import Derived.Laws.EntriesVeiled
import Derived.Test.YtnohimhihombmaaA8b
import Derived.Test.YtnohimhihombmaaA9
namespace Go.Proofs.Ytnohimhihombmaa
set_option linter.unusedSimpArgs false
set_option linter.unusedVariables false
set_option maxRecDepth 100000
set_option maxHeartbeats 40000000
open List renaming setIfInBounds_toArray → zA, set_cons_zero → zB, set_cons_succ → zC, getElem?_cons_zero → zD, getElem?_cons_succ → zE, getElem?_toArray → zF
open Region renaming wanted → zI
open Act renaming put → zJ
open Chg renaming refl → zK, setCell → zd, drew → ze, drewN → zf
open Lib renaming hid → zL
section
open Go.RowKit
variable {ord:List Int}
def dg (d:Int):Nat:=if d=0 then 32 else d.toNat
def mnD (d:Int):Nat:=(2 * dg d - 1) / 2
def mxD (d:Int):Nat:=2 * dg d - 1
def FitD (d:Int):Prop:=d=0∨(2≤d∧d≤128)
theorem FitD.dims {d:Int} (h:FitD d):1≤mnD d∧3≤mxD d∧mxD d≤1000∧mnD d≤mxD d / 2∧mnD d≤mxD d - (mxD d / 2+1):=by
 have:2≤dg d∧dg d≤128:=by
  unfold dg
  rcases h with h | ⟨h1,h2⟩
  ·rw [if_pos h];omega
  ·rw [if_neg (by omega)];omega
 unfold mnD mxD
 omega
theorem noCopier (v:Value) (xT:TypeId) (w:World):(Instr.typeAssert (.iface 27 v) xT 138 true).run Try.prog w=.ok (.tuple #[.nilIface,.bool false]) w:=run_typeAssert_lacksB Try.underlying138 (by kernel_rfl) (by kernel_rfl) v xT w
theorem noIsoCopier (v:Value) (xT:TypeId) (w:World):(Instr.typeAssert (.iface 27 v) xT 141 true).run Try.prog w=.ok (.tuple #[.nilIface,.bool false]) w:=run_typeAssert_lacksB Try.underlying141 (by kernel_rfl) (by kernel_rfl) v xT w
theorem degree_any (d:Int) (w:World) (h:FitD d) :
  Calls Try.prog 76 #[.int .i64 d] w fun e w'=>e=.returned (.tuple #[.int .i64 (mnD d),.int .i64 (mxD d)])∧w=w':=by
 rcases h with rfl | ⟨h1,h2⟩
 ·have e1:((mnD 0:Nat):Int)=31:=by simp [mnD,dg]
  have e2:((mxD 0:Nat):Int)=63:=by simp [mxD,dg]
  rw [e1,e2]
  clear e1 e2
  go_enter Try.func76,Try.ntmps76
  go_wp2
  go_ret2
  exact ⟨rfl,rfl⟩
 ·have hdg:dg d=d.toNat:=if_neg (by omega)
  have i1:((mnD d:Nat):Int)=(2 * d - 1) / 2:=by unfold mnD;rw [hdg];omega
  have i2:((mxD d:Nat):Int)=2 * d - 1:=by unfold mxD;rw [hdg];omega
  rw [i1,i2]
  clear i1 i2 hdg
  have e1:(d * 2 - 1).tdiv 2=(2 * d - 1) / 2:=by rw [Int.tdiv_eq_ediv_of_nonneg (by omega)];omega
  have e2:d * 2 - 1=2 * d - 1:=by omega
  go_enter Try.func76,Try.ntmps76
  go_wp2
  go_ret2
  exact ⟨rfl,rfl⟩
theorem init_fresh (k:Kc ord) (t:Nat) (d:Int) (w:World) (h:FitD d) (hb:w.heap[t]?=some (.cells #[.int .u64 k.iso,.pointer (some ⟨k.ctr,0,none⟩),.pointer none,.int .i64 0,.bool false,.bool false,kcK k,.int .i64 0,.int .i64 0,.int .i64 0,.int .i64 0] 99 (0,0))) (ho:OrdAt k w) (h1:t≠k.ob) (h2:t≠k.rb) :
  Calls Try.prog 61 #[.pointer (some ⟨t,0,none⟩),.int .i64 d] w fun e w'=>e=.returned (.tuple #[])∧Chg (fun b _=>b=t) w w'∧MapBlk k (mnD d) (mxD d) w' t none 0:=by
 have c4:=kbB hb 7
 have c5:=kbB hb 8
 have c6:=kbB hb 10
 have c7:=kbB hb 9
 have c8:=kbB hb 4
 have c9:=kbB hb 5
 have z6:=kbC hb 10
 have z7:=kbC hb 9
 have z8:=kbC hb 4
 have z9:=kbC hb 5
 simp only [zF,zD,zE] at c4 c5 c6 c7 c8 c9
 have HB:=zL hb
 have HO:=zL ho
 clear hb ho
 have f1:=noCopier
 have f2:=noIsoCopier
 have hdd:=degree_any d
 obtain ⟨mn,hmn⟩:∃mn,mnD d=mn:=⟨_,rfl⟩
 obtain ⟨mx,hmx⟩:∃mx,mxD d=mx:=⟨_,rfl⟩
 rw [hmn,hmx] at hdd ⊢
 clear hmn hmx
 go_enter Try.func61,Try.ntmps61
 go_wp2_with (go_at_call 76;refine (hdd _ h).mono ?_;rintro e w' ⟨rfl,rfl⟩)
 go_end0
 generalize hwf:World.setCell _ _ _=wf
 have hc:Chg (fun b _=>b=t) w wf:=by
  rw [←hwf]
  repeat (first | refine ze ?_ | refine zf ?_ _ | refine Chg.alloc ?_ _ | refine zd ?_ (.inl rfl) _ | exact zK _ _)
 refine ⟨rfl,hc,?_,HO.out.chg hc (fun _ e=>h1 e.symm) (fun _ e=>h2 e.symm),h1,h2⟩
 rw [←hwf,kbS (kbS (kbS (kbS HB.out _) _) _)]
 rfl
theorem newIso_any (c:Nat) (w:World) (hb:w.heap[c]?=some (.cells #[.int .u64 0] 95 (0,0))) :
  Calls Try.prog 60 #[.pointer (some ⟨c,0,none⟩)] w fun e w'=>e=.returned (.int .u64 1)∧w'=w.setCell ⟨c,0,none⟩ (.int .u64 1):=by
 have c0:=kbB hb 0
 have z0:=kbC hb 0
 simp only [zF,zD] at c0
 clear hb
 go_enter Try.func60,Try.ntmps60
 go_wp2
 go_ret
 exact ⟨rfl,rfl⟩
theorem OrdAt.other {k k2:Kc ord} {w:World} (h:OrdAt k w) (h1:k2.ob=k.ob) (h2:k2.rb=k.rb):OrdAt k2 w:=by
 unfold OrdAt at h ⊢
 rw [h1,h2];exact h
theorem new_any (k0:Kc ord) (d:Int) (b:Bool) (w:World) (h:FitD d) (ho:OrdAt k0 w) :
  Calls Try.prog 41 #[kcK k0,.agg #[.int .i64 d,.bool b]] w fun e w'=>e=.returned (.pointer (some ⟨w.heap.size+1,0,none⟩))∧Chg (fun _ _=>False) w w' ∧
   MapBlk (⟨1,w.heap.size+2,k0.ob,k0.rb⟩:Kc ord) (mnD d) (mxD d) w' (w.heap.size+1) none 0:=by
 have HO:=zL ho
 have hl:=ho.lt
 clear ho
 have hsf:=fun (a:Addr) (c:Array Value) (w:World)=>run_store Try.prog w a (.func (.func 63) #[] c) .plain rfl
 unfold kcK
 go_enter Try.func41,Try.ntmps41
 go_wp2_with fail
 refine kbW (fun w1=>Chg (fun _ _=>False) w w1∧w1.heap[w.heap.size]?=some (.cells #[.int .i64 d,.bool b] 83 (0,0))∧w1.heap[w.heap.size+1]?=some (.cells #[.int .u64 0,.pointer (some ⟨w.heap.size+2,0,none⟩),.pointer none,.int .i64 0,.bool false,.bool false,.nilFunc,.int .i64 0,.int .i64 0,.int .i64 0,.int .i64 0] 99 (0,0)) ∧
  w1.heap[w.heap.size+2]?=some (.cells #[.int .u64 0] 95 (0,0))) ⟨?_,?_,?_,?_⟩ ?_
 ·repeat (first | exact zK _ _ | refine Chg.alloc ?_ _)
 ·rw [kcV _ _ (by simp;try omega),kcV _ _ (by simp;try omega)];exact kbR _ _ rfl
 ·rw [kcV _ _ (by simp;try omega)];exact kbR _ _ (by simp)
 ·exact kbR _ _ (by simp)
 rintro w1 ⟨hc1,hb0,hb1,hb2⟩
 have o0:=kbB hb0 0
 have t0:=kbB hb1 0
 have t6:=kbB hb1 6
 have z0:=kbC hb1 0
 have z6:=kbC hb1 6
 simp only [zF,zD,zE] at o0 t0 t6
 have hl1:=kbF hb2
 have HB1:=zL hb1
 refine (newIso_any _ w1 hb2).mono ?_
 rintro e w2 ⟨rfl,rfl⟩
 clear hb0 hb1 hb2
 go_wp2_with fail
 generalize hw3:World.setCell _ _ _=w3
 have hc3:Chg (fun b _=>b=w.heap.size+1∨b=w.heap.size+2) w1 w3:=by
  rw [←hw3]
  repeat (first | refine ze ?_ | refine zf ?_ _ | refine zd ?_ (.inl (by simp)) _ | exact zK _ _)
 have hb3:w3.heap[w.heap.size+1]?=some (.cells #[.int .u64 1,.pointer (some ⟨w.heap.size+2,0,none⟩),.pointer none,.int .i64 0,.bool false,.bool false,kcK k0,.int .i64 0,.int .i64 0,.int .i64 0,.int .i64 0] 99 (0,0)):=by
  have h2:(w1.setCell ⟨w.heap.size+2,0,none⟩ (.int .u64 1)).heap[w.heap.size+1]?=_:=(hs_ne _ (by simp)).trans HB1.out
  rw [←hw3,kbS (kbS h2 _)]
  rfl
 clear hw3
 have hc03:Chg (fun _ _=>False) w w3:=hc1.trans' hc3 (fun _ _ _ h=>h) (fun b o hb h=>by omega)
 refine (init_fresh (⟨1,w.heap.size+2,k0.ob,k0.rb⟩:Kc ord) (w.heap.size+1) d w3 h hb3 ((HO.out.chg hc03 (fun _ h=>h) (fun _ h=>h)).other rfl rfl) (by show w.heap.size+1≠k0.ob;omega) (by show w.heap.size+1≠k0.rb;omega)).mono ?_
 rintro e w4 ⟨rfl,hc4,hB4⟩
 go_wp2_with fail
 go_ret
 exact ⟨rfl,hc03.trans' hc4 (fun _ _ _ h=>h) (fun b o hb h=>by omega),hB4⟩
end
section
open Go.RowKit
variable {ord:List Int} {k:Kc ord}
def MapIn (k:Kc ord) (mn mx:Nat) (w:World) (F:Nat→Prop) (t:Nat) (l:List (It ord)):Prop :=
 (l=[]∧(∀b,¬F b)∧MapBlk k mn mx w t none 0)∨∃H h,∃T:BT (It ord) h,TreeIn k mn mx w F H t h T∧MapBlk k mn mx w t (some (rid T)) (toL h T).length∧toL h T=l∧1≤(its T).length
def SetPost (k:Kc ord) (mn mx:Nat) (w:World) (F:Nat→Prop) (t:Nat) (l:List (It ord)) (x:It ord) (e:Ending) (w':World):Prop :=
 SetRet l x e∧∃F',MapIn k mn mx w' F' t (insL ltM x l)∧Chg (fun b _=>F b∨b=t) w w'∧∀b,F' b→F b∨w.heap.size≤b
theorem set_any {mn mx:Nat} {w:World} {F:Nat→Prop} {t:Nat} {l:List (It ord)} (h:MapIn k mn mx w F t l) (x:It ord) (hl:l.length < 100000000000000) (hmn:1≤mn) (hmx:3≤mx) (hmx2:mx≤1000) (hmh:mn≤mx / 2) (hmh2:mn≤mx - (mx / 2+1)) :
  Calls Try.prog 78 #[.pointer (some ⟨t,0,none⟩),aggM x,.pointer none] w (SetPost k mn mx w F t l x):=by
 have fin:∀(G:Nat→Prop) e w',(∀b,G b→F b)→SetTop k mn mx w G t l x e w'→SetPost k mn mx w F t l x e w':=by
  rintro G e w' hG ⟨hr,F',H',h',T',r1,r2,r3,r4,r5,r6⟩
  exact ⟨hr,F',.inr ⟨H',h',T',r1,r2,r3,r4⟩,r5.mono (fun b _ _ h=>h.imp (hG b) id),fun b hb=>(r6 b hb).imp (hG b) id⟩
 rcases h with ⟨rfl,hF,hB⟩ | ⟨H,h,T,hI,hB,rfl,h1⟩
 ·exact (set_empty hB hmn hmx hmx2 hmh hmh2 x).mono fun e w' h=>fin _ e w' (fun _ h=>h.elim) h
 ·by_cases ha:Avail mx h T x
  ·exact (set_avail hI hB x ha h1 hl).mono fun e w' h=>fin F e w' (fun _ h=>h) h
  ·exact (set_full hI hB x ha hl).mono fun e w' h=>fin F e w' (fun _ h=>h) h
def growL (l:List (It ord)):List (It ord):=l.foldl (fun acc x=>insL ltM x acc) []
theorem MapIn.chg {mn mx:Nat} {w w':World} {F:Nat→Prop} {t:Nat} {l:List (It ord)} (h:MapIn k mn mx w F t l) (c:Chg (fun _ _=>False) w w'):MapIn k mn mx w' F t l:=by
 rcases h with ⟨h1,h2,h3⟩ | ⟨H,h,T,h1,h2,h3,h4⟩
 ·exact .inl ⟨h1,h2,h3.chg c (fun _ _ _ h=>h)⟩
 ·exact .inr ⟨H,h,T,⟨h1.fam.chg c (fun _ _ _ h=>h),h1.map.chg c (fun _ _ _ h=>h),h1.out,h1.isT,h1.nd,h1.sh,h1.srt,h1.big,h1.m3,h1.m1000,h1.mh,h1.mh2⟩,h2.chg c (fun _ _ _ h=>h),h3,h4⟩
theorem MapIn.chgA {A:Nat→Nat→Prop} {mn mx:Nat} {w w':World} {F:Nat→Prop} {t:Nat} {l:List (It ord)} (h:MapIn k mn mx w F t l) (c:Chg A w w') (h1:∀b o,F b→¬A b o) (h2:∀b o,MOwn k t b→¬A b o):MapIn k mn mx w' F t l:=by
 rcases h with ⟨g1,g2,g3⟩ | ⟨H,h,T,g1,g2,g3,g4⟩
 ·exact .inl ⟨g1,g2,g3.chg c h2⟩
 ·exact .inr ⟨H,h,T,⟨g1.fam.chg c h1,g1.map.chg c h2,g1.out,g1.isT,g1.nd,g1.sh,g1.srt,g1.big,g1.m3,g1.m1000,g1.mh,g1.mh2⟩,g2.chg c h2,g3,g4⟩
theorem MapIn.own {mn mx:Nat} {w:World} {F:Nat→Prop} {t b:Nat} {l:List (It ord)} (h:MapIn k mn mx w F t l) (hb:MOwn k t b):b < w.heap.size:=by
 rcases h with ⟨_,_,g3⟩ | ⟨H,h,T,g1,_⟩
 ·exact g3.at_.lt hb
 ·exact g1.map.lt hb
theorem MapIn.famLt {mn mx:Nat} {w:World} {F:Nat→Prop} {t b:Nat} {l:List (It ord)} (h:MapIn k mn mx w F t l) (hb:F b):b < w.heap.size:=by
 rcases h with ⟨_,g2,_⟩ | ⟨H,h,T,g1,_⟩
 ·exact absurd hb (g2 b)
 ·exact g1.fam.lt hb
theorem growL_take {l:List (It ord)} {j:Nat} {x:It ord} (h:l[j]?=some x):growL (l.take (j+1))=insL ltM x (growL (l.take j)):=by
 unfold growL
 rw [List.take_add_one,h,List.foldl_append];rfl
theorem growL_len:∀(l acc:List (It ord)),(l.foldl (fun acc x=>insL ltM x acc) acc).length≤acc.length+l.length
 | [],acc=>by simp
 | x::l,acc=>by
  have h1:=growL_len l (insL ltM x acc)
  have h2:=insL_len (lt:=ltM) (x:=x) (l:=acc)
  simp only [List.foldl_cons,List.length_cons]
  split at h2<;>omega
theorem growL_take_len (l:List (It ord)) (j:Nat):(growL (l.take j)).length≤l.length:=by
 have:=growL_len (l.take j) []
 simp only [List.length_nil,List.length_take] at this
 unfold growL;omega
end
section
open Go.RowKit
variable {ord:List Int} {k:Kc ord}
theorem blk2 {w:World} {b:Nat} {T:TypeId} {fr:Nat×Nat} {u0 u1:Value} (h:w.heap[b]?=some (.cells #[u0,u1] T fr)) (v0 v1:Value):((w.setCell ⟨b,0,none⟩ v0).setCell ⟨b,1,none⟩ v1).heap[b]?=some (.cells #[v0,v1] T fr):=by
 rw [kbS (kbS h _)];rfl
theorem SetHint_any {mn mx:Nat} {w:World} {F:Nat→Prop} {t:Nat} {l:List (It ord)} (h:MapIn k mn mx w F t l) (x:It ord) (hl:l.length < 100000000000000) (hmn:1≤mn) (hmx:3≤mx) (hmx2:mx≤1000) (hmh:mn≤mx / 2) (hmh2:mn≤mx - (mx / 2+1)) :
  Calls Try.prog 65 #[.pointer (some ⟨t,0,none⟩),aggM x,.pointer none] w (SetPost k mn mx w F t l x):=by
 have hmlt:=fun b (hb:MOwn k t b)=>h.own hb
 have hflt:=fun b (hb:F b)=>h.famLt hb
 have hcall:=fun w1 (c:Chg (fun _ _=>False) w w1)=>set_any (h.chg c) x hl hmn hmx hmx2 hmh hmh2
 have HC:=zL hcall
 clear hcall
 unfold aggM at HC ⊢
 go_enter Try.func65,Try.ntmps65
 go_wp2_with fail
 refine kbW (fun w1=>Chg (fun _ _=>False) w w1∧w1.heap[w.heap.size+1]?=some (.cells #[.int .i64 0,.int .i64 0] 27 (0,0))) ⟨((zK _ _).alloc _).alloc _,kbR _ _ (by simp)⟩ ?_
 rintro w1 ⟨hc1,hbp⟩
 have hlp:=kbF hbp
 refine (HC.out w1 hc1).mono ?_
 rintro e w2 ⟨hret,F',hM2,hc2,hF2⟩
 have htl:=hmlt t MOwn.self
 have hbp2:w2.heap[w.heap.size+1]?=some (.cells #[.int .i64 0,.int .i64 0] 27 (0,0)):=by
  rw [hc2.block hlp (fun _ h=>by
   rcases h with h | h
   ·have:=hflt _ h;omega
   ·omega)]
  exact hbp
 have p0:=kbB hbp2 0
 have p1:=kbB hbp2 1
 have pf0:=kbC hbp2 0
 have pf1:=kbC hbp2 1
 simp only [zF,zD,zE] at p0 p1
 have hsz1:=hc1.size
 have hres:∀wl,Chg (fun b _=>b=w.heap.size+1) w2 wl→SetPost k mn mx w F t l x e wl:=by
  intro wl hcl
  refine ⟨hret,F',hM2.chgA hcl (fun b _ hb e=>?_) (fun b _ hb e=>by have:=hmlt b hb;omega),?_,fun b hb=>?_⟩
  ·rcases hF2 b hb with h | h
   ·have:=hflt _ h;omega
   ·omega
  ·refine (hc1.trans' hc2 (B:=fun b _=>F b∨b=t) (fun _ _ _ h=>h.elim) (fun _ _ _ h=>h)).trans' hcl (fun _ _ _ h=>h) (fun b o hb e=>by omega)
  ·rcases hF2 b hb with h | h
   ·exact .inl h
   ·exact .inr (by omega)
 have HRES:=zL hres
 have HBP2:=zL hbp2
 clear hres hbp hbp2 HC
 have hret2:=hret
 rcases hret2 with ⟨y,_,rfl⟩ | ⟨_,rfl⟩
 ·go_wp2_with fail
  refine kbK (fun wl=>Chg (fun b _=>b=w.heap.size+1) w2 wl∧wl.heap[w.heap.size+1]?=some (.cells #[.int .i64 y.1,.int .i64 y.2] 27 (0,0))) ⟨?_,?_⟩ ?_
  ·repeat (first | refine ze ?_ | refine zf ?_ _ | refine zd ?_ (.inl rfl) _ | exact zK _ _)
  ·exact blk2 (blk2 HBP2.out _ _) _ _
  clear p0 p1 pf0 pf1
  rintro wl ⟨hcl,hbl⟩
  have p0:=kbB hbl 0
  have p1:=kbB hbl 1
  simp only [zF,zD,zE] at p0 p1
  refine bodyPost_ret (v:=.tuple #[.agg #[.int .i64 y.1,.int .i64 y.2],.bool true]) (by simp [results,Try.results65,go_sem,p0,p1]) rfl ?_
  exact HRES.out _ hcl
 ·go_wp2_with fail
  refine kbK (fun wl=>Chg (fun b _=>b=w.heap.size+1) w2 wl∧wl.heap[w.heap.size+1]?=some (.cells #[.int .i64 0,.int .i64 0] 27 (0,0))) ⟨?_,?_⟩ ?_
  ·repeat (first | refine ze ?_ | refine zf ?_ _ | refine zd ?_ (.inl rfl) _ | exact zK _ _)
  ·exact blk2 (blk2 HBP2.out _ _) _ _
  clear p0 p1 pf0 pf1
  rintro wl ⟨hcl,hbl⟩
  have p0:=kbB hbl 0
  have p1:=kbB hbl 1
  simp only [zF,zD,zE] at p0 p1
  refine bodyPost_ret (v:=.tuple #[.agg #[.int .i64 0,.int .i64 0],.bool false]) (by simp [results,Try.results65,go_sem,p0,p1]) rfl ?_
  exact HRES.out _ hcl
theorem Set_any {mn mx:Nat} {w:World} {F:Nat→Prop} {t:Nat} {l:List (It ord)} (h:MapIn k mn mx w F t l) (x:It ord) (hl:l.length < 100000000000000) (hmn:1≤mn) (hmx:3≤mx) (hmx2:mx≤1000) (hmh:mn≤mx / 2) (hmh2:mn≤mx - (mx / 2+1)) :
  Calls Try.prog 44 #[.pointer (some ⟨t,0,none⟩),aggM x] w (SetPost k mn mx w F t l x):=by
 have hmlt:=fun b (hb:MOwn k t b)=>h.own hb
 have hflt:=fun b (hb:F b)=>h.famLt hb
 have hcall:=fun w1 (c:Chg (fun _ _=>False) w w1)=>SetHint_any (h.chg c) x hl hmn hmx hmx2 hmh hmh2
 have HC:=zL hcall
 clear hcall
 unfold aggM at HC ⊢
 go_enter Try.func44,Try.ntmps44
 go_wp2_with fail
 refine kbW (fun w1=>Chg (fun _ _=>False) w w1∧w1.heap[w.heap.size+1]?=some (.cells #[.int .i64 0,.int .i64 0] 27 (0,0))) ⟨((zK _ _).alloc _).alloc _,kbR _ _ (by simp)⟩ ?_
 rintro w1 ⟨hc1,hbp⟩
 have hlp:=kbF hbp
 refine (HC.out w1 hc1).mono ?_
 rintro e w2 ⟨hret,F',hM2,hc2,hF2⟩
 have htl:=hmlt t MOwn.self
 have hbp2:w2.heap[w.heap.size+1]?=some (.cells #[.int .i64 0,.int .i64 0] 27 (0,0)):=by
  rw [hc2.block hlp (fun _ h=>by
   rcases h with h | h
   ·have:=hflt _ h;omega
   ·omega)]
  exact hbp
 have p0:=kbB hbp2 0
 have p1:=kbB hbp2 1
 have pf0:=kbC hbp2 0
 have pf1:=kbC hbp2 1
 simp only [zF,zD,zE] at p0 p1
 have hsz1:=hc1.size
 have hres:∀wl,Chg (fun b _=>b=w.heap.size+1) w2 wl→SetPost k mn mx w F t l x e wl:=by
  intro wl hcl
  refine ⟨hret,F',hM2.chgA hcl (fun b _ hb e=>?_) (fun b _ hb e=>by have:=hmlt b hb;omega),?_,fun b hb=>?_⟩
  ·rcases hF2 b hb with h | h
   ·have:=hflt _ h;omega
   ·omega
  ·refine (hc1.trans' hc2 (B:=fun b _=>F b∨b=t) (fun _ _ _ h=>h.elim) (fun _ _ _ h=>h)).trans' hcl (fun _ _ _ h=>h) (fun b o hb e=>by omega)
  ·rcases hF2 b hb with h | h
   ·exact .inl h
   ·exact .inr (by omega)
 have HRES:=zL hres
 have HBP2:=zL hbp2
 clear hres hbp hbp2 HC
 have hret2:=hret
 rcases hret2 with ⟨y,_,rfl⟩ | ⟨_,rfl⟩
 ·go_wp2_with fail
  refine kbK (fun wl=>Chg (fun b _=>b=w.heap.size+1) w2 wl∧wl.heap[w.heap.size+1]?=some (.cells #[.int .i64 y.1,.int .i64 y.2] 27 (0,0))) ⟨?_,?_⟩ ?_
  ·repeat (first | refine ze ?_ | refine zf ?_ _ | refine zd ?_ (.inl rfl) _ | exact zK _ _)
  ·exact blk2 HBP2.out _ _
  clear p0 p1 pf0 pf1
  rintro wl ⟨hcl,hbl⟩
  have p0:=kbB hbl 0
  have p1:=kbB hbl 1
  simp only [zF,zD,zE] at p0 p1
  refine bodyPost_ret (v:=.tuple #[.agg #[.int .i64 y.1,.int .i64 y.2],.bool true]) (by simp [results,Try.results44,go_sem,p0,p1]) rfl ?_
  exact HRES.out _ hcl
 ·go_wp2_with fail
  refine kbK (fun wl=>Chg (fun b _=>b=w.heap.size+1) w2 wl∧wl.heap[w.heap.size+1]?=some (.cells #[.int .i64 0,.int .i64 0] 27 (0,0))) ⟨?_,?_⟩ ?_
  ·repeat (first | refine ze ?_ | refine zf ?_ _ | refine zd ?_ (.inl rfl) _ | exact zK _ _)
  ·exact blk2 HBP2.out _ _
  clear p0 p1 pf0 pf1
  rintro wl ⟨hcl,hbl⟩
  have p0:=kbB hbl 0
  have p1:=kbB hbl 1
  simp only [zF,zD,zE] at p0 p1
  refine bodyPost_ret (v:=.tuple #[.agg #[.int .i64 0,.int .i64 0],.bool false]) (by simp [results,Try.results44,go_sem,p0,p1]) rfl ?_
  exact HRES.out _ hcl
end
section
open Go.RowKit
variable {ord:List Int} {k:Kc ord}
def ClonePost (ord:List Int) (w:World) (e:Ending) (w':World):Prop :=
 ∃v',e=.returned v'∧Chg (fun _ _=>False) w w'∧((ord=[]∧v'=.slice none 0 0)∨∃b o cap,v'=.slice (some ⟨b,o,none⟩) ord.length cap∧w.heap.size≤b∧b < w'.heap.size∧∀j x,ord[j]?=some x→w'.cell? ⟨b,o+j,none⟩=some (.int .i64 x))
theorem flat_int (xs:List Int) (j:Nat) (x:Int) (h:xs[j]?=some x):(flat intE.par xs)[j]?=some (.int .i64 x):=by
 have h2:(intE.par.enc x)[0]?=some (.int .i64 x):=rfl
 have:=flat_get intE.par h h2
 have e:intE.par.es=1:=rfl
 rw [e] at this
 simpa using this
theorem clone_any (v:Value) (w:World) (hs:SlE intE w v ord) (hlen:ord.length≤2147483647) :
  Calls Try.prog 62 #[v] w (ClonePost ord w):=by
 obtain ⟨a,cap,rfl,hcap,hc⟩:=hs
 have qS:∀(w:World) (a:Option Addr) (n c:Nat),(binOp .eql 22 (.slice a n c) (.slice none 0 0)).run Try.prog w=.ok (.bool a.isNone) w:=fun w a n c=>Lib.run_eql_slice_nil w _ _ _ _ _ _ _ Try.underlying22
 rcases a with _ | ad
 ·have h0:ord=[]:=by
   rcases hc with h | ⟨b,o,h,_⟩
   ·exact h
   ·cases h
  have hl0:ord.length=0:=by rw [h0];rfl
  rw [hl0]
  have H0:=zL h0
  clear hc h0 hl0 hcap
  go_enter Try.func62,Try.ntmps62
  go_wp2
  go_ret
  exact ⟨_,rfl,zK _ _,.inl ⟨H0.out,rfl⟩⟩
 ·have hsrc:(∃ad',some ad=some ad'∧∀j u,(flat intE.par ord)[j]?=some u→w.cell? (ad'.add j)=some u)∨(ord.length=0∧flat intE.par ord=[]):=by
   rcases hc with h | ⟨b,o,h,hcell⟩
   ·exact .inr ⟨by rw [h];rfl,by rw [h];rfl⟩
   ·refine .inl ⟨ad,rfl,fun j u hj=>?_⟩
    obtain rfl:=Option.some.inj h
    rw [kdS];exact hcell j u hj
  have HS:=zL hsrc
  obtain ⟨n,hn⟩:∃n,ord.length=n:=⟨_,rfl⟩
  have HN:=zL hn
  rw [hn] at hlen ⊢
  clear hc hsrc hn
  obtain ⟨i0,hi0,hz0,hz1,hz2⟩:=info_parts infoInt
  go_enter Try.func62,Try.ntmps62
  have hca:Chg (fun _ _=>False) w (w.alloc (.cells #[] 3)):=(zK _ _).alloc _
  go_wp2_with (refine kdG (by rfl) _ _ _ (by rfl) 3 i0 _ 1 8 Try.underlying22 hi0 hz0 hz1 hz2 rfl w.heap.size 0 0 0 (by rfl) [] ?_ rfl (Nat.le_refl _) (some ad) n _ (by rfl) (flat intE.par ord) ?_ ?_ (flat_one _ _) ?_ ?_ ?_)
  ·exact RowAt.of_block (c:=#[]) (kbR _ _ rfl) _ _ (by simp) (by simp) (by simp)
  ·have:=kcT intE.par ord
   have e:intE.par.es=1:=rfl
   rw [this,e,HN.out]
  ·rcases HS.out with ⟨ad',h1,h2⟩ | ⟨h1,h2⟩
   ·exact .inl ⟨ad',h1,fun j u hj=>hca.q (h2 j u hj)⟩
   ·exact .inr ⟨by rw [←HN.out];exact h1,h2⟩
  ·unfold maxLen;omega
  ·omega
  intro b' o' cap' w' happ
  have hrow:=happ.row
  rw [List.nil_append] at hrow
  have hpl:w.heap.size≤b':=by
   rcases happ.place with h | h
   ·have:=h.1;omega
   ·have h2:=h.1;simp at h2;omega
  have hcc:Chg (fun _ _=>False) w w':=hca.trans' happ.chg (fun _ _ _ h=>h) (fun b o hb h=>by have:=h.1;omega)
  have FIN:=zL (show ClonePost ord w (.returned (.slice (some ⟨b',o',none⟩) n cap')) w' from ⟨_,rfl,hcc,.inr ⟨b',o',cap',by rw [HN.out],hpl,hrow.lt,fun j x hx=>hrow.cell (flat_int ord j x hx)⟩⟩)
  clear happ hrow hpl hcc
  go_wp2
  go_ret
  exact FIN.out
def BeforePost (ord:List Int) (w:World) (e:Ending) (w':World):Prop :=
 ∃ob rb,e=.returned (.func (.func 63) #[] #[.pointer (some ⟨ob,0,none⟩)])∧Chg (fun _ _=>False) w w'∧w.heap.size≤ob∧w.heap.size≤rb∧∀iso ctr,OrdAt (⟨iso,ctr,ob,rb⟩:Kc ord) w'
theorem before_any' (v:Value) (w:World) (hs:SlE intE w v ord) (hlen:ord.length≤2147483647) :
  Calls Try.prog 42 #[v] w (BeforePost ord w):=by
 have hmf:∀(fn:Fn) (first cap:Array Value) (w:World),(Instr.makeFunc fn first cap).run Try.prog w=.ok (.func fn first cap) w:=fun _ _ _ _=>rfl
 have HC:=zL (clone_any v w hs hlen)
 clear hs
 go_enter Try.func42,Try.ntmps42
 go_wp2_with fail
 refine HC.out.mono ?_
 rintro e w1 ⟨v',rfl,hc1,hv⟩
 have hsz:=hc1.size
 have fin:∀w2,w2=w1.alloc (.cells #[v'] 22)→BeforePost ord w (.returned (.func (.func 63) #[] #[.pointer (some ⟨w1.heap.size,0,none⟩)])) w2:=by
  rintro w2 rfl
  have hal:Chg (fun _ _=>False) w1 (w1.alloc (.cells #[v'] 22)):=(zK _ _).alloc _
  rcases hv with ⟨h1,h2⟩ | ⟨b,o,cap,h1,h2,h3,h4⟩
  ·exact ⟨w1.heap.size,w1.heap.size,rfl,hc1.trans hal,hsz,hsz,fun iso ctr=>⟨by show w1.heap.size < _;simp,hlen,v',kbR _ _ rfl,.inl ⟨h1,h2⟩⟩⟩
  ·exact ⟨w1.heap.size,b,rfl,hc1.trans hal,hsz,h2,fun iso ctr=>⟨by show b < _;simp;omega,hlen,v',kbR _ _ rfl,.inr ⟨o,cap,h1,fun j x hx=>hal.q (h4 j x hx)⟩⟩⟩
 have FIN:=zL fin
 have hv2:∃a n c,v'=.slice a n c:=by
  rcases hv with ⟨_,h2⟩ | ⟨b,o,cap,h1,_⟩
  ·exact ⟨_,_,_,h2⟩
  ·exact ⟨_,_,_,h1⟩
 obtain ⟨a,n,c,rfl⟩:=hv2
 clear fin hv
 go_wp2
 go_ret
 exact FIN.out _ rfl
theorem options_any (v:Value) (d:Int) (b:Bool) (w:World) (hv:∃a n c,v=.slice a n c) :
  Calls Try.prog 43 #[.agg #[v,.int .i64 d,.bool b]] w fun e w'=>e=.returned (.agg #[.int .i64 d,.bool b])∧Chg (fun _ _=>False) w w':=by
 obtain ⟨a,n,c,rfl⟩:=hv
 go_enter Try.func43,Try.ntmps43
 go_wp2_with fail
 refine kbK (fun w1=>Chg (fun _ _=>False) w w1∧w1.heap[w.heap.size+1]?=some (.cells #[.int .i64 d,.bool b] 83 (0,0))) ⟨?_,?_⟩ ?_
 ·repeat (first | refine ze ?_ | refine zf ?_ _ | refine Chg.alloc ?_ _ | refine zd ?_ (.inr (by simp)) _ | exact zK _ _)
 ·exact kbR _ _ (by simp)
 rintro w1 ⟨hc,hb⟩
 have p0:=kbB hb 0
 have p1:=kbB hb 1
 simp only [zF,zD,zE] at p0 p1
 refine bodyPost_ret (v:=.agg #[.int .i64 d,.bool b]) (by simp [results,Try.results43,go_sem,p0,p1]) rfl ?_
 exact ⟨rfl,hc⟩
def GrowPost (ord:List Int) (d:Int) (w:World) (l:List (It ord)) (e:Ending) (w':World):Prop :=
 ∃(k:Kc ord) (t:Nat) (F:Nat→Prop),e=.returned (.pointer (some ⟨t,0,none⟩))∧MapIn k (mnD d) (mxD d) w' F t (growL l)∧Chg (fun _ _=>False) w w'∧(∀b,F b→w.heap.size≤b)∧(∀b,MOwn k t b→w.heap.size≤b)
theorem grow_big (v:Value) (d:Int) (nl:Bool) (p:Option Addr) (cap:Nat) (l:List (It ord)) (w:World) (hd:FitD d) (hs:SlE intE w v ord) (hol:ord.length≤2147483647) (hl:ItemsAt w p l) (hlen:l.length≤8589934592) :
  Calls Try.prog 24 #[.agg #[v,.int .i64 d,.bool nl],.slice p l.length cap] w (GrowPost ord d w l):=by
 have hv:∃a n c,v=.slice a n c:=by
  obtain ⟨a,c,e,_⟩:=hs
  exact ⟨_,_,_,e⟩
 have HS:=zL hs
 have HL:=zL hl
 have HOP:=zL (fun w1=>options_any v d nl w1 hv)
 have hbf:=fun w1 (c:Chg (fun _ _=>False) w w1)=>before_any' v w1 (HS.out.chg c) hol
 have HBF:=zL hbf
 obtain ⟨a,n,c,rfl⟩:=hv
 have hdim:=hd.dims
 clear hs hl hbf
 go_enter Try.func24,Try.ntmps24
 go_wp2_with fail
 refine kbD (fun w1=>Chg (fun _ _=>False) w w1∧w1.heap[w.heap.size]?=some (.cells #[.slice a n c,.int .i64 d,.bool nl] 24 (0,0))) ⟨(zK _ _).alloc _,kbR _ _ rfl⟩ ?_
 rintro w1 ⟨hc1,hb1⟩
 have q0:=kbB hb1 0
 have q1:=kbB hb1 1
 have q2:=kbB hb1 2
 simp only [zF,zD,zE] at q0 q1 q2
 have hsz1:=hc1.size
 clear hb1
 refine kbH (fun w'=>w'.cell? ⟨w.heap.size,0,none⟩=some (.slice a n c)∧w'.cell? ⟨w.heap.size,1,none⟩=some (.int .i64 d)∧w'.cell? ⟨w.heap.size,2,none⟩=some (.bool nl)) (.soft 0 (.soft 1 (.soft 3 (.hard 2 (.hard 4 (.hard 5 (.soft 6 .nil))))))) (by kernel_rfl) (by kernel_rfl) (fun _ _ _ _ _ h=>h) ⟨q0,q1,q2⟩ ?_
 repeat
  first
  | (refine scr_soft (by rfl) ?_ ?_ ?_ ?_
     rotate_left
     ·simp [zI,yielded];done
     ·intro w' hS
      try obtain ⟨a1,a2,a3⟩:=hS
      go_simp
      try with_reducible rfl
     simp only [zJ,zA,zB,zC])
  | (refine scr_skip (by rfl) ?_ ?_
     ·simp [zI,yielded];done
     simp only [zJ,zA,zB,zC])
 refine kbY (by rfl) (by simp [zI,yielded]) (fun K hK=>?_)
 go_simp
 refine (HBF.out _ hc1.drew).mono ?_
 rintro e w2 ⟨ob,rb,rfl,hc2,hob,hrb,hord⟩
 refine hK _ _ ⟨hc2.q q0,hc2.q q1,hc2.q q2⟩ ?_
 clear hK K
 repeat
  first
  | (refine scr_soft (by rfl) ?_ ?_ ?_ ?_
     rotate_left
     ·simp [zI,yielded];done
     ·intro w' hS
      try obtain ⟨a1,a2,a3⟩:=hS
      go_simp
      try with_reducible rfl
     simp only [zJ,zA,zB,zC])
  | (refine scr_skip (by rfl) ?_ ?_
     ·simp [zI,yielded];done
     simp only [zJ,zA,zB,zC])
 refine kbY (by rfl) (by simp [zI,yielded]) (fun K hK=>?_)
 go_simp
 refine (HOP.out w2).mono ?_
 rintro e w3 ⟨rfl,hc3⟩
 have hc13:=hc2.trans hc3
 refine hK _ _ ⟨hc13.q q0,hc13.q q1,hc13.q q2⟩ ?_
 clear hK K
 repeat
  first
  | (refine scr_soft (by rfl) ?_ ?_ ?_ ?_
     rotate_left
     ·simp [zI,yielded];done
     ·intro w' hS
      try obtain ⟨a1,a2,a3⟩:=hS
      go_simp
      try with_reducible rfl
     simp only [zJ,zA,zB,zC])
  | (refine scr_skip (by rfl) ?_ ?_
     ·simp [zI,yielded];done
     simp only [zJ,zA,zB,zC])
 refine kbY (by rfl) (by simp [zI,yielded]) (fun K hK=>?_)
 go_simp
 refine (new_any (⟨0,0,ob,rb⟩:Kc ord) d nl w3 hd ((hord 0 0).chg hc3 (fun _ h=>h) (fun _ h=>h))).mono ?_
 rintro e w4 ⟨rfl,hc4,hB4⟩
 have hc14:=hc13.trans hc4
 refine hK _ _ ⟨hc14.q q0,hc14.q q1,hc14.q q2⟩ ?_
 clear hK K
 repeat
  first
  | (refine scr_soft (by rfl) ?_ ?_ ?_ ?_
     rotate_left
     ·simp [zI,yielded];done
     ·intro w' hS
      try obtain ⟨a1,a2,a3⟩:=hS
      go_simp
      try with_reducible rfl
     simp only [zJ,zA,zB,zC])
  | (refine scr_skip (by rfl) ?_ ?_
     ·simp [zI,yielded];done
     simp only [zJ,zA,zB,zC])
 refine kcJ ?_
 have hsz3:=hc13.size
 have hszd:w1.drew.heap.size=w1.heap.size:=rfl
 obtain ⟨t,ht⟩:∃t,t=w3.heap.size+1:=⟨_,rfl⟩
 obtain ⟨kk,hkk⟩:∃kk:Kc ord,kk=⟨1,w3.heap.size+2,ob,rb⟩:=⟨_,rfl⟩
 rw [←ht,←hkk] at hB4
 rw [←ht]
 have hown:∀b,MOwn kk t b→w.heap.size≤b:=by
  rw [hkk]
  rintro b (h | h | h)
  ·omega
  ·have h2:b=ob:=h;omega
  ·have h2:b=rb:=h;omega
 have hc04:Chg (fun _ _=>False) w w4:=(hc1.trans (zK _ _).drew).trans hc14
 clear ht hkk hord hc4 hc13 hc14 hc2 hc3 q0 q1 q2 HBF HOP HS hob hrb
 go_wp2_with fail
 go_loopw [16] (fun i wr=>∃(j:Nat) (F:Nat→Prop),j≤l.length∧i=.int .i64 j∧MapIn kk (mnD d) (mxD d) wr F t (growL (l.take j))∧Chg (fun _ _=>False) w wr∧(∀b,F b→w.heap.size≤b)) (fun i _=>l.length - (intOf i).toNat)
 case atStart=>exact ⟨0,fun _=>False,Nat.zero_le _,rfl,.inl ⟨rfl,fun _ h=>h,hB4⟩,hc04,fun _ h=>h.elim⟩
 case round =>
  obtain ⟨j,F,hj,rfl,hM,hc,hF⟩:=hrel
  have hsz:=hc.size
  by_cases hlt:j < l.length
  ·obtain ⟨x,hx⟩:∃x,l[j]?=some x:=⟨_,List.getElem?_eq_getElem hlt⟩
   rcases HL.out.chg hc with hl0 | ⟨b,o,rfl,hcell⟩
   ·subst hl0;simp at hlt
   obtain ⟨g0,g1⟩:=hcell j x hx
   have i0:(0:Int)≤(j:Int):=by omega
   have i1:(j:Int) < (l.length:Int):=by omega
   have hgl:=growL_take_len l j
   have hgt:=growL_take hx
   have htl:=hown t MOwn.self
   clear hcell hx
   have hs1:=Set_any (hM.chg ((zK (fun _ _=>False) wr).alloc (.cells #[.int .i64 x.1,.int .i64 x.2] 27))) x (by omega) hdim.1 hdim.2.1 hdim.2.2.1 hdim.2.2.2.1 hdim.2.2.2.2
   unfold aggM at hs1
   have HS1:=zL hs1
   clear hs1
   go_wp2_with fail
   refine HS1.out.mono ?_
   rintro e w2 ⟨hret,F',hM2,hc2,hF2⟩
   have hc02:Chg (fun _ _=>False) w w2:=(hc.trans ((zK (fun _ _=>False) wr).alloc _)).trans' hc2 (fun _ _ _ h=>h) (fun b o hb h=>by
    rcases h with h | h
    ·have:=hF b h;omega
    ·omega)
   have hF2':∀b,F' b→w.heap.size≤b:=fun b hb=>by
    rcases hF2 b hb with h | h
    ·exact hF b h
    ·have h2:wr.heap.size≤(wr.alloc (.cells #[.int .i64 x.1,.int .i64 x.2] 27)).heap.size:=(((zK (fun _ _=>False) wr).alloc _)).size
     omega
   rcases hret with ⟨y,_,rfl⟩ | ⟨_,rfl⟩
   all_goals
    go_wp2_with fail
    go_roundw
    case rel=>exact ⟨j+1,F',by omega,by go_num,by rw [hgt];exact hM2,hc02,hF2'⟩
    case measure=>simp [intOf];omega
  ·obtain rfl:j=l.length:=by omega
   go_wp2_with fail
   go_ret
   exact ⟨kk,t,F,rfl,by rw [List.take_length] at hM;exact hM,hc,hF,hown⟩
theorem grow_any (v:Value) (d:Int) (nl:Bool) (p:Option Addr) (cap:Nat) (l:List (It ord)) (w:World) (hd:FitD d) (hs:SlE intE w v ord) (hol:ord.length≤2147483647) (hl:ItemsAt w p l) (hlen:l.length≤2147483647) :
  Calls Try.prog 24 #[.agg #[v,.int .i64 d,.bool nl],.slice p l.length cap] w (GrowPost ord d w l) :=
 grow_big v d nl p cap l w hd hs hol hl (by omega)
end
end Go.Proofs.Ytnohimhihombmaa
