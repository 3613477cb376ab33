/- Trees: an item replaced, a leaf grown, a node parted. -/
import Derived.WalkKit
import Derived.WalkSpells
import Derived.Lib.Hide
import Derived.Deep.Draws
import Derived.Laws.CopyRow
import Derived.Laws.CopyOwn
namespace Go.Proofs.Ytnohimhihombmaa
set_option linter.unusedSimpArgs false
set_option linter.unusedVariables false
set_option maxRecDepth 100000
set_option maxHeartbeats 40000000
open Value renaming int → Ii, pointer → Ip, slice → Is, tuple → Iu
open IntKind renaming i64 → Ij
open Obj renaming cells → Ic
open Ending renaming returned → Ir
open Option.some renaming inj → Iq
open List renaming getElem?_eq_some_iff → zG, getElem?_eq_getElem → zH, mem_append → zO, mem_cons_self → zP, mem_cons_of_mem → zQ, mem_cons → zR, length_append → zT, length_map → zU, length_set → zW, pairwise_append → zZ, drop_succ_cons → za, getElem?_append_left → zn, getElem?_append_right → zo, getElem?_take_of_lt → zq, append_assoc → zu, map_append → zv, take_append_drop → zw, mem_singleton → zy, mem_flatMap → zzb, nodup_cons → zzc, nodup_append → zzd
open Nat renaming le_refl → zi, lt_of_lt_of_le → zk
section
open Go.RowKit
structure Chg (A:Nat→Nat→Prop) (w w':World):Prop where
 os:w'.os=w.os
 tape:w'.tape=w.tape
 output:w'.output=w.output
 size:w.heap.size≤w'.heap.size
 cells:∀b c T fr,w.heap[b]?=some (.cells c T fr)→∃c',w'.heap[b]?=some (.cells c' T fr)∧c'.size=c.size∧∀o,¬A b o→c'[o]?=c[o]?
 other:∀b,b < w.heap.size→(∀c T fr,w.heap[b]?≠some (.cells c T fr))→w'.heap[b]?=w.heap[b]?
variable {w:World}
theorem kbF {b:Nat} {o:Obj} (h:w.heap[b]?=some o):b < w.heap.size:=(Array.getElem?_eq_some_iff.1 h).1
theorem Chg.refl (A:Nat→Nat→Prop) (w:World):Chg A w w:=⟨rfl,rfl,rfl,zi _,fun _ c _ _ h=>⟨c,h,rfl,fun _ _=>rfl⟩,fun _ _ _=>rfl⟩
theorem Chg.trans' {A A' B:Nat→Nat→Prop} {w w1 w2:World} (h:Chg A w w1) (k:Chg A' w1 w2)
  (ha:∀b o,b < w.heap.size→A b o→B b o) (hb:∀b o,b < w.heap.size→A' b o→B b o):Chg B w w2:=by
 refine ⟨k.os.trans h.os,k.tape.trans h.tape,k.output.trans h.output,Nat.le_trans h.size k.size,?_,?_⟩
 ·intro b c T fr hc
  have hlt:=kbF hc
  obtain ⟨c1,h1,s1,e1⟩:=h.cells b c T fr hc
  obtain ⟨c2,h2,s2,e2⟩:=k.cells b c1 T fr h1
  exact ⟨c2,h2,s2.trans s1,fun o ho=>(e2 o (fun x=>ho (hb b o hlt x))).trans (e1 o (fun x=>ho (ha b o hlt x)))⟩
 ·intro b hlt hn
  have h1:=h.other b hlt hn
  rw [←h1]
  refine k.other b (zk hlt h.size) ?_
  intro c T fr hc
  rw [h1] at hc
  exact hn c T fr hc
variable {A:Nat→Nat→Prop}
theorem Chg.trans {w w1 w2:World} (h:Chg A w w1) (k:Chg A w1 w2):Chg A w w2:=h.trans' k (fun _ _ _ x=>x) (fun _ _ _ x=>x)
theorem Chg.mono {A B:Nat→Nat→Prop} {w w1:World} (h:Chg A w w1) (hab:∀b o,b < w.heap.size→A b o→B b o):Chg B w w1 :=
 h.trans' (Chg.refl B w1) hab (fun _ _ _ x=>x)
theorem Chg.drewN {w w1:World} (h:Chg A w w1) (n:Nat):Chg A w (w1.drewN n):=⟨h.os,h.tape,h.output,h.size,h.cells,h.other⟩
theorem Chg.drew {w w1:World} (h:Chg A w w1):Chg A w w1.drew:=⟨h.os,h.tape,h.output,h.size,h.cells,h.other⟩
theorem Chg.alloc {w w1:World} (h:Chg A w w1) (o:Obj):Chg A w (w1.alloc o):=by
 refine h.trans ⟨rfl,rfl,rfl,by simp,?_,?_⟩
 ·intro b c T fr hc
  exact ⟨c,by rw [Below.heap_alloc w1 o b (kbF hc)];exact hc,rfl,fun _ _=>rfl⟩
 ·intro b hlt _
  exact Below.heap_alloc w1 o b hlt
variable {a:Addr}
theorem Chg.setCell {w w1:World} (h:Chg A w w1) (ha:A a.block a.off∨w.heap.size≤a.block) (v:Value):Chg A w (w1.setCell a v):=by
 refine h.trans' (A':=fun b o=>b=a.block∧o=a.off) ⟨rfl,rfl,rfl,by simp,?_,?_⟩ (fun _ _ _ x=>x) ?_
 ·intro b c T fr hc
  by_cases hb:b=a.block
  ·subst hb
   refine ⟨if a.spot.isSome then c else c.setIfInBounds a.off v,?_,?_,?_⟩
   ·simp [World.setCell,Array.getElem?_modify,hc]
   ·split<;>simp
   ·intro o ho
    have:o≠a.off:=fun h=>ho ⟨rfl,h⟩
    split
    ·rfl
    ·exact Array.getElem?_setIfInBounds_ne (Ne.symm this)
  ·exact ⟨c,by rw [Below.heap_setCell w1 a v b hb];exact hc,rfl,fun _ _=>rfl⟩
 ·intro b hlt hn
  by_cases hb:b=a.block
  ·subst hb
   cases hq:w1.heap[a.block]? with
   | none=>simp [World.setCell,Array.getElem?_modify,hq]
   | some q =>
    cases q with
    | cells c T fr=>exact absurd hq (hn c T fr)
    | _=>simp [World.setCell,Array.getElem?_modify,hq]
  ·exact Below.heap_setCell w1 a v b hb
 ·rintro b o hlt ⟨rfl,rfl⟩
  rcases ha with ha | ha
  ·exact ha
  ·omega
theorem Chg.block {w w':World} (h:Chg A w w') {b:Nat} (hb:b < w.heap.size) (hA:∀o,¬A b o):w'.heap[b]?=w.heap[b]?:=by
 cases hq:w.heap[b]? with
 | none=>exact absurd hb (by simpa using hq)
 | some q =>
  cases q with
  | cells c T fr =>
   obtain ⟨c',h1,h2,h3⟩:=h.cells b c T fr hq
   rw [h1]
   have:c'=c:=Array.ext_getElem? fun i=>h3 i (hA i)
   rw [this]
  | _=>rw [←hq];exact h.other b hb (by rw [hq];simp)
theorem Chg.below {w w':World} {B:Nat} (h:Chg A w w') (hB:B≤w.heap.size) (hA:∀b o,b < B→¬A b o):Below B w w' :=
 ⟨h.os,h.tape,h.output,h.size,fun k hk=>h.block (zk hk hB) (fun o=>hA k o hk)⟩
theorem i3 {p A:Nat→Nat→Prop} (b o:Nat) (_:p b o) (h:A b o):A b o:=h
variable {v:Value}
theorem Chg.cell {w w':World} (h:Chg A w w') (hA:¬A a.block a.off) (hv:w.cell? a=some v):w'.cell? a=some v:=by
 unfold World.cell? at hv ⊢
 cases hq:w.heap[a.block]? with
 | none=>simp [hq] at hv
 | some q =>
  cases q with
  | cells c T fr =>
   obtain ⟨c',h1,h2,h3⟩:=h.cells _ c T fr hq
   simp only [hq] at hv
   simp only [h1]
   split at hv
   ·exact absurd hv (by simp)
   ·rename_i hs
    simp only [hs]
    rw [if_neg (by simp)]
    rw [h3 _ hA];exact hv
  | _=>simp [hq] at hv
theorem Chg.q {w w':World} (c:Chg (fun _ _=>False) w w') (h:w.cell? a=some v):w'.cell? a=some v:=c.cell (fun h=>h) h
theorem Chg.frozen {w w':World} (h:Chg A w w') (hb:a.block < w.heap.size):w'.frozen? a=w.frozen? a:=by
 unfold World.frozen?
 cases hq:w.heap[a.block]? with
 | none=>exact absurd hb (by simpa using hq)
 | some q =>
  cases q with
  | cells c T fr =>
   obtain ⟨c',h1,h2,h3⟩:=h.cells _ c T fr hq
   simp only [h1]
  | _=>rw [h.other _ hb (by rw [hq];simp),hq]
def RowAt (w:World) (T b o m:Nat) (xs:List Value):Prop :=
 xs.length≤m∧∃c:Array Value,w.heap[b]?=some (.cells c T (0,0))∧o+m≤c.size∧∀j,j < xs.length→c[o+j]?=xs[j]?
variable {xs:List Value} {T b o m:Nat}
theorem RowAt.lt (h:RowAt w T b o m xs):b < w.heap.size:=by
 obtain ⟨_,c,h1,_⟩:=h
 exact kbF h1
theorem RowAt.cell (h:RowAt w T b o m xs) {j:Nat} (hj:xs[j]?=some v):w.cell? ⟨b,o+j,none⟩=some v:=by
 obtain ⟨_,c,h1,h2,h3⟩:=h
 have hlt:=(zG.1 hj).1
 simp [World.cell?,h1,h3 j hlt,hj]
theorem RowAt.there (h:RowAt w T b o m xs) {j:Nat} (hj:j < m):∃v,w.cell? ⟨b,o+j,none⟩=some v:=by
 obtain ⟨_,c,h1,h2,h3⟩:=h
 exact ⟨c[o+j]'(by omega),by simp [World.cell?,h1]⟩
theorem RowAt.frozen (h:RowAt w T b o m xs) (j:Nat):w.frozen? ⟨b,j,none⟩=false:=by
 obtain ⟨_,c,h1,h2,h3⟩:=h
 simp [World.frozen?,h1]
theorem RowAt.chg {w w':World} (h:RowAt w T b o m xs) (k:Chg A w w') (hA:∀j,j < xs.length→¬A b (o+j)):RowAt w' T b o m xs:=by
 obtain ⟨h0,c,h1,h2,h3⟩:=h
 obtain ⟨c',k1,k2,k3⟩:=k.cells b c T (0,0) h1
 exact ⟨h0,c',k1,by omega,fun j hj=>by rw [k3 _ (hA j hj)];exact h3 j hj⟩
theorem RowAt.part (h:RowAt w T b o m xs) (i n m':Nat) (hn:i+n≤xs.length) (hm:n≤m') (hm':i+m'≤m) :
  RowAt w T b (o+i) m' ((xs.drop i).take n):=by
 obtain ⟨h0,c,h1,h2,h3⟩:=h
 have hl:((xs.drop i).take n).length=n:=by simp;omega
 refine ⟨by omega,c,h1,by omega,fun j hj=>?_⟩
 rw [show o+i+j=o+(i+j) by omega,h3 (i+j) (by omega)]
 rw [zq (by omega),List.getElem?_drop]
theorem RowAt.setCell (h:RowAt w T b o m xs) (j:Nat) (v:Value):RowAt (w.setCell ⟨b,o+j,none⟩ v) T b o m (xs.set j v):=by
 obtain ⟨h0,c,h1,h2,h3⟩:=h
 refine ⟨by simpa using h0,c.setIfInBounds (o+j) v,?_,by simpa using h2,fun i hi=>?_⟩
 ·simp [World.setCell,Array.getElem?_modify,h1]
 ·have hi':i < xs.length:=by simpa using hi
  by_cases hij:j=i
  ·subst hij
   rw [Array.getElem?_setIfInBounds_self_of_lt (by omega),List.getElem?_set_self hi']
  ·rw [Array.getElem?_setIfInBounds_ne (by omega),List.getElem?_set_ne hij]
   exact h3 i hi'
theorem RowAt.drew (h:RowAt w T b o m xs):RowAt w.drew T b o m xs:=h
theorem RowAt.alloc (h:RowAt w T b o m xs) (ob:Obj):RowAt (w.alloc ob) T b o m xs :=
 h.chg ((Chg.refl (fun _ _=>False) w).alloc ob) (by simp)
theorem RowAt.of_block {T b o:Nat} {c:Array Value} (h:w.heap[b]?=some (.cells c T (0,0))) (m:Nat) (xs:List Value) (h0:xs.length≤m) (h1:o+m≤c.size) (h2:∀j,j < xs.length→c[o+j]?=xs[j]?):RowAt w T b o m xs :=
 ⟨h0,c,h,h1,h2⟩
end
section
open Go.RowKit
def putCells (w:World) (b o:Nat) (cs:List Value):World :=
 match w.heap[b]? with
 | some (.cells c _ _)=>w.setRow b (c.toList.take o++cs++c.toList.drop (o+cs.length)).toArray
 | _=>w
theorem putCells_heap {w:World} {b o:Nat} {cs:List Value} {c:Array Value} {T:TypeId} {fr:Nat×Nat} (h:w.heap[b]?=some (.cells c T fr)) :
  (putCells w b o cs).heap[b]?=some (.cells (c.toList.take o++cs++c.toList.drop (o+cs.length)).toArray T fr):=by
 simp only [putCells,h]
 exact setRow_heap w b c _ T fr h
theorem splice_get {l cs:List Value} {o i:Nat} (h:o+cs.length≤l.length) :
  (l.take o++cs++l.drop (o+cs.length))[i]?=if o≤i∧i < o+cs.length then cs[i - o]? else l[i]?:=by
 have hl:(l.take o).length=o:=by simp;omega
 split
 ·rename_i hi
  rw [zu,zo (by omega),hl,zn (by omega)]
 ·rename_i hi
  rcases Nat.lt_or_ge i o with h1 | h1
  ·rw [zu,zn (by omega),zq h1]
  ·rw [zo (by simp;omega),List.getElem?_drop]
   congr 1
   simp only [zT,hl]
   omega
theorem kdW {A:Nat→Nat→Prop} {w0 w:World} (h:Chg A w0 w) {b o:Nat} {cs:List Value} {c:Array Value} {T:TypeId} {fr:Nat×Nat} (hb:w.heap[b]?=some (.cells c T fr))
  (hfit:o+cs.length≤c.size) (hA:(∀i,o≤i→i < o+cs.length→A b i)∨w0.heap.size≤b):Chg A w0 (putCells w b o cs):=by
 refine h.trans' (A':=fun b' i=>b'=b∧o≤i∧i < o+cs.length) ?_ (fun _ _ _ x=>x) ?_
 ·refine ⟨by simp only [putCells,hb];rfl,by simp only [putCells,hb];rfl,by simp only [putCells,hb];rfl,by simp only [putCells,hb];simp,?_,?_⟩
  ·intro b' c' T' fr' hc
   by_cases hbb:b'=b
   ·subst hbb
    rw [hb] at hc
    obtain ⟨rfl,rfl,rfl⟩:c=c'∧T=T'∧fr=fr':=by simpa using hc
    refine ⟨_,putCells_heap hb,?_,?_⟩
    ·simp;omega
    ·intro i hi
     have:=splice_get (l:=c.toList) (cs:=cs) (o:=o) (i:=i) (by simpa using hfit)
     rw [if_neg (fun x=>hi ⟨rfl,x.1,x.2⟩)] at this
     simpa using this
   ·refine ⟨c',?_,rfl,fun _ _=>rfl⟩
    simp only [putCells,hb]
    rw [setRow_other w b b' _ hbb];exact hc
  ·intro b' _ hn
   have hbb:b'≠b:=fun e=>hn c T fr (e▸hb)
   simp only [putCells,hb]
   exact setRow_other w b b' _ hbb
 ·rintro b' i hlt ⟨rfl,h1,h2⟩
  rcases hA with hA | hA
  ·exact hA i h1 h2
  ·omega
theorem RowAt.putCells {w:World} {T b o m:Nat} {xs:List Value} (h:RowAt w T b o m xs) (i:Nat) (cs:List Value) (hi:i≤xs.length) (hm:i+cs.length≤m) :
  RowAt (putCells w b (o+i) cs) T b o m (xs.take i++cs++xs.drop (i+cs.length)):=by
 obtain ⟨h0,c,h1,h2,h3⟩:=h
 refine ⟨by simp;omega,_,putCells_heap h1,by simp;omega,fun j hj=>?_⟩
 have e:=splice_get (l:=c.toList) (cs:=cs) (o:=o+i) (i:=o+j) (by simp;omega)
 have hl:(xs.take i).length=i:=by simp;omega
 have e':(xs.take i++cs++xs.drop (i+cs.length))[j]?=if i≤j∧j < i+cs.length then cs[j - i]? else xs[j]?:=by
  split
  ·rw [zu,zo (by omega),hl,zn (by omega)]
  ·rcases Nat.lt_or_ge j i with h1 | h1
   ·rw [zu,zn (by omega),zq h1]
   ·rw [zo (by simp;omega),List.getElem?_drop]
    congr 1
    simp only [zT,hl]
    omega
 rw [e',List.getElem?_toArray,e]
 by_cases hc:i≤j∧j < i+cs.length
 ·rw [if_pos hc,if_pos (by omega)]
  congr 1;omega
 ·rw [if_neg hc,if_neg (by omega)]
  simp only [Array.getElem?_toList]
  refine h3 j ?_
  rw [zT,zT,hl] at hj
  simp at hj
  omega
theorem kdS (b o j:Nat):({ block:=b,off:=o,spot:=none }:Addr).add j=⟨b,o+j,none⟩:=by
 unfold Addr.add;split<;>simp_all
theorem RowAt.adds {w:World} {T b o m:Nat} {xs:List Value} (h:RowAt w T b o m xs):∀j v,xs[j]?=some v→w.cell? (({ block:=b,off:=o,spot:=none }:Addr).add j)=some v:=by
 intro j v hj
 rw [kdS];exact h.cell hj
section
variable {P:Program}
structure Appd (e size:Nat) (w:World) (b o len cap:Nat) (xs news:List Value) (m:Nat) (b' o' cap':Nat) (w':World):Prop where
 row:RowAt w' e b' o' (cap' * size) (xs++news)
 chg:Chg (fun B O=>B=b∧o+len * size≤O∧O < o+cap * size) w w'
 room:len+m≤cap'
 place:(b'=b∧o'=o∧cap'=cap)∨(w.heap.size≤b'∧o'=0∧cap < len+m∧cap'≤maxLen)
theorem kfH (w:World) (t ty e:TypeId) (i:TypeInfo) (z:Value) (size bytes:Nat) (ht:P.underlying t=some (.slice e)) (hi:P.info? e=some i) (hz:i.zero=some z)
  (hsize:i.size=size) (hby:i.bytes=bytes) (hzs:z.cells.size=size)
  (b o len cap:Nat) (xs:List Value) (hrow:RowAt w e b o (cap * size) xs) (hxs:xs.length=len * size)
  (ad:Addr) (m c:Nat) (news:List Value) (hl:news.length=m * size) (hnews:∀j u,news[j]?=some u→w.cell? (ad.add j)=some u) (h1:∀u∈news,u.oneCell'=true)
  (h63:len+m≤maxLen) (hbytes:(len+m) * bytes≤140737488355328) :
  ∃b' o' cap' w',(Builtin.append_ #[t,t] ty #[Is (some ⟨b,o,none⟩) len cap,Is (some ad) m c]).run P w=.ok (Is (some ⟨b',o',none⟩) (len+m) cap') w'∧Appd e size w b o len cap xs news m b' o' cap' w':=by
 subst hsize
 subst hby
 have hsmall:len+m≤9223372036854775807:=by simp only [maxLen] at h63;omega
 have hrow':=hrow
 obtain ⟨h0,cc,hg,hfit,hcs⟩:=hrow
 by_cases hroom:len+m≤cap
 ·have hmul:(len+m) * i.size≤cap * i.size:=Nat.mul_le_mul_right _ hroom
  rw [Nat.add_mul] at hmul
  refine ⟨b,o,cap,Ytnohimhihombmaa.putCells w b (o+len * i.size) news,?_,?_,?_,hroom,.inl ⟨rfl,rfl,rfl⟩⟩
  ·have hf:=run_firstCells_some (P:=P) w i.size m ad m c news hl hnews
   have hst:=run_storeCells_at P b (o+len * i.size) e news 0 cc w hg (by omega) h1
   simp only [Nat.add_zero] at hst
   simp only [Ytnohimhihombmaa.putCells,hg]
   simp [Builtin.append_,run_underlying ht,sizeOf,typeInfo,hi,Builtin.lenOf,hroom,hf,kdS,hst]
  ·have:=hrow'.putCells (len * i.size) news (by omega) (by omega)
   have e1:xs.take (len * i.size)=xs:=List.take_of_length_le (by omega)
   have e2:xs.drop (len * i.size+news.length)=[]:=List.drop_of_length_le (by omega)
   rw [e1,e2,List.append_nil] at this
   exact this
  ·refine kdW (Chg.refl _ _) hg (by omega) (.inl fun k h1 h2=>⟨rfl,h1,by omega⟩)
 ·have hr:=run_append_grow (P:=P) w t ty e i z ht hi hz ⟨b,o,none⟩ len cap xs hxs hrow'.adds ad m c news hl hnews (by omega) (by omega) (growslice_fits (by omega) hbytes)
  have hge:=grownCap_ge w (len+m) cap e
  have hcm:grownCap w (len+m) cap e≤maxLen:=grownCap_le_maxLen w (len+m) cap e h63
  refine ⟨_,_,_,_,hr,?_,((Chg.refl _ _).drew).alloc _,hge,.inr ⟨zi _,rfl,by omega,hcm⟩⟩
  have hs:(xs.toArray++news.toArray++Builtin.zeroCells z.cells (grownCap w (len+m) cap e - (len+m))).size=grownCap w (len+m) cap e * i.size:=by
   simp only [Array.size_append,List.size_toArray,size_zeroCells,hzs,hxs,hl,←Nat.add_mul]
   congr 1
   omega
  refine RowAt.of_block (heap_alloc_new w.drew _) _ _ ?_ ?_ ?_
  ·rw [zT,hxs,hl,←Nat.add_mul]
   exact Nat.mul_le_mul_right _ hge
  ·omega
  ·intro j hj
   rw [Nat.zero_add,Array.getElem?_append_left (by simpa using hj)]
   simp
variable {Q:Exit→Act→World→Prop} {o':Oper} {w:World} {a:Act}
theorem kcC {K:Act→World→Prop} (s x:Operand) (t:TypeId)
  (ho:o'.op=.call { callee:=.builtin .append,args:=#[s,x],argTypes:=#[t,t] })
  (e:TypeId) (i:TypeInfo) (z:Value) (size bytes:Nat) (ht:P.underlying t=some (.slice e)) (hi:P.info? e=some i) (hz:i.zero=some z)
  (hsize:i.size=size) (hby:i.bytes=bytes) (hzs:z.cells.size=size)
  (b o len cap:Nat) (hs:a.eval s=Is (some ⟨b,o,none⟩) len cap) (xs:List Value) (hrow:RowAt w e b o (cap * size) xs) (hxs:xs.length=len * size)
  (ad:Addr) (m c:Nat) (hx:a.eval x=Is (some ad) m c) (news:List Value) (hl:news.length=m * size) (hnews:∀j u,news[j]?=some u→w.cell? (ad.add j)=some u) (h1:∀u∈news,u.oneCell'=true)
  (h63:len+m≤maxLen) (hbytes:(len+m) * bytes≤140737488355328)
  (h:∀b' o1 cap' w',Appd e size w b o len cap xs news m b' o1 cap' w'→K (a.put o'.dst (Is (some ⟨b',o1,none⟩) (len+m) cap')) w'):o'.wp P a w K Q:=by
 obtain ⟨b',o1,cap',w',hr,h2⟩:=kfH (P:=P) w t o'.type e i z size bytes ht hi hz hsize hby hzs b o len cap xs hrow hxs ad m c news hl hnews h1 h63 hbytes
 unfold Oper.wp execOp
 simp only [ho,resolve,invoke,builtin,Sem.run_bind,Sem.run_pure,Result.andThen_ok,List.map_toArray,List.map_cons,List.map_nil,hs,hx,hr]
 exact h b' o1 cap' w' h2
theorem run_copy_row (w:World) (dT sT ty elem:TypeId) (size:Nat) (hu:P.underlying dT=some (.slice elem)) (hsz:(P.info? elem).map (·.size)=some size)
  (b o dl dc:Nat) (sp:Addr) (sl sc:Nat) (cs:List Value) (hn:cs.length=Nat.min sl dl * size) (hsrc:∀j v,cs[j]?=some v→w.cell? (sp.add j)=some v)
  (c:Array Value) (T:TypeId) (hg:w.heap[b]?=some (.cells c T (0,0))) (hfit:o+cs.length≤c.size) (h1:∀u∈cs,u.oneCell'=true) :
  (Builtin.copy_ #[dT,sT] ty #[Is (some ⟨b,o,none⟩) dl dc,Is (some sp) sl sc]).run P w=.ok (goInt (Nat.min sl dl)) (putCells w b o cs):=by
 obtain ⟨i,hi,hs⟩:∃i,P.info? elem=some i∧i.size=size:=by
  cases h:P.info? elem with
  | none=>simp [h] at hsz
  | some i=>exact ⟨i,rfl,by simpa [h] using hsz⟩
 subst hs
 have hf:=run_firstCells_some (P:=P) w i.size (Nat.min sl dl) sp sl sc cs hn hsrc
 have hst:=run_storeCells_at P b o T cs 0 c w hg (by omega) h1
 simp only [Nat.add_zero] at hst
 simp only [putCells,hg]
 simp [Builtin.copy_,run_underlying hu,sizeOf,typeInfo,hi,Builtin.lenOf,hf,hst]
theorem wp_copy_row {K:Act→World→Prop} (d s:Operand) (dT sT:TypeId)
  (ho:o'.op=.call { callee:=.builtin .copy,args:=#[d,s],argTypes:=#[dT,sT] }) (elem:TypeId) (size:Nat) (hu:P.underlying dT=some (.slice elem)) (hsz:(P.info? elem).map (·.size)=some size)
  (b o dl dc:Nat) (hd:a.eval d=Is (some ⟨b,o,none⟩) dl dc) (sp:Addr) (sl sc:Nat) (hs:a.eval s=Is (some sp) sl sc)
  (cs:List Value) (hn:cs.length=Nat.min sl dl * size) (hsrc:∀j v,cs[j]?=some v→w.cell? (sp.add j)=some v)
  (c:Array Value) (T:TypeId) (hg:w.heap[b]?=some (.cells c T (0,0))) (hfit:o+cs.length≤c.size) (h1:∀u∈cs,u.oneCell'=true)
  (h:K (a.put o'.dst (goInt (Nat.min sl dl))) (putCells w b o cs)):o'.wp P a w K Q:=by
 have hr:=run_copy_row (P:=P) w dT sT o'.type elem size hu hsz b o dl dc sp sl sc cs hn hsrc c T hg hfit h1
 unfold Oper.wp execOp
 simp only [ho,resolve,invoke,builtin,Sem.run_bind,Sem.run_pure,Result.andThen_ok,List.map_toArray,List.map_cons,List.map_nil,hd,hs,hr]
 exact h
theorem kfP {ops:Array Oper} {rest:List Oper} (hgd:o'.guard=none) (d s:Operand) (dT sT:TypeId)
  (ho:o'.op=.call { callee:=.builtin .copy,args:=#[d,s],argTypes:=#[dT,sT] }) (elem:TypeId) (size:Nat) (hu:P.underlying dT=some (.slice elem)) (hsz:(P.info? elem).map (·.size)=some size)
  (b o dl dc:Nat) (hd:a.eval d=Is (some ⟨b,o,none⟩) dl dc) (sp:Addr) (sl sc:Nat) (hs:a.eval s=Is (some sp) sl sc)
  (cs:List Value) (hn:cs.length=Nat.min sl dl * size) (hsrc:∀j v,cs[j]?=some v→w.cell? (sp.add j)=some v)
  (c:Array Value) (T:TypeId) (hg:w.heap[b]?=some (.cells c T (0,0))) (hfit:o+cs.length≤c.size) (h1:∀u∈cs,u.oneCell'=true)
  (h:wpList P ops Q rest (a.put o'.dst (goInt (Nat.min sl dl))) (putCells w b o cs)):wpList P ops Q (o'::rest) a w :=
 wpList_plain hgd fun _ hK=>wp_copy_row d s dT sT ho elem size hu hsz b o dl dc hd sp sl sc hs cs hn hsrc c T hg hfit h1 (hK _ _ h)
end
end
section
open Go.RowKit
structure Par (α:Type) where
 es:Nat
 enc:α→List Value
 TN:TypeId
 TI:TypeId
 TS:TypeId
 TP:TypeId
 k:Int
 epos:0 < es
 elen:∀x,(enc x).length=es
 eone:∀x,∀v∈enc x,v.oneCell'=true
structure NodeR (α:Type) where
 cnt:Int
 items:List α
 kids:Option (List (Option Nat))
structure Lay where
 ib:Nat
 io:Nat
 ic:Nat
 cc:Nat
 cb:Nat
 co:Nat
 ck:Nat
def kidV (o:Option Nat):Value:=.pointer (o.map fun n=>⟨n,0,none⟩)
variable {α:Type}
def flat (p:Par α) (xs:List α):List Value:=xs.flatMap p.enc
theorem flat_nil (p:Par α):flat p []=[]:=rfl
theorem flat_cons (p:Par α) (x:α) (xs:List α):flat p (x::xs)=p.enc x++flat p xs:=rfl
theorem flat_append (p:Par α) (xs ys:List α):flat p (xs++ys)=flat p xs++flat p ys:=by simp [flat]
theorem flat_single (p:Par α) (x:α):flat p [x]=p.enc x:=by simp [flat]
theorem kcW (p:Par α):∀xs:List α,(flat p xs).length=xs.length * p.es
 | []=>by simp [flat]
 | x::xs=>by rw [flat_cons,zT,kcW p xs,p.elen,List.length_cons,Nat.add_mul];omega
theorem flat_drop (p:Par α):∀(xs:List α) (i:Nat),(flat p xs).drop (i * p.es)=flat p (xs.drop i)
 | [],i=>by simp [flat]
 | x::xs,0=>by simp
 | x::xs,i+1=>by
  rw [flat_cons,za,←flat_drop p xs i,Nat.add_mul,Nat.one_mul,Nat.add_comm,←List.drop_drop]
  congr 1
  have h:=p.elen x
  rw [List.drop_append,List.drop_of_length_le (by omega),h];simp
theorem flat_take (p:Par α):∀(xs:List α) (i:Nat),(flat p xs).take (i * p.es)=flat p (xs.take i)
 | [],i=>by simp [flat]
 | x::xs,0=>by simp [flat]
 | x::xs,i+1=>by
  rw [flat_cons,List.take_succ_cons,flat_cons,←flat_take p xs i,Nat.add_mul,Nat.one_mul]
  have h:=p.elen x
  rw [List.take_append,List.take_of_length_le (by omega)]
  congr 2
  omega
theorem flat_get (p:Par α) {xs:List α} {j q:Nat} {x:α} {v:Value} (hj:xs[j]?=some x) (hq:(p.enc x)[q]?=some v):(flat p xs)[j * p.es+q]?=some v:=by
 have hd:=flat_drop p xs j
 have hx:xs.drop j=x::xs.drop (j+1):=by
  obtain ⟨h1,h2⟩:=zG.1 hj
  rw [List.drop_eq_getElem_cons h1,h2]
 rw [hx,flat_cons] at hd
 have hlt:=(zG.1 hq).1
 rw [←List.getElem?_drop,hd,zn hlt,hq]
theorem flat_one (p:Par α) (xs:List α):∀v∈flat p xs,v.oneCell'=true:=by
 intro v hv
 obtain ⟨x,_,h⟩:=zzb.1 hv
 exact p.eone x v h
def kgT (p:Par α) (r:NodeR α) (l:Lay):Array Value :=
 #[.int .u64 p.k,Ii Ij r.cnt,Is (some ⟨l.ib,l.io,none⟩) r.items.length l.ic,.pointer (r.kids.map fun _=>⟨l.cc,0,none⟩)]
structure NodeAt (p:Par α) (w:World) (n:Nat) (r:NodeR α) (l:Lay):Prop where
 hd:w.heap[n]?=some (.cells (kgT p r l) p.TN (0,0))
 row:RowAt w p.TI l.ib l.io (l.ic * p.es) (flat p r.items)
 kid:∀ks,r.kids=some ks→w.heap[l.cc]?=some (Ic #[Is (some ⟨l.cb,l.co,none⟩) ks.length l.ck] p.TS (0,0))∧RowAt w p.TP l.cb l.co l.ck (ks.map kidV)
 d1:l.ib≠n
 d2:r.kids≠none→l.cc≠n∧l.cb≠n∧l.cc≠l.ib∧l.cb≠l.ib∧l.cb≠l.cc
variable {p:Par α} {r:NodeR α} {w:World} {n:Nat} {l:Lay}
theorem NodeAt.len (h:NodeAt p w n r l):r.items.length≤l.ic:=by
 have:=h.row.1
 rw [kcW] at this
 exact Nat.le_of_mul_le_mul_right this p.epos
theorem NodeAt.klen (h:NodeAt p w n r l) {ks:List (Option Nat)} (hk:r.kids=some ks):ks.length≤l.ck:=by
 have:=(h.kid ks hk).2.1
 simpa using this
def Ext (p:Par α) (n:Nat) (r:NodeR α) (l:Lay) (b o:Nat):Prop :=
 b=n∨(b=l.ib∧l.io≤o∧o < l.io+l.ic * p.es)∨(r.kids≠none∧(b=l.cc∨(b=l.cb∧l.co≤o∧o < l.co+l.ck)))
def Blk (n:Nat) (r:NodeR α) (l:Lay) (b:Nat):Prop:=b=n∨b=l.ib∨(r.kids≠none∧(b=l.cc∨b=l.cb))
theorem Ext.blk {b o:Nat} (h:Ext p n r l b o):Blk n r l b:=by
 rcases h with h | ⟨h,_⟩ | ⟨h,h1 | ⟨h1,_⟩⟩
 ·exact .inl h
 ·exact .inr (.inl h)
 ·exact .inr (.inr ⟨h,.inl h1⟩)
 ·exact .inr (.inr ⟨h,.inr h1⟩)
variable {b:Nat}
theorem NodeAt.lt (h:NodeAt p w n r l) (hb:Blk n r l b):b < w.heap.size:=by
 rcases hb with rfl | rfl | ⟨h0,hb⟩
 ·exact kbF h.hd
 ·exact h.row.lt
 ·cases hk:r.kids with
  | none=>exact absurd hk h0
  | some ks =>
   rcases hb with rfl | rfl
   ·exact kbF (h.kid ks hk).1
   ·exact (h.kid ks hk).2.lt
variable {A:Nat→Nat→Prop}
theorem NodeAt.chg {w w':World} (h:NodeAt p w n r l) (k:Chg A w w') (hA:∀b o,Ext p n r l b o→¬A b o):NodeAt p w' n r l:=by
 refine ⟨?_,?_,?_,h.d1,h.d2⟩
 ·rw [k.block (kbF h.hd) (fun o=>hA n o (.inl rfl))];exact h.hd
 ·refine h.row.chg k fun j hj=>hA _ _ (.inr (.inl ⟨rfl,by omega,?_⟩))
  have:=h.row.1
  omega
 ·intro ks hk
  have hne:r.kids≠none:=by rw [hk];simp
  obtain ⟨h1,h2⟩:=h.kid ks hk
  refine ⟨?_,?_⟩
  ·rw [k.block (kbF h1) (fun o=>hA _ o (.inr (.inr ⟨hne,.inl rfl⟩)))];exact h1
  ·refine h2.chg k fun j hj=>hA _ _ (.inr (.inr ⟨hne,.inr ⟨rfl,by omega,?_⟩⟩))
   have:=h2.1
   omega
def grow (F:Nat→Prop) (w w':World) (b:Nat):Prop:=F b∨(w.heap.size≤b∧b < w'.heap.size)
def upd (H:Nat→Option (NodeR α)) (n:Nat) (r:NodeR α):Nat→Option (NodeR α):=fun m=>if m=n then some r else H m
theorem kbX (H:Nat→Option (NodeR α)) (n:Nat) (r:NodeR α):upd H n r n=some r:=by simp [upd]
theorem kcP (H:Nat→Option (NodeR α)) {n m:Nat} (r:NodeR α) (h:m≠n):upd H n r m=H m:=by simp [upd,h]
def Fam (p:Par α) (w:World) (F:Nat→Prop) (H:Nat→Option (NodeR α)):Prop :=
 ∃L:Nat→Lay,(∀n r,H n=some r→NodeAt p w n r (L n)∧∀b,Blk n r (L n) b→F b) ∧
  (∀n m r s,n≠m→H n=some r→H m=some s→∀b o,Ext p n r (L n) b o→¬Ext p m s (L m) b o)∧(∀b,F b→b < w.heap.size)
theorem Fam.empty (p:Par α) (w:World):Fam p w (fun _=>False) (fun _=>none):=⟨fun _=>⟨0,0,0,0,0,0,0⟩,by simp,by simp,by simp⟩
variable {H:Nat→Option (NodeR α)} {F:Nat→Prop}
theorem Fam.lt (h:Fam p w F H) (hb:F b):b < w.heap.size:=by
 obtain ⟨L,_,_,h3⟩:=h;exact h3 b hb
theorem Fam.mem (h:Fam p w F H) (hn:H n=some r):F n:=by
 obtain ⟨L,h1,_,_⟩:=h;exact (h1 n r hn).2 n (.inl rfl)
theorem Fam.mono {F F':Nat→Prop} (h:Fam p w F H) (h1:∀b,F b→F' b) (h2:∀b,F' b→b < w.heap.size):Fam p w F' H:=by
 obtain ⟨L,a,b,c⟩:=h
 exact ⟨L,fun n r hn=>⟨(a n r hn).1,fun x hx=>h1 x ((a n r hn).2 x hx)⟩,b,h2⟩
theorem Fam.chg {w w':World} (h:Fam p w F H) (k:Chg A w w') (hA:∀b o,F b→¬A b o):Fam p w' F H:=by
 obtain ⟨L,a,b,c⟩:=h
 exact ⟨L,fun n r hn=>⟨(a n r hn).1.chg k fun x o hx=>hA x o ((a n r hn).2 x hx.blk),(a n r hn).2⟩,b,fun x hx=>zk (c x hx) k.size⟩
theorem Fam.open (h:Fam p w F H) (hn:H n=some r) :
  ∃l,NodeAt p w n r l∧(∀b,Blk n r l b→F b)∧(∀c s,c≠n→H c=some s→(∃l',NodeAt p w c s l')∧∀o,¬Ext p n r l c o)∧∀w' r' l',Chg (Ext p n r l) w w'→NodeAt p w' n r' l'→(∀b o,Ext p n r' l' b o→Ext p n r l b o∨w.heap.size≤b) →
   (∀b,Blk n r' l' b→Blk n r l b∨w.heap.size≤b)→Fam p w' (grow F w w') (upd H n r'):=by
 obtain ⟨L,a,b,c⟩:=h
 refine ⟨L n,(a n r hn).1,(a n r hn).2,fun q s hq hs=>⟨⟨_,(a q s hs).1⟩,fun o h=>b q n s r hq hs hn q o (.inl rfl) h⟩,fun w' r' l' hc hn' he hb=>?_⟩
 refine ⟨fun m=>if m=n then l' else L m,?_,?_,?_⟩
 ·intro m s hm
  by_cases hmn:m=n
  ·subst hmn
   rw [kbX] at hm
   obtain rfl:=Iq hm
   simp only [if_true]
   refine ⟨hn',fun x hx=>?_⟩
   rcases hb x hx with h1 | h1
   ·exact .inl ((a m r hn).2 x h1)
   ·exact .inr ⟨h1,hn'.lt hx⟩
  ·rw [kcP _ _ hmn] at hm
   simp only [hmn,if_false]
   refine ⟨(a m s hm).1.chg hc fun x o hx hy=>b m n s r hmn hm hn x o hx hy,fun x hx=>.inl ((a m s hm).2 x hx)⟩
 ·have key:∀m s,m≠n→H m=some s→∀x o,Ext p m s (L m) x o→¬Ext p n r' l' x o:=by
   intro m s hmn hm x o hx hy
   rcases he x o hy with h1 | h1
   ·exact b m n s r hmn hm hn x o hx h1
   ·have:=c x ((a m s hm).2 x hx.blk);omega
  intro m q s t hmq hm hq x o hx hy
  by_cases h1:m=n
  ·subst h1
   have hqn:q≠m:=fun e=>hmq e.symm
   rw [kbX] at hm
   obtain rfl:=Iq hm
   rw [kcP _ _ hqn] at hq
   simp only [if_true,hqn,if_false] at hx hy
   exact key q t hqn hq x o hy hx
  ·rw [kcP _ _ h1] at hm
   simp only [h1,if_false] at hx
   by_cases h2:q=n
   ·subst h2
    rw [kbX] at hq
    obtain rfl:=Iq hq
    simp only [if_true] at hy
    exact key m s h1 hm x o hx hy
   ·rw [kcP _ _ h2] at hq
    simp only [h2,if_false] at hy
    exact b m q s t hmq hm hq x o hx hy
 ·intro x hx
  rcases hx with hx | hx
  ·exact zk (c x hx) hc.size
  ·exact hx.2
theorem Fam.add {w w':World} (h:Fam p w F H) (hc:Chg A w w') (hA:∀b o,F b→¬A b o) {m:Nat} {s:NodeR α}
  (hm:NodeAt p w' m s l) (hb:∀b,Blk m s l b→w.heap.size≤b):Fam p w' (grow F w w') (upd H m s):=by
 obtain ⟨L,a,b,c⟩:=h
 have hne:∀n r,H n=some r→n≠m:=by
  rintro n r hn rfl
  have:=c n ((a n r hn).2 n (.inl rfl))
  have:=hb n (.inl rfl)
  omega
 have key:∀n r,H n=some r→∀x o,Ext p n r (L n) x o→¬Ext p m s l x o:=by
  intro n r hn x o hx hy
  have:=c x ((a n r hn).2 x hx.blk)
  have:=hb x hy.blk
  omega
 refine ⟨fun q=>if q=m then l else L q,?_,?_,?_⟩
 ·intro n r hn
  by_cases h1:n=m
  ·subst h1
   rw [kbX] at hn
   obtain rfl:=Iq hn
   simp only [if_true]
   exact ⟨hm,fun x hx=>.inr ⟨hb x hx,hm.lt hx⟩⟩
  ·rw [kcP _ _ h1] at hn
   simp only [h1,if_false]
   exact ⟨(a n r hn).1.chg hc fun x o hx=>hA x o ((a n r hn).2 x hx.blk),fun x hx=>.inl ((a n r hn).2 x hx)⟩
 ·intro n q r t hnq hn hq x o hx hy
  by_cases h1:n=m
  ·subst h1
   have h2:q≠n:=fun e=>hnq e.symm
   rw [kbX] at hn
   obtain rfl:=Iq hn
   rw [kcP _ _ h2] at hq
   simp only [if_true,h2,if_false] at hx hy
   exact key q t hq x o hy hx
  ·rw [kcP _ _ h1] at hn
   simp only [h1,if_false] at hx
   by_cases h2:q=m
   ·subst h2
    rw [kbX] at hq
    obtain rfl:=Iq hq
    simp only [if_true] at hy
    exact key n r hn x o hx hy
   ·rw [kcP _ _ h2] at hq
    simp only [h2,if_false] at hy
    exact b n q r t hnq hn hq x o hx hy
 ·intro x hx
  rcases hx with hx | hx
  ·exact zk (c x hx) hc.size
  ·exact hx.2
theorem Fam.split (h:Fam p w F H) (hn:H n=some r) :
  ∃l,NodeAt p w n r l∧(∀b,Blk n r l b→F b)∧(∀c s,c≠n→H c=some s→(∃l',NodeAt p w c s l')∧∀o,¬Ext p n r l c o)∧∀w' r1 l1 m r2 l2,Chg (Ext p n r l) w w'→NodeAt p w' n r1 l1→NodeAt p w' m r2 l2→w.heap.size≤m →
   (∀b o,Ext p n r1 l1 b o→Ext p n r l b o∨w.heap.size≤b)→(∀b o,Ext p m r2 l2 b o→Ext p n r l b o∨w.heap.size≤b)→(∀b o,Ext p n r1 l1 b o→¬Ext p m r2 l2 b o) →
   (∀b,Blk n r1 l1 b→Blk n r l b∨w.heap.size≤b)→(∀b,Blk m r2 l2 b→Blk n r l b∨w.heap.size≤b)→Fam p w' (grow F w w') (upd (upd H n r1) m r2):=by
 obtain ⟨L,a,b,c⟩:=h
 refine ⟨L n,(a n r hn).1,(a n r hn).2,fun q s hq hs=>⟨⟨_,(a q s hs).1⟩,fun o h=>b q n s r hq hs hn q o (.inl rfl) h⟩,fun w' r1 l1 m r2 l2 hc h1 h2 hm e1 e2 e12 b1 b2=>?_⟩
 have hnlt:=c n ((a n r hn).2 n (.inl rfl))
 have hnm:n≠m:=by omega
 have hne:∀q t,H q=some t→q≠m:=by
  rintro q t hq rfl
  have:=c q ((a q t hq).2 q (.inl rfl))
  omega
 have key:∀q t x o,q≠n→H q=some t→Ext p q t (L q) x o→Ext p n r (L n) x o∨w.heap.size≤x→False:=by
  intro q t x o hqn hq hx hy
  rcases hy with hy | hy
  ·exact b q n t r hqn hq hn x o hx hy
  ·have:=c x ((a q t hq).2 x hx.blk);omega
 refine ⟨fun q=>if q=m then l2 else if q=n then l1 else L q,?_,?_,?_⟩
 ·intro q t hq
  by_cases q1:q=m
  ·subst q1
   rw [kbX] at hq
   obtain rfl:=Iq hq
   simp only [if_true]
   refine ⟨h2,fun x hx=>?_⟩
   rcases b2 x hx with h3 | h3
   ·exact .inl ((a n r hn).2 x h3)
   ·exact .inr ⟨h3,h2.lt hx⟩
  ·rw [kcP _ _ q1] at hq
   by_cases q2:q=n
   ·subst q2
    rw [kbX] at hq
    obtain rfl:=Iq hq
    simp only [if_true,if_neg hnm]
    refine ⟨h1,fun x hx=>?_⟩
    rcases b1 x hx with h3 | h3
    ·exact .inl ((a q r hn).2 x h3)
    ·exact .inr ⟨h3,h1.lt hx⟩
   ·rw [kcP _ _ q2] at hq
    simp only [q1,q2,if_false]
    exact ⟨(a q t hq).1.chg hc fun x o hx hy=>b q n t r q2 hq hn x o hx hy,fun x hx=>.inl ((a q t hq).2 x hx)⟩
 ·intro q q' t t' hqq hq hq' x o hx hy
  by_cases q1:q=m
  ·subst q1
   rw [kbX] at hq
   obtain rfl:=Iq hq
   simp only [if_true] at hx
   have q2:q'≠q:=fun e=>hqq e.symm
   rw [kcP _ _ q2] at hq'
   simp only [q2,if_false] at hy
   by_cases q3:q'=n
   ·subst q3
    rw [kbX] at hq'
    obtain rfl:=Iq hq'
    simp only [if_true] at hy
    exact e12 x o hy hx
   ·rw [kcP _ _ q3] at hq'
    simp only [q3,if_false] at hy
    exact key q' t' x o q3 hq' hy (e2 x o hx)
  ·rw [kcP _ _ q1] at hq
   simp only [q1,if_false] at hx
   by_cases q2:q'=m
   ·subst q2
    rw [kbX] at hq'
    obtain rfl:=Iq hq'
    simp only [if_true] at hy
    by_cases q3:q=n
    ·subst q3
     rw [kbX] at hq
     obtain rfl:=Iq hq
     simp only [if_true] at hx
     exact e12 x o hx hy
    ·rw [kcP _ _ q3] at hq
     simp only [q3,if_false] at hx
     exact key q t x o q3 hq hx (e2 x o hy)
   ·rw [kcP _ _ q2] at hq'
    simp only [q2,if_false] at hy
    by_cases q3:q=n
    ·subst q3
     rw [kbX] at hq
     obtain rfl:=Iq hq
     simp only [if_true] at hx
     have q4:q'≠q:=fun e=>hqq e.symm
     rw [kcP _ _ q4] at hq'
     simp only [q4,if_false] at hy
     exact key q' t' x o q4 hq' hy (e1 x o hx)
    ·rw [kcP _ _ q3] at hq
     simp only [q3,if_false] at hx
     by_cases q4:q'=n
     ·subst q4
      rw [kbX] at hq'
      obtain rfl:=Iq hq'
      simp only [if_true] at hy
      exact key q t x o q3 hq hx (e1 x o hy)
     ·rw [kcP _ _ q4] at hq'
      simp only [q4,if_false] at hy
      exact b q q' t t' hqq hq hq' x o hx hy
 ·intro x hx
  rcases hx with hx | hx
  ·exact zk (c x hx) hc.size
  ·exact hx.2
theorem kbV {b o:Nat} {c:Array Value} {T:TypeId} {fr:Nat×Nat} (h:w.heap[b]?=some (.cells c T fr)) (v:Value):(w.setCell ⟨b,o,none⟩ v).heap[b]?=some (.cells (c.setIfInBounds o v) T fr):=by
 simp [World.setCell,Array.getElem?_modify,h]
theorem hs_ne {b o b':Nat} (v:Value) (h:b'≠b):(w.setCell ⟨b,o,none⟩ v).heap[b']?=w.heap[b']?:=Below.heap_setCell w ⟨b,o,none⟩ v b' h
theorem kbZ (w:World) (b:Nat):w.drew.heap[b]?=w.heap[b]?:=rfl
theorem kcB (w:World) (m b:Nat):(w.drewN m).heap[b]?=w.heap[b]?:=rfl
theorem kbT (w:World) (o:Obj) (h:b=w.heap.size):(w.alloc o).heap[b]?=some o:=by subst h;exact heap_alloc_new w o
theorem kcZ (w:World) (o:Obj) (h:b < w.heap.size):(w.alloc o).heap[b]?=w.heap[b]?:=Below.heap_alloc w o b h
theorem NodeAt.rowPart {α:Type} {p:Par α} {w w':World} {r:NodeR α} (h:NodeAt p w n r l) (k:Chg A w w') (i j c:Nat) (hij:i+j≤r.items.length) (hj:j≤c) (hc:i+c≤l.ic)
  (hA:∀o,l.io+i * p.es≤o→o < l.io+(i+j) * p.es→¬A l.ib o):RowAt w' p.TI l.ib (l.io+i * p.es) (c * p.es) (flat p ((r.items.drop i).take j)):=by
 have m1:(i+j) * p.es≤r.items.length * p.es:=Nat.mul_le_mul_right _ hij
 have m2:(i+c) * p.es≤l.ic * p.es:=Nat.mul_le_mul_right _ hc
 have m3:j * p.es≤c * p.es:=Nat.mul_le_mul_right _ hj
 rw [Nat.add_mul] at m1 m2
 have h1:=h.row.part (i * p.es) (j * p.es) (c * p.es) (by rw [kcW];exact m1) m3 m2
 rw [flat_drop,flat_take] at h1
 refine h1.chg k fun q hq=>hA _ (by omega) ?_
 rw [kcW] at hq
 have:((r.items.drop i).take j).length≤j:=List.length_take_le _ _
 have:=Nat.mul_le_mul_right p.es this
 rw [Nat.add_mul]
 omega
theorem NodeAt.kidPart {α:Type} {p:Par α} {w w':World} {r:NodeR α} (h:NodeAt p w n r l) {ks:List (Option Nat)} (hk:r.kids=some ks) (k:Chg A w w') (i j c:Nat) (hij:i+j≤ks.length) (hj:j≤c) (hc:i+c≤l.ck)
  (hA:∀o,l.co+i≤o→o < l.co+(i+j)→¬A l.cb o):RowAt w' p.TP l.cb (l.co+i) c (((ks.drop i).take j).map kidV):=by
 have h1:=(h.kid ks hk).2.part i j c (by simpa using hij) hj hc
 rw [←List.map_drop,←List.map_take] at h1
 refine h1.chg k fun q hq=>hA _ (by omega) ?_
 have:((ks.drop i).take j).length≤j:=List.length_take_le _ _
 rw [zU] at hq
 omega
end
section
abbrev It (_:List Int):=Prod Int Int
abbrev HN (ord:List Int):=Nat→Option (NodeR (It ord))
structure Kc (ord:List Int) where
 iso:Int
 ctr:Nat
 ob:Nat
 rb:Nat
end
section
variable {α:Type}
structure Swo (lt:α→α→Bool):Prop where
 asymm:∀a b,lt a b=true→lt b a=false
 ntrans:∀a b c,lt a b=false→lt b c=false→lt a c=false
variable {lt:α→α→Bool}
theorem Swo.irrefl (s:Swo lt) (a:α):lt a a=false:=by
 cases h:lt a a with
 | false=>rfl
 | true=>exact (s.asymm a a h)▸h▸rfl
theorem Swo.trans (s:Swo lt) {a b c:α} (h1:lt a b=true) (h2:lt b c=true):lt a c=true:=by
 cases h:lt a c with
 | true=>rfl
 | false =>
  have:=s.ntrans a c b h (s.asymm b c h2)
  rw [h1] at this;cases this
theorem Swo.lt_of_lt_of_nlt (s:Swo lt) {a b c:α} (h1:lt a b=true) (h2:lt c b=false):lt a c=true:=by
 cases h:lt a c with
 | true=>rfl
 | false =>
  have:=s.ntrans a c b h h2
  rw [h1] at this;cases this
theorem Swo.lt_of_nlt_of_lt (s:Swo lt) {a b c:α} (h1:lt b a=false) (h2:lt b c=true):lt a c=true:=by
 cases h:lt a c with
 | true=>rfl
 | false =>
  have:=s.ntrans b a c h1 h
  rw [h2] at this;cases this
def Srt (lt:α→α→Bool) (l:List α):Prop:=l.Pairwise fun a b=>lt a b=true
def insL (lt:α→α→Bool) (x:α):List α→List α
 | []=>[x]
 | y::l=>if lt y x then y::insL lt x l else if lt x y then x::y::l else x::l
def fndL (lt:α→α→Bool) (x:α):List α→Option α
 | []=>none
 | y::l=>if lt y x then fndL lt x l else if lt x y then none else some y
variable {x:α}
theorem insL_pre:∀{A B:List α},(∀a∈A,lt a x=true)→insL lt x (A++B)=A++insL lt x B
 | [],_,_=>rfl
 | a::A,B,h=>by
  rw [List.cons_append,insL,if_pos (h a zP),insL_pre (fun b hb=>h b (zQ _ hb))];rfl
theorem fndL_pre:∀{A B:List α},(∀a∈A,lt a x=true)→fndL lt x (A++B)=fndL lt x B
 | [],_,_=>rfl
 | a::A,B,h=>by
  rw [List.cons_append,fndL,if_pos (h a zP),fndL_pre (fun b hb=>h b (zQ _ hb))]
theorem insL_post (s:Swo lt):∀{B C:List α},(∀c∈C,lt x c=true)→insL lt x (B++C)=insL lt x B++C
 | [],[],_=>rfl
 | [],c::C,h=>by
  have:=h c zP
  simp [insL,this,s.asymm _ _ this]
 | b::B,C,h=>by
  rw [List.cons_append,insL,insL]
  split
  ·rw [insL_post s h];rfl
  ·split<;>rfl
theorem fndL_post (s:Swo lt):∀{B C:List α},(∀c∈C,lt x c=true)→fndL lt x (B++C)=fndL lt x B
 | [],[],_=>rfl
 | [],c::C,h=>by
  have:=h c zP
  simp [fndL,this,s.asymm _ _ this]
 | b::B,C,h=>by
  rw [List.cons_append,fndL,fndL,fndL_post s h]
theorem insL_mid (s:Swo lt) {A B C:List α} (hA:∀a∈A,lt a x=true) (hC:∀c∈C,lt x c=true):insL lt x (A++B++C)=A++insL lt x B++C:=by
 rw [zu,insL_pre hA,insL_post s hC,zu]
theorem fndL_mid (s:Swo lt) {A B C:List α} (hA:∀a∈A,lt a x=true) (hC:∀c∈C,lt x c=true):fndL lt x (A++B++C)=fndL lt x B:=by
 rw [zu,fndL_pre hA,fndL_post s hC]
theorem insL_hit {x y:α} {P S:List α} (hP:∀a∈P,lt a x=true) (h1:lt y x=false) (h2:lt x y=false):insL lt x (P++y::S)=P++x::S:=by
 rw [insL_pre hP];simp [insL,h1,h2]
theorem fndL_hit {x y:α} {P S:List α} (hP:∀a∈P,lt a x=true) (h1:lt y x=false) (h2:lt x y=false):fndL lt x (P++y::S)=some y:=by
 rw [fndL_pre hP];simp [fndL,h1,h2]
theorem insL_gap (s:Swo lt) {A C:List α} (hA:∀a∈A,lt a x=true) (hC:∀c∈C,lt x c=true):insL lt x (A++C)=A++x::C:=by
 have:=insL_mid s (B:=[]) hA hC
 simpa [insL] using this
theorem fndL_gap (s:Swo lt) {A C:List α} (hA:∀a∈A,lt a x=true) (hC:∀c∈C,lt x c=true):fndL lt x (A++C)=none:=by
 have:=fndL_mid s (B:=[]) hA hC
 simpa [fndL] using this
theorem insL_mem {x y:α}:∀{l:List α},y∈insL lt x l→y=x∨y∈l
 | [],h=>by simp [insL] at h;exact .inl h
 | z::l,h=>by
  rw [insL] at h
  split at h
  ·rcases zR.1 h with h | h
   ·exact .inr (h▸zP)
   ·rcases insL_mem h with h | h
    ·exact .inl h
    ·exact .inr (zQ _ h)
  ·split at h
   ·rcases zR.1 h with h | h
    ·exact .inl h
    ·exact .inr h
   ·rcases zR.1 h with h | h
    ·exact .inl h
    ·exact .inr (zQ _ h)
theorem insL_srt (s:Swo lt) (x:α):∀{l:List α},Srt lt l→Srt lt (insL lt x l)
 | [],_=>by simp [insL,Srt]
 | z::l,h=>by
  obtain ⟨h1,h2⟩:=List.pairwise_cons.1 h
  rw [insL]
  split
  ·rename_i a
   refine List.pairwise_cons.2 ⟨fun y hy=>?_,insL_srt s x h2⟩
   rcases insL_mem hy with rfl | hy
   ·exact a
   ·exact h1 y hy
  ·rename_i a
   split
   ·rename_i b
    refine List.pairwise_cons.2 ⟨fun y hy=>?_,h⟩
    rcases zR.1 hy with rfl | hy
    ·exact b
    ·exact s.trans b (h1 y hy)
   ·refine List.pairwise_cons.2 ⟨fun y hy=>?_,h2⟩
    rename_i b
    exact s.lt_of_nlt_of_lt (b:=z) (by simpa using a) (h1 y hy)
theorem insL_len:∀{l:List α},(insL lt x l).length=l.length+(if (fndL lt x l).isSome then 0 else 1)
 | []=>by simp [insL,fndL]
 | z::l=>by
  rw [insL,fndL]
  split
  ·simp only [List.length_cons,insL_len (l:=l)];omega
  ·split<;>simp
def BT (α:Type):Nat→Type
 | 0=>Nat×List α
 | h+1=>Nat×List α×List (BT α h)
def rid:{h:Nat}→BT α h→Nat
 | 0,t=>t.1
 | _+1,t=>t.1
def its:{h:Nat}→BT α h→List α
 | 0,t=>t.2
 | _+1,t=>t.2.1
def kcM:List α→List (List α)→List α
 | _,[]=>[]
 | [],t::ts=>t++kcM [] ts
 | x::xs,t::ts=>t++x::kcM xs ts
def pre:List α→List (List α)→List α
 | x::xs,t::ts=>t++x::pre xs ts
 | _,_=>[]
def post:List α→List (List α)→List α
 | x::xs,t::ts=>x::t++post xs ts
 | _,_=>[]
theorem kgM (t:List α):kcM [] [t]=t:=by simp [kcM]
theorem inter_eq:∀(xs:List α) (t:List α) (ts:List (List α)),ts.length=xs.length→kcM xs (t::ts)=t++post xs ts
 | [],t,[],_=>by simp [kcM,post]
 | x::xs,t,u::ts,h=>by
  rw [kcM,inter_eq xs u ts (by simpa using h)];simp [post]
theorem kdX:∀(i:Nat) (xs:List α) (ts:List (List α)) (t:List α),ts.length=xs.length+1→ts[i]?=some t →
  kcM xs ts=pre (xs.take i) (ts.take i)++t++post (xs.drop i) (ts.drop (i+1))
 | 0,xs,u::ts,t,h,hi=>by
  obtain rfl:u=t:=by simpa using hi
  simp [pre,inter_eq xs u ts (by simpa using h)]
 | i+1,x::xs,u::ts,t,h,hi=>by
  rw [kcM,kdX i xs ts t (by simpa using h) (by simpa using hi)]
  simp [pre]
 | i+1,[],u::ts,t,h,hi=>by
  obtain rfl:ts=[]:=by simpa using h
  simp at hi
 | i,xs,[],t,h,hi=>by simp at hi
theorem pre_last:∀(i:Nat) (xs:List α) (ts:List (List α)) (x:α),xs[i]?=some x→i < ts.length→∃P,pre (xs.take (i+1)) (ts.take (i+1))=P++[x]
 | 0,x::xs,t::ts,y,h,_=>by
  obtain rfl:x=y:=by simpa using h
  exact ⟨t,by simp [pre]⟩
 | i+1,x::xs,t::ts,y,h,h2=>by
  obtain ⟨P,hP⟩:=pre_last i xs ts y (by simpa using h) (by simpa using h2)
  exact ⟨t++x::P,by simp [pre,hP]⟩
 | _,[],_,_,h,_=>by simp at h
 | _,_::_,[],_,_,h=>by simp at h
theorem pre_app:∀(xs ys:List α) (ts us:List (List α)),xs.length=ts.length→pre (xs++ys) (ts++us)=pre xs ts++pre ys us
 | [],ys,[],us,_=>rfl
 | x::xs,ys,t::ts,us,h=>by simp [pre,pre_app xs ys ts us (by simpa using h)]
theorem kgV (xs ys:List α) (x:α) (ts us:List (List α)) (h:ts.length=xs.length+1):kcM (xs++x::ys) (ts++us)=kcM xs ts++x::kcM ys us:=by
 induction xs generalizing ts with
 | nil =>
  match ts,h with
  | [t],_=>simp [kcM]
 | cons y xs ih =>
  match ts,h with
  | t::ts,h=>simp [kcM,ih ts (by simpa using h)]
def toL:(h:Nat)→BT α h→List α
 | 0,t=>t.2
 | h+1,t=>kcM t.2.1 (t.2.2.map (toL h))
def ids:(h:Nat)→BT α h→List Nat
 | 0,t=>[t.1]
 | h+1,t=>t.1::t.2.2.flatMap (ids h)
def Sh (mn mx:Nat):(h:Nat)→BT α h→Prop
 | 0,t=>t.2.length≤mx
 | h+1,t=>t.2.1.length≤mx∧t.2.2.length=t.2.1.length+1∧∀c∈t.2.2,mn≤(its c).length∧Sh mn mx h c
theorem Sh.len {mn mx:Nat}:{h:Nat}→{t:BT α h}→Sh mn mx h t→(its t).length≤mx
 | 0,_,h=>h
 | _+1,_,h=>h.1
theorem kcV:{h:Nat}→(t:BT α h)→rid t∈ids h t
 | 0,_=>zy.2 rfl
 | _+1,_=>zP
theorem its_sub:{h:Nat}→{t:BT α h}→{mn mx:Nat}→Sh mn mx h t→(its t).Sublist (toL h t)
 | 0,t,_,_,_=>List.Sublist.refl _
 | h+1,t,_,_,hs=>by
  obtain ⟨_,h2,_⟩:=hs
  show t.2.1.Sublist (kcM t.2.1 (t.2.2.map (toL h)))
  have:∀(xs:List α) (ts:List (List α)),ts.length=xs.length+1→xs.Sublist (kcM xs ts):=by
   intro xs
   induction xs with
   | nil=>intro ts _;exact List.nil_sublist _
   | cons x xs ih =>
    intro ts hts
    match ts,hts with
    | u::ts,hts=>exact (((ih ts (by simpa using hts)).cons_cons x).trans (List.sublist_append_right u _))
  exact this _ _ (by simpa using h2)
variable {mn mx i:Nat} {h:Nat} {t:BT α (h+1)} {c:BT α h}
theorem kfY (hs:Sh mn mx (h+1) t) (hc:t.2.2[i]?=some c) :
  toL (h+1) t=pre (t.2.1.take i) ((t.2.2.map (toL h)).take i)++toL h c++post (t.2.1.drop i) ((t.2.2.map (toL h)).drop (i+1)) :=
 kdX i _ _ _ (by simpa using hs.2.1) (by simp [hc])
structure PosAt (lt:α→α→Bool) (xs:List α) (x:α) (i:Nat):Prop where
 le:i≤xs.length
 left:∀j y,j < i→xs[j]?=some y→lt y x=true
 right:∀j y,i≤j→xs[j]?=some y→lt x y=true
structure HitAt (lt:α→α→Bool) (xs:List α) (x:α) (i:Nat) (y:α):Prop where
 at_:xs[i]?=some y
 left:∀j z,j < i→xs[j]?=some z→lt z x=true
 n1:lt y x=false
 n2:lt x y=false
theorem kfR {l:List α} {i:Nat} {a:α} (h:a∈l.take i):∃j,j < i∧l[j]?=some a:=by
 obtain ⟨j,hj,e⟩:=List.mem_iff_getElem.1 h
 have hj':j < i∧j < l.length:=by rw [List.length_take] at hj;omega
 exact ⟨j,hj'.1,by rw [zH hj'.2];rw [List.getElem_take] at e;rw [e]⟩
theorem mem_drop_get {l:List α} {i:Nat} {a:α} (h:a∈l.drop i):∃j,i≤j∧l[j]?=some a:=by
 obtain ⟨j,hj,e⟩:=List.mem_iff_getElem.1 h
 have hj':j < l.length - i:=by simpa using hj
 exact ⟨i+j,by omega,by rw [zH (by omega)];rw [List.getElem_drop] at e;rw [e]⟩
theorem around (s:Swo lt) (hs:Sh mn mx (h+1) t) (hc:t.2.2[i]?=some c) (hsrt:Srt lt (toL (h+1) t)) (hp:PosAt lt t.2.1 x i) :
  (∀a∈pre (t.2.1.take i) ((t.2.2.map (toL h)).take i),lt a x=true)∧(∀a∈post (t.2.1.drop i) ((t.2.2.map (toL h)).drop (i+1)),lt x a=true):=by
 rw [kfY hs hc] at hsrt
 obtain ⟨h12,h3,_⟩:=zZ.1 hsrt
 obtain ⟨h1,_,_⟩:=zZ.1 h12
 constructor
 ·intro a ha
  cases i with
  | zero=>simp [pre] at ha
  | succ i =>
   have hlen:i < t.2.1.length:=hp.le
   obtain ⟨P,hP⟩:=pre_last i t.2.1 (t.2.2.map (toL h)) _ (zH hlen) (by have:=hs.2.1;simp;omega)
   rw [hP] at ha h1
   have hl:=hp.left i _ (by omega) (zH hlen)
   rcases zO.1 ha with ha | ha
   ·exact s.trans ((zZ.1 h1).2.2 a ha _ (zy.2 rfl)) hl
   ·rw [zy.1 ha];exact hl
 ·intro a ha
  cases hd:t.2.1.drop i with
  | nil=>rw [hd] at ha;simp [post] at ha
  | cons y ys =>
   have hy:t.2.1[i]?=some y:=by
    have:=List.getElem?_drop (xs:=t.2.1) (i:=i) (j:=0)
    rw [hd] at this;simpa using this.symm
   have hl:=hp.right i y (zi _) hy
   cases hd2:(t.2.2.map (toL h)).drop (i+1) with
   | nil=>rw [hd,hd2] at ha;simp [post] at ha
   | cons u us =>
    rw [hd,hd2] at ha h3
    simp only [post,List.cons_append] at ha h3
    rcases zR.1 ha with rfl | ha
    ·exact hl
    ·exact s.trans hl ((List.pairwise_cons.1 h3).1 a ha)
theorem sub_srt (hs:Sh mn mx (h+1) t) (hc:t.2.2[i]?=some c) (hsrt:Srt lt (toL (h+1) t)):Srt lt (toL h c):=by
 rw [kfY hs hc] at hsrt
 exact (zZ.1 (zZ.1 hsrt).1).2.1
theorem its_srt {t:BT α h} {mn mx:Nat} (hs:Sh mn mx h t) (hsrt:Srt lt (toL h t)):Srt lt (its t):=hsrt.sublist (its_sub hs)
def setKid {h:Nat} (t:BT α (h+1)) (i:Nat) (c:BT α h):BT α (h+1):=(t.1,t.2.1,t.2.2.set i c)
theorem toL_setKid {c c':BT α h} (hs:Sh mn mx (h+1) t) (hc:t.2.2[i]?=some c) :
  toL (h+1) (setKid t i c')=pre (t.2.1.take i) ((t.2.2.map (toL h)).take i)++toL h c'++post (t.2.1.drop i) ((t.2.2.map (toL h)).drop (i+1)):=by
 have hi:i < t.2.2.length:=(zG.1 hc).1
 show kcM t.2.1 ((t.2.2.set i c').map (toL h))=_
 rw [kdX i _ _ (toL h c') (by simpa using hs.2.1) (by simp [hi])]
 congr 2
 ·rw [List.map_set,List.take_set_of_le (zi _)]
 ·rw [List.map_set,List.drop_set_of_lt (by omega)]
def setIt:{h:Nat}→BT α h→Nat→α→BT α h
 | 0,t,i,x=>(t.1,t.2.set i x)
 | _+1,t,i,x=>(t.1,t.2.1.set i x,t.2.2)
theorem toL_around {t:BT α h} {y:α} (hs:Sh mn mx h t) (hy:(its t)[i]?=some y):∃P S,toL h t=P++y::S∧∀x,toL h (setIt t i x)=P++x::S:=by
 match h,t with
 | 0,t =>
  have hi:i < t.2.length:=(zG.1 hy).1
  have hg:t.2[i]=y:=(zG.1 hy).2
  refine ⟨t.2.take i,t.2.drop (i+1),?_,fun x=>?_⟩
  ·show t.2=_
   rw [←hg,←List.drop_eq_getElem_cons hi,zw]
  ·show t.2.set i x=_
   rw [List.set_eq_take_append_cons_drop,if_pos hi]
 | h+1,t =>
  have hi:i < t.2.1.length:=(zG.1 hy).1
  have hg:t.2.1[i]=y:=(zG.1 hy).2
  have hl:t.2.2.length=t.2.1.length+1:=hs.2.1
  refine ⟨kcM (t.2.1.take i) ((t.2.2.map (toL h)).take (i+1)),kcM (t.2.1.drop (i+1)) ((t.2.2.map (toL h)).drop (i+1)),?_,fun x=>?_⟩
  ·show kcM t.2.1 (t.2.2.map (toL h))=_
   rw [←kgV _ _ _ _ _ (by simp;omega),zw,←hg,←List.drop_eq_getElem_cons hi,zw]
  ·show kcM (t.2.1.set i x) (t.2.2.map (toL h))=_
   rw [←kgV _ _ _ _ _ (by simp;omega),zw,List.set_eq_take_append_cons_drop,if_pos hi]
end
section
def rkL (os:List Int) (key:Int):Int:=if os.length=0 then key else os[(key % (os.length:Int)).toNat]?.getD 0
theorem rem_twice {n:Int} (hn:0 < n) (a:Int):a.tmod n % n=a % n:=by
 rw [Int.tmod_eq_emod]
 split
 ·show (a % n - (0:Int)) % n=_
  rw [Int.sub_zero,Int.emod_emod_of_dvd _ (Int.dvd_refl n)]
 ·rw [Int.sub_emod]
  have:(n.natAbs:Int)=n:=by omega
  simp [this]
end
section
open Go.RowKit
variable {α:Type}
structure Run (p:Par α) (w0:World) (n:Nat) (r0:NodeR α) (l0:Lay) (w:World) (r:NodeR α) (l:Lay):Prop where
 at_:NodeAt p w n r l
 chg:Chg (Ext p n r0 l0) w0 w
 ext:∀b o,Ext p n r l b o→Ext p n r0 l0 b o∨w0.heap.size≤b
 blk:∀b,Blk n r l b→Blk n r0 l0 b∨w0.heap.size≤b
section
variable {p:Par α} {w0 w w':World} {n:Nat} {r0 r:NodeR α} {l0 l:Lay}
theorem Run.start (h:NodeAt p w0 n r0 l0):Run p w0 n r0 l0 w0 r0 l0:=⟨h,Chg.refl _ _,fun _ _ h=>.inl h,fun _ h=>.inl h⟩
theorem Run.aside {A:Nat→Nat→Prop} (h:Run p w0 n r0 l0 w r l) (c:Chg A w w') (hA:∀b o,A b o→w0.heap.size≤b∧¬Ext p n r l b o):Run p w0 n r0 l0 w' r l :=
 ⟨h.at_.chg c fun b o hx hy=>(hA b o hy).2 hx,h.chg.trans' c (fun _ _ _ x=>x) (fun b o hb x=>by have:=(hA b o x).1;omega),h.ext,h.blk⟩
theorem Run.still (h:Run p w0 n r0 l0 w r l) (c:Chg (fun _ _=>False) w w'):Run p w0 n r0 l0 w' r l:=h.aside c fun _ _ x=>x.elim
theorem NodeAt.setCnt (h:NodeAt p w n r l) (c:Int):NodeAt p (w.setCell ⟨n,1,none⟩ (Ii Ij c)) n { r with cnt:=c } l:=by
 have hc:Chg (fun b _=>b=n) w (w.setCell ⟨n,1,none⟩ (Ii Ij c)):=(Chg.refl _ _).setCell (.inl rfl) _
 refine ⟨by rw [kbV h.hd];rfl,h.row.chg hc fun _ _=>h.d1,fun ks hk=>?_,h.d1,h.d2⟩
 have hne:r.kids≠none:=by rw [show r.kids=some ks from hk];simp
 obtain ⟨k1,k2⟩:=h.kid ks hk
 obtain ⟨e1,e2,_⟩:=h.d2 hne
 exact ⟨by rw [hs_ne _ e1];exact k1,k2.chg hc fun _ _=>e2⟩
theorem Run.setCnt (h:Run p w0 n r0 l0 w r l) (c:Int):Run p w0 n r0 l0 (w.setCell ⟨n,1,none⟩ (Ii Ij c)) { r with cnt:=c } l :=
 ⟨h.at_.setCnt c,h.chg.setCell (.inl (.inl rfl)) _,h.ext,h.blk⟩
theorem Run.putItems (h:Run p w0 n r0 l0 w r l) (i:Nat) (ys:List α) (hi:i+ys.length≤r.items.length) :
  Run p w0 n r0 l0 (putCells w l.ib (l.io+i * p.es) (flat p ys)) { r with items:=r.items.take i++ys++r.items.drop (i+ys.length) } l:=by
 have hlen:=h.at_.len
 have m1:(i+ys.length) * p.es≤r.items.length * p.es:=Nat.mul_le_mul_right _ hi
 have m2:r.items.length * p.es≤l.ic * p.es:=Nat.mul_le_mul_right _ hlen
 have m3:(i+ys.length) * p.es=i * p.es+ys.length * p.es:=Nat.add_mul _ _ _
 obtain ⟨q0,c,q1,q2,q3⟩:=h.at_.row
 have hfl:=kcW p ys
 have hin:∀o,l.io+i * p.es≤o→o < l.io+i * p.es+(flat p ys).length→Ext p n r l l.ib o:=fun o h1 h2=>.inr (.inl ⟨rfl,by omega,by omega⟩)
 have hc:Chg (fun b o=>b=l.ib∧l.io+i * p.es≤o∧o < l.io+i * p.es+(flat p ys).length) w (putCells w l.ib (l.io+i * p.es) (flat p ys)) :=
  kdW (Chg.refl _ _) q1 (by omega) (.inl fun o h1 h2=>⟨rfl,h1,h2⟩)
 have hl':(r.items.take i++ys++r.items.drop (i+ys.length)).length=r.items.length:=by simp;omega
 refine ⟨⟨?_,?_,?_,h.at_.d1,h.at_.d2⟩,?_,h.ext,h.blk⟩
 ·rw [hc.block (kbF h.at_.hd) (fun o hx=>h.at_.d1 hx.1.symm),h.at_.hd]
  simp only [kgT,hl']
 ·have:=h.at_.row.putCells (i * p.es) (flat p ys) (by rw [kcW];omega) (by omega)
  rw [hfl,←m3,flat_take,flat_drop,←flat_append,←flat_append] at this
  exact this
 ·intro ks hk
  have hne:r.kids≠none:=by rw [show r.kids=some ks from hk];simp
  obtain ⟨k1,k2⟩:=h.at_.kid ks hk
  obtain ⟨_,_,e3,e4,_⟩:=h.at_.d2 hne
  exact ⟨by rw [hc.block (kbF k1) (fun o hx=>e3 hx.1)];exact k1,k2.chg hc fun _ _ hx=>e4 hx.1⟩
 ·refine kdW h.chg q1 (by omega) ?_
  by_cases hb:w0.heap.size≤l.ib
  ·exact .inr hb
  ·refine .inl fun o h1 h2=>?_
   rcases h.ext _ _ (hin o h1 h2) with hx | hx
   ·exact hx
   ·exact absurd hx hb
theorem Run.append (h:Run p w0 n r0 l0 w r l) (ys:List α) {b' o' cap':Nat} {w1:World} (ha:Appd p.TI p.es w l.ib l.io r.items.length l.ic (flat p r.items) (flat p ys) ys.length b' o' cap' w1)
  {w2:World} (hc2:Chg (fun _ _=>False) w1 w2) :
  Run p w0 n r0 l0 (w2.setCell ⟨n,2,none⟩ (Is (some ⟨b',o',none⟩) ((r.items.length+ys.length:Nat)) cap')) { r with items:=r.items++ys } { l with ib:=b',io:=o',ic:=cap' }:=by
 obtain ⟨a1,a2,a3,a4⟩:=ha
 have hs0:=h.chg.size
 have hext:∀b o,b=l.ib∧l.io+r.items.length * p.es≤o∧o < l.io+l.ic * p.es→Ext p n r l b o:=fun b o hx=>.inr (.inl ⟨hx.1,by omega,hx.2.2⟩)
 have hA:Chg (fun b o=>(b=l.ib∧l.io+r.items.length * p.es≤o∧o < l.io+l.ic * p.es)∨b=n) w (w2.setCell ⟨n,2,none⟩ (Is (some ⟨b',o',none⟩) ((r.items.length+ys.length:Nat)) cap')) :=
  ((a2.mono fun _ _ _ x=>.inl x).trans' hc2 (fun _ _ _ x=>x) (fun _ _ _ x=>x.elim)).setCell (.inl (.inr rfl)) _
 have hbn:b'≠n:=by
  have:=kbF h.at_.hd
  rcases a4 with ⟨e,_⟩ | ⟨e,_⟩
  ·rw [e];exact h.at_.d1
  ·omega
 have hhd:w2.heap[n]?=some (.cells (kgT p r l) p.TN (0,0)):=by
  rw [hc2.block (zk (kbF h.at_.hd) a2.size) (fun _ x=>x),a2.block (kbF h.at_.hd) (fun o hx=>h.at_.d1 hx.1.symm)];exact h.at_.hd
 have hc2':Chg (fun b _=>b=n) w2 (w2.setCell ⟨n,2,none⟩ (Is (some ⟨b',o',none⟩) ((r.items.length+ys.length:Nat)) cap')):=(Chg.refl _ _).setCell (.inl rfl) _
 have hdk:r.kids≠Option.none→b'≠l.cc∧b'≠l.cb:=by
  intro hne
  obtain ⟨e1,e2,e3,e4,e5⟩:=h.at_.d2 hne
  have:=h.at_.lt (b:=l.cc) (.inr (.inr ⟨hne,.inl rfl⟩))
  have:=h.at_.lt (b:=l.cb) (.inr (.inr ⟨hne,.inr rfl⟩))
  rcases a4 with ⟨e,_⟩ | ⟨e,_⟩
  ·rw [e];exact ⟨Ne.symm e3,Ne.symm e4⟩
  ·omega
 refine ⟨⟨?_,?_,?_,hbn,?_⟩,?_,?_,?_⟩
 ·rw [kbV hhd];simp [kgT]
 ·show RowAt _ _ b' o' (cap' * p.es) (flat p (r.items++ys))
  rw [flat_append]
  exact (a1.chg hc2 fun _ _ x=>x).chg hc2' fun _ _=>hbn
 ·intro ks hk
  have hne:r.kids≠Option.none:=by rw [show r.kids=some ks from hk];simp
  obtain ⟨k1,k2⟩:=h.at_.kid ks hk
  obtain ⟨e1,e2,e3,e4,e5⟩:=h.at_.d2 hne
  exact ⟨by rw [hA.block (kbF k1) (fun o hx=>by rcases hx with hx | hx;exact e3 hx.1;exact e1 hx)];exact k1,k2.chg hA fun _ _ hx=>by rcases hx with hx | hx;exact e4 hx.1;exact e2 hx⟩
 ·intro hne
  obtain ⟨e1,e2,e3,e4,e5⟩:=h.at_.d2 hne
  obtain ⟨f1,f2⟩:=hdk hne
  exact ⟨e1,e2,Ne.symm f1,Ne.symm f2,e5⟩
 ·refine h.chg.trans' hA (fun _ _ _ x=>x) ?_
  rintro b o hb (hx | rfl)
  ·rcases h.ext b o (hext b o hx) with hy | hy
   ·exact hy
   ·omega
  ·exact .inl rfl
 ·rintro b o (hx | ⟨e1,e2,e3⟩ | hx)
  ·exact .inl (.inl hx)
  ·have e1':b=b':=e1
   have e2':o'≤o:=e2
   have e3':o < o'+cap' * p.es:=e3
   rcases a4 with ⟨g1,g2,g3⟩ | ⟨g1,_⟩
   ·refine h.ext b o (.inr (.inl ⟨e1'.trans g1,by omega,?_⟩))
    rw [g2,g3] at e3';exact e3'
   ·exact .inr (by omega)
  ·exact h.ext b o (.inr (.inr hx))
 ·rintro b (hx | hx | hx)
  ·exact .inl (.inl hx)
  ·have hx':b=b':=hx
   rcases a4 with ⟨g1,_⟩ | ⟨g1,_⟩
   ·exact h.blk b (.inr (.inl (hx'.trans g1)))
   ·exact .inr (by omega)
  ·exact h.blk b (.inr (.inr hx))
theorem Run.cut (h:Run p w0 n r0 l0 w r l) (i j c:Nat) (hij:i+j≤r.items.length) (hjc:j≤c) (hic:i+c≤l.ic) :
  Run p w0 n r0 l0 (w.setCell ⟨n,2,none⟩ (Is (some ⟨l.ib,l.io+i * p.es,none⟩) j c)) { r with items:=(r.items.drop i).take j } { l with io:=l.io+i * p.es,ic:=c }:=by
 have hc:Chg (fun b _=>b=n) w (w.setCell ⟨n,2,none⟩ (Is (some ⟨l.ib,l.io+i * p.es,none⟩) j c)):=(Chg.refl _ _).setCell (.inl rfl) _
 have hm:(i+c) * p.es≤l.ic * p.es:=Nat.mul_le_mul_right _ hic
 rw [Nat.add_mul] at hm
 refine ⟨⟨?_,?_,?_,h.at_.d1,h.at_.d2⟩,h.chg.setCell (.inl (.inl rfl)) _,?_,fun b hb=>h.blk b hb⟩
 ·rw [kbV h.at_.hd]
  have:min j (r.items.length - i)=j:=by omega
  simp [kgT,this]
 ·exact h.at_.rowPart hc i j c hij hjc hic fun o _ _ e=>h.at_.d1 e
 ·intro ks hk
  have hne:r.kids≠Option.none:=by rw [show r.kids=some ks from hk];simp
  obtain ⟨k1,k2⟩:=h.at_.kid ks hk
  obtain ⟨e1,e2,_⟩:=h.at_.d2 hne
  exact ⟨by rw [hs_ne _ e1];exact k1,k2.chg hc fun _ _=>e2⟩
 ·rintro b o (hx | ⟨e1,e2,e3⟩ | hx)
  ·exact .inl (.inl hx)
  ·have e2':l.io+i * p.es≤o:=e2
   have e3':o < l.io+i * p.es+c * p.es:=e3
   exact h.ext b o (.inr (.inl ⟨e1,by omega,by omega⟩))
  ·exact h.ext b o (.inr (.inr hx))
theorem Run.putKids (h:Run p w0 n r0 l0 w r l) {ks:List (Option Nat)} (hk:r.kids=some ks) (i:Nat) (ys:List (Option Nat)) (hi:i+ys.length≤ks.length) :
  Run p w0 n r0 l0 (putCells w l.cb (l.co+i) (ys.map kidV)) { r with kids:=some (ks.take i++ys++ks.drop (i+ys.length)) } l:=by
 have hne:r.kids≠Option.none:=by rw [hk];simp
 have hklen:=h.at_.klen hk
 obtain ⟨k1,k2⟩:=h.at_.kid ks hk
 obtain ⟨e1,e2,e3,e4,e5⟩:=h.at_.d2 hne
 obtain ⟨q0,c,q1,q2,q3⟩:=k2
 have hin:∀o,l.co+i≤o→o < l.co+i+(ys.map kidV).length→Ext p n r l l.cb o:=fun o h1 h2=>.inr (.inr ⟨hne,.inr ⟨rfl,by omega,by simp at h2;omega⟩⟩)
 have hc:Chg (fun b o=>b=l.cb∧l.co+i≤o∧o < l.co+i+(ys.map kidV).length) w (putCells w l.cb (l.co+i) (ys.map kidV)) :=
  kdW (Chg.refl _ _) q1 (by simp;omega) (.inl fun o h1 h2=>⟨rfl,h1,h2⟩)
 have hl':(ks.take i++ys++ks.drop (i+ys.length)).length=ks.length:=by simp;omega
 refine ⟨⟨?_,?_,?_,h.at_.d1,fun _=>h.at_.d2 hne⟩,?_,?_,?_⟩
 ·rw [hc.block (kbF h.at_.hd) (fun o hx=>e2 hx.1.symm),h.at_.hd]
  simp [kgT,hk]
 ·exact h.at_.row.chg hc fun _ _ hx=>e4 hx.1.symm
 ·intro ks' hk'
  obtain rfl:=Iq hk'
  refine ⟨?_,?_⟩
  ·rw [hc.block (kbF k1) (fun o hx=>e5 hx.1.symm),k1,hl']
  ·have:=(h.at_.kid ks hk).2.putCells i (ys.map kidV) (by simp;omega) (by simp;omega)
   rw [zU,←List.map_take,←List.map_drop,←zv,←zv] at this
   exact this
 ·refine kdW h.chg q1 (by simp;omega) ?_
  by_cases hb:w0.heap.size≤l.cb
  ·exact .inr hb
  ·refine .inl fun o h1 h2=>?_
   rcases h.ext _ _ (hin o h1 h2) with hx | hx
   ·exact hx
   ·exact absurd hx hb
 ·rintro b o (hx | hx | ⟨_,hx⟩)
  ·exact .inl (.inl hx)
  ·exact h.ext b o (.inr (.inl hx))
  ·exact h.ext b o (.inr (.inr ⟨hne,hx⟩))
 ·rintro b (hx | hx | ⟨_,hx⟩)
  ·exact .inl (.inl hx)
  ·exact h.blk b (.inr (.inl hx))
  ·exact h.blk b (.inr (.inr ⟨hne,hx⟩))
theorem Run.appendKids (h:Run p w0 n r0 l0 w r l) {ks:List (Option Nat)} (hk:r.kids=some ks) (ys:List (Option Nat)) {b' o' cap':Nat} {w1:World} (ha:Appd p.TP 1 w l.cb l.co ks.length l.ck (ks.map kidV) (ys.map kidV) ys.length b' o' cap' w1)
  {w2:World} (hc2:Chg (fun _ _=>False) w1 w2) :
  Run p w0 n r0 l0 (w2.setCell ⟨l.cc,0,none⟩ (Is (some ⟨b',o',none⟩) ((ks.length+ys.length:Nat)) cap')) { r with kids:=some (ks++ys) } { l with cb:=b',co:=o',ck:=cap' }:=by
 obtain ⟨a1,a2,a3,a4⟩:=ha
 have hs0:=h.chg.size
 have hne:r.kids≠Option.none:=by rw [hk];simp
 obtain ⟨k1,k2⟩:=h.at_.kid ks hk
 obtain ⟨e1,e2,e3,e4,e5⟩:=h.at_.d2 hne
 have ltn:=kbF h.at_.hd
 have lti:=h.at_.row.lt
 have ltc:=kbF k1
 have hext:∀b o,b=l.cb∧l.co+ks.length * 1≤o∧o < l.co+l.ck * 1→Ext p n r l b o:=fun b o hx=>.inr (.inr ⟨hne,.inr ⟨hx.1,by omega,by omega⟩⟩)
 have hA:Chg (fun b o=>(b=l.cb∧l.co+ks.length * 1≤o∧o < l.co+l.ck * 1)∨b=l.cc) w (w2.setCell ⟨l.cc,0,none⟩ (Is (some ⟨b',o',none⟩) ((ks.length+ys.length:Nat)) cap')) :=
  ((a2.mono fun _ _ _ x=>.inl x).trans' hc2 (fun _ _ _ x=>x) (fun _ _ _ x=>x.elim)).setCell (.inl (.inr rfl)) _
 have hcc:w2.heap[l.cc]?=some (Ic #[Is (some ⟨l.cb,l.co,none⟩) ks.length l.ck] p.TS (0,0)):=by
  rw [hc2.block (zk ltc a2.size) (fun _ x=>x),a2.block ltc (fun o hx=>e5 hx.1.symm)];exact k1
 have hc2':Chg (fun b _=>b=l.cc) w2 (w2.setCell ⟨l.cc,0,none⟩ (Is (some ⟨b',o',none⟩) ((ks.length+ys.length:Nat)) cap')):=(Chg.refl _ _).setCell (.inl rfl) _
 have hd:b'≠n∧b'≠l.ib∧b'≠l.cc:=by
  rcases a4 with ⟨e,_⟩ | ⟨e,_⟩
  ·rw [e];exact ⟨e2,e4,e5⟩
  ·omega
 refine ⟨⟨?_,?_,?_,h.at_.d1,fun _=>⟨e1,hd.1,e3,hd.2.1,hd.2.2⟩⟩,?_,?_,?_⟩
 ·rw [hA.block ltn (fun o hx=>by rcases hx with hx | hx;exact e2 hx.1.symm;exact e1 hx.symm),h.at_.hd]
  simp [kgT,hk]
 ·exact h.at_.row.chg hA fun _ _ hx=>by rcases hx with hx | hx;exact e4 hx.1.symm;exact e3 hx.symm
 ·intro ks' hk'
  obtain rfl:=Iq hk'
  refine ⟨by rw [kbV hcc];simp,?_⟩
  show RowAt _ _ b' o' cap' ((ks++ys).map kidV)
  rw [zv]
  rw [Nat.mul_one] at a1
  exact (a1.chg hc2 fun _ _ x=>x).chg hc2' fun _ _=>hd.2.2
 ·refine h.chg.trans' hA (fun _ _ _ x=>x) ?_
  rintro b o hb (hx | rfl)
  ·rcases h.ext b o (hext b o hx) with hy | hy
   ·exact hy
   ·omega
  ·rcases h.ext l.cc o (.inr (.inr ⟨hne,.inl rfl⟩)) with hy | hy
   ·exact hy
   ·omega
 ·rintro b o (hx | hx | ⟨_,hx⟩)
  ·exact .inl (.inl hx)
  ·exact h.ext b o (.inr (.inl hx))
  ·rcases hx with hx | ⟨f1,f2,f3⟩
   ·exact h.ext b o (.inr (.inr ⟨hne,.inl hx⟩))
   ·have f1':b=b':=f1
    have f2':o'≤o:=f2
    have f3':o < o'+cap':=f3
    rcases a4 with ⟨g1,g2,g3⟩ | ⟨g1,_⟩
    ·exact h.ext b o (.inr (.inr ⟨hne,.inr ⟨f1'.trans g1,by omega,by omega⟩⟩))
    ·exact .inr (by omega)
 ·rintro b (hx | hx | ⟨_,hx⟩)
  ·exact .inl (.inl hx)
  ·exact h.blk b (.inr (.inl hx))
  ·rcases hx with hx | hx
   ·exact h.blk b (.inr (.inr ⟨hne,.inl hx⟩))
   ·have hx':b=b':=hx
    rcases a4 with ⟨g1,_⟩ | ⟨g1,_⟩
    ·exact h.blk b (.inr (.inr ⟨hne,.inr (hx'.trans g1)⟩))
    ·exact .inr (by omega)
theorem Run.cutKids (h:Run p w0 n r0 l0 w r l) {ks:List (Option Nat)} (hk:r.kids=some ks) (i j c:Nat) (hij:i+j≤ks.length) (hjc:j≤c) (hic:i+c≤l.ck) :
  Run p w0 n r0 l0 (w.setCell ⟨l.cc,0,none⟩ (Is (some ⟨l.cb,l.co+i,none⟩) j c)) { r with kids:=some ((ks.drop i).take j) } { l with co:=l.co+i,ck:=c }:=by
 have hne:r.kids≠Option.none:=by rw [hk];simp
 obtain ⟨k1,k2⟩:=h.at_.kid ks hk
 obtain ⟨e1,e2,e3,e4,e5⟩:=h.at_.d2 hne
 have hc:Chg (fun b _=>b=l.cc) w (w.setCell ⟨l.cc,0,none⟩ (Is (some ⟨l.cb,l.co+i,none⟩) j c)):=(Chg.refl _ _).setCell (.inl rfl) _
 refine ⟨⟨?_,?_,?_,h.at_.d1,fun _=>h.at_.d2 hne⟩,?_,?_,?_⟩
 ·rw [hs_ne _ (Ne.symm e1),h.at_.hd];simp [kgT,hk]
 ·exact h.at_.row.chg hc fun _ _=>Ne.symm e3
 ·intro ks' hk'
  obtain rfl:=Iq hk'
  refine ⟨?_,h.at_.kidPart hk hc i j c hij hjc hic fun o _ _=>e5⟩
  rw [kbV k1]
  have:min j (ks.length - i)=j:=by omega
  simp [this]
 ·refine h.chg.setCell ?_ _
  rcases h.ext l.cc 0 (.inr (.inr ⟨hne,.inl rfl⟩)) with hy | hy
  ·exact .inl hy
  ·exact .inr hy
 ·rintro b o (hx | hx | ⟨_,hx⟩)
  ·exact .inl (.inl hx)
  ·exact h.ext b o (.inr (.inl hx))
  ·rcases hx with hx | ⟨f1,f2,f3⟩
   ·exact h.ext b o (.inr (.inr ⟨hne,.inl hx⟩))
   ·have f2':l.co+i≤o:=f2
    have f3':o < l.co+i+c:=f3
    exact h.ext b o (.inr (.inr ⟨hne,.inr ⟨f1,by omega,by omega⟩⟩))
 ·rintro b (hx | hx | ⟨_,hx⟩)
  ·exact .inl (.inl hx)
  ·exact h.blk b (.inr (.inl hx))
  ·exact h.blk b (.inr (.inr ⟨hne,hx⟩))
end
theorem Fam.work {p:Par α} {w:World} {F:Nat→Prop} {H:Nat→Option (NodeR α)} (h:Fam p w F H) {n:Nat} {r:NodeR α} (hn:H n=some r) :
  ∃l,NodeAt p w n r l∧(∀b,Blk n r l b→F b)∧(∀c s,c≠n→H c=some s→(∃l',NodeAt p w c s l')∧∀o,¬Ext p n r l c o) ∧
   ∀w' r' l',Run p w n r l w' r' l'→Fam p w' (grow F w w') (upd H n r')∧Chg (fun b _=>F b) w w':=by
 obtain ⟨l,h1,h2,h3,h4⟩:=h.open hn
 exact ⟨l,h1,h2,h3,fun w' r' l' hr=>⟨h4 w' r' l' hr.chg hr.at_ hr.ext hr.blk,hr.chg.mono fun b o _ hb=>h2 b hb.blk⟩⟩
theorem set2 {β:Type} (l:List β) (a:Nat) (u v:β) (h:a+1 < l.length):(l.set a u).set (a+1) v=l.take a++[u,v]++l.drop (a+2):=by
 rw [List.set_eq_take_append_cons_drop,if_pos (by simpa using h),List.set_eq_take_append_cons_drop,if_pos (by omega)]
 have h1:(l.take a).length=a:=by simp;omega
 rw [List.take_append,List.drop_append,h1]
 simp [show a+1 - a=1 by omega,show a+1+1 - a=2 by omega,List.take_of_length_le,List.drop_eq_nil_of_le,h1]
 omega
theorem putCells_two {w:World} {b o:Nat} {c:Array Value} {T:TypeId} {fr:Nat×Nat} (h:w.heap[b]?=some (.cells c T fr)) (hlt:o+1 < c.size) (u v:Value) :
  (w.setCell ⟨b,o,none⟩ u).setCell ⟨b,o+1,none⟩ v=putCells w b o [u,v]:=by
 have e:(c.setIfInBounds o u).setIfInBounds (o+1) v=(c.toList.take o++[u,v]++c.toList.drop (o+[u,v].length)).toArray:=by
  apply Array.ext'
  have:=set2 c.toList o u v (by simpa using hlt)
  simpa using this
 simp only [putCells,h]
 unfold World.setCell World.setRow
 congr 1
 apply Array.ext_getElem?
 intro i
 simp only [Array.getElem?_modify]
 by_cases hi:b=i
 ·subst hi
  simp [h]
  simpa using e
 ·simp [hi]
theorem putCells_one {w:World} {b o:Nat} {c:Array Value} {T:TypeId} {fr:Nat×Nat} (h:w.heap[b]?=some (.cells c T fr)) (hlt:o < c.size) (u:Value) :
  w.setCell ⟨b,o,none⟩ u=putCells w b o [u]:=by
 have e:c.setIfInBounds o u=(c.toList.take o++[u]++c.toList.drop (o+[u].length)).toArray:=by
  apply Array.ext'
  have:c.toList.set o u=c.toList.take o++[u]++c.toList.drop (o+1):=by
   rw [List.set_eq_take_append_cons_drop,if_pos (by simpa using hlt)];simp
  simpa using this
 simp only [putCells,h]
 unfold World.setCell World.setRow
 congr 1
 apply Array.ext_getElem?
 intro i
 simp only [Array.getElem?_modify]
 by_cases hi:b=i
 ·subst hi
  simp [h]
  simpa using e
 ·simp [hi]
end
section
variable {α:Type}
def kbP:(h:Nat)→BT α h→NodeR α
 | 0,t=>⟨t.2.length,t.2,none⟩
 | h+1,t=>⟨(toL (h+1) t).length,t.2.1,some (t.2.2.map fun c=>some (rid c))⟩
def IsT (H:Nat→Option (NodeR α)):(h:Nat)→BT α h→Prop
 | 0,t=>H (rid t)=some (kbP 0 t)
 | h+1,t=>H (rid t)=some (kbP (h+1) t)∧∀c∈t.2.2,IsT H h c
variable {H:Nat→Option (NodeR α)}
theorem IsT.root:{h:Nat}→{t:BT α h}→IsT H h t→H (rid t)=some (kbP h t)
 | 0,_,h=>h
 | _+1,_,h=>h.1
variable {h:Nat} {t:BT α (h+1)} {c:BT α h}
theorem IsT.kid (hT:IsT H (h+1) t) (hc:c∈t.2.2):IsT H h c:=hT.2 c hc
theorem kbG:{h:Nat}→(t:BT α h)→(kbP h t).items=its t
 | 0,_=>rfl
 | _+1,_=>rfl
theorem kcH:{h:Nat}→(t:BT α h)→(kbP h t).cnt=(toL h t).length
 | 0,_=>rfl
 | _+1,_=>rfl
variable {n:Nat}
theorem kdF (hc:c∈t.2.2) (hn:n∈ids h c):n∈ids (h+1) t :=
 zQ _ (zzb.2 ⟨c,hc,hn⟩)
theorem IsT.congr {H H':Nat→Option (NodeR α)}:{h:Nat}→{t:BT α h}→IsT H h t→(∀n∈ids h t,H' n=H n)→IsT H' h t
 | 0,t,h,e=>(e _ (kcV t)).trans h
 | _+1,t,h,e=>⟨(e _ (kcV t)).trans h.1,fun c hc=>(h.2 c hc).congr fun n hn=>e n (kdF hc hn)⟩
theorem IsT.mem:{h:Nat}→{t:BT α h}→IsT H h t→∀{n:Nat},n∈ids h t→∃r,H n=some r
 | 0,t,h,n,hn=>by rw [zy.1 hn];exact ⟨_,h⟩
 | _+1,t,h,n,hn=>by
  rcases zR.1 hn with rfl | hn
  ·exact ⟨_,h.1⟩
  ·obtain ⟨c,hc,hm⟩:=zzb.1 hn
   exact (h.2 c hc).mem hm
theorem IsT.lt {p:Par α} {w:World} {F:Nat→Prop} (hF:Fam p w F H) {t:BT α h} (hT:IsT H h t) (hn:n∈ids h t):n < w.heap.size:=by
 obtain ⟨r,hr⟩:=hT.mem hn
 exact hF.lt (hF.mem hr)
theorem kcK (hd:(ids (h+1) t).Nodup) (hc:c∈t.2.2):rid t∉ids h c:=fun hm =>
 (zzc.1 hd).1 (zzb.2 ⟨c,hc,hm⟩)
theorem nodup_kid (hd:(ids (h+1) t).Nodup) (hc:c∈t.2.2):(ids h c).Nodup:=by
 obtain ⟨_,h2⟩:=zzc.1 hd
 obtain ⟨L,R,e⟩:=List.append_of_mem hc
 rw [e,List.flatMap_append,List.flatMap_cons] at h2
 exact (zzd.1 (zzd.1 h2).2.1).1
theorem nodup_apart {xs:List α} {L R:List (BT α h)} (hd:(ids (h+1) ((n,xs,L++c::R):BT α (h+1))).Nodup) {a:Nat} (ha:a∈ids h c) :
  a≠n∧a∉L.flatMap (ids h)∧a∉R.flatMap (ids h):=by
 have hd':(n::(L++c::R).flatMap (ids h)).Nodup:=hd
 obtain ⟨h1,h2⟩:=zzc.1 hd'
 rw [List.flatMap_append,List.flatMap_cons] at h1 h2
 obtain ⟨h3,h4,h5⟩:=zzd.1 h2
 obtain ⟨h6,h7,h8⟩:=zzd.1 h4
 refine ⟨fun e=>h1 (e▸zO.2 (.inr (zO.2 (.inl ha)))),fun hL=>h5 a hL a (zO.2 (.inl ha)) rfl,fun hR=>h8 a ha a hR rfl⟩
theorem ids_replace {xs xs':List α} {L R cs:List (BT α h)} {B:Nat} (hd:(ids (h+1) ((n,xs,L++c::R):BT α (h+1))).Nodup) (hB:∀a∈ids (h+1) ((n,xs,L++c::R):BT α (h+1)),a < B)
  (hcs:∀a∈cs.flatMap (ids h),a∈ids h c∨B≤a) (hnd:(cs.flatMap (ids h)).Nodup) :
  (ids (h+1) ((n,xs',L++cs++R):BT α (h+1))).Nodup∧∀a∈ids (h+1) ((n,xs',L++cs++R):BT α (h+1)),a∈ids (h+1) ((n,xs,L++c::R):BT α (h+1))∨B≤a:=by
 have hd':(n::(L++c::R).flatMap (ids h)).Nodup:=hd
 have hB':∀a∈(n::(L++c::R).flatMap (ids h)),a < B:=hB
 have ap:=fun a ha=>nodup_apart hd (a:=a) ha
 obtain ⟨h1,h2⟩:=zzc.1 hd'
 rw [List.flatMap_append,List.flatMap_cons] at h1 h2
 simp only [List.flatMap_append,List.flatMap_cons,zR,zO] at hB' h1
 obtain ⟨h3,h4,h5⟩:=zzd.1 h2
 obtain ⟨h6,h7,h8⟩:=zzd.1 h4
 show (n::(L++cs++R).flatMap (ids h)).Nodup∧∀a∈(n::(L++cs++R).flatMap (ids h)),a∈(n::(L++c::R).flatMap (ids h))∨B≤a
 rw [List.flatMap_append,List.flatMap_append]
 constructor
 ·refine zzc.2 ⟨?_,zzd.2 ⟨zzd.2 ⟨h3,hnd,?_⟩,h7,?_⟩⟩
  ·intro hm
   rcases zO.1 hm with hm | hm
   ·rcases zO.1 hm with hm | hm
    ·exact h1 (.inl hm)
    ·rcases hcs n hm with h | h
     ·exact (ap n h).1 rfl
     ·have:=hB' n (.inl rfl);omega
   ·exact h1 (.inr (.inr hm))
  ·rintro a ha b hb rfl
   rcases hcs a hb with h | h
   ·exact (ap a h).2.1 ha
   ·have:=hB' a (.inr (.inl ha));omega
  ·rintro a ha b hb rfl
   rcases zO.1 ha with ha | ha
   ·exact h5 a ha a (zO.2 (.inr hb)) rfl
   ·rcases hcs a ha with h | h
    ·exact (ap a h).2.2 hb
    ·have:=hB' a (.inr (.inr (.inr hb)));omega
 ·intro a ha
  simp only [List.flatMap_append,List.flatMap_cons,zR,zO] at ha ⊢
  rcases ha with ha | (ha | ha) | ha
  ·exact .inl (.inl ha)
  ·exact .inl (.inr (.inl ha))
  ·rcases hcs a ha with h | h
   ·exact .inl (.inr (.inr (.inl h)))
   ·exact .inr h
  ·exact .inl (.inr (.inr (.inr ha)))
variable {i:Nat}
theorem split_at {α:Type} {l:List α} {c:α} (h:l[i]?=some c):l=l.take i++c::l.drop (i+1):=by
 obtain ⟨hi,rfl⟩:=zG.1 h
 rw [←List.drop_eq_getElem_cons hi,zw]
theorem set_at {α:Type} {l:List α} {c c':α} (h:l[i]?=some c):l.set i c'=l.take i++[c']++l.drop (i+1):=by
 obtain ⟨hi,_⟩:=zG.1 h
 rw [List.set_eq_take_append_cons_drop,if_pos hi];simp
theorem ids_setKid {c c':BT α h} {B:Nat} (hc:t.2.2[i]?=some c) (hd:(ids (h+1) t).Nodup) (hB:∀a∈ids (h+1) t,a < B)
  (hcs:∀a∈ids h c',a∈ids h c∨B≤a) (hnd:(ids h c').Nodup):(ids (h+1) (setKid t i c')).Nodup∧∀a∈ids (h+1) (setKid t i c'),a∈ids (h+1) t∨B≤a:=by
 obtain ⟨n,xs,ts⟩:=t
 have e:ts=ts.take i++c::ts.drop (i+1):=split_at hc
 have e':setKid ((n,xs,ts):BT α (h+1)) i c'=((n,xs,ts.take i++[c']++ts.drop (i+1)):BT α (h+1)):=by
  show (n,xs,ts.set i c')=_
  rw [set_at hc]
 rw [e']
 have e2:ids (h+1) ((n,xs,ts):BT α (h+1))=ids (h+1) ((n,xs,ts.take i++c::ts.drop (i+1)):BT α (h+1)):=by rw [←e]
 rw [e2] at hd hB ⊢
 exact ids_replace (xs':=xs) (cs:=[c']) hd hB (by simpa using hcs) (by simpa using hnd)
end
section
variable {α:Type}
theorem rid_setIt:{h:Nat}→(t:BT α h)→(i:Nat)→(x:α)→rid (setIt t i x)=rid t
 | 0,_,_,_=>rfl
 | _+1,_,_,_=>rfl
theorem ids_setIt:{h:Nat}→(t:BT α h)→(i:Nat)→(x:α)→ids h (setIt t i x)=ids h t
 | 0,_,_,_=>rfl
 | _+1,_,_,_=>rfl
theorem its_setIt:{h:Nat}→(t:BT α h)→(i:Nat)→(x:α)→its (setIt t i x)=(its t).set i x
 | 0,_,_,_=>rfl
 | _+1,_,_,_=>rfl
theorem sh_setIt:{h:Nat}→{t:BT α h}→{mn mx:Nat}→(i:Nat)→(x:α)→Sh mn mx h t→Sh mn mx h (setIt t i x)
 | 0,t,mn,mx,i,x,hs=>by show (t.2.set i x).length≤mx;rw [zW];exact hs
 | h+1,t,mn,mx,i,x,hs=>by
  show (t.2.1.set i x).length≤mx∧t.2.2.length=(t.2.1.set i x).length+1∧_
  rw [zW];exact hs
variable {mn mx i:Nat} {h:Nat} {t:BT α h} {y:α}
theorem toL_setIt_len (hs:Sh mn mx h t) (hy:(its t)[i]?=some y) (x:α):(toL h (setIt t i x)).length=(toL h t).length:=by
 obtain ⟨P,S,h1,h2⟩:=toL_around hs hy
 rw [h1,h2];simp
theorem recOf_setIt (hs:Sh mn mx h t) (hy:(its t)[i]?=some y) (x:α):kbP h (setIt t i x)={ kbP h t with items:=(its t).set i x }:=by
 have hl:=toL_setIt_len hs hy x
 match h,t with
 | 0,t =>
  show (⟨((t.2.set i x).length:Nat),t.2.set i x,none⟩:NodeR α)=⟨(t.2.length:Nat),t.2.set i x,none⟩
  rw [zW]
 | h+1,t =>
  show (⟨((toL (h+1) (setIt t i x)).length:Nat),t.2.1.set i x,_⟩:NodeR α)=⟨((toL (h+1) t).length:Nat),t.2.1.set i x,_⟩
  rw [hl];rfl
theorem IsT.setRoot {H:Nat→Option (NodeR α)} {t t':BT α h} (hT:IsT H h t) (hd:(ids h t).Nodup) (h1:rid t'=rid t) (h2:∀{h':Nat} (e:h=h'+1),(e▸t':BT α (h'+1)).2.2=(e▸t:BT α (h'+1)).2.2) (r:NodeR α) (hr:kbP h t'=r):IsT (upd H (rid t) r) h t':=by
 match h,t,t' with
 | 0,t,t' =>
  show upd H (rid t) r (rid t')=some (kbP 0 t')
  rw [h1,hr];exact if_pos rfl
 | h+1,t,t' =>
  refine ⟨?_,fun c hc=>?_⟩
  ·show upd H (rid t) r (rid t')=some (kbP (h+1) t')
   rw [h1,hr];exact if_pos rfl
  ·have hc':c∈t.2.2:=by have:=h2 rfl;rw [←this];exact hc
   refine (hT.2 c hc').congr fun a ha=>?_
   have:a≠rid t:=fun e=>kcK hd hc' (e▸ha)
   exact if_neg this
theorem IsT.setIt {H:Nat→Option (NodeR α)} (hT:IsT H h t) (hd:(ids h t).Nodup) (hs:Sh mn mx h t) (hy:(its t)[i]?=some y) (x:α) :
  IsT (upd H (rid t) { kbP h t with items:=(its t).set i x }) h (Go.Proofs.Ytnohimhihombmaa.setIt t i x) :=
 hT.setRoot hd (rid_setIt t i x) (by rintro h' rfl;rfl) _ (recOf_setIt hs hy x)
variable {lt:α→α→Bool}
theorem toL_hit (s:Swo lt) {x y:α} (hs:Sh mn mx h t) (hsrt:Srt lt (toL h t)) (hy:HitAt lt (its t) x i y) :
  toL h (setIt t i x)=insL lt x (toL h t)∧fndL lt x (toL h t)=some y:=by
 obtain ⟨P,S,h1,h2⟩:=toL_around hs hy.at_
 rw [h1] at hsrt ⊢
 have hP:∀a∈P,lt a x=true:=fun a ha=>s.lt_of_lt_of_nlt ((zZ.1 hsrt).2.2 a ha y zP) hy.n2
 exact ⟨by rw [h2,insL_hit hP hy.n1 hy.n2],fndL_hit hP hy.n1 hy.n2⟩
variable {x:α}
theorem pos_mem {xs:List α} {i:Nat} (h:PosAt lt xs x i):(∀a∈xs.take i,lt a x=true)∧(∀a∈xs.drop i,lt x a=true):=by
 constructor
 ·intro a ha
  obtain ⟨j,h1,h2⟩:=kfR ha
  exact h.left j a h1 h2
 ·intro a ha
  obtain ⟨j,h1,h2⟩:=mem_drop_get ha
  exact h.right j a h1 h2
theorem pos_gap (s:Swo lt) {xs:List α} {i:Nat} (h:PosAt lt xs x i):insL lt x xs=xs.take i++x::xs.drop i∧fndL lt x xs=none:=by
 obtain ⟨h1,h2⟩:=pos_mem h
 have e1:=insL_gap s h1 h2
 have e2:=fndL_gap s h1 h2
 rw [zw] at e1 e2
 exact ⟨e1,e2⟩
theorem pos_or_hit (s:Swo lt):∀{xs:List α},Srt lt xs→(∃i,PosAt lt xs x i)∨(∃i y,HitAt lt xs x i y)
 | [],_=>.inl ⟨0,zi _,fun j y _ h=>by simp at h,fun j y _ h=>by simp at h⟩
 | z::xs,h=>by
  obtain ⟨h1,h2⟩:=List.pairwise_cons.1 h
  cases hz:lt z x with
  | true =>
   have left:∀{i:Nat},(∀j y,j < i→xs[j]?=some y→lt y x=true)→∀j y,j < i+1→(z::xs)[j]?=some y→lt y x=true:=by
    intro i hl j y hj hy
    cases j with
    | zero =>
     obtain rfl:z=y:=by simpa using hy
     exact hz
    | succ j=>exact hl j y (by omega) (by simpa using hy)
   rcases pos_or_hit s h2 with ⟨i,hi⟩ | ⟨i,y,hi⟩
   ·refine .inl ⟨i+1,by have:=hi.le;simp;omega,left hi.left,fun j y hj hy=>?_⟩
    cases j with
    | zero=>omega
    | succ j=>exact hi.right j y (by omega) (by simpa using hy)
   ·exact .inr ⟨i+1,y,by simpa using hi.at_,left hi.left,hi.n1,hi.n2⟩
  | false =>
   cases hx:lt x z with
   | true =>
    refine .inl ⟨0,Nat.zero_le _,fun j y h=>by omega,fun j y _ hy=>?_⟩
    cases j with
    | zero =>
     obtain rfl:z=y:=by simpa using hy
     exact hx
    | succ j=>exact s.trans hx (h1 y (List.mem_of_getElem? (by simpa using hy)))
   | false=>exact .inr ⟨0,z,rfl,fun j y h=>by omega,hz,hx⟩
def cutL:{h:Nat}→BT α h→Nat→BT α h
 | 0,t,i=>(t.1,t.2.take i)
 | _+1,t,i=>(t.1,t.2.1.take i,t.2.2.take (i+1))
def cutR:{h:Nat}→BT α h→Nat→Nat→BT α h
 | 0,t,m,i=>(m,t.2.drop (i+1))
 | _+1,t,m,i=>(m,t.2.1.drop (i+1),t.2.2.drop (i+1))
theorem its_cutL:{h:Nat}→(t:BT α h)→(i:Nat)→its (cutL t i)=(its t).take i
 | 0,_,_=>rfl
 | _+1,_,_=>rfl
theorem its_cutR:{h:Nat}→(t:BT α h)→(m i:Nat)→its (cutR t m i)=(its t).drop (i+1)
 | 0,_,_,_=>rfl
 | _+1,_,_,_=>rfl
theorem rid_cutL:{h:Nat}→(t:BT α h)→(i:Nat)→rid (cutL t i)=rid t
 | 0,_,_=>rfl
 | _+1,_,_=>rfl
theorem rid_cutR:{h:Nat}→(t:BT α h)→(m i:Nat)→rid (cutR t m i)=m
 | 0,_,_,_=>rfl
 | _+1,_,_,_=>rfl
theorem toL_cut (m:Nat) (hs:Sh mn mx h t) (hx:(its t)[i]?=some x):toL h t=toL h (cutL t i)++x::toL h (cutR t m i):=by
 match h,t with
 | 0,t=>exact split_at hx
 | h+1,t =>
  have hx':t.2.1[i]?=some x:=hx
  have hi:i < t.2.1.length:=(zG.1 hx').1
  have hl:t.2.2.length=t.2.1.length+1:=hs.2.1
  show kcM t.2.1 (t.2.2.map (toL h))=kcM (t.2.1.take i) ((t.2.2.take (i+1)).map (toL h))++x::kcM (t.2.1.drop (i+1)) ((t.2.2.drop (i+1)).map (toL h))
  rw [←kgV _ _ _ _ _ (by simp;omega),←zv,zw,←split_at hx']
theorem sh_cut (m:Nat) (hs:Sh mn mx h t) (hi:i < (its t).length):Sh mn mx h (cutL t i)∧Sh mn mx h (cutR t m i):=by
 match h,t with
 | 0,t =>
  have h0:t.2.length≤mx:=hs
  show (t.2.take i).length≤mx∧(t.2.drop (i+1)).length≤mx
  simp;omega
 | h+1,t =>
  have hi':i < t.2.1.length:=hi
  obtain ⟨h1,h2,h3⟩:=hs
  refine ⟨⟨?_,?_,fun c hc=>h3 c (List.mem_of_mem_take hc)⟩,⟨?_,?_,fun c hc=>h3 c (List.mem_of_mem_drop hc)⟩⟩
  ·show (t.2.1.take i).length≤mx
   simp;omega
  ·show (t.2.2.take (i+1)).length=(t.2.1.take i).length+1
   simp;omega
  ·show (t.2.1.drop (i+1)).length≤mx
   simp;omega
  ·show (t.2.2.drop (i+1)).length=(t.2.1.drop (i+1)).length+1
   simp;omega
theorem ids_cut {m i B:Nat} (hd:(ids h t).Nodup) (hB:∀a∈ids h t,a < B) (hm:B≤m) :
  (ids h (cutL t i)++ids h (cutR t m i)).Nodup∧(∀a∈ids h (cutL t i),a∈ids h t)∧∀a∈ids h (cutR t m i),a∈ids h t∨a=m:=by
 match h,t with
 | 0,t =>
  have h0:t.1 < B:=hB t.1 (zy.2 rfl)
  refine ⟨?_,?_,?_⟩
  ·show ([t.1]++[m]).Nodup
   simp;omega
  ·intro a ha;exact ha
  ·intro a ha;exact .inr (zy.1 ha)
 | h+1,t =>
  obtain ⟨h1,h2⟩:=zzc.1 hd
  have h0:t.1 < B:=hB t.1 zP
  have hB':∀a∈t.2.2.flatMap (ids h),a < B:=fun a ha=>hB a (zQ _ ha)
  have e:t.2.2.flatMap (ids h)=(t.2.2.take (i+1)).flatMap (ids h)++(t.2.2.drop (i+1)).flatMap (ids h):=by rw [←List.flatMap_append,zw]
  change t.1∉t.2.2.flatMap (ids h) at h1
  change (t.2.2.flatMap (ids h)).Nodup at h2
  rw [e] at h1 h2 hB'
  obtain ⟨g1,g2,g3⟩:=zzd.1 h2
  show ((t.1::(t.2.2.take (i+1)).flatMap (ids h))++(m::(t.2.2.drop (i+1)).flatMap (ids h))).Nodup∧(∀a∈(t.1::(t.2.2.take (i+1)).flatMap (ids h)),a∈(t.1::t.2.2.flatMap (ids h))) ∧
   ∀a∈(m::(t.2.2.drop (i+1)).flatMap (ids h)),a∈(t.1::t.2.2.flatMap (ids h))∨a=m
  rw [e]
  simp only [zO] at h1 hB'
  refine ⟨zzd.2 ⟨zzc.2 ⟨fun h=>h1 (.inl h),g1⟩,zzc.2 ⟨fun h=>?_,g2⟩,?_⟩,?_,?_⟩
  ·have:=hB' m (.inr h);omega
  ·rintro a ha b hb rfl
   rcases zR.1 ha with rfl | ha
   ·rcases zR.1 hb with hb | hb
    ·omega
    ·exact h1 (.inr hb)
   ·rcases zR.1 hb with rfl | hb
    ·have:=hB' a (.inl ha);omega
    ·exact g3 a ha a hb rfl
  ·intro a ha
   rcases zR.1 ha with rfl | ha
   ·exact zP
   ·exact zQ _ (zO.2 (.inl ha))
  ·intro a ha
   rcases zR.1 ha with rfl | ha
   ·exact .inr rfl
   ·exact .inl (zQ _ (zO.2 (.inr ha)))
theorem inter_put:∀(i:Nat) (xs:List α) (ts:List (List α)) (t1 t2:List α) (x:α),ts.length=xs.length+1→ts[i]?=some (t1++x::t2) →
  kcM (xs.take i++x::xs.drop i) (ts.take i++t1::t2::ts.drop (i+1))=kcM xs ts
 | 0,xs,u::ts,t1,t2,x,h,hi=>by
  obtain rfl:u=t1++x::t2:=by simpa using hi
  have hl:ts.length=xs.length:=by simpa using h
  simp only [List.take_zero,List.nil_append,List.drop_zero,za,kcM]
  rw [inter_eq xs t2 ts hl,inter_eq xs _ ts hl];simp
 | i+1,y::xs,u::ts,t1,t2,x,h,hi=>by
  simp only [List.take_succ_cons,za,List.cons_append,kcM]
  rw [inter_put i xs ts t1 t2 x (by simpa using h) (by simpa using hi)]
 | i+1,[],u::ts,t1,t2,x,h,hi=>by
  obtain rfl:ts=[]:=by simpa using h
  simp at hi
 | i,xs,[],t1,t2,x,h,hi=>by simp at hi
def put2 {h:Nat} (t:BT α (h+1)) (i:Nat) (x:α) (c1 c2:BT α h):BT α (h+1):=(t.1,t.2.1.take i++x::t.2.1.drop i,t.2.2.take i++[c1,c2]++t.2.2.drop (i+1))
theorem toL_put2 {t:BT α (h+1)} {c c1 c2:BT α h} (hs:Sh mn mx (h+1) t) (hc:t.2.2[i]?=some c) (e:toL h c=toL h c1++x::toL h c2):toL (h+1) (put2 t i x c1 c2)=toL (h+1) t:=by
 show kcM (t.2.1.take i++x::t.2.1.drop i) ((t.2.2.take i++[c1,c2]++t.2.2.drop (i+1)).map (toL h))=kcM t.2.1 (t.2.2.map (toL h))
 rw [←inter_put i t.2.1 (t.2.2.map (toL h)) (toL h c1) (toL h c2) x (by simpa using hs.2.1) (by simp [hc,e])]
 congr 1
 simp
theorem sh_put2 {t:BT α (h+1)} {c c1 c2:BT α h} (hs:Sh mn mx (h+1) t) (hc:t.2.2[i]?=some c) (hl:t.2.1.length < mx) (h1:Sh mn mx h c1) (h2:Sh mn mx h c2) (m1:mn≤(its c1).length) (m2:mn≤(its c2).length) :
  Sh mn mx (h+1) (put2 t i x c1 c2):=by
 obtain ⟨g1,g2,g3⟩:=hs
 have hi:i < t.2.2.length:=(zG.1 hc).1
 refine ⟨?_,?_,?_⟩
 ·show (t.2.1.take i++x::t.2.1.drop i).length≤mx
  simp;omega
 ·show (t.2.2.take i++[c1,c2]++t.2.2.drop (i+1)).length=(t.2.1.take i++x::t.2.1.drop i).length+1
  simp;omega
 ·intro d hd
  change d∈t.2.2.take i++[c1,c2]++t.2.2.drop (i+1) at hd
  simp only [zO,zR,List.not_mem_nil,or_false] at hd
  rcases hd with (hd | rfl | rfl) | hd
  ·exact g3 d (List.mem_of_mem_take hd)
  ·exact ⟨m1,h1⟩
  ·exact ⟨m2,h2⟩
  ·exact g3 d (List.mem_of_mem_drop hd)
end
end Go.Proofs.Ytnohimhihombmaa
