/- The queue against the blocks: what a pop gives and what it leaves. No program in sight. -/
import Derived.Test.YtnohimhihombmaaA1
import Derived.Test.YtnohimhihombmaaA8
import Derived.Test.YtnohimhihombmaaA10
import Derived.Test.YtnohimhihombmaaT1
namespace Go.Proofs.Ytnohimhihombmaa
set_option linter.unusedSimpArgs false
set_option linter.unusedVariables false
set_option maxRecDepth 100000
set_option maxHeartbeats 40000000
open Value renaming int → Ii, pointer → Ip, slice → Is, tuple → Iu
open IntKind renaming i64 → Ij
open Obj renaming cells → Ic
open Ending renaming returned → Ir
open Option.some renaming inj → Iq
open _root_.Go.Proofs.Try renaming prog → Tp
open List renaming getElem?_eq_some_iff → zG, getElem?_eq_getElem → zH, mem_append_right → zM, mem_append_left → zN, mem_append → zO, mem_cons_self → zP, mem_cons_of_mem → zQ, mem_cons → zR, mem_of_getElem? → zS, length_append → zT, length_take → zV, length_set → zW, pairwise_append → zZ, getElem?_append_left → zn, getElem?_append_right → zo, getElem?_take_of_lt → zq, getElem?_set_ne → zr, append_assoc → zu, map_append → zv, mem_singleton → zy, mem_flatMap → zzb
section
section
variable {α:Type} {Bd Q Bd' Q':α→Prop}
theorem kgQ (hB:∀s,Bd' s→Bd s) (hQ:∀v,Q' v→Q v):(h:Nat)→(T:BT α h)→kcG Bd Q h T→kcG Bd' Q' h T
 | 0,_,_=>trivial
 | h+1,_,hf=>⟨fun a j s c h1 h2 h3 h4 v hv h5=>hf.1 a j s c h1 (hB s h2) h3 h4 v hv (hQ v h5),fun c hc=>kgQ hB hQ h c (hf.2 c hc)⟩
theorem flag_add {mn mx:Nat} {lt:α→α→Bool} {z:α}:(h:Nat)→(T:BT α h)→Sh mn mx h T→Srt lt (toL h T)→(∀u∈toL h T,Bd u→lt u z=false)→kcG Bd Q h T→kcG Bd (fun v=>Q v∨v=z) h T
 | 0,_,_,_,_,_=>trivial
 | h+1,T,hs,hsrt,hz,hf=>by
  refine ⟨fun a j s c h1 h2 h3 h4 v hv h5=>?_,fun c hc=>?_⟩
  ·rcases h5 with h5 | rfl
   ·exact hf.1 a j s c h1 h2 h3 h4 v hv h5
   ·have hlt:lt s v=true:=by
     have hja:j≤T.2.1.length:=by
      have:=(zG.1 h4).1
      have:=hs.2.1
      omega
     rw [kfY hs h4] at hsrt
     have hsp:s∈pre (T.2.1.take j) ((T.2.2.map (toL h)).take j):=by
      have e:(T.2.1.take j)[a]?=some s:=by rw [zq h3];exact h1
      have hm:=zS e
      have hl:(T.2.1.take j).length≤((T.2.2.map (toL h)).take j).length:=by
       have:=hs.2.1
       simp only [zV,List.length_map];omega
      generalize T.2.1.take j=xs at hm hl
      generalize (T.2.2.map (toL h)).take j=ts at hl
      clear e hsrt
      induction xs generalizing ts with
      | nil=>cases hm
      | cons x xs ih =>
       cases ts with
       | nil=>simp at hl
       | cons t ts =>
        show s∈t++x::pre xs ts
        rcases zR.1 hm with rfl | hm
        ·exact zM _ zP
        ·exact zM _ (zQ _ (ih hm ts (by simpa using hl)))
     have h6:=(zZ.1 (zZ.1 hsrt).1).2.2
     exact h6 s hsp v hv
    have h7:=hz s (its_toL hs s (zS h1)) h2
    rw [hlt] at h7;cases h7
  ·refine flag_add h c (hs.2.2 c hc).2 ?_ (fun u hu hb=>hz u (kid_toL hs hc hu) hb) (hf.2 c hc)
   obtain ⟨j,hj⟩:=List.mem_iff_getElem?.1 hc
   rw [kfY hs hj] at hsrt
   exact (zZ.1 (zZ.1 hsrt).1).2.1
theorem flag_kid {h:Nat} {n:Nat} {I:List α} {K:List (BT α h)} {i:Nat} {c c':BT α h} (hc:K[i]?=some c) (hsub:∀v∈toL h c',v∈toL h c) (hf':kcG Bd Q h c') (hf:kcG Bd Q (h+1) ((n,I,K):BT α (h+1))):kcG Bd Q (h+1) ((n,I,K.set i c'):BT α (h+1)):=by
 have hil:=(zG.1 hc).1
 refine ⟨fun a j s d h1 h2 h3 h4 v hv=>?_,fun d hd=>?_⟩
 ·change (K.set i c')[j]?=some d at h4
  by_cases e:j=i
  ·subst e
   rw [List.getElem?_set_self hil] at h4
   obtain rfl:=Iq h4
   exact hf.1 a j s c h1 h2 h3 hc v (hsub v hv)
  ·rw [zr (Ne.symm e)] at h4
   exact hf.1 a j s d h1 h2 h3 h4 v hv
 ·change d∈K.set i c' at hd
  rcases List.mem_or_eq_of_mem_set hd with hd | rfl
  ·exact hf.2 d hd
  ·exact hf'
theorem flag_pair {h:Nat} {n:Nat} {X Y:List α} {x:α} {L R:List (BT α h)} {A B:BT α h} (hL:L.length=X.length) (hf:kcG Bd Q (h+1) ((n,X++x::Y,L++A::B::R):BT α (h+1))):kcG Bd Q (h+1) ((n,X++Y,L++A::R):BT α (h+1)):=by
 refine ⟨fun a j s d h1 h2 h3 h4 v hv=>?_,fun d hd=>?_⟩
 ·change (X++Y)[a]?=some s at h1
  change (L++A::R)[j]?=some d at h4
  have top:∀a j s d,(X++x::Y)[a]?=some s→Bd s→a < j→(L++A::B::R)[j]?=some d→∀v∈toL h d,¬Q v:=hf.1
  have hk:∃j',(j'=j∨(j'=j+1∧X.length < j))∧(X.length < j→j'=j+1)∧(L++A::B::R)[j']?=some d:=by
   by_cases e:j≤X.length
   ·refine ⟨j,.inl rfl,fun h=>by omega,?_⟩
    rw [show L++A::R=(L++[A])++R by simp,zn (by simp;omega)] at h4
    rw [show L++A::B::R=(L++[A])++B::R by simp,zn (by simp;omega)]
    exact h4
   ·refine ⟨j+1,.inr ⟨rfl,by omega⟩,fun _=>rfl,?_⟩
    rw [show L++A::R=(L++[A])++R by simp,zo (by simp;omega)] at h4
    rw [show L++A::B::R=(L++[A,B])++R by simp,zo (by simp;omega)]
    rw [←h4]
    congr 1
    simp
  obtain ⟨j',hj,hj2,hk⟩:=hk
  by_cases e:a < X.length
  ·rw [zn e] at h1
   refine top a j' s d (by rw [zn e];exact h1) h2 (by omega) hk v hv
  ·rw [zo (by omega)] at h1
   have h5:=hj2 (by omega)
   refine top (a+1) j' s d ?_ h2 (by omega) hk v hv
   rw [zo (by omega),show a+1 - X.length=(a - X.length)+1 by omega,List.getElem?_cons_succ]
   exact h1
 ·change d∈L++A::R at hd
  refine hf.2 d ?_
  show d∈L++A::B::R
  rcases zO.1 hd with hd | hd
  ·exact zN _ hd
  ·rcases zR.1 hd with rfl | hd
   ·exact zM _ zP
   ·exact zM _ (zQ _ (zQ _ hd))
end
end
section
section
variable {α:Type}
def bmp (H:Nat→Option (NodeR α)) (S:List Nat) (δ:Int):Nat→Option (NodeR α):=fun m=>if m∈S then (H m).map (fun r=>{ r with cnt:=r.cnt+δ }) else H m
theorem bmp_nil (H:Nat→Option (NodeR α)) (δ:Int):bmp H [] δ=H:=by funext m;simp [bmp]
variable {H:Nat→Option (NodeR α)} {S:List Nat} {δ:Int} {m:Nat}
theorem bmp_out (h:m∉S):bmp H S δ m=H m:=if_neg h
theorem bmp_in {r:NodeR α} (h:m∈S) (hr:H m=some r):bmp H S δ m=some { r with cnt:=r.cnt+δ }:=by simp [bmp,h,hr]
theorem bmp_snoc {n:Nat} {r:NodeR α} (hr:H n=some r):upd (bmp H S δ) n { r with cnt:=r.cnt+δ }=bmp H (S++[n]) δ:=by
 funext m
 by_cases e:m=n
 ·subst e;rw [kbX,bmp_in (by simp) hr]
 ·rw [kcP _ _ e];unfold bmp;simp [e]
inductive Road:(h:Nat)→BT α h→List Nat→List Nat→Nat→(h':Nat)→BT α h'→Prop
 | nil {h:Nat} {T:BT α h}:Road h T [] [] 0 h T
 | snoc {h:Nat} {T:BT α h} {B P:List Nat} {off h':Nat} {T':BT α (h'+1)} {j:Nat} {c:BT α h'}:Road h T B P off (h'+1) T'→T'.2.2[j]?=some c →
   Road h T (B++[j]) (P++[rid T']) (off+(pre (T'.2.1.take j) ((T'.2.2.map (toL h')).take j)).length) h' c
variable {h:Nat}
theorem Road.out {T:BT α h} {B P:List Nat} {off h':Nat} {T':BT α h'} (hr:Road h T B P off h' T') (hd:(ids h T).Nodup):(∀a∈ids h' T',a∈ids h T)∧(ids h' T').Nodup∧(∀a∈P,a∉ids h' T'∧a∈ids h T):=by
 induction hr with
 | nil=>exact ⟨fun _ h=>h,hd,fun _ h=>by cases h⟩
 | snoc hr hc ih =>
  obtain ⟨h1,h2,h3⟩:=ih
  have hm:=zS hc
  refine ⟨fun a ha=>h1 a (kdF hm ha),nodup_kid h2 hm,fun a ha=>?_⟩
  rcases zO.1 ha with ha | ha
  ·exact ⟨fun hc2=>(h3 a ha).1 (kdF hm hc2),(h3 a ha).2⟩
  ·rw [zy.1 ha]
   exact ⟨kcK h2 hm,h1 _ (kcV _)⟩
structure SubIn (mn mx:Nat) (H H':Nat→Option (NodeR α)) (h:Nat) (T T':BT α h) (m:Nat):Prop where
 isT:IsT H' h T'
 rid':rid T'=rid T
 nd:(ids h T').Nodup
 sub:∀a∈ids h T',a∈ids h T
 sh:Sh mn mx h T'
 rest:∀a,a∉ids h T→H' a=H a
 mem:∀v∈toL h T',v∈toL h T
 flag:∀Bd Q:α→Prop,kcG Bd Q h T→kcG Bd Q h T'
theorem cut1_sub {mn mx:Nat} {H H1:Nat→Option (NodeR α)} {T:BT α (h+1)} {i:Nat} {c c':BT α h} {xs:List α} (hT:IsT H (h+1) T) (hd:(ids (h+1) T).Nodup) (hs:Sh mn mx (h+1) T) (hc:T.2.2[i]?=some c) (hi:SubIn mn mx H H1 h c c' m) (hx:xs.length=T.2.1.length) :
  Cut1 mn mx H (upd H1 (rid T) ⟨((toL (h+1) (cutK T xs i c')).length:Nat),xs,(kbP (h+1) T).kids⟩) h T (cutK T xs i c') i c':=by
 have hcm:c∈T.2.2:=zS hc
 obtain ⟨hil,_⟩:=zG.1 hc
 have hroot:rid T∉ids h c:=kcK hd hcm
 have hB:∃B,∀a∈ids (h+1) T,a < B:=by
  clear hT hd hs hroot
  generalize ids (h+1) T=l
  induction l with
  | nil=>exact ⟨0,by simp⟩
  | cons a l ih =>
   obtain ⟨B,hB⟩:=ih
   refine ⟨max B (a+1),fun b hb=>?_⟩
   rcases zR.1 hb with rfl | hb
   ·omega
   ·have:=hB b hb;omega
 obtain ⟨B,hB⟩:=hB
 obtain ⟨n1,n2⟩:=ids_setKid (c':=c') hc hd hB (fun a ha=>.inl (hi.sub a ha)) hi.nd
 have n3:∀a∈ids (h+1) (setKid T i c'),a∈ids (h+1) T:=by
  intro a ha
  have e:ids (h+1) (setKid T i c')=T.1::(T.2.2.set i c').flatMap (ids h):=rfl
  rw [e] at ha
  rcases zR.1 ha with rfl | ha
  ·exact zP
  ·obtain ⟨d,hd1,hd2⟩:=zzb.1 ha
   rcases kdK hc hd1 with rfl | hd1
   ·exact kdF hcm (hi.sub a hd2)
   ·exact kdF (kid_mem hd1) hd2
 have hkids:(T.2.2.set i c').map (fun c=>some (rid c))=T.2.2.map fun c=>some (rid c):=by
  rw [List.map_set,hi.rid']
  exact set_same (by simp [hc])
 have hoff:∀a,a≠rid T→upd H1 (rid T) (⟨((toL (h+1) (cutK T xs i c')).length:Nat),xs,(kbP (h+1) T).kids⟩:NodeR α) a=H1 a:=fun a ha=>kcP _ _ ha
 refine ⟨⟨?_,fun d hd2=>?_⟩,rfl,n1,n3,hx,?_,fun d hd2=>?_,fun j d hj hji=>?_,?_,fun a ha=>?_⟩
 ·refine (kbX _ _ _).trans ?_
  show _=some (⟨((toL (h+1) (cutK T xs i c')).length:Nat),xs,some ((T.2.2.set i c').map fun c=>some (rid c))⟩:NodeR α)
  rw [hkids];rfl
 ·change d∈T.2.2.set i c' at hd2
  rcases kdK hc hd2 with rfl | hd2
  ·exact hi.isT.congr fun a ha=>hoff a fun e=>hroot (e▸hi.sub a ha)
  ·have hdm:=kid_mem hd2
   refine (hT.2 d hdm).congr fun a ha=>?_
   rw [hoff a fun e=>kcK hd hdm (e▸ha)]
   exact hi.rest a (kid_apart hc hd hd2 ha)
 ·show (T.2.2.set i c').length=xs.length+1
  rw [zW,hx];exact hs.2.1
 ·change d∈T.2.2.set i c' at hd2
  rcases kdK hc hd2 with rfl | hd2
  ·exact hi.sh
  ·exact (hs.2.2 d (kid_mem hd2)).2
 ·change (T.2.2.set i c')[j]?=some d at hj
  rw [zr (Ne.symm hji)] at hj
  exact (hs.2.2 d (zS hj)).1
 ·show (T.2.2.set i c')[i]?=some c'
  simp [hil]
 ·rw [hoff a fun e=>ha (e▸kcV T)]
  exact hi.rest a fun hm=>ha (kdF hcm hm)
theorem sub_fine {mn mx m:Nat} {H H1 H':Nat→Option (NodeR α)} {T:BT α (h+1)} {i:Nat} {c c':BT α h} (hs:Sh mn mx (h+1) T) (hc:T.2.2[i]?=some c) (hi:SubIn mn mx H H1 h c c' m) (hq:Cut1 mn mx H H' h T (cutK T T.2.1 i c') i c') (hm:mn≤(its c').length):SubIn mn mx H H' (h+1) T (cutK T T.2.1 i c') m:=by
 have hf:=hq.fine hs hm
 refine ⟨hf.isT,hf.rid',hf.nd,hf.sub,hf.sh,hf.rest,fun v hv=>?_,fun Bd Q hfl=>?_⟩
 ·rw [toL_cutK hs hc rfl] at hv
  have e:=kfY hs hc
  rw [e]
  rcases zO.1 hv with hv | hv
  ·rcases zO.1 hv with hv | hv
   ·exact zN _ (zN _ hv)
   ·exact zN _ (zM _ (hi.mem v hv))
  ·exact zM _ hv
 ·exact flag_kid (n:=T.1) (I:=T.2.1) (K:=T.2.2) hc hi.mem (hi.flag Bd Q (hfl.2 c (zS hc))) hfl
theorem Road.close {m mn mx:Nat} {T:BT α h} {B P:List Nat} {off h':Nat} {T':BT α h'} (hr:Road h T B P off h' T') (hT:IsT H h T) (hd:(ids h T).Nodup) (hs:Sh mn mx h T) :
  IsT H h' T'∧Sh mn mx h' T'∧(P≠[]→mn≤(its T').length)∧(P=[]→(its T').length=(its T).length)∧∃A C,A.length=off∧toL h T=A++toL h' T'++C ∧
   ∀H1 T'',SubIn mn mx H H1 h' T' T'' m→(P≠[]→mn≤(its T'').length)→(toL h' T'').length+m=(toL h' T').length →
    ∃Tf,SubIn mn mx H (bmp H1 P (-(m:Int))) h T Tf m∧toL h Tf=A++toL h' T''++C∧Road h Tf B P off h' T''∧(∀a∈ids h Tf,a∈ids h' T'→a∈ids h' T'')∧(P=[]→(its Tf).length=(its T'').length)∧(P≠[]→(its Tf).length=(its T).length):=by
 induction hr with
 | nil =>
  refine ⟨hT,hs,fun h=>absurd rfl h,fun _=>rfl,[],[],rfl,by simp,fun H1 T'' hD _ _=>⟨T'',by rw [bmp_nil];exact hD,by simp,.nil,fun _ h _=>h,fun _=>rfl,fun h=>absurd rfl h⟩⟩
 | @snoc B P off h' T' j c hr hc ih =>
  obtain ⟨hT',hs',hm',hn',A,C,hA,hL,hcl⟩:=ih
  obtain ⟨_,hd',hP⟩:=hr.out hd
  have hcm:=zS hc
  have htc:(T'.2.2.map (toL h'))[j]?=some (toL h' c):=by simp [hc]
  have hsp:toL (h'+1) T'=pre (T'.2.1.take j) ((T'.2.2.map (toL h')).take j)++toL h' c++post (T'.2.1.drop j) ((T'.2.2.map (toL h')).drop (j+1)) :=
   kdX j T'.2.1 (T'.2.2.map (toL h')) (toL h' c) (by simpa using hs'.2.1) htc
  refine ⟨hT'.kid hcm,(hs'.2.2 c hcm).2,fun _=>(hs'.2.2 c hcm).1,fun h=>by simp at h,A++pre (T'.2.1.take j) ((T'.2.2.map (toL h')).take j),post (T'.2.1.drop j) ((T'.2.2.map (toL h')).drop (j+1))++C,by rw [zT,hA],by rw [hL,hsp];simp,fun H1 c'' hD hm hln=>?_⟩
  have hmm:mn≤(its c'').length:=hm (by simp)
  have hk:=cut1_sub hT' hd' hs' hc hD (xs:=T'.2.1) rfl
  have hL2:=toL_cutK (xs:=T'.2.1) (c':=c'') hs' hc rfl
  have hlen2:(toL (h'+1) (cutK T' T'.2.1 j c'')).length+m=(toL (h'+1) T').length:=by
   rw [hL2,hsp]
   simp only [zT];omega
  obtain ⟨Tf,g1,g2,g5,g6,g3,g4⟩:=hcl _ _ (sub_fine hs' hc hD hk hmm) (fun hp=>by
   show mn≤T'.2.1.length
   exact hm' hp) hlen2
  refine ⟨Tf,?_,?_,?_,fun a ha hac=>?_,fun h=>by simp at h,fun _=>?_⟩
  ·have e:bmp (upd H1 (rid T') ⟨((toL (h'+1) (cutK T' T'.2.1 j c'')).length:Nat),T'.2.1,(kbP (h'+1) T').kids⟩) P (-(m:Int))=bmp H1 (P++[rid T']) (-(m:Int)):=by
    have hr1:H1 (rid T')=some (kbP (h'+1) T'):=by
     rw [hD.rest _ (kcK hd' hcm)];exact hT'.root
    have hn:rid T'∉P:=fun hp=>(hP _ hp).1 (kcV _)
    funext a
    by_cases em:a=rid T'
    ·subst em
     rw [bmp_out hn,kbX,bmp_in (by simp) hr1]
     congr 1
     have hcnt:(kbP (h'+1) T').cnt=((toL (h'+1) T').length:Int):=kcH _
     have:(kbP (h'+1) T').cnt+-(m:Int)=(((toL (h'+1) (cutK T' T'.2.1 j c'')).length:Nat):Int):=by omega
     rw [this];rfl
    ·unfold bmp
     rw [kcP _ _ em]
     simp [em]
   rw [←e];exact g1
  ·rw [g2,hL2];simp
  ·have hjl:=(zG.1 hc).1
   have h6:=g5.snoc (j:=j) (c:=c'') (by show (T'.2.2.set j c'')[j]?=some c'';simp [hjl])
   have e:((cutK T' T'.2.1 j c'').2.2.map (toL h')).take j=(T'.2.2.map (toL h')).take j:=by
    show ((T'.2.2.set j c'').map (toL h')).take j=_
    rw [List.map_set,List.take_set_of_le (Nat.le_refl _)]
   rw [e] at h6
   exact h6
  ·have h7:=g6 a ha (kdF hcm hac)
   rcases zR.1 h7 with rfl | h7
   ·exact (kcK hd' hcm hac).elim
   ·obtain ⟨d,hd1,hd2⟩:=zzb.1 h7
    rcases kdK hc hd1 with rfl | hd1
    ·exact hd2
    ·exact (kid_apart hc hd' hd1 hd2 hac).elim
  ·by_cases hp:P=[]
   ·rw [g3 hp,←hn' hp];rfl
   ·exact g4 hp
end
end
section
section
variable {α:Type} {lt:α→α→Bool}
def kdM (E:List (α×List α)):List α:=E.flatMap fun e=>e.1::e.2
theorem kdZ (E F:List (α×List α)):kdM (E++F)=kdM E++kdM F:=List.flatMap_append
theorem kdY (e:α×List α) (E:List (α×List α)):kdM (e::E)=(e.1::e.2)++kdM E:=List.flatMap_cons
structure ExtE (lt:α→α→Bool) (E:List (α×List α)) (L:List α):Prop where
 srt:Srt lt (kdM E)
 sep:∀e∈E,∀u∈L,(∀v∈e.1::e.2,lt u v=true)∨(∀v∈e.1::e.2,lt v u=true)
def QF (lt:α→α→Bool) (p:α) (E:List (α×List α)) (L:List α) (v:α):Prop :=
 v∈L∧lt p v=true∧∃d∈kdM E,lt d v=true∧∀u∈L,lt u v=true→lt u d=true
theorem ExtE.nil (L:List α):ExtE lt [] L:=⟨List.Pairwise.nil,fun _ h=>(by cases h)⟩
theorem not_both (s:Swo lt) {a b:α} (h1:lt a b=true) (h2:lt b a=true):False:=by
 rw [s.asymm _ _ h1] at h2;cases h2
theorem block_free (s:Swo lt) {p x:α} {N A C:List α} {E:List (α×List α)} (h:ExtE lt E (A++x::(N++C))) (hs:Srt lt (A++x::(N++C))) (hx:lt x p=false) (hn:∀v∈N,¬QF lt p E (A++x::(N++C)) v)
  {e:α×List α} (he:e∈E) (hxe:lt x e.1=true):∀(N2 N1:List α),N=N1++N2→(∀u∈N1,lt u e.1=true)→∀v∈N2,lt v e.1=true
 | [],_,_,_,v,hv=>by cases hv
 | w::N2,N1,hN,h1,v,hv=>by
  have hw:w∈N:=by rw [hN];simp
  have hwL:w∈A++x::(N++C):=zM _ (zQ _ (zN _ hw))
  obtain ⟨p1,p2,p3⟩:=zZ.1 hs
  obtain ⟨p4,p5⟩:=List.pairwise_cons.1 p2
  have hwe:lt w e.1=true:=by
   rcases h.sep e he w hwL with h2 | h2
   ·exact h2 _ zP
   ·refine absurd ?_ (hn w hw)
    have hew:=h2 e.1 zP
    refine ⟨hwL,s.lt_of_nlt_of_lt hx (p4 w (zN _ hw)),e.1,zzb.2 ⟨e,he,zP⟩,hew,fun u hu huw=>?_⟩
    rcases zO.1 hu with hu | hu
    ·exact s.trans (p3 u hu x zP) hxe
    ·rcases zR.1 hu with rfl | hu
     ·exact hxe
     ·rw [hN,zu] at p5 hu
      rcases zO.1 hu with hu | hu
      ·exact h1 u hu
      ·obtain ⟨_,p6,_⟩:=zZ.1 p5
       rw [List.cons_append] at p6 hu
       rcases zR.1 hu with rfl | hu
       ·rw [s.irrefl] at huw;cases huw
       ·exact (not_both s huw ((List.pairwise_cons.1 p6).1 u hu)).elim
  rcases zR.1 hv with rfl | hv
  ·exact hwe
  ·refine block_free s h hs hx hn he hxe N2 (N1++[w]) (by rw [hN];simp) (fun u hu=>?_) v hv
   rcases zO.1 hu with hu | hu
   ·exact h1 u hu
   ·rw [zy.1 hu];exact hwe
theorem split_E (s:Swo lt) {x:α} {N:List α}:∀(E:List (α×List α)),Srt lt (kdM E)→(∀e∈E,(∀v∈e.1::e.2,lt v x=true)∨(∀u∈x::N,lt u e.1=true)) →
  ∃E1 E2,E=E1++E2∧(∀d∈kdM E1,lt d x=true)∧(∀d∈kdM E2,∀u∈x::N,lt u d=true)
 | [],_,_=>⟨[],[],rfl,fun _ h=>(by cases h),fun _ h=>(by cases h)⟩
 | e::E,hs,h=>by
  rw [kdY] at hs
  obtain ⟨q1,q2,q3⟩:=zZ.1 hs
  rcases h e zP with h1 | h1
  ·obtain ⟨E1,E2,rfl,h2,h3⟩:=split_E s E q2 fun e he=>h e (zQ _ he)
   refine ⟨e::E1,E2,rfl,fun d hd=>?_,h3⟩
   rw [kdY] at hd
   exact (zO.1 hd).elim (h1 d) (h2 d)
  ·refine ⟨[],e::E,rfl,fun _ h=>(by cases h),fun d hd u hu=>?_⟩
   rw [kdY] at hd
   have h2:=h1 u hu
   rcases zO.1 hd with hd | hd
   ·rcases zR.1 hd with rfl | hd
    ·exact h2
    ·exact s.trans h2 ((List.pairwise_cons.1 q1).1 d hd)
   ·exact s.trans h2 (q3 e.1 zP d hd)
theorem ext_block (s:Swo lt) {p x:α} {N A C:List α} {E:List (α×List α)} (h:ExtE lt E (A++x::(N++C))) (hs:Srt lt (A++x::(N++C))) (hx:lt x p=false) (hn:∀v∈N,¬QF lt p E (A++x::(N++C)) v) :
  ∃E1 E2,E=E1++E2∧ExtE lt (E1++(x,N)::E2) (A++C):=by
 obtain ⟨p1,p2,p3⟩:=zZ.1 hs
 obtain ⟨p4,p5⟩:=List.pairwise_cons.1 p2
 obtain ⟨p6,p7,p8⟩:=zZ.1 p5
 have hxL:x∈A++x::(N++C):=zM _ zP
 obtain ⟨E1,E2,rfl,h1,h2⟩:=split_E s (x:=x) (N:=N) E h.srt fun e he=>by
  rcases h.sep e he x hxL with h3 | h3
  ·refine .inr fun u hu=>?_
   rcases zR.1 hu with rfl | hu
   ·exact h3 _ zP
   ·exact block_free s h hs hx hn he (h3 _ zP) N [] rfl (fun _ h=>(by cases h)) u hu
  ·exact .inl h3
 have hsr:=h.srt
 rw [kdZ] at hsr
 obtain ⟨r1,r2,r3⟩:=zZ.1 hsr
 refine ⟨E1,E2,rfl,?_,fun e he u hu=>?_⟩
 ·rw [kdZ,kdY]
  refine zZ.2 ⟨r1,zZ.2 ⟨List.pairwise_cons.2 ⟨fun v hv=>p4 v (zN _ hv),p6⟩,r2,fun u hu d hd=>h2 d hd u hu⟩,fun d hd v hv=>?_⟩
  rcases zO.1 hv with hv | hv
  ·rcases zR.1 hv with rfl | hv
   ·exact h1 d hd
   ·exact s.trans (h1 d hd) (p4 v (zN _ hv))
  ·exact r3 d hd v hv
 ·have huL:u∈A++x::(N++C):=by
   rcases zO.1 hu with hu | hu
   ·exact zN _ hu
   ·exact zM _ (zQ _ (zM _ hu))
  rcases zO.1 he with he | he
  ·exact h.sep e (zN _ he) u huL
  ·rcases zR.1 he with rfl | he
   ·rcases zO.1 hu with hu | hu
    ·refine .inl fun v hv=>?_
     rcases zR.1 hv with rfl | hv
     ·exact p3 u hu _ zP
     ·exact p3 u hu v (zQ _ (zN _ hv))
    ·refine .inr fun v hv=>?_
     rcases zR.1 hv with rfl | hv
     ·exact p4 u (zM _ hu)
     ·exact p8 v hv u hu
   ·exact h.sep e (zM _ he) u huL
theorem qf_next (s:Swo lt) {p p' x:α} {N A C:List α} {E1 E2:List (α×List α)} (hs:Srt lt (A++x::(N++C))) (hp:lt p' p=false) {v:α} (h:QF lt p' (E1++(x,N)::E2) (A++C) v):QF lt p (E1++E2) (A++x::(N++C)) v∨C.head?=some v:=by
 obtain ⟨p1,p2,p3⟩:=zZ.1 hs
 obtain ⟨p4,p5⟩:=List.pairwise_cons.1 p2
 obtain ⟨p6,p7,p8⟩:=zZ.1 p5
 obtain ⟨hv,hpv,d,hd,hdv,hu⟩:=h
 have hpv':=s.lt_of_nlt_of_lt hp hpv
 have hxn:∀w∈x::N,∀c∈C,lt w c=true:=fun w hw c hc=>by
  rcases zR.1 hw with rfl | hw
  ·exact p4 c (zM _ hc)
  ·exact p8 w hw c hc
 rw [kdZ,kdY] at hd
 have hd':d∈x::N∨d∈kdM (E1++E2):=by
  rw [kdZ]
  rcases zO.1 hd with hd | hd
  ·exact .inr (zN _ hd)
  ·rcases zO.1 hd with hd | hd
   ·exact .inl hd
   ·exact .inr (zM _ hd)
 rcases zO.1 hv with hvA | hvC
 ·left
  have hvx:∀w∈x::(N++C),lt v w=true:=fun w hw=>p3 v hvA w hw
  refine ⟨zN _ hvA,hpv',d,?_,hdv,fun u hul huv=>?_⟩
  ·rcases hd' with hd' | hd'
   ·refine (not_both s hdv (hvx d ?_)).elim
    rcases zR.1 hd' with rfl | hd'
    ·exact zP
    ·exact zQ _ (zN _ hd')
   ·exact hd'
  ·rcases zO.1 hul with hul | hul
   ·exact hu u (zN _ hul) huv
   ·exact (not_both s huv (hvx u hul)).elim
 ·cases C with
  | nil=>cases hvC
  | cons z C =>
   rcases zR.1 hvC with rfl | hvC
   ·exact .inr rfl
   ·left
    have hzv:lt z v=true:=(List.pairwise_cons.1 p7).1 v hvC
    have hzd:=hu z (zM _ zP) hzv
    refine ⟨zM _ (zQ _ (zM _ (zQ _ hvC))),hpv',d,?_,hdv,fun u hul huv=>?_⟩
    ·rcases hd' with hd' | hd'
     ·exact (not_both s hzd (hxn d hd' z zP)).elim
     ·exact hd'
    ·have hmid:∀w∈x::N,lt w d=true:=fun w hw=>s.trans (hxn w hw z zP) hzd
     rcases zO.1 hul with hul | hul
     ·exact hu u (zN _ hul) huv
     ·rcases zR.1 hul with rfl | hul
      ·exact hmid _ zP
      ·rcases zO.1 hul with hul | hul
       ·exact hmid u (zQ _ hul)
       ·exact hu u (zM _ hul) huv
theorem ext_perm {x:α} {N A C:List α} {E1 E2:List (α×List α)}:(kdM (E1++(x,N)::E2)++(A++C)).Perm (kdM (E1++E2)++(A++x::(N++C))):=by
 rw [kdZ,kdZ,kdY]
 have h1:(kdM E1++((x::N)++kdM E2)).Perm ((x::N)++(kdM E1++kdM E2)):=by
  rw [←zu,←zu]
  exact List.Perm.append_right _ List.perm_append_comm
 have h2:(A++x::(N++C)).Perm ((x::N)++(A++C)):=by
  rw [show A++x::(N++C)=(A++(x::N))++C by simp,←zu]
  exact List.Perm.append_right _ List.perm_append_comm
 refine (h1.append_right _).trans ?_
 refine List.Perm.trans ?_ (h2.symm.append_left _)
 rw [←zu (kdM E1++kdM E2)]
 exact List.Perm.append_right _ List.perm_append_comm
end
end
section
section
variable {α:Type}
theorem sub_leaf {mn mx:Nat} {H:Nat→Option (NodeR α)} {T:BT α 0} {X M Y:List α} (hT:T.2=X++M++Y) (hs:Sh mn mx 0 T) :
  SubIn mn mx H (upd H (rid T) ⟨((X++Y).length:Nat),X++Y,none⟩) 0 T ((T.1,X++Y):BT α 0) M.length:=by
 have hs':T.2.length≤mx:=hs
 refine ⟨kbX _ _ _,rfl,by simp [ids],fun _ h=>h,?_,fun a ha=>kcP _ _ fun e=>ha (e▸kcV T),fun v hv=>?_,fun _ _ _=>trivial⟩
 ·show (X++Y).length≤mx
  rw [hT] at hs'
  simp only [zT] at hs' ⊢
  omega
 ·show v∈T.2
  rw [hT]
  rcases zO.1 hv with hv | hv
  ·exact zN _ (zN _ hv)
  ·exact zM _ hv
theorem toL_less {mn mx:Nat} {h n:Nat} {X Y:List α} {L R:List (BT α h)} {A:BT α h} (hL:L.length=X.length) (hR:R.length=Y.length) :
  toL (h+1) ((n,X++Y,L++A::R):BT α (h+1))=pre X (L.map (toL h))++toL h A++post Y (R.map (toL h)):=by
 show kcM (X++Y) ((L++A::R).map (toL h))=_
 rw [kdX X.length (X++Y) ((L++A::R).map (toL h)) (toL h A) (by simp;omega) (by rw [←hL];simp)]
 have e1:(X++Y).take X.length=X:=List.take_left
 have e2:(X++Y).drop X.length=Y:=List.drop_left
 have e3:((L++A::R).map (toL h)).take X.length=L.map (toL h):=by
  rw [zv,List.take_left' (by simpa using hL)]
 have e4:((L++A::R).map (toL h)).drop (X.length+1)=R.map (toL h):=by
  rw [zv,List.map_cons,←hL]
  have:=drop_app1 (L.map (toL h)) (toL h A) (R.map (toL h))
  simpa using this
 rw [e1,e2,e3,e4]
theorem sub_pair {mn mx:Nat} {H:Nat→Option (NodeR α)} {h n:Nat} {X Y:List α} {x:α} {L R:List (BT α h)} {A B:BT α h} (hL:L.length=X.length) (hR:R.length=Y.length)
  (hT:IsT H (h+1) ((n,X++x::Y,L++A::B::R):BT α (h+1))) (hd:(ids (h+1) ((n,X++x::Y,L++A::B::R):BT α (h+1))).Nodup) (hs:Sh mn mx (h+1) ((n,X++x::Y,L++A::B::R):BT α (h+1))) :
  SubIn mn mx H (upd H n (kbP (h+1) ((n,X++Y,L++A::R):BT α (h+1)))) (h+1) ((n,X++x::Y,L++A::B::R):BT α (h+1)) ((n,X++Y,L++A::R):BT α (h+1)) ((toL h B).length+1):=by
 have hmem:∀c,c∈L++A::R→c∈L++A::B::R:=by
  intro c hc
  rcases zO.1 hc with hc | hc
  ·exact zN _ hc
  ·rcases zR.1 hc with rfl | hc
   ·exact zM _ zP
   ·exact zM _ (zQ _ (zQ _ hc))
 have hsubl:(ids (h+1) ((n,X++Y,L++A::R):BT α (h+1))).Sublist (ids (h+1) ((n,X++x::Y,L++A::B::R):BT α (h+1))):=by
  show (n::(L++A::R).flatMap (ids h)).Sublist (n::(L++A::B::R).flatMap (ids h))
  refine List.Sublist.cons_cons n ?_
  simp only [List.flatMap_append,List.flatMap_cons]
  exact (List.Sublist.refl _).append ((List.Sublist.refl _).append (List.sublist_append_right _ _))
 refine ⟨⟨kbX _ _ _,fun c hc=>?_⟩,rfl,hd.sublist hsubl,fun a ha=>hsubl.subset ha,⟨?_,?_,fun c hc=>hs.2.2 c (hmem c hc)⟩,fun a ha=>kcP _ _ fun e=>ha (e▸zP),fun v hv=>?_,fun Bd Q hf=>flag_pair hL hf⟩
 ·exact (hT.2 c (hmem c hc)).congr fun a ha=>kcP _ _ fun e=>kcK hd (hmem c hc) (e▸ha)
 ·have h1:(X++x::Y).length≤mx:=hs.1
  show (X++Y).length≤mx
  simp at h1 ⊢;omega
 ·show (L++A::R).length=(X++Y).length+1
  simp;omega
 ·rw [toL_less (mn:=mn) (mx:=mx) hL hR] at hv
  rw [toL_two (mn:=mn) (mx:=mx) hL hR]
  rcases zO.1 hv with hv | hv
  ·rcases zO.1 hv with hv | hv
   ·exact zN _ (zN _ hv)
   ·exact zN _ (zM _ (zN _ hv))
  ·exact zM _ hv
structure DrI (lt:α→α→Bool) (p:α) (E:List (α×List α)) (mn mx:Nat) (H:Nat→Option (NodeR α)) (h:Nat) (T:BT α h):Prop where
 isT:IsT H h T
 nd:(ids h T).Nodup
 sh:Sh mn mx h T
 srt:Srt lt (toL h T)
 ext:ExtE lt E (toL h T)
 flag:kcG (fun s=>lt s p=false) (QF lt p E (toL h T)) h T
theorem dr_step {lt:α→α→Bool} (s:Swo lt) {p p' x:α} {E:List (α×List α)} {mn mx m:Nat} {H H':Nat→Option (NodeR α)} {h:Nat} {T T':BT α h} {A N C:List α} (hI:DrI lt p E mn mx H h T) (hs:SubIn mn mx H H' h T T' m)
  (hL:toL h T=A++x::(N++C)) (hL':toL h T'=A++C) (hx:lt x p=false) (hA:∀u∈A,lt u p=true) (hp:lt p' p=false) (hN:∀v∈N,¬QF lt p E (toL h T) v) :
  ∃E1 E2,E=E1++E2∧DrI lt p' (E1++(x,N)::E2) mn mx H' h T':=by
 have hsrt:=hI.srt
 have hext:=hI.ext
 have hfl:=hI.flag
 rw [hL] at hsrt hext hfl hN
 obtain ⟨E1,E2,rfl,hE⟩:=ext_block s hext hsrt hx hN
 have hsub:(A++C).Sublist (A++x::(N++C)):=(List.Sublist.refl A).append (List.Sublist.cons x (List.sublist_append_right N C))
 refine ⟨E1,E2,rfl,hs.isT,hs.nd,hs.sh,by rw [hL'];exact List.Pairwise.sublist hsub hsrt,by rw [hL'];exact hE,?_⟩
 rw [hL']
 have h1:=hs.flag _ _ hfl
 have hBd:∀u,lt u p'=false→lt u p=false:=fun u hu=>s.ntrans _ _ _ hu hp
 cases hC:C.head? with
 | none =>
  refine kgQ hBd (fun v hv=>?_) h T' h1
  rcases qf_next s hsrt hp hv with h2 | h2
  ·exact h2
  ·rw [hC] at h2;cases h2
 | some z =>
  have h2:kcG (fun u=>lt u p=false) (fun v=>QF lt p (E1++E2) (A++x::(N++C)) v∨v=z) h T':=by
   refine flag_add (lt:=lt) (mn:=mn) (mx:=mx) h T' hs.sh (by rw [hL'];exact List.Pairwise.sublist hsub hsrt) (fun u hu hb=>?_) h1
   rw [hL'] at hu
   rcases zO.1 hu with hu | hu
   ·rw [hA u hu] at hb;cases hb
   ·cases C with
    | nil=>cases hu
    | cons c C =>
     obtain rfl:=Iq hC
     rcases zR.1 hu with rfl | hu
     ·exact s.irrefl _
     ·have h3:=(zZ.1 (List.Pairwise.sublist hsub hsrt)).2.1
      exact s.asymm _ _ ((List.pairwise_cons.1 h3).1 u hu)
  refine kgQ hBd (fun v hv=>?_) h T' h2
  rcases qf_next s hsrt hp hv with h3 | h3
  ·exact .inl h3
  ·rw [hC] at h3
   exact .inr (Iq h3).symm
end
end
section
section
variable {α:Type}
def kfF (lt:α→α→Bool) (l:List α):Prop:=∀(j:Nat) (x y:α),0 < j→l[j]?=some x→l[(j - 1) / 2]?=some y→lt x y=false
structure HUp (lt:α→α→Bool) (l:List α) (i:Nat):Prop where
 ok:∀(j:Nat) (x y:α),0 < j→j≠i→l[j]?=some x→l[(j - 1) / 2]?=some y→lt x y=false
 gr:∀(c:Nat) (x y:α),0 < c→(c - 1) / 2=i→0 < i→l[c]?=some x→l[(i - 1) / 2]?=some y→lt x y=false
structure HDown (lt:α→α→Bool) (l:List α) (i:Nat):Prop where
 ok:∀(j:Nat) (x y:α),0 < j→(j - 1) / 2≠i→l[j]?=some x→l[(j - 1) / 2]?=some y→lt x y=false
 gr:∀(c:Nat) (x y:α),0 < c→(c - 1) / 2=i→0 < i→l[c]?=some x→l[(i - 1) / 2]?=some y→lt x y=false
variable {l:List α} {a b:α}
theorem swp_get {i j:Nat} (hi:l[i]?=some a) (hj:l[j]?=some b) (k:Nat):((l.set i b).set j a)[k]?=if k=j then some a else if k=i then some b else l[k]?:=by
 have h1:=(zG.1 hi).1
 have h2:=(zG.1 hj).1
 by_cases e1:k=j
 ·subst e1
  rw [if_pos rfl,List.getElem?_set_self (by rw [zW];exact h2)]
 ·rw [if_neg e1,zr (Ne.symm e1)]
  by_cases e2:k=i
  ·subst e2
   rw [if_pos rfl,List.getElem?_set_self h1]
  ·rw [if_neg e2,zr (Ne.symm e2)]
variable {i:Nat}
theorem set_split {a:α} (h:l[i]?=some a) (b:α):∃A C,l=A++a::C∧A.length=i∧l.set i b=A++b::C:=by
 obtain ⟨h1,h2⟩:=zG.1 h
 refine ⟨l.take i,l.drop (i+1),?_,by simp;omega,?_⟩
 ·rw [←h2,←List.drop_eq_getElem_cons h1,List.take_append_drop]
 ·rw [List.set_eq_take_append_cons_drop,if_pos h1]
theorem swp_perm {i j:Nat} (hi:l[i]?=some a) (hj:l[j]?=some b) (hij:i≠j):((l.set i b).set j a).Perm l:=by
 obtain ⟨A,C,e1,e2,e3⟩:=set_split hi b
 have hj':(l.set i b)[j]?=some b:=by rw [zr hij];exact hj
 obtain ⟨A',C',f1,f2,f3⟩:=set_split hj' a
 rw [f3]
 have p1:(A'++a::C').Perm (a::(A'++C')):=List.perm_middle
 have p2:(A'++b::C').Perm (b::(A'++C')):=List.perm_middle
 have p3:(A++b::C).Perm (b::(A++C)):=List.perm_middle
 have p4:(A++a::C).Perm (a::(A++C)):=List.perm_middle
 have e:A'++b::C'=A++b::C:=by rw [←f1,e3]
 rw [e] at p2
 have p5:(A'++C').Perm (A++C):=List.Perm.cons_inv (p2.symm.trans p3)
 rw [e1]
 exact p1.trans ((p5.cons a).trans p4.symm)
variable {lt:α→α→Bool}
theorem up_init (h:kfF lt l) (e:α):HUp lt (l++[e]) l.length:=by
 refine ⟨fun j x y h0 hj h1 h2=>?_,fun c x y h0 hc hl h1 h2=>?_⟩
 ·have hlt:=(zG.1 h1).1
  have hlt':j < l.length:=by simp at hlt;omega
  rw [zn hlt'] at h1
  rw [zn (by omega)] at h2
  exact h j x y h0 h1 h2
 ·have hlt:=(zG.1 h1).1
  simp at hlt;omega
theorem up_done0 (h:HUp lt l 0):kfF lt l:=fun j x y h0 h1 h2=>h.ok j x y h0 (by omega) h1 h2
theorem up_done (h:HUp lt l i) (ha:l[i]?=some a) (hb:l[(i - 1) / 2]?=some b) (hl:lt a b=false):kfF lt l:=by
 intro j x y h0 h1 h2
 by_cases e:j=i
 ·subst e
  rw [ha] at h1;rw [hb] at h2
  rw [←Iq h1,←Iq h2];exact hl
 ·exact h.ok j x y h0 e h1 h2
theorem up_step (s:Swo lt) {i p:Nat} (h:HUp lt l i) (hi:0 < i) (hp:p=(i - 1) / 2) (ha:l[i]?=some a) (hb:l[p]?=some b) (hl:lt a b=true):HUp lt ((l.set p a).set i b) p:=by
 have hpi:p < i:=by omega
 have g:=swp_get hb ha
 refine ⟨fun j x y h0 hj h1 h2=>?_,fun c x y h0 hc hp0 h1 h2=>?_⟩
 ·rw [g] at h1 h2
  by_cases e1:j=i
  ·subst e1
   rw [if_pos rfl] at h1
   rw [←hp,if_neg (by omega),if_pos rfl] at h2
   rw [←Iq h1,←Iq h2]
   exact s.asymm _ _ hl
  ·rw [if_neg e1,if_neg hj] at h1
   by_cases e2:(j - 1) / 2=i
   ·rw [if_pos e2] at h2
    rw [←Iq h2]
    exact h.gr j x b h0 e2 hi h1 (by rw [←hp];exact hb)
   ·rw [if_neg e2] at h2
    by_cases e3:(j - 1) / 2=p
    ·rw [if_pos e3] at h2
     rw [←Iq h2]
     have h3:=h.ok j x b h0 e1 h1 (by rw [e3];exact hb)
     cases h4:lt x a with
     | false=>rfl
     | true=>rw [s.trans h4 hl] at h3;cases h3
    ·rw [if_neg e3] at h2
     exact h.ok j x y h0 e1 h1 h2
 ·rw [g] at h1 h2
  rw [if_neg (by omega),if_neg (by omega)] at h2
  have h3:=h.ok p b y hp0 (by omega) hb h2
  by_cases e1:c=i
  ·rw [if_pos e1] at h1
   rw [←Iq h1];exact h3
  ·rw [if_neg e1,if_neg (by omega)] at h1
   exact s.ntrans _ _ _ (h.ok c x b h0 e1 h1 (by rw [hc];exact hb)) h3
theorem heap_min (s:Swo lt) {m:α} (h:kfF lt l) (hm:l[0]?=some m):∀x∈l,lt x m=false:=by
 have key:∀n j:Nat,j≤n→∀x:α,l[j]?=some x→lt x m=false:=by
  intro n
  induction n with
  | zero =>
   intro j hj x hx
   have:j=0:=by omega
   subst this
   rw [hm] at hx
   rw [←Iq hx];exact s.irrefl m
  | succ n ih =>
   intro j hj x hx
   by_cases e:j=0
   ·subst e;exact ih 0 (by omega) x hx
   ·have hlt:=(zG.1 hx).1
    obtain ⟨y,hy⟩:∃y,l[(j - 1) / 2]?=some y:=⟨_,zH (by omega)⟩
    exact s.ntrans _ _ _ (h j x y (by omega) hx hy) (ih _ (by omega) y hy)
 intro x hx
 obtain ⟨j,hj⟩:=List.mem_iff_getElem?.1 hx
 exact key j j (Nat.le_refl _) x hj
theorem down_init {b:α} (h:kfF lt l):HDown lt ((l.set 0 b).take (l.length - 1)) 0:=by
 refine ⟨fun j x y h0 hj h1 h2=>?_,fun c x y h0 hc hl h1 h2=>by omega⟩
 have lt1:=(zG.1 h1).1
 have lt2:=(zG.1 h2).1
 simp only [zV,zW] at lt1 lt2
 rw [zq (by omega),zr (by omega)] at h1 h2
 exact h j x y h0 h1 h2
theorem down_done {a:α} (h:HDown lt l i) (ha:l[i]?=some a) (hl:∀x,l[i * 2+1]?=some x→lt x a=false) (hr:∀x,l[i * 2+2]?=some x→lt x a=false):kfF lt l:=by
 intro j x y h0 h1 h2
 by_cases e:(j - 1) / 2=i
 ·rw [e,ha] at h2
  rw [←Iq h2]
  rcases (by omega:j=i * 2+1∨j=i * 2+2) with rfl | rfl
  ·exact hl x h1
  ·exact hr x h1
 ·exact h.ok j x y h0 e h1 h2
theorem down_step {i c:Nat} (h:HDown lt l i) (ha:l[i]?=some a) (hb:l[c]?=some b) (hc:c=i * 2+1∨c=i * 2+2) (hab:lt a b=false) (hs:∀d x,d≠c→0 < d→(d - 1) / 2=i→l[d]?=some x→lt x b=false):HDown lt ((l.set c a).set i b) c:=by
 have hic:i < c:=by omega
 have g:=swp_get hb ha
 have hpc:(c - 1) / 2=i:=by omega
 refine ⟨fun j x y h0 hj h1 h2=>?_,fun d x y h0 hd hc0 h1 h2=>?_⟩
 ·rw [g] at h1 h2
  by_cases e1:(j - 1) / 2=i
  ·rw [if_pos e1] at h2
   rw [if_neg (by omega)] at h1
   by_cases e2:j=c
   ·rw [if_pos e2] at h1
    rw [←Iq h1,←Iq h2];exact hab
   ·rw [if_neg e2] at h1
    rw [←Iq h2]
    exact hs j x e2 h0 e1 h1
  ·rw [if_neg e1,if_neg hj] at h2
   by_cases e2:j=i
   ·rw [if_pos e2] at h1
    rw [←Iq h1]
    subst e2
    exact h.gr c b y (by omega) hpc h0 hb h2
   ·rw [if_neg e2,if_neg (by omega)] at h1
    exact h.ok j x y h0 e1 h1 h2
 ·rw [g] at h1 h2
  rw [hpc,if_pos rfl] at h2
  rw [if_neg (by omega),if_neg (by omega)] at h1
  rw [←Iq h2]
  exact h.ok d x b h0 (by omega) h1 (by rw [hd];exact hb)
theorem pop_head (s:Swo lt) {l S:List α} {m z:α} (h:kfF lt l) (hm:l[0]?=some m) (hp:l.Perm (z::S)) (hS:Srt lt (z::S)):m=z:=by
 have hml:m∈z::S:=hp.mem_iff.1 (zS hm)
 rcases zR.1 hml with e | hmS
 ·exact e
 ·have h1:lt z m=true:=(List.pairwise_cons.1 hS).1 m hmS
  have h2:lt z m=false:=heap_min s h hm z (hp.mem_iff.2 zP)
  rw [h1] at h2;cases h2
theorem pop_rest {m b:α} (hm:l[0]?=some m) (hb:l[l.length - 1]?=some b):(m::(l.set 0 b).take (l.length - 1)).Perm l:=by
 cases l with
 | nil=>simp at hm
 | cons x l =>
  have e:x=m:=by simpa using hm
  subst e
  rcases List.eq_nil_or_concat l with rfl | ⟨l',c,rfl⟩
  ·simp
  ·have e:c=b:=by simpa using hb
   subst e
   have e2:(List.set (x::(l'.concat c)) 0 c).take ((x::l'.concat c).length - 1)=c::l':=by
    simp [List.concat_eq_append]
   rw [e2]
   refine List.Perm.cons x ?_
   rw [List.concat_eq_append]
   exact (List.perm_append_singleton c l').symm
end
end
section
section
variable {α:Type}
theorem Road.flag {Bd Q:α→Prop} {h:Nat} {T:BT α h} {B P:List Nat} {off h':Nat} {T':BT α h'} (hr:Road h T B P off h' T') (hf:kcG Bd Q h T):kcG Bd Q h' T':=by
 induction hr with
 | nil=>exact hf
 | snoc _ hc ih=>exact ih.2 _ (zS hc)
theorem dr_del {lt:α→α→Bool} (s:Swo lt) {p x:α} {E:List (α×List α)} {mn mx:Nat} {H H':Nat→Option (NodeR α)} {h h2:Nat} {T:BT α h} {T':BT α h2} {A C:List α} (hI:DrI lt p E mn mx H h T)
  (hL:toL h T=A++x::C) (hx:lt x p=false) (hT':IsT H' h2 T') (hnd:(ids h2 T').Nodup) (hsh:Sh mn mx h2 T') (hL':toL h2 T'=A++C) (hf:kcG (fun u=>lt u x=false) (QF lt p E (toL h T)) h2 T') :
  ∃E1 E2,E=E1++E2∧DrI lt x (E1++(x,[])::E2) mn mx H' h2 T':=by
 have hsrt:=hI.srt
 have hext:=hI.ext
 rw [hL] at hsrt hext hf
 obtain ⟨E1,E2,rfl,hE⟩:=ext_block (N:=[]) s hext hsrt hx (fun _ h=>(by cases h))
 have hsub:(A++C).Sublist (A++x::C):=(List.Sublist.refl A).append (List.sublist_cons_self x C)
 have hs2:Srt lt (A++C):=List.Pairwise.sublist hsub hsrt
 have hAx:∀u∈A,lt u x=true:=fun u hu=>(zZ.1 hsrt).2.2 u hu x zP
 refine ⟨E1,E2,rfl,hT',hnd,hsh,by rw [hL'];exact hs2,by rw [hL'];exact hE,?_⟩
 rw [hL']
 cases hC:C.head? with
 | none =>
  refine kgQ (fun _ h=>h) (fun v hv=>?_) h2 T' hf
  rcases qf_next (N:=[]) s hsrt hx hv with h2 | h2
  ·exact h2
  ·rw [hC] at h2;cases h2
 | some z =>
  have h3:kcG (fun u=>lt u x=false) (fun v=>QF lt p (E1++E2) (A++x::C) v∨v=z) h2 T':=by
   refine flag_add (lt:=lt) (mn:=mn) (mx:=mx) h2 T' hsh (by rw [hL'];exact hs2) (fun u hu hb=>?_) hf
   rw [hL'] at hu
   rcases zO.1 hu with hu | hu
   ·rw [hAx u hu] at hb;cases hb
   ·cases C with
    | nil=>cases hu
    | cons c C =>
     obtain rfl:=Iq hC
     rcases zR.1 hu with rfl | hu
     ·exact s.irrefl _
     ·exact s.asymm _ _ ((List.pairwise_cons.1 (zZ.1 hs2).2.1).1 u hu)
  refine kgQ (fun _ h=>h) (fun v hv=>?_) h2 T' h3
  rcases qf_next (N:=[]) s hsrt hx hv with h4 | h4
  ·exact .inl h4
  ·rw [hC] at h4
   exact .inr (Iq h4).symm
theorem dr_start {lt:α→α→Bool} {p:α} {mn mx:Nat} {H:Nat→Option (NodeR α)} {h:Nat} {T:BT α h} (hT:IsT H h T) (hd:(ids h T).Nodup) (hs:Sh mn mx h T) (hsrt:Srt lt (toL h T)):DrI lt p [] mn mx H h T:=by
 refine ⟨hT,hd,hs,hsrt,ExtE.nil _,?_⟩
 have key:∀(h:Nat) (T:BT α h),kcG (fun s=>lt s p=false) (fun _=>False) h T:=by
  intro h
  induction h with
  | zero=>intro _;trivial
  | succ h ih=>intro T;exact ⟨fun _ _ _ _ _ _ _ _ _ _ hf=>hf,fun c _=>ih c⟩
 refine kgQ (fun _ h=>h) (fun v hv=>?_) h T (key h T)
 obtain ⟨_,_,d,hd2,_⟩:=hv
 cases hd2
theorem blocks_srt {lt:α→α→Bool}:∀(E:List (α×List α)),Srt lt (kdM E)→Srt (fun a b=>lt a.1 b.1) E
 | [],_=>List.Pairwise.nil
 | e::E,h=>by
  rw [kdY] at h
  obtain ⟨_,h2,h3⟩:=zZ.1 h
  exact List.pairwise_cons.2 ⟨fun f hf=>h3 e.1 zP f.1 (zzb.2 ⟨f,hf,zP⟩),blocks_srt E h2⟩
theorem unmarked {Bd Q:α→Prop} {h n:Nat} {X Y:List α} {x:α} {L R:List (BT α h)} {A B:BT α h} (hL:L.length=X.length) (hf:kcG Bd Q (h+1) ((n,X++x::Y,L++A::B::R):BT α (h+1))) (hx:Bd x):∀v∈toL h B,¬Q v:=by
 refine hf.1 X.length (X.length+1) x B ?_ hx (Nat.lt_succ_self _) ?_
 ·show (X++x::Y)[X.length]?=some x
  simp
 ·show (L++A::B::R)[X.length+1]?=some B
  rw [←hL,zo (by omega)]
  simp
end
end
section
open Go.RowKit
def ListB (w:World) (b:Nat) (lv:Value) (c np:Int) (q:Value):Prop:=w.heap[b]?=some (Ic #[lv,Ii Ij c,Ii Ij np,q] 67 (0,0))
variable {w:World} {lv q:Value} {c np:Int} {b:Nat}
theorem ListB.c0 (h:ListB w b lv c np q):w.cell? ⟨b,0,none⟩=some lv:=by rw [kbB h];rfl
theorem ListB.c1 (h:ListB w b lv c np q):w.cell? ⟨b,1,none⟩=some (Ii Ij c):=by rw [kbB h];rfl
theorem ListB.c2 (h:ListB w b lv c np q):w.cell? ⟨b,2,none⟩=some (Ii Ij np):=by rw [kbB h];rfl
theorem ListB.c3 (h:ListB w b lv c np q):w.cell? ⟨b,3,none⟩=some q:=by rw [kbB h];rfl
theorem ListB.fz (h:ListB w b lv c np q) (o:Nat):w.frozen? ⟨b,o,none⟩=false:=kbC h o
theorem blk4 {T:TypeId} {fr:Nat×Nat} {u0 u1 u2 u3:Value} (h:w.heap[b]?=some (Ic #[u0,u1,u2,u3] T fr)) (v0 v1 v2 v3:Value):((((w.setCell ⟨b,0,none⟩ v0).setCell ⟨b,3,none⟩ v3).setCell ⟨b,1,none⟩ v1).setCell ⟨b,2,none⟩ v2).heap[b]?=some (Ic #[v0,v1,v2,v3] T fr):=by
 rw [kbV (kbV (kbV (kbV h _) _) _)];rfl
theorem LLen_any (h:ListB w b lv c np q) :
  Calls Tp 37 #[Ip (some ⟨b,0,none⟩)] w fun e w'=>e=Ir (Ii Ij c)∧w'=w:=by
 have c1:=h.c1
 go_enter Try.func37,Try.ntmps37
 go_wp2_with fail
 go_ret
 exact ⟨rfl,rfl⟩
theorem LClear_any {lv:Value} (h:ListB w b lv c np (Is none 0 0)) :
  Calls Tp 55 #[Ip (some ⟨b,0,none⟩)] w fun e w'=>e=Ir (Iu #[])∧ListB w' b .nilFunc 0 0 (Is none 0 0)∧Chg (fun x _=>x=b) w w':=by
 have c0:=h.c0
 have c1:=h.c1
 have c2:=h.c2
 have c3:=h.c3
 have z0:=h.fz 0
 have z1:=h.fz 1
 have z2:=h.fz 2
 have z3:=h.fz 3
 have HB:=Lib.hid h
 clear h
 go_enter Try.func55,Try.ntmps55
 go_wp2_with fail
 refine bodyPost_end (v:=Iu #[]) (by simp [results,Try.results55,go_sem]) rfl ⟨rfl,?_,?_⟩
 ·exact blk4 HB.out _ _ _ _
 ·repeat (first | refine Chg.drew ?_ | refine Chg.drewN ?_ _ | refine Chg.setCell ?_ (.inl rfl) _ | exact Chg.refl _ _)
end
section
section
variable {α:Type}
theorem pop_law {lt:α→α→Bool} (s:Swo lt) {l S:List α} {z:α} (h:kfF lt l) (hp:l.Perm (z::S)) (hS:Srt lt (z::S)) :
  l[0]?=some z∧∃b,l[l.length - 1]?=some b∧((l.set 0 b).take (l.length - 1)).Perm S∧HDown lt ((l.set 0 b).take (l.length - 1)) 0:=by
 have hlen:=hp.length_eq
 simp only [List.length_cons] at hlen
 obtain ⟨m,hm⟩:∃m,l[0]?=some m:=⟨_,zH (by omega)⟩
 obtain ⟨b,hb⟩:∃b,l[l.length - 1]?=some b:=⟨_,zH (by omega)⟩
 obtain rfl:=pop_head s h hm hp hS
 exact ⟨hm,b,hb,List.Perm.cons_inv ((pop_rest hm hb).trans hp),down_init h⟩
end
end
end Go.Proofs.Ytnohimhihombmaa
