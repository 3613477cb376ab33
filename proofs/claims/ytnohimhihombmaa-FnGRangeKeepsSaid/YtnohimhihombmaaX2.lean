/- Counts along the stack; rows moved down by several places. -/
import Derived.Deep.Cut
import Derived.Deep.CutRange
import Derived.BigQuiet
import Derived.Deep.QuietTactic
import Derived.StillTailTactics
import Derived.Test.YtnohimhihombmaaT1
import Derived.Test.YtnohimhihombmaaL1
import Derived.Test.YtnohimhihombmaaX0
import Derived.Test.YtnohimhihombmaaX1
import Derived.Test.YtnohimhihombmaaT2
namespace Go.Proofs.Ytnohimhihombmaa
set_option linter.unusedSimpArgs false
set_option linter.unusedVariables false
set_option maxRecDepth 100000
set_option maxHeartbeats 40000000
open Value renaming int → Ii, pointer → Ip, slice → Is, tuple → Iu
open IntKind renaming i64 → Ij
open Obj renaming cells → Ic
open Ending renaming returned → Ir
open Option.some renaming inj → Iq
open _root_.Go.Proofs.Try renaming prog → Tp
open List renaming setIfInBounds_toArray → zA, set_cons_zero → zB, set_cons_succ → zC, getElem?_cons_zero → zD, getElem?_cons_succ → zE, getElem?_toArray → zF, getElem?_eq_some_iff → zG, getElem?_eq_getElem → zH, mem_append_right → zM, mem_append_left → zN, mem_append → zO, mem_cons_self → zP, mem_cons_of_mem → zQ, mem_cons → zR, mem_of_getElem? → zS, length_append → zT, length_map → zU, length_take → zV, pairwise_append → zZ, getElem?_append_left → zn, getElem?_append_right → zo, getElem?_take_of_lt → zq, take_left' → zs, drop_left' → zt, append_assoc → zu, map_append → zv, take_append_drop → zw, mem_singleton → zy
open Region renaming wanted → zI
open Act renaming put → zJ
open Chg renaming refl → zK
open Lib renaming hid → zL
open Option renaming some.injEq → zc
open Nat renaming le_trans → zj
open Go.RowKit
section
section
variable {α:Type}
theorem flag_or {Bd Q1 Q2:α→Prop}:(h:Nat)→(T:BT α h)→kcG Bd Q1 h T→kcG Bd Q2 h T→kcG Bd (fun v=>Q1 v∨Q2 v) h T
 |0,_,_,_=>trivial
 |h+1,_,h1,h2=>⟨fun a j s c g1 g2 g3 g4 v hv h5=>h5.elim (h1.1 a j s c g1 g2 g3 g4 v hv) (h2.1 a j s c g1 g2 g3 g4 v hv),fun c hc=>flag_or h c (h1.2 c hc) (h2.2 c hc)⟩
theorem flag_absent {mn mx:Nat}{Bd Q:α→Prop}:(h:Nat)→(T:BT α h)→Sh mn mx h T→(∀v∈toL h T,¬Q v)→kcG Bd Q h T
 |0,_,_,_=>trivial
 |h+1,_,hs,hq=>⟨fun _ _ _ c _ _ _ h4 v hv=>hq v (kid_toL hs (zS h4) hv),fun c hc=>flag_absent h c (hs.2.2 c hc).2 (fun v hv=>hq v (kid_toL hs hc hv))⟩
theorem pre_mem_it:∀(xs:List α) (ts:List (List α)) (s:α),xs.length≤ts.length→s∈xs→s∈pre xs ts
 |[],_,_,_,h=>by cases h
 |x::xs,[],_,hl,_=>by simp at hl
 |x::xs,t::ts,s,hl,h=>by
  show s∈t++x::pre xs ts
  rcases zR.1 h with rfl | h
  ·exact zM _ zP
  ·exact zM _ (zQ _ (pre_mem_it xs ts s (by simpa using hl) h))
theorem pre_mem_kid:∀(xs:List α) (ts:List (List α)) (t:List α) (v:α),ts.length≤xs.length→t∈ts→v∈t→v∈pre xs ts
 |_,[],_,_,_,h,_=>by cases h
 |[],_::_,_,_,hl,_,_=>by simp at hl
 |x::xs,u::ts,t,v,hl,h,hv=>by
  show v∈u++x::pre xs ts
  rcases zR.1 h with rfl | h
  ·exact zN _ hv
  ·exact zM _ (zQ _ (pre_mem_kid xs ts t v (by simpa using hl) h hv))
variable {lt:α→α→Bool}{mn mx h:Nat}
theorem kids_lt {T:BT α (h+1)}(hs:Sh mn mx (h+1) T)(hsrt:Srt lt (toL (h+1) T)){i j:Nat}{c d:BT α h}(hc:T.2.2[i]?=some c)(hd:T.2.2[j]?=some d)(hij:i<j){u v:α}(hu:u∈toL h c)(hv:v∈toL h d):lt u v=true:=by
 have hjl:=(zG.1 hd).1
 have hl:=hs.2.1
 rw [kfY hs hd] at hsrt
 have hm:u∈pre (T.2.1.take j) ((T.2.2.map (toL h)).take j):=by
  refine pre_mem_kid _ _ (toL h c) u (by simp only [zV,zU];omega) ?_ hu
  have e:((T.2.2.map (toL h)).take j)[i]?=some (toL h c):=by rw [zq hij];simp [hc]
  exact zS e
 exact (zZ.1 (zZ.1 hsrt).1).2.2 u hm v hv
theorem it_ahead {T:BT α (h+1)}(hs:Sh mn mx (h+1) T){a j:Nat}{s:α}(hj:j≤T.2.1.length)(ha:T.2.1[a]?=some s)(haj:a<j):s∈pre (T.2.1.take j) ((T.2.2.map (toL h)).take j):=by
 have hl:=hs.2.1
 refine pre_mem_it _ _ s (by simp only [zV,zU];omega) ?_
 have e:(T.2.1.take j)[a]?=some s:=by rw [zq haj];exact ha
 exact zS e
variable {B P:List Nat}{off h':Nat}{T':BT α h'}{T:BT α h}
theorem Road.lists (hr:Road h T B P off h' T')(hs:Sh mn mx h T):Sh mn mx h' T'∧∃A C,A.length=off∧toL h T=A++toL h' T'++C:=by
 induction hr with
 |nil=>exact ⟨hs,[],[],rfl,by simp⟩
 |@snoc B P off h' T' j c hr hc ih =>
  obtain ⟨hs',A,C,hA,hL⟩:=ih
  refine ⟨(hs'.2.2 c (zS hc)).2,A++pre (T'.2.1.take j) ((T'.2.2.map (toL h')).take j),post (T'.2.1.drop j) ((T'.2.2.map (toL h')).drop (j+1))++C,by rw [zT,hA],?_⟩
  rw [hL,kfY hs' hc];simp
theorem part_srt {A M C:List α}(h:Srt lt (A++M++C)):Srt lt M:=(zZ.1 (zZ.1 h).1).2.1
theorem Road.srt (hr:Road h T B P off h' T')(hs:Sh mn mx h T)(hsrt:Srt lt (toL h T)):Srt lt (toL h' T'):=by
 obtain ⟨_,A,C,_,hL⟩:=hr.lists hs
 rw [hL] at hsrt
 exact part_srt hsrt
theorem flag_end (s:Swo lt){Bd:α→Prop}{y:α}(hr:Road h T B P off h' T')(hs:Sh mn mx h T)(hsrt:Srt lt (toL h T)) :
  (∀u∈(toL h T).take off,¬Bd u)→y∈toL h' T'→kcG Bd (fun v=>v=y) h' T'→kcG Bd (fun v=>v=y) h T:=by
 induction hr with
 |nil=>exact fun _ _ hf=>hf
 |@snoc B P off h' T' j c hr hc ih =>
  intro hA hy hf
  obtain ⟨hs',A,C,hAl,hL⟩:=hr.lists hs
  have hsrt':=hr.srt hs hsrt
  have hcm:=zS hc
  have hjl:=(zG.1 hc).1
  have hkl:=hs'.2.1
  have hone:∀i d,T'.2.2[i]?=some d→y∈toL h' d→i=j:=fun i d hd hyd=>by
   rcases Nat.lt_trichotomy i j with h | h | h
   ·have:=kids_lt hs' hsrt' hd hc h hyd hy;rw [s.irrefl] at this;cases this
   ·exact h
   ·have:=kids_lt hs' hsrt' hc hd h hy hyd;rw [s.irrefl] at this;cases this
  refine ih (fun u hu=>hA u ?_) (kid_toL hs' hcm hy) ⟨fun a i u d h1 h2 h3 h4 v hv h5=>?_,fun d hd=>?_⟩
  ·have e:(toL _ T).take off <+: (toL _ T).take (off+(pre (T'.2.1.take j) ((T'.2.2.map (toL h')).take j)).length):=List.take_prefix_take_left (by omega)
   exact e.subset hu
  ·subst h5
   obtain rfl:=hone i d h4 hv
   refine hA u ?_ h2
   have h6:=it_ahead hs' (j:=i) (by omega) h1 h3
   rw [hL,kfY hs' hc]
   have e:A++(pre (T'.2.1.take i) ((T'.2.2.map (toL h')).take i)++toL h' c++post (T'.2.1.drop i) ((T'.2.2.map (toL h')).drop (i+1)))++C=(A++pre (T'.2.1.take i) ((T'.2.2.map (toL h')).take i))++(toL h' c++post (T'.2.1.drop i) ((T'.2.2.map (toL h')).drop (i+1))++C):=by simp
   rw [e,zs (by rw [zT,hAl])]
   exact zM _ h6
  ·obtain ⟨i,hi⟩:=List.mem_iff_getElem?.1 hd
   by_cases hyd:y∈toL h' d
   ·obtain rfl:=hone i d hi hyd
    rw [hc] at hi
    obtain rfl:=Iq hi
    exact hf
   ·exact flag_absent h' d (hs'.2.2 d hd).2 (fun v hv e=>hyd (e▸hv))
theorem dr_step2 (s:Swo lt){p x:α}{E:List (α×List α)}{mn mx m:Nat}{H H':Nat→Option (NodeR α)}{h:Nat}{T T':BT α h}{A N C:List α}(hI:DrI lt p E mn mx H h T)(hs:SubIn mn mx H H' h T T' m)
  (hL:toL h T=A++x::(N++C))(hL':toL h T'=A++C)(hx:lt x p=false)(hz:∀z,C.head?=some z→kcG (fun u=>lt u p=false) (fun v=>v=z) h T')(hN:∀v∈N,¬QF lt p E (toL h T) v) :
  ∃E1 E2,E=E1++E2∧DrI lt p (E1++(x,N)::E2) mn mx H' h T':=by
 have hsrt:=hI.srt
 have hext:=hI.ext
 have hfl:=hI.flag
 rw [hL] at hsrt hext hfl hN
 obtain ⟨E1,E2,rfl,hE⟩:=ext_block s hext hsrt hx hN
 have hsub:(A++C).Sublist (A++x::(N++C)):=(List.Sublist.refl A).append (List.Sublist.cons x (List.sublist_append_right N C))
 refine ⟨E1,E2,rfl,hs.isT,hs.nd,hs.sh,by rw [hL'];exact List.Pairwise.sublist hsub hsrt,by rw [hL'];exact hE,?_⟩
 rw [hL']
 have h1:=hs.flag _ _ hfl
 cases hC:C.head? with
 |none =>
  refine kgQ (fun _ h=>h) (fun v hv=>?_) h T' h1
  rcases qf_next s hsrt (s.irrefl p) hv with h2 | h2
  ·exact h2
  ·rw [hC] at h2;cases h2
 |some z =>
  refine kgQ (fun _ h=>h) (fun v hv=>?_) h T' (flag_or h T' h1 (hz z hC))
  rcases qf_next s hsrt (s.irrefl p) hv with h3 | h3
  ·exact .inl h3
  ·rw [hC] at h3
   exact .inr (Iq h3).symm
structure DrG (lt:α→α→Bool) (st:α→Bool) (p0 p:α) (L0 L:List α) (E:List (α×List α)):Prop where
 perm:(kdM E++L).Perm L0
 ins:∀u∈kdM E,lt u p0=false∧st u=false
 low:∀u∈L,lt u p=true→lt u p0=true
 pp:lt p p0=false
theorem DrG.start (s:Swo lt)(st:α→Bool)(p0:α)(L0:List α):DrG lt st p0 p0 L0 L0 [] :=
 ⟨List.Perm.refl _,fun _ h=>(by cases h),fun _ _ h=>h,s.irrefl p0⟩
theorem DrG.step (s:Swo lt){st:α→Bool}{p0 p p' x:α}{L0 A N C:List α}{E1 E2:List (α×List α)}(h:DrG lt st p0 p L0 (A++x::(N++C)) (E1++E2))(hx:lt x p=false)(hxN:∀v∈N,lt x v=true)(hst:∀v∈x::N,st v=false)
  (hp:lt p' p=false)(hlow:∀u∈A++C,lt u p'=true→lt u p0=true):DrG lt st p0 p' L0 (A++C) (E1++(x,N)::E2):=by
 have hx0:lt x p0=false:=s.ntrans _ _ _ hx h.pp
 refine ⟨ext_perm.trans h.perm,fun u hu=>?_,hlow,s.ntrans _ _ _ hp h.pp⟩
 rw [kdZ,kdY] at hu
 rcases zO.1 hu with hu | hu
 ·exact h.ins u (by rw [kdZ];exact zN _ hu)
 ·rcases zO.1 hu with hu | hu
  ·refine ⟨?_,hst u hu⟩
   rcases zR.1 hu with rfl | hu
   ·exact hx0
   ·have h1:=hxN u hu
    cases h2:lt u p0 with
    |false=>rfl
    |true=>have:=s.trans h1 h2;rw [hx0] at this;cases this
  ·exact h.ins u (by rw [kdZ];exact zM _ hu)
def CutP (lt:α→α→Bool)(p:α)(L:List α)(q:Nat):Prop:=(∀u∈L.take q,lt u p=true)∧(∀u∈L.drop q,lt u p=false)
variable {p:α}
theorem CutP.app {A C:List α}{q:Nat}(h:CutP lt p (A++C) q)(hq:A.length=q):(∀u∈A,lt u p=true)∧(∀u∈C,lt u p=false):=by
 obtain ⟨h1,h2⟩:=h
 rw [zs hq] at h1
 rw [zt hq] at h2
 exact ⟨h1,h2⟩
theorem CutP.of {A C:List α}(h1:∀u∈A,lt u p=true)(h2:∀u∈C,lt u p=false):CutP lt p (A++C) A.length:=by
 refine ⟨?_,?_⟩
 ·rw [zs rfl];exact h1
 ·rw [zt rfl];exact h2
theorem CutP.less {A M C:List α}{q:Nat}(h:CutP lt p (A++M++C) q)(hq:q≤A.length):CutP lt p (A++C) q:=by
 obtain ⟨h1,h2⟩:=h
 rw [zu,List.take_append_of_le_length hq] at h1
 rw [zu,List.drop_append_of_le_length hq] at h2
 refine ⟨?_,?_⟩
 ·rw [List.take_append_of_le_length hq];exact h1
 ·rw [List.drop_append_of_le_length hq]
  intro u hu
  rcases zO.1 hu with hu | hu
  ·exact h2 u (zN _ hu)
  ·exact h2 u (zM _ (zM _ hu))
end
end
section
section
variable {ord:List Int}
def pl (D:List (Bk ord)):List (It ord×List (It ord)):=D.map Bk.plain
theorem pl_app (D1 D2:List (Bk ord)):pl (D1++D2)=pl D1++pl D2:=zv
structure DrS (st:It ord→Bool) (p0 p:It ord) (L0:List (It ord)) (D:List (Bk ord)) (mn mx:Nat) (H:HN ord) (h0:Nat) (T0:BT (It ord) h0):Prop where
 di:DrI ltM p (pl D) mn mx H h0 T0
 dg:DrG ltM st p0 p L0 (toL h0 T0) (pl D)
 tr:∀b∈D,∀T:Tr ord,b.2=some T→IsT H T.1 T.2∧Sh mn mx T.1 T.2∧∀a∈ids T.1 T.2,a∉ids h0 T0
variable {st:It ord→Bool}{p0 p:It ord}{L0:List (It ord)}{D:List (Bk ord)}{mn mx:Nat}{H:HN ord}{h0:Nat}{T0:BT (It ord) h0}
structure PairOut (st:It ord→Bool) (p0 p:It ord) (L0:List (It ord)) (D:List (Bk ord)) (mn mx:Nat) (H':HN ord) (h0:Nat) (T0 Tf:BT (It ord) h0) (P:List Nat) (m q0 n:Nat) (d:Bk ord):Prop where
 split:∃D1 D2,D=D1++D2∧DrS st p0 p L0 (D1++d::D2) mn mx H' h0 Tf
 rid':rid Tf=rid T0
 sub:∀a∈ids h0 Tf,a∈ids h0 T0
 len:(toL h0 Tf).length+m=(toL h0 T0).length
 root:P=[]→(its Tf).length=n
 rest:P≠[]→(its Tf).length=(its T0).length
 cut:∀q,q≤q0→CutP ltM p (toL h0 T0) q→CutP ltM p (toL h0 Tf) q
theorem drs_pair (hS:DrS st p0 p L0 D mn mx H h0 T0){B P:List Nat}{off h n:Nat}{X Y:List (It ord)}{x y:It ord}{L R:List (BT (It ord) h)}{A K:BT (It ord) h}
  (hr:Road h0 T0 B P off (h+1) ((n,X++x::y::Y,L++A::K::R):BT (It ord) (h+1)))(hL:L.length=X.length)(hR:R.length=Y.length+1)(hx:ltM x p=false)(hA:∀u∈(toL h0 T0).take off,ltM u p=true)(hst:∀v∈x::toL h K,st v=false)(hm:P≠[]→mn≤(X++y::Y).length) :
  ∃Tf,PairOut st p0 p L0 D mn mx (bmp (upd H n (kbP (h+1) ((n,X++y::Y,L++A::R):BT (It ord) (h+1)))) P (-(((toL h K).length+1:Nat):Int))) h0 T0 Tf P ((toL h K).length+1) (off+(pre X (L.map (toL h))).length+(toL h A).length) (X++y::Y).length (x,some ⟨h,K⟩) ∧
   Road h0 Tf B P off (h+1) ((n,X++y::Y,L++A::R):BT (It ord) (h+1)):=by
 obtain ⟨hI,hG,hT⟩:=hS
 obtain ⟨g1,g2,g3,g4,AA,CC,hAl,hLL,hcl⟩:=hr.close (m:=(toL h K).length+1) hI.isT hI.nd hI.sh
 have hnd:=(hr.out hI.nd).2.1
 have hsub:=sub_pair (H:=H) hL (by simpa using hR) g1 hnd g2
 have e0:=toL_two (mn:=mn) (mx:=mx) (n:=n) (X:=X) (x:=x) (Y:=y::Y) (A:=A) (B:=K) (L:=L) (R:=R) hL (by simpa using hR)
 have e1:=toL_less (mn:=mn) (mx:=mx) (n:=n) (X:=X) (Y:=y::Y) (L:=L) (R:=R) (A:=A) hL (by simpa using hR)
 obtain ⟨Tf,f1,f2,f3,f4,f5,f6⟩:=hcl _ _ hsub hm (by rw [e0,e1];simp only [zT,List.length_cons];omega)
 obtain ⟨K2,R2,rfl⟩:∃K2 R2,R=K2::R2:=by
  cases R with
  |nil=>simp at hR
  |cons K2 R2=>exact ⟨K2,R2,rfl⟩
 have hLL':toL h0 T0=(AA++pre X (L.map (toL h))++toL h A)++x::(toL h K++(post (y::Y) ((K2::R2).map (toL h))++CC)):=by rw [hLL,e0];simp
 have hLf:toL h0 Tf=(AA++pre X (L.map (toL h))++toL h A)++(post (y::Y) ((K2::R2).map (toL h))++CC):=by rw [f2,e1];simp
 have hpost:post (y::Y) ((K2::R2).map (toL h))=y::(toL h K2++post Y (R2.map (toL h))):=rfl
 have hunm:∀v∈toL h K,¬QF ltM p (pl D) (toL h0 T0) v:=unmarked hL (hr.flag hI.flag) hx
 have hAt:(toL h0 T0).take off=AA:=by rw [hLL,zu,zs hAl]
 have hAt':(toL h0 Tf).take off=AA:=by rw [f2,zu,zs hAl]
 have hyT:y∈toL (h+1) ((n,X++y::Y,L++A::(K2::R2)):BT (It ord) (h+1)):=by rw [e1,hpost];simp
 have hsrtf:Srt ltM (toL h0 Tf):=by
  have h1:=hI.srt
  rw [hLL'] at h1
  rw [hLf]
  exact List.Pairwise.sublist ((List.Sublist.refl _).append (List.Sublist.cons x (List.sublist_append_right _ _))) h1
 have hfl1:kcG (fun u=>ltM u p=false) (fun v=>v=y) (h+1) ((n,X++y::Y,L++A::(K2::R2)):BT (It ord) (h+1)):=by
  have hst1:=f3.srt f1.sh hsrtf
  rw [e1] at hst1
  have hno:∀c∈L++A::(K2::R2),∀v∈toL h c,¬v=y:=by
   intro c hc v hv hvy
   subst hvy
   obtain ⟨p1,p2,p3⟩:=zZ.1 hst1
   rw [hpost] at p2 p3
   obtain ⟨p4,p5⟩:=List.pairwise_cons.1 p2
   have hirr:=swoM.irrefl v
   rcases zO.1 hc with hc | hc
   ·have h3:v∈pre X (L.map (toL h)):=pre_mem_kid X (L.map (toL h)) (toL h c) v (by simp [hL]) (List.mem_map_of_mem hc) hv
    have:=p3 v (zN _ h3) v zP
    rw [hirr] at this;cases this
   ·rcases zR.1 hc with rfl | hc
    ·have:=p3 v (zM _ hv) v zP
     rw [hirr] at this;cases this
    ·rcases zR.1 hc with rfl | hc
     ·have:=p4 v (zN _ hv)
      rw [hirr] at this;cases this
     ·have h3:v∈post Y (R2.map (toL h)):=by
       have:∀(Y:List (It ord)) (ts:List (List (It ord))) (t:List (It ord)),ts.length=Y.length→t∈ts→v∈t→v∈post Y ts:=by
        intro Y
        induction Y with
        |nil=>intro ts t h1 h2;cases ts<;>simp at h1 h2
        |cons z Y ih =>
         intro ts t h1 h2 h3
         cases ts with
         |nil=>cases h2
         |cons u ts =>
          show v∈z::u++post Y ts
          rcases zR.1 h2 with rfl | h2
          ·exact zN _ (zQ _ h3)
          ·exact zM _ (ih ts t (by simpa using h1) h2 h3)
       exact this Y (R2.map (toL h)) (toL h c) (by simpa using hR) (List.mem_map_of_mem hc) hv
      have:=p4 v (zM _ h3)
      rw [hirr] at this;cases this
  exact ⟨fun _ _ _ c _ _ _ h4 v hv=>hno c (zS h4) v hv,fun c hc=>flag_absent h c (by
   have:=hsub.sh.2.2 c hc
   exact this.2) (hno c hc)⟩
 have hz:∀z,(post (y::Y) ((K2::R2).map (toL h))++CC).head?=some z→kcG (fun u=>ltM u p=false) (fun v=>v=z) h0 Tf:=by
  intro z hz
  rw [hpost] at hz
  obtain rfl:y=z:=by simpa using hz
  refine flag_end swoM f3 f1.sh hsrtf (fun u hu hb=>?_) hyT hfl1
  rw [hAt'] at hu
  rw [hA u (by rw [hAt];exact hu)] at hb;cases hb
 obtain ⟨E1,E2,hE,hDI⟩:=dr_step2 swoM hI f1 hLL' hLf hx hz hunm
 obtain ⟨D1,D2,rfl,hD1,hD2⟩:=List.map_eq_append_iff.1 hE
 have hpl:pl (D1++List.cons (α:=Bk ord) (x,some ⟨h,K⟩) D2)=E1++(x,toL h K)::E2:=by
  show (D1++List.cons (α:=Bk ord) (x,some ⟨h,K⟩) D2).map Bk.plain=_
  rw [zv,hD1]
  show E1++((x,toL h K)::D2.map Bk.plain)=_
  rw [hD2]
 have hsrtx:=hI.srt
 rw [hLL'] at hsrtx
 obtain ⟨_,s2,_⟩:=zZ.1 hsrtx
 have hxN:∀v∈toL h K,ltM x v=true:=fun v hv=>(List.pairwise_cons.1 s2).1 v (zN _ hv)
 have hKm:K∈L++A::K::K2::R2:=by simp
 have hKids:∀a∈ids h K,a∉ids h0 Tf:=by
  intro a ha hat
  have h1:a∈ids (h+1) ((n,X++x::y::Y,L++A::K::K2::R2):BT (It ord) (h+1)):=kdF hKm ha
  have h2:=f4 a hat h1
  have hnd':(ids (h+1) ((n,X++x::y::Y,(L++[A])++K::(K2::R2)):BT (It ord) (h+1))).Nodup:=by
   have e:L++A::K::K2::R2=(L++[A])++K::(K2::R2):=by simp
   rw [←e];exact hnd
  obtain ⟨q1,q2,q3⟩:=nodup_apart hnd' ha
  change a∈n::(L++A::K2::R2).flatMap (ids h) at h2
  rcases zR.1 h2 with rfl | h2
  ·exact q1 rfl
  ·rw [show L++A::K2::R2=(L++[A])++(K2::R2) by simp,List.flatMap_append] at h2
   exact (zO.1 h2).elim q2 q3
 have hrest:∀a,a∉ids h0 T0→(bmp (upd H n (kbP (h+1) ((n,X++y::Y,L++A::K2::R2):BT (It ord) (h+1)))) P (-(((toL h K).length+1:Nat):Int))) a=H a:=f1.rest
 have hin:=(hr.out hI.nd).1
 refine ⟨Tf,⟨⟨D1,D2,rfl,⟨by rw [hpl];exact hDI,?_,?_⟩⟩,f1.rid',f1.sub,?_,f5,f6,fun q hq hc=>?_⟩,f3⟩
 ·rw [hpl,hLf]
  have hG':=hG
  rw [hLL',hE] at hG'
  refine hG'.step swoM hx hxN hst (swoM.irrefl p) (fun u hu hup=>hG'.low u ?_ hup)
  rcases zO.1 hu with hu | hu
  ·exact zN _ hu
  ·exact zM _ (zQ _ (zM _ hu))
 ·intro b hb T hbT
  have hcase:b∈D1++D2∨b=(x,some ⟨h,K⟩):=by
   rcases zO.1 hb with hb | hb
   ·exact .inl (zN _ hb)
   ·rcases zR.1 hb with hb | hb
    ·exact .inr hb
    ·exact .inl (zM _ hb)
  rcases hcase with hb | rfl
  ·obtain ⟨t1,t2,t3⟩:=hT b hb T hbT
   exact ⟨t1.congr fun a ha=>hrest a (t3 a ha),t2,fun a ha hat=>t3 a ha (f1.sub a hat)⟩
  ·obtain rfl:(⟨h,K⟩:Tr ord)=T:=Iq hbT
   refine ⟨?_,(g2.2.2 K hKm).2,hKids⟩
   refine (g1.kid hKm).congr fun a ha=>?_
   have ha1:a∉P:=fun hp=>((hr.out hI.nd).2.2 a hp).1 (kdF hKm ha)
   have ha2:a≠n:=fun e=>kcK hnd hKm (e▸ha)
   rw [bmp_out ha1,kcP _ _ ha2]
 ·rw [hLf,hLL'];simp only [zT,List.length_cons];omega
 ·rw [hLf]
  rw [hLL'] at hc
  have hc':CutP ltM p ((AA++pre X (L.map (toL h))++toL h A)++(x::toL h K)++(post (y::Y) ((K2::R2).map (toL h))++CC)) q:=by simpa using hc
  exact hc'.less (by simp only [zT,hAl];omega)
theorem drs_leaf1 (hS:DrS st p0 p L0 D mn mx H h0 T0){B P:List Nat}{off:Nat}{T:BT (It ord) 0}{X Y:List (It ord)}{x:It ord}
  (hr:Road h0 T0 B P off 0 T)(hT2:T.2=X++x::Y)(hC:CutP ltM p (toL h0 T0) (off+X.length))(hst:st x=false)(hm:P≠[]→mn≤(X++Y).length) :
  ∃Tf,PairOut st p0 p L0 D mn mx (bmp (upd H (rid T) ⟨((X++Y).length:Nat),X++Y,none⟩) P (-1)) h0 T0 Tf P 1 (off+X.length) (X++Y).length (x,none)∧Road h0 Tf B P off 0 ((T.1,X++Y):BT (It ord) 0):=by
 obtain ⟨hI,hG,hT⟩:=hS
 obtain ⟨g1,g2,g3,g4,AA,CC,hAl,hLL,hcl⟩:=hr.close (m:=1) hI.isT hI.nd hI.sh
 have hsub:=sub_leaf (H:=H) (T:=T) (X:=X) (M:=[x]) (Y:=Y) (by rw [hT2];simp) g2
 obtain ⟨Tf,f1,f2,f3,f4,f5,f6⟩:=hcl _ _ hsub hm (by
  show (X++Y).length+1=T.2.length
  rw [hT2];simp only [zT,List.length_cons];omega)
 have hLL':toL h0 T0=(AA++X)++x::([]++(Y++CC)):=by
  rw [hLL];show AA++T.2++CC=_;rw [hT2];simp
 have hLf:toL h0 Tf=(AA++X)++(Y++CC):=by
  rw [f2];show AA++(X++Y)++CC=_;simp
 obtain ⟨c1,c2⟩:=(show CutP ltM p ((AA++X)++x::([]++(Y++CC))) (off+X.length) by rw [←hLL'];exact hC).app (by rw [zT,hAl])
 have hx:=c2 x zP
 obtain ⟨E1,E2,hE,hDI⟩:=dr_step swoM hI f1 hLL' hLf hx c1 (swoM.irrefl p) (fun _ h=>by cases h)
 obtain ⟨D1,D2,rfl,hD1,hD2⟩:=List.map_eq_append_iff.1 hE
 have hpl:pl (D1++List.cons (α:=Bk ord) (x,none) D2)=E1++(x,[])::E2:=by
  show (D1++List.cons (α:=Bk ord) (x,none) D2).map Bk.plain=_
  rw [zv,hD1]
  show E1++((x,[])::D2.map Bk.plain)=_
  rw [hD2]
 refine ⟨Tf,⟨⟨D1,D2,rfl,⟨by rw [hpl];exact hDI,?_,?_⟩⟩,f1.rid',f1.sub,?_,f5,f6,fun q hq hc=>?_⟩,f3⟩
 ·rw [hpl,hLf]
  have hG':=hG
  rw [hLL',hE] at hG'
  refine hG'.step swoM hx (fun _ h=>by cases h) (fun v hv=>?_) (swoM.irrefl p) (fun u hu hup=>hG'.low u ?_ hup)
  ·rw [zy.1 hv];exact hst
  ·rcases zO.1 hu with hu | hu
   ·exact zN _ hu
   ·exact zM _ (zQ _ hu)
 ·intro b hb T' hbT
  have hcase:b∈D1++D2∨b=(x,none):=by
   rcases zO.1 hb with hb | hb
   ·exact .inl (zN _ hb)
   ·rcases zR.1 hb with hb | hb
    ·exact .inr hb
    ·exact .inl (zM _ hb)
  rcases hcase with hb | rfl
  ·obtain ⟨t1,t2,t3⟩:=hT b hb T' hbT
   exact ⟨t1.congr fun a ha=>f1.rest a (t3 a ha),t2,fun a ha hat=>t3 a ha (f1.sub a hat)⟩
  ·cases hbT
 ·rw [hLf,hLL'];simp only [zT,List.length_cons,List.nil_append];omega
 ·rw [hLf]
  rw [hLL'] at hc
  have hc':CutP ltM p ((AA++X)++[x]++(Y++CC)) q:=by simpa using hc
  exact hc'.less (by rw [zT,hAl];exact hq)
theorem bmp_zero {α:Type}(H:Nat→Option (NodeR α))(P:List Nat):bmp H P 0=H:=by
 funext m
 unfold bmp
 split
 ·cases H m<;>simp
 ·rfl
def lone (v:It ord):Bk ord:=(v,none)
structure LeafOut (st:It ord→Bool) (p0 p:It ord) (L0:List (It ord)) (D:List (Bk ord)) (M:List (It ord)) (mn mx:Nat) (H':HN ord) (h0:Nat) (T0 Tf:BT (It ord) h0) (P:List Nat) (q0 n:Nat):Prop where
 split:∃D',D'.Perm (D++M.map lone)∧DrS st p0 p L0 D' mn mx H' h0 Tf
 rid':rid Tf=rid T0
 sub:∀a∈ids h0 Tf,a∈ids h0 T0
 len:(toL h0 Tf).length+M.length=(toL h0 T0).length
 root:P=[]→(its Tf).length=n
 rest:P≠[]→(its Tf).length=(its T0).length
 cut:∀q,q≤q0→CutP ltM p (toL h0 T0) q→CutP ltM p (toL h0 Tf) q
theorem drs_leaf:∀(M:List (It ord)) {D:List (Bk ord)} {H:HN ord} {T0:BT (It ord) h0} {T:BT (It ord) 0},DrS st p0 p L0 D mn mx H h0 T0→∀{B P:List Nat} {off:Nat} {X Y:List (It ord)},
  Road h0 T0 B P off 0 T→T.2=X++M++Y→CutP ltM p (toL h0 T0) (off+X.length)→(∀v∈M,st v=false)→(P≠[]→mn≤(X++Y).length) →
  ∃Tf,LeafOut st p0 p L0 D M mn mx (bmp (upd H (rid T) ⟨((X++Y).length:Nat),X++Y,none⟩) P (-(M.length:Int))) h0 T0 Tf P (off+X.length) (X++Y).length∧Road h0 Tf B P off 0 ((T.1,X++Y):BT (It ord) 0)
 |[],D,H,T0,T,hS,B,P,off,X,Y,hr,hT2,hC,_,hm=>by
  rw [List.append_nil] at hT2
  obtain ⟨g1,g2,g3,g4,_⟩:=hr.close (m:=0) hS.di.isT hS.di.nd hS.di.sh
  have e:bmp (upd H (rid T) ⟨((X++Y).length:Nat),X++Y,none⟩) P (-(([]:List (It ord)).length:Int))=H:=by
   have e0:(-(([]:List (It ord)).length:Int))=0:=rfl
   rw [e0,bmp_zero]
   funext m
   by_cases em:m=rid T
   ·subst em
    rw [kbX]
    have h1:H (rid T)=some (kbP 0 T):=g1
    rw [h1,←hT2];rfl
   ·rw [kcP _ _ em]
  refine ⟨T0,⟨⟨D,by simp,by rw [e];exact hS⟩,rfl,fun _ h=>h,rfl,fun hp=>?_,fun _=>rfl,fun _ _ h=>h⟩,?_⟩
  ·rw [←g4 hp,←hT2];rfl
  ·have eT:((T.1,X++Y):BT (It ord) 0)=T:=by rw [←hT2];rfl
   rw [eT];exact hr
 |x::M,D,H,T0,T,hS,B,P,off,X,Y,hr,hT2,hC,hst,hm=>by
  have hT2':T.2=X++x::(M++Y):=by rw [hT2];simp
  obtain ⟨Tf,h1,h2⟩:=drs_leaf1 hS hr hT2' hC (hst x zP) (fun hp=>by have:=hm hp;simp only [zT] at this ⊢;omega)
  obtain ⟨D1,D2,rfl,hS1⟩:=h1.split
  obtain ⟨Tg,k1,k2⟩:=drs_leaf M hS1 (X:=X) (Y:=Y) h2 (by simp) (h1.cut _ (Nat.le_refl _) hC) (fun v hv=>hst v (zQ _ hv)) hm
  have hrT:rid T∉P:=fun hp=>((hr.out hS.di.nd).2.2 _ hp).1 (kcV _)
  have eH:bmp (upd (bmp (upd H (rid T) ⟨((X++(M++Y)).length:Nat),X++(M++Y),none⟩) P (-1)) (@rid (It ord) 0 (T.1,X++(M++Y))) ⟨((X++Y).length:Nat),X++Y,none⟩) P (-(M.length:Int))=bmp (upd H (rid T) ⟨((X++Y).length:Nat),X++Y,none⟩) P (-((x::M).length:Int)):=by
   have er:@rid (It ord) 0 (T.1,X++(M++Y))=rid T:=rfl
   rw [er]
   funext m
   by_cases em:m=rid T
   ·subst em
    rw [bmp_out hrT,kbX,bmp_out hrT,kbX]
   ·unfold bmp
    simp only [kcP _ _ em]
    split
    ·cases H m with
     |none=>rfl
     |some r =>
      simp only [Option.map_some,List.length_cons,zc]
      congr 1
      omega
    ·rfl
  rw [eH] at k1
  obtain ⟨D',q1,q2⟩:=k1.split
  refine ⟨Tg,⟨⟨D',q1.trans ?_,q2⟩,k1.rid'.trans h1.rid',fun a ha=>h1.sub a (k1.sub a ha),?_,k1.root,fun hp=>(k1.rest hp).trans (h1.rest hp),fun q hq hc=>k1.cut q hq (h1.cut q hq hc)⟩,k2⟩
  ·show ((D1++lone x::D2)++M.map lone).Perm ((D1++D2)++lone x::M.map lone)
   have h3:(D1++lone x::D2).Perm (lone x::(D1++D2)):=List.perm_middle
   exact (h3.append_right _).trans List.perm_middle.symm
  ·have:=h1.len
   have:=k1.len
   simp only [List.length_cons];omega
end
end
section
variable {ord:List Int}{k:Kc ord}
section
variable {ord:List Int}{st:It ord→Bool}{p0 p:It ord}{L0:List (It ord)}{D:List (Bk ord)}{mn mx:Nat}{H H':HN ord}{h0:Nat}{T0:BT (It ord) h0}
structure DrF (st:It ord→Bool) (p0:It ord) (L0 L:List (It ord)) (D:List (Bk ord)) (mn mx:Nat) (H:HN ord):Prop where
 perm:(kdM (pl D)++L).Perm L0
 srtE:Srt ltM (kdM (pl D))
 srtL:Srt ltM L
 ins:∀u∈kdM (pl D),ltM u p0=false∧st u=false
 out:∀u∈L,ltM u p0=true∨st u=true
 tr:∀b∈D,∀T:Tr ord,b.2=some T→IsT H T.1 T.2∧Sh mn mx T.1 T.2
theorem DrS.fin (hS:DrS st p0 p L0 D mn mx H h0 T0)(hout:∀u∈toL h0 T0,ltM u p0=true∨st u=true):DrF st p0 L0 (toL h0 T0) D mn mx H :=
 ⟨hS.dg.perm,hS.di.ext.srt,hS.di.srt,hS.dg.ins,hout,fun b hb T hT=>⟨(hS.tr b hb T hT).1,(hS.tr b hb T hT).2.1⟩⟩
theorem DrS.fin_end (hS:DrS st p0 p L0 D mn mx H h0 T0)(hc:CutP ltM p (toL h0 T0) (toL h0 T0).length):DrF st p0 L0 (toL h0 T0) D mn mx H :=
 hS.fin fun u hu=>.inl (hS.dg.low u hu (hc.1 u (by rw [List.take_length];exact hu)))
theorem DrS.fin_stop (hS:DrS st p0 p L0 D mn mx H h0 T0)(hst:∀u v,st u=true→ltM v u=false→st v=true){q:Nat}{x:It ord}(hc:CutP ltM p (toL h0 T0) q)(hx:(toL h0 T0)[q]?=some x)(hsx:st x=true):DrF st p0 L0 (toL h0 T0) D mn mx H:=by
 have hs:=hS.di.srt
 obtain ⟨hq,rfl⟩:=zG.1 hx
 have e:toL h0 T0=(toL h0 T0).take q++(toL h0 T0)[q]::(toL h0 T0).drop (q+1):=by
  rw [←List.drop_eq_getElem_cons hq,zw]
 refine hS.fin fun u hu=>?_
 rw [e] at hu hs
 rcases zO.1 hu with hu | hu
 ·exact .inl (hS.dg.low u (List.mem_of_mem_take hu) (hc.1 u hu))
 ·refine .inr ?_
  rcases zR.1 hu with rfl | hu
  ·exact hsx
  ·have h1:=(List.pairwise_cons.1 (zZ.1 hs).2.1).1 u hu
   exact hst _ u hsx (swoM.asymm _ _ h1)
theorem blocks_split {E1 E2:List (It ord×List (It ord))}(hE:pl D=E1++E2)(x:It ord):∃D1 D2,D=D1++D2∧pl (D1++lone x::D2)=E1++(x,[])::E2:=by
 obtain ⟨D1,D2,rfl,hD1,hD2⟩:=List.map_eq_append_iff.1 hE
 refine ⟨D1,D2,rfl,?_⟩
 show (D1++lone x::D2).map Bk.plain=_
 rw [zv,hD1]
 show E1++((x,[])::D2.map Bk.plain)=_
 rw [hD2]
theorem lone_mem {D1 D2:List (Bk ord)}{x:It ord}{b:Bk ord}{T:Tr ord}(hb:b∈D1++lone x::D2)(hT:b.2=some T):b∈D1++D2:=by
 rcases zO.1 hb with hb | hb
 ·exact zN _ hb
 ·rcases zR.1 hb with rfl | hb
  ·cases hT
  ·exact zM _ hb
theorem drs_del (hS:DrS st p0 p L0 D mn mx H h0 T0){A C:List (It ord)}{x:It ord}(hL:toL h0 T0=A++x::C)(hA:∀u∈A,ltM u p=true)(hx:ltM x p=false)(hst:st x=false)
  {h2:Nat}{T2:BT (It ord) h2}(hT2:IsT H' h2 T2)(hnd:(ids h2 T2).Nodup)(hsh:Sh mn mx h2 T2)(hL2:toL h2 T2=A++C)(hf:kcG (fun u=>ltM u x=false) (QF ltM p (pl D) (toL h0 T0)) h2 T2)(hsub:∀a∈ids h2 T2,a∈ids h0 T0)(hrest:∀a,a∉ids h0 T0→H' a=H a) :
  ∃D1 D2,D=D1++D2∧DrS st p0 x L0 (D1++lone x::D2) mn mx H' h2 T2∧∃q,q≤(toL h2 T2).length∧CutP ltM x (toL h2 T2) q:=by
 obtain ⟨hI,hG,hT⟩:=hS
 have hsrt:=hI.srt
 rw [hL] at hsrt
 obtain ⟨E1,E2,hE,hDI⟩:=dr_del swoM hI hL hx hT2 hnd hsh hL2 hf
 obtain ⟨D1,D2,rfl,hpl⟩:=blocks_split hE x
 have hAx:∀u∈A,ltM u x=true:=fun u hu=>(zZ.1 hsrt).2.2 u hu x zP
 have hCx:∀u∈C,ltM u x=false:=fun u hu=>swoM.asymm _ _ ((List.pairwise_cons.1 (zZ.1 hsrt).2.1).1 u hu)
 refine ⟨D1,D2,rfl,⟨by rw [hpl];exact hDI,?_,fun b hb T hbT=>?_⟩,A.length,by rw [hL2,zT];omega,by rw [hL2];exact CutP.of hAx hCx⟩
 ·rw [hpl,hL2]
  have hG':=hG
  rw [hL,hE] at hG'
  refine DrG.step (N:=[]) swoM hG' hx (fun _ h=>by cases h) (fun v hv=>?_) hx (fun u hu hup=>?_)
  ·rw [zy.1 hv];exact hst
  ·rcases zO.1 hu with hu | hu
   ·exact hG'.low u (zN _ hu) (hA u hu)
   ·rw [hCx u hu] at hup;cases hup
 ·obtain ⟨t1,t2,t3⟩:=hT b (lone_mem hb hbT) T hbT
  exact ⟨t1.congr fun a ha=>hrest a (t3 a ha),t2,fun a ha hat=>t3 a ha (hsub a hat)⟩
theorem drs_del_last (hS:DrS st p0 p L0 D mn mx H h0 T0){x:It ord}(hL:toL h0 T0=[x])(hx:ltM x p=false)(hst:st x=false)(hrest:∀a,a∉ids h0 T0→H' a=H a) :
  ∃D1 D2,D=D1++D2∧DrF st p0 L0 [] (D1++lone x::D2) mn mx H':=by
 obtain ⟨hI,hG,hT⟩:=hS
 have hsrt:=hI.srt
 have hext:=hI.ext
 rw [hL] at hsrt hext
 obtain ⟨E1,E2,hE,hE2⟩:=ext_block (A:=[]) (N:=[]) (C:=[]) swoM hext hsrt hx (fun _ h=>(by cases h))
 obtain ⟨D1,D2,rfl,hpl⟩:=blocks_split hE x
 have hG':=hG
 rw [hL,hE] at hG'
 have hG2:=DrG.step (A:=[]) (N:=[]) (C:=[]) swoM hG' hx (fun _ h=>by cases h) (fun v hv=>by rw [zy.1 hv];exact hst) (swoM.irrefl p) (fun _ h=>by cases h)
 refine ⟨D1,D2,rfl,by rw [hpl];exact hG2.perm,by rw [hpl];exact hE2.srt,List.Pairwise.nil,by rw [hpl];exact hG2.ins,(fun _ h=>(by cases h)),fun b hb T hbT=>?_⟩
 obtain ⟨t1,t2,t3⟩:=hT b (lone_mem hb hbT) T hbT
 exact ⟨t1.congr fun a ha=>hrest a (t3 a ha),t2⟩
end
end
section
section
variable {α:Type}
theorem Fam.setCnt1 {p:Par α}{w:World}{F:Nat→Prop}{H:Nat→Option (NodeR α)}(h:Fam p w F H){n:Nat}{r:NodeR α}(hn:H n=some r)(c:Int):Fam p (w.setCell ⟨n,1,none⟩ (Ii Ij c)) F (upd H n { r with cnt:=c })∧Chg (fun b _=>F b) w (w.setCell ⟨n,1,none⟩ (Ii Ij c)):=by
 obtain ⟨l,h1,_,_,h4⟩:=h.work hn
 obtain ⟨g1,g2⟩:=h4 _ _ _ ((Run.start h1).setCnt c)
 refine ⟨g1.mono (fun b hb=>?_) (fun b hb=>?_),g2⟩
 ·rcases hb with hb | ⟨hb1,hb2⟩
  ·exact hb
  ·have h3:(w.setCell ⟨n,1,none⟩ (Ii Ij c)).heap.size=w.heap.size:=by simp
   omega
 ·have h3:(w.setCell ⟨n,1,none⟩ (Ii Ij c)).heap.size=w.heap.size:=by simp
  have:=h.lt hb
  omega
end
def stkR:El (Nat×Int) where
 es:=2
 enc:=fun x=>[Ip (some ⟨x.1,0,none⟩),Ii Ij x.2]
 T:=133
 epos:=by omega
 elen:=fun _=>rfl
 eone:=by intro x v hv;simp at hv;rcases hv with rfl | rfl<;>rfl
theorem infoStkR:(Try.prog.info? 133).map (fun i=>(i.zero,i.size,i.bytes))=some (some (.agg #[Ip none,Ii Ij 0]),2,16):=by kernel_rfl
structure StkTopR (w:World) (st:Value) (l:List (Nat×Int)) (n:Nat) (i:Int) (base b o cap:Nat):Prop where
 eq:st=Is (some ⟨b,o,none⟩) (l.length+1) cap
 room:l.length+1≤cap
 lo:base≤b
 hi:b<w.heap.size
 c0:w.cell? ⟨b,o+l.length*2,none⟩=some (Ip (some ⟨n,0,none⟩))
 c1:w.cell? ⟨b,o+l.length*2+1,none⟩=some (Ii Ij i)
 pop:OwnE stkR w (Is (some ⟨b,o,none⟩) l.length cap) l base
theorem stk_topR {w:World}{st:Value}{l:List (Nat×Int)}{n:Nat}{i:Int}{base:Nat}(h:OwnE stkR w st (l++[(n,i)]) base):∃b o cap,StkTopR w st l n i base b o cap:=by
 rcases h with ⟨h0,_⟩ | ⟨b,o,cap,rfl,h2,h3,h4⟩
 ·simp at h0
 ·have hll:(l++[(n,i)]).length=l.length+1:=by simp
  rw [hll] at h2 ⊢
  have hx:(l++[(n,i)])[l.length]?=some (n,i):=by simp
  have g0:=h4.cell (flat_get stkR.par hx (q:=0) (v:=Ip (some ⟨n,0,none⟩)) rfl)
  have g1:=h4.cell (flat_get stkR.par hx (q:=1) (v:=Ii Ij i) rfl)
  refine ⟨b,o,cap,rfl,h2,h3,h4.lt,g0,by rw [Nat.add_assoc];exact g1,?_⟩
  have h5:=h4.part 0 (l.length*2) (cap*2) (by rw [kcW,hll];show 0+l.length*2≤(l.length+1)*2;omega) (by omega) (by rw [Nat.zero_add];exact Nat.le_refl _)
  refine .inr ⟨b,o,cap,rfl,by omega,h3,?_⟩
  rw [List.drop_zero,Nat.add_zero] at h5
  have e:(flat stkR.par (l++[(n,i)])).take (l.length*2)=flat stkR.par l:=by
   have hl:(flat stkR.par l).length=l.length*2:=kcW _ _
   rw [flat_append];exact zs hl
  rw [e] at h5
  exact h5
structure DrX (ord:List Int) where
 k:Kc ord
 mn:Nat
 mx:Nat
 t:Nat
 d:Nat
 s:Nat
 bh:Nat
 bp:Nat
 base:Nat
 F0:Nat→Prop
 lo:It ord
 hi:It ord
 inc:Bool
 L0:List (It ord)
section
variable {ord:List Int}
def DrX.st (X:DrX ord)(u:It ord):Bool:=if X.inc then ltM X.hi u else !ltM u X.hi
theorem DrX.st_mono (X:DrX ord):∀u v,X.st u=true→ltM v u=false→X.st v=true:=by
 intro u v h1 h2
 unfold DrX.st at h1 ⊢
 cases hi:X.inc
 all_goals rw [hi] at h1
 ·simp only [Bool.false_eq_true,if_false,Bool.not_eq_true'] at h1 ⊢
  exact swoM.ntrans _ _ _ h2 h1
 ·simp only [if_true] at h1 ⊢
  exact swoM.lt_of_lt_of_nlt h1 h2
theorem DrX.st_below (X:DrX ord){u y:It ord}(h1:ltM y X.hi=true)(h2:ltM u y=true∨u=y):X.st u=false:=by
 have h3:ltM u X.hi=true:=by
  rcases h2 with h2 | rfl
  ·exact swoM.trans h2 h1
  ·exact h1
 unfold DrX.st
 cases X.inc
 ·simp [h3]
 ·simp [swoM.asymm _ _ h3]
structure DrOk (X:DrX ord):Prop where
 tl:∀b,MOwn X.k X.t b→b<X.s∧¬X.F0 b∧b≠X.d
 dl:X.d<X.s∧¬X.F0 X.d
 fl:∀b,X.F0 b→b<X.s
 o1:X.s+5≤X.bh
 o2:X.bh<X.bp
 o3:X.bp<X.base
 m1:1≤X.mn
 m3:3≤X.mx
 m1000:X.mx≤1000
 mh:X.mn≤X.mx / 2
 mh2:X.mn≤X.mx-(X.mx / 2+1)
 ll:X.L0.length≤1000000000000
structure DrW (X:DrX ord) (w0 w:World) (F:Nat→Prop) (H:HN ord) (rt:Option Nat) (cnt:Int) (p:It ord) (c:Int) (q:Value) (Dq:List (Bk ord)) (st:Value) (es:List (Nat×Int)):Prop where
 x5:w.heap[X.s]?=some (Ic #[Ip (some ⟨X.t,0,none⟩)] 51 (0,0))
 x7:w.heap[X.s+2]?=some (Ic #[Ii Ij X.hi.1,Ii Ij X.hi.2] 27 (0,0))
 x10:w.heap[X.s+3]?=some (Ic #[.nilFunc,Ii Ij 0,Ii Ij 0,Is none 0 0] 67 (0,0))
 x12:w.heap[X.s+4]?=some (Ic #[.bool X.inc] 4 (0,0))
 xh:HintB X.bh w
 xp:w.heap[X.bp]?=some (Ic #[Ii Ij p.1,Ii Ij p.2] 27 (0,0))
 mb:MapBlk X.k X.mn X.mx w X.t rt cnt
 fam:Fam (parM X.k) w F H
 fs:∀b,F b→X.F0 b∨X.base≤b
 lb:ListB w X.d (kcQ X.k) c 0 q
 qo:OwnE (eitE ord) w q Dq X.base
 qc:CapOk q
 so:OwnE stkR w st es X.base
 qF:∀b,q.ownBlock=some b→¬F b
 sF:∀b,st.ownBlock=some b→¬F b
 qs:∀b,q.ownBlock=some b→st.ownBlock≠some b
 chg:Chg (fun b _=>X.F0 b∨b=X.t∨b=X.d∨X.s≤b) w0 w
 rw_:X.base≤w.heap.size
section
variable {X:DrX ord}{w0 w w':World}{F F':Nat→Prop}{H H':HN ord}{rt:Option Nat}{cnt:Int}{p:It ord}{c:Int}{q st:Value}{Dq:List (Bk ord)}{es:List (Nat×Int)}
theorem DrW.fz (h:DrW X w0 w F H rt cnt p c q Dq st es)(ok:DrOk X):∀b,F b→b≠X.s∧b≠X.s+2∧b≠X.s+3∧b≠X.s+4∧b≠X.bh∧b≠X.bp∧b≠X.d∧¬MOwn X.k X.t b:=by
 intro b hb
 have o1:=ok.o1
 have o2:=ok.o2
 have o3:=ok.o3
 rcases h.fs b hb with h1 | h1
 ·have h2:=ok.fl b h1
  exact ⟨by omega,by omega,by omega,by omega,by omega,by omega,fun e=>ok.dl.2 (e▸h1),fun e=>(ok.tl b e).2.1 h1⟩
 ·have:=ok.dl.1
  exact ⟨by omega,by omega,by omega,by omega,by omega,by omega,by omega,fun e=>by have:=(ok.tl b e).1;omega⟩
theorem DrW.keep (h:DrW X w0 w F H rt cnt p c q Dq st es)(k:Chg (fun _ _=>False) w w'):DrW X w0 w' F H rt cnt p c q Dq st es:=by
 have hb:∀{b:Nat} {o:Obj},w.heap[b]?=some o→w'.heap[b]?=some o:=fun h=>by rw [k.block (kbF h) (fun _ h=>h)];exact h
 exact ⟨hb h.x5,hb h.x7,hb h.x10,hb h.x12,h.xh.chg k (fun _ h=>h),hb h.xp,h.mb.chg k i3,h.fam.chg k i3,h.fs,h.lb.keep k,h.qo.keep k,h.qc,h.so.keep k,h.qF,h.sF,h.qs,h.chg.trans (k.mono (fun _ _ _ h=>h.elim)),zj h.rw_ k.size⟩
theorem DrW.hint (h:DrW X w0 w F H rt cnt p c q Dq st es)(ok:DrOk X)(k:Chg (fun b _=>some X.bh=some b) w w')(hh:HintB X.bh w'):DrW X w0 w' F H rt cnt p c q Dq st es:=by
 have o1:=ok.o1
 have o2:=ok.o2
 have o3:=ok.o3
 have k':Chg (fun b _=>b=X.bh) w w':=k.mono fun _ _ _ e=>(Iq e).symm
 have hb:∀{b:Nat} {o:Obj},b≠X.bh→w.heap[b]?=some o→w'.heap[b]?=some o:=fun hn h=>by rw [k'.block (kbF h) (fun _ e=>hn e)];exact h
 have hq:∀b (_:Nat),q.ownBlock=some b→¬b=X.bh:=fun b _ hb e=>by have:=(h.qo.own_lt hb).1;omega
 have hs:∀b (_:Nat),st.ownBlock=some b→¬b=X.bh:=fun b _ hb e=>by have:=(h.so.own_lt hb).1;omega
 exact ⟨hb (by omega) h.x5,hb (by omega) h.x7,hb (by omega) h.x10,hb (by omega) h.x12,hh,hb (by omega) h.xp,h.mb.chg k' (fun b _ hm e=>by have:=(ok.tl b hm).1;omega),h.fam.chg k' (fun b _ hf e=>(h.fz ok b hf).2.2.2.2.1 e),h.fs,h.lb.chg k' (fun _ e=>by have:=ok.dl.1;omega),h.qo.chgOwn k' hq,h.qc,h.so.chgOwn k' hs,h.qF,h.sF,h.qs,h.chg.trans (k'.mono (fun _ _ _ e=>.inr (.inr (.inr (by omega))))),zj h.rw_ k.size⟩
theorem DrW.stack (h:DrW X w0 w F H rt cnt p c q Dq st es)(ok:DrOk X){st':Value}{es':List (Nat×Int)}(hs:OwnE stkR w' st' es' X.base)(k:Chg (fun b _=>st.ownBlock=some b) w w')(hv:st'.ownBlock=st.ownBlock∨st'.ownBlock=none∨∃nb,st'.ownBlock=some nb∧w.heap.size≤nb):DrW X w0 w' F H rt cnt p c q Dq st' es':=by
 have o1:=ok.o1
 have o2:=ok.o2
 have o3:=ok.o3
 have hso:∀b,st.ownBlock=some b→X.base≤b:=fun b hb=>(h.so.own_lt hb).1
 have hb:∀{b:Nat} {o:Obj},b<X.base→w.heap[b]?=some o→w'.heap[b]?=some o:=fun hn h=>by rw [k.block (kbF h) (fun _ e=>by have:=hso _ e;omega)];exact h
 refine ⟨hb (by omega) h.x5,hb (by omega) h.x7,hb (by omega) h.x10,hb (by omega) h.x12,h.xh.chg k (fun _ e=>by have:=hso _ e;omega),hb (by omega) h.xp,h.mb.chg k (fun b _ hm e=>by have:=(ok.tl b hm).1;have:=hso _ e;omega),h.fam.chg k (fun b _ hf e=>h.sF b e hf),h.fs,h.lb.chg k (fun _ e=>by have:=ok.dl.1;have:=hso _ e;omega),h.qo.chgOwn k (fun b _ hb e=>h.qs b hb e),h.qc,hs,h.qF,?_,?_,h.chg.trans (k.mono (fun _ _ _ e=>.inr (.inr (.inr (by have:=hso _ e;omega))))),zj h.rw_ k.size⟩
 ·intro b hb2 hf
  rcases hv with hv | hv | ⟨nb,hv,hn⟩
  ·exact h.sF b (hv▸hb2) hf
  ·rw [hv] at hb2;cases hb2
  ·rw [hv] at hb2
   obtain rfl:=Iq hb2
   have:=h.fam.lt hf;omega
 ·intro b hb2 hst
  rcases hv with hv | hv | ⟨nb,hv,hn⟩
  ·exact h.qs b hb2 (hv▸hst)
  ·rw [hv] at hst;cases hst
  ·rw [hv] at hst
   obtain rfl:=Iq hst
   have:=(h.qo.own_lt hb2).2;omega
theorem DrW.app (h:DrW X w0 w F H rt cnt p c q Dq st es)(ok:DrOk X){c':Int}{q':Value}{Dq':List (Bk ord)}(hl:ListB w' X.d (kcQ X.k) c' 0 q')(ho:OwnE (eitE ord) w' q' Dq' X.base)(k:Chg (fun b _=>b=X.d∨q.ownBlock=some b) w w')(hv:q'.ownBlock=q.ownBlock∨∃nb,q'.ownBlock=some nb∧w.heap.size≤nb)(hcap:CapOk q→CapOk q'):DrW X w0 w' F H rt cnt p c' q' Dq' st es:=by
 have o1:=ok.o1
 have o2:=ok.o2
 have o3:=ok.o3
 have hdl:=ok.dl.1
 have hqo:∀b,q.ownBlock=some b→X.base≤b:=fun b hb=>(h.qo.own_lt hb).1
 have hb:∀{b:Nat} {o:Obj},b<X.base→b≠X.d→w.heap[b]?=some o→w'.heap[b]?=some o:=fun hn hd h=>by rw [k.block (kbF h) (fun _ e=>by rcases e with e | e<;>first|exact hd e | (have:=hqo _ e;omega))];exact h
 refine ⟨hb (by omega) (by omega) h.x5,hb (by omega) (by omega) h.x7,hb (by omega) (by omega) h.x10,hb (by omega) (by omega) h.x12,h.xh.chg k (fun _ e=>by rcases e with e | e<;>first|omega | (have:=hqo _ e;omega)),hb (by omega) (by omega) h.xp,h.mb.chg k (fun b _ hm e=>by rcases e with e | e<;>first|exact (ok.tl b hm).2.2 e | (have:=hqo _ e;have:=(ok.tl b hm).1;omega)),h.fam.chg k (fun b _ hf e=>by rcases e with e | e<;>first|exact (h.fz ok b hf).2.2.2.2.2.2.1 e | exact h.qF b e hf),h.fs,hl,ho,hcap h.qc,h.so.chgOwn k (fun b _ hb e=>by rcases e with e | e<;>first|(have:=(h.so.own_lt hb).1;omega) | exact h.qs b e hb),?_,h.sF,?_,h.chg.trans (k.mono (fun _ _ _ e=>by rcases e with e | e<;>first|exact .inr (.inr (.inl e)) | exact .inr (.inr (.inr (by have:=hqo _ e;omega))))),zj h.rw_ k.size⟩
 ·intro b hb2 hf
  rcases hv with hv | ⟨nb,hv,hn⟩
  ·exact h.qF b (hv▸hb2) hf
  ·rw [hv] at hb2
   obtain rfl:=Iq hb2
   have:=h.fam.lt hf;omega
 ·intro b hb2 hst
  rcases hv with hv | ⟨nb,hv,hn⟩
  ·exact h.qs b (hv▸hb2) hst
  ·rw [hv] at hb2
   obtain rfl:=Iq hb2
   have:=(h.so.own_lt hst).2;omega
theorem DrW.piv (h:DrW X w0 w F H rt cnt p c q Dq st es)(ok:DrOk X){p':It ord}(k:Chg (fun b _=>b=X.bp) w w')(hp:w'.heap[X.bp]?=some (Ic #[Ii Ij p'.1,Ii Ij p'.2] 27 (0,0))):DrW X w0 w' F H rt cnt p' c q Dq st es:=by
 have o1:=ok.o1
 have o2:=ok.o2
 have o3:=ok.o3
 have hb:∀{b:Nat} {o:Obj},b≠X.bp→w.heap[b]?=some o→w'.heap[b]?=some o:=fun hn h=>by rw [k.block (kbF h) (fun _ e=>hn e)];exact h
 have hq:∀b (_:Nat),q.ownBlock=some b→¬b=X.bp:=fun b _ hb e=>by have:=(h.qo.own_lt hb).1;omega
 have hs:∀b (_:Nat),st.ownBlock=some b→¬b=X.bp:=fun b _ hb e=>by have:=(h.so.own_lt hb).1;omega
 exact ⟨hb (by omega) h.x5,hb (by omega) h.x7,hb (by omega) h.x10,hb (by omega) h.x12,h.xh.chg k (fun _ e=>by omega),hp,h.mb.chg k (fun b _ hm e=>by have:=(ok.tl b hm).1;omega),h.fam.chg k (fun b _ hf e=>(h.fz ok b hf).2.2.2.2.2.1 e),h.fs,h.lb.chg k (fun _ e=>by have:=ok.dl.1;omega),h.qo.chgOwn k hq,h.qc,h.so.chgOwn k hs,h.qF,h.sF,h.qs,h.chg.trans (k.mono (fun _ _ _ e=>.inr (.inr (.inr (by omega))))),zj h.rw_ k.size⟩
theorem DrW.tree (h:DrW X w0 w F H rt cnt p c q Dq st es)(ok:DrOk X){rt':Option Nat}{cnt':Int}(k:Chg (fun b _=>(F b∨b=X.t)∨some X.bh=some b) w w')(hf:Fam (parM X.k) w' F' H')(hF:∀b,F' b→F b∨w.heap.size≤b)(hm:MapBlk X.k X.mn X.mx w' X.t rt' cnt')(hh:HintB X.bh w'):DrW X w0 w' F' H' rt' cnt' p c q Dq st es:=by
 have o1:=ok.o1
 have o2:=ok.o2
 have o3:=ok.o3
 have hd:=ok.dl.1
 have ht:=ok.tl X.t MOwn.self
 have hN:∀b (_:Nat),b≠X.bh→b≠X.t→¬F b→¬((F b∨b=X.t)∨some X.bh=some b):=fun b _ h1 h2 h3 e=>by
  rcases e with (e | e) | e
  ·exact h3 e
  ·exact h2 e
  ·exact h1 (Iq e).symm
 have hb:∀{b:Nat} {o:Obj},b≠X.bh→b≠X.t→¬F b→w.heap[b]?=some o→w'.heap[b]?=some o:=fun h1 h2 h3 h4=>by rw [k.block (kbF h4) (fun o=>hN _ o h1 h2 h3)];exact h4
 have hq:∀b (o:Nat),q.ownBlock=some b→¬((F b∨b=X.t)∨some X.bh=some b):=fun b o hb=>hN b o (by have:=(h.qo.own_lt hb).1;omega) (by have:=(h.qo.own_lt hb).1;omega) (h.qF b hb)
 have hs:∀b (o:Nat),st.ownBlock=some b→¬((F b∨b=X.t)∨some X.bh=some b):=fun b o hb=>hN b o (by have:=(h.so.own_lt hb).1;omega) (by have:=(h.so.own_lt hb).1;omega) (h.sF b hb)
 refine ⟨hb (by omega) (by omega) (fun e=>(h.fz ok _ e).1 rfl) h.x5,hb (by omega) (by omega) (fun e=>(h.fz ok _ e).2.1 rfl) h.x7,hb (by omega) (by omega) (fun e=>(h.fz ok _ e).2.2.1 rfl) h.x10,hb (by omega) (by omega) (fun e=>(h.fz ok _ e).2.2.2.1 rfl) h.x12,hh,hb (by omega) (by omega) (fun e=>(h.fz ok _ e).2.2.2.2.2.1 rfl) h.xp,hm,hf,fun b hb2=>?_,h.lb.chg k (fun o=>hN _ o (by omega) (fun e=>ht.2.2 e.symm) (fun e=>(h.fz ok _ e).2.2.2.2.2.2.1 rfl)),h.qo.chgOwn k hq,h.qc,h.so.chgOwn k hs,fun b hb2 hf2=>?_,fun b hb2 hf2=>?_,h.qs,h.chg.trans (k.mono (fun b _ _ e=>?_)),zj h.rw_ k.size⟩
 ·rcases hF b hb2 with h1 | h1
  ·exact h.fs b h1
  ·exact .inr (zj h.rw_ h1)
 ·rcases hF b hf2 with h1 | h1
  ·exact h.qF b hb2 h1
  ·have:=(h.qo.own_lt hb2).2;omega
 ·rcases hF b hf2 with h1 | h1
  ·exact h.sF b hb2 h1
  ·have:=(h.so.own_lt hb2).2;omega
 ·rcases e with (e | e) | e
  ·rcases h.fs b e with h1 | h1
   ·exact .inl h1
   ·exact .inr (.inr (.inr (by omega)))
  ·exact .inr (.inl e)
  ·have:=Iq e;exact .inr (.inr (.inr (by omega)))
theorem DrW.nodes (h:DrW X w0 w F H rt cnt p c q Dq st es)(ok:DrOk X)(k:Chg (fun b _=>F b) w w')(hf:Fam (parM X.k) w' F' H')(hF:∀b,F' b→F b∨w.heap.size≤b):DrW X w0 w' F' H' rt cnt p c q Dq st es :=
 h.tree ok (k.mono fun _ _ _ e=>.inl (.inl e)) hf hF (h.mb.chg k (fun b _ hm e=>(h.fz ok b e).2.2.2.2.2.2.2 hm)) (h.xh.chg k (fun _ e=>(h.fz ok _ e).2.2.2.2.1 rfl))
theorem DrW.count (h:DrW X w0 w F H rt cnt p c q Dq st es)(ok:DrOk X)(cnt':Int):DrW X w0 (w.setCell ⟨X.t,3,none⟩ (Ii Ij cnt')) F H rt cnt' p c q Dq st es:=by
 have ht:=ok.tl X.t MOwn.self
 have o1:=ok.o1
 have o2:=ok.o2
 have k:Chg (fun b _=>b=X.t) w (w.setCell ⟨X.t,3,none⟩ (Ii Ij cnt')):=(zK _ _).setCell (.inl rfl) _
 exact h.tree ok (k.mono fun _ _ _ e=>.inl (.inr e)) (h.fam.chg k (fun b _ hf e=>(h.fz ok b hf).2.2.2.2.2.2.2 (e▸MOwn.self))) (fun _ hf=>.inl hf) (h.mb.setCnt cnt') (h.xh.chg k (fun _ e=>by omega))
end
def DrFr (X:DrX ord)(a:Act):Prop :=
 a.defers=[]∧a.tmps.size=657∧a.tmps[4]?=some (Ip (some ⟨X.d,0,none⟩))∧a.tmps[5]?=some (Ip (some ⟨X.s,0,none⟩))∧a.tmps[7]?=some (Ip (some ⟨X.s+2,0,none⟩))∧a.tmps[10]?=some (Ip (some ⟨X.s+3,0,none⟩))∧a.tmps[11]?=some (.bool true) ∧
  a.tmps[13]?=some (.func (.func 74) #[] #[Ip (some ⟨X.s+4,0,none⟩),Ip (some ⟨X.s,0,none⟩),Ip (some ⟨X.s+2,0,none⟩)])∧a.tmps[14]?=some (Ip (some ⟨X.bh,0,none⟩))∧a.tmps[15]?=some (Ip (some ⟨X.bp,0,none⟩))
end
end
section
section
variable {ord:List Int}
variable {X:DrX ord}
theorem DrFr.lit {a:Act}(h:DrFr X a):∃f:Nat→Value,a={ tmps:=kdJ f,defers:=[] }∧f 4=Ip (some ⟨X.d,0,none⟩)∧f 5=Ip (some ⟨X.s,0,none⟩)∧f 7=Ip (some ⟨X.s+2,0,none⟩)∧f 10=Ip (some ⟨X.s+3,0,none⟩)∧f 11=.bool true ∧
  f 13=.func (.func 74) #[] #[Ip (some ⟨X.s+4,0,none⟩),Ip (some ⟨X.s,0,none⟩),Ip (some ⟨X.s+2,0,none⟩)]∧f 14=Ip (some ⟨X.bh,0,none⟩)∧f 15=Ip (some ⟨X.bp,0,none⟩):=by
 obtain ⟨tmps,defers⟩:=a
 obtain ⟨hd,hs,h4,h5,h7,h10,h11,h13,h14,h15⟩:=h
 obtain ⟨f,rfl⟩:=frame657 tmps hs
 unfold kdJ at *
 simp only [zF,zE,zD,zc] at h4 h5 h7 h10 h11 h13 h14 h15
 exact ⟨f,by rw [show defers=[] from hd],h4,h5,h7,h10,h11,h13,h14,h15⟩
def kdG (P B:List Nat)(n:Nat):List (Nat×Int):=(P++[n]).zip ((0::B).map fun (b:Nat)=>(b:Int))
theorem stk_root (n:Nat):kdG [] [] n=[(n,0)]:=rfl
variable {P B:List Nat}
theorem stk_push (n m j:Nat)(h:P.length=B.length):kdG (P++[n]) (B++[j]) m=kdG P B n++[(m,(j:Int))]:=by
 unfold kdG
 rw [show (0::(B++[j]))=(0::B)++[j] by simp,zv]
 rw [List.zip_append (by simp [h])]
 rfl
theorem stk_len (n:Nat)(h:P.length=B.length):(kdG P B n).length=P.length+1:=by
 unfold kdG
 simp [h]
theorem Road.same {α:Type}{h:Nat}{T:BT α h}{B P:List Nat}{off h':Nat}{T':BT α h'}(hr:Road h T B P off h' T'):P.length=B.length∧P.length+h'=h:=by
 induction hr with
 |nil=>exact ⟨rfl,by simp⟩
 |snoc _ _ ih=>exact ⟨by simp [ih.1],by simp;omega⟩
theorem stk_get {n k:Nat}(h:P.length=B.length){e:Nat×Int}(he:(kdG P B n)[k]?=some e):(P++[n])[k]?=some e.1:=by
 unfold kdG at he
 obtain ⟨e1,e2⟩:=e
 exact (List.getElem?_zip_eq_some.1 he).1
structure DrM (X:DrX ord) (w0 w:World) (h0:Nat) (T0:BT (It ord) h0) (F:Nat→Prop) (H:HN ord) (p:It ord) (c:Int) (q:Value) (Dq D:List (Bk ord)) (st:Value) (B P:List Nat) (off h:Nat) (T:BT (It ord) h):Prop where
 dw:DrW X w0 w F H (some (rid T0)) (toL h0 T0).length p c q Dq st (kdG P B (rid T))
 ds:DrS X.st X.lo p X.L0 D X.mn X.mx H h0 T0
 hp:kfF ltE Dq
 pm:Dq.Perm D
 ct:c=(kdM (pl D)).length
 one:1≤(its T0).length
 rd:Road h0 T0 B P off h T
def LabR (X:DrX ord)(w0:World)(a:Act)(w:World):Prop :=
 DrFr X a∧∃(F:Nat→Prop) (H:HN ord) (p:It ord) (c:Int) (q:Value) (Dq D:List (Bk ord)) (st:Value),a.tmps[16]?=some st∧kfF ltE Dq∧Dq.Perm D∧c=(kdM (pl D)).length ∧
  ((DrW X w0 w F H none 0 p c q Dq st []∧DrF X.st X.lo X.L0 [] D X.mn X.mx H) ∨
   ∃(h0:Nat) (T0:BT (It ord) h0),DrW X w0 w F H (some (rid T0)) (toL h0 T0).length p c q Dq st []∧DrS X.st X.lo p X.L0 D X.mn X.mx H h0 T0∧1≤(its T0).length∧∃z,z≤(toL h0 T0).length∧CutP ltM p (toL h0 T0) z)
def LabL (X:DrX ord)(w0:World)(mR:Nat)(a:Act)(w:World):Prop :=
 DrFr X a∧∃(h0:Nat) (T0:BT (It ord) h0) (F:Nat→Prop) (H:HN ord) (p:It ord) (c:Int) (q:Value) (Dq D:List (Bk ord)) (st:Value) (B P:List Nat) (off h:Nat) (T:BT (It ord) h),
  a.tmps[16]?=some st∧a.tmps[17]?=some (Ip (some ⟨rid T,0,none⟩))∧DrM X w0 w h0 T0 F H p c q Dq D st B P off h T∧(toL h0 T0).length≤mR∧∃z,off≤z∧z≤off+(toL h T).length∧CutP ltM p (toL h0 T0) z
def PosJ (p:It ord)(L:List (It ord))(off:Nat)(nL:Nat):(h:Nat)→BT (It ord) h→Nat→Bool→Prop
 |0,T,i,_=>i≤T.2.length∧CutP ltM p L (off+i)
 |h+1,T,i,true=>i<T.2.1.length∧CutP ltM p L (off+(pre (T.2.1.take i) ((T.2.2.map (toL h)).take i)).length+(((T.2.2.map (toL h))[i]?).getD []).length)
 |h+1,T,i,false=>PosAt ltM T.2.1 p i∧(toL (h+1) T).length≤nL∧∃z,off≤z∧z≤off+(toL (h+1) T).length∧CutP ltM p L z
def LabJ (X:DrX ord)(w0:World)(mR nL:Nat)(a:Act)(w:World):Prop :=
 DrFr X a∧∃(h0:Nat) (T0:BT (It ord) h0) (F:Nat→Prop) (H:HN ord) (p:It ord) (c:Int) (q:Value) (Dq D:List (Bk ord)) (st:Value) (B P:List Nat) (off h:Nat) (T:BT (It ord) h) (i:Nat) (fd:Bool),
  a.tmps[16]?=some st∧a.tmps[17]?=some (Ip (some ⟨rid T,0,none⟩))∧a.tmps[18]?=some (Ii Ij i)∧a.tmps[19]?=some (.bool fd)∧DrM X w0 w h0 T0 F H p c q Dq D st B P off h T∧(toL h0 T0).length≤mR∧PosJ p (toL h0 T0) off nL h T i fd
structure DrOut (X:DrX ord) (w0 w:World) (c:Int) (q:Value) (F:Nat→Prop) (H:HN ord) (L:List (It ord)) (Dq D:List (Bk ord)):Prop where
 lb:ListB w X.d (kcQ X.k) c 0 q
 qo:OwnE (eitE ord) w q Dq X.base
 qc:CapOk q
 hp:kfF ltE Dq
 pm:Dq.Perm D
 ct:c=(kdM (pl D)).length
 fam:Fam (parM X.k) w F H
 fs:∀b,F b→X.F0 b∨X.base≤b
 qF:∀b,q.ownBlock=some b→¬F b
 fin:DrF X.st X.lo X.L0 L D X.mn X.mx H
 map:(L=[]∧MapBlk X.k X.mn X.mx w X.t none 0)∨∃(h:Nat) (T:BT (It ord) h),IsT H h T∧(ids h T).Nodup∧Sh X.mn X.mx h T∧toL h T=L∧1≤(its T).length∧MapBlk X.k X.mn X.mx w X.t (some (rid T)) (toL h T).length
 chg:Chg (fun b _=>X.F0 b∨b=X.t∨b=X.d∨X.s≤b) w0 w
 rw_:X.base≤w.heap.size
def DrEnd (X:DrX ord)(w0:World)(a:Act)(w:World):Prop :=
 a.defers=[]∧a.tmps[10]?=some (Ip (some ⟨X.s+3,0,none⟩))∧∃(c:Int) (q:Value) (F:Nat→Prop) (H:HN ord) (L:List (It ord)) (Dq D:List (Bk ord)),w.heap[X.s+3]?=some (Ic #[kcQ X.k,Ii Ij c,Ii Ij 0,q] 67 (0,0))∧DrOut X w0 w c q F H L Dq D
variable {F:Nat→Prop}{H:HN ord}{w0 w:World}{q:Value}{p:It ord}{st:Value}{c:Int}
theorem DrM.out {h0:Nat}{T0:BT (It ord) h0}{Dq D:List (Bk ord)}{B P:List Nat}{off h:Nat}{T:BT (It ord) h}(hm:DrM X w0 w h0 T0 F H p c q Dq D st B P off h T)(hf:DrF X.st X.lo X.L0 (toL h0 T0) D X.mn X.mx H):DrOut X w0 w c q F H (toL h0 T0) Dq D :=
 ⟨hm.dw.lb,hm.dw.qo,hm.dw.qc,hm.hp,hm.pm,hm.ct,hm.dw.fam,hm.dw.fs,hm.dw.qF,hf,.inr ⟨h0,T0,hm.ds.di.isT,hm.ds.di.nd,hm.ds.di.sh,rfl,hm.one,hm.dw.mb⟩,hm.dw.chg,hm.dw.rw_⟩
theorem DrOut.res {w0 w w':World}{L:List (It ord)}{Dq D:List (Bk ord)}(h:DrOut X w0 w c q F H L Dq D)(ok:DrOk X)(k:Chg (fun b _=>b=X.s+3) w w'):DrOut X w0 w' c q F H L Dq D:=by
 have o1:=ok.o1
 have o2:=ok.o2
 have o3:=ok.o3
 have hd:=ok.dl.1
 have hF:∀b (_:Nat),F b→¬b=X.s+3:=fun b _ hb e=>by
  rcases h.fs b hb with h1 | h1
  ·have:=ok.fl b h1;omega
  ·omega
 have hM:∀b (_:Nat),MOwn X.k X.t b→¬b=X.s+3:=fun b _ hb e=>by have:=(ok.tl b hb).1;omega
 refine ⟨h.lb.chg k (fun _ e=>by omega),h.qo.chgOwn k (fun b _ hb e=>by have:=(h.qo.own_lt hb).1;omega),h.qc,h.hp,h.pm,h.ct,h.fam.chg k hF,h.fs,h.qF,h.fin,?_,h.chg.trans (k.mono (fun _ _ _ e=>.inr (.inr (.inr (by omega))))),zj h.rw_ k.size⟩
 rcases h.map with ⟨h1,h2⟩ | ⟨h',T,h1,h2,h3,h4,h5,h6⟩
 ·exact .inl ⟨h1,h2.chg k hM⟩
 ·exact .inr ⟨h',T,h1,h2,h3,h4,h5,h6.chg k hM⟩
def drCnt (X:DrX ord)(w:World):Nat:=match w.cell? ⟨X.t,3,none⟩ with
 |some (.int _ n)=>n.toNat
 |_=>0
theorem DrW.cnt_eq {rt:Option Nat}{n:Nat}{Dq:List (Bk ord)}{es:List (Nat×Int)}(h:DrW X w0 w F H rt (n:Int) p c q Dq st es):drCnt X w=n:=by
 unfold drCnt
 rw [h.mb.c3]
 rfl
def ptrB (o:Option Value):Nat:=match o with
 |some (.pointer (some ad))=>ad.block
 |_=>0
def isPtr (o:Option Value):Bool:=match o with
 |some (.pointer (some _))=>true
 |_=>false
def isTru (o:Option Value):Bool:=match o with
 |some (.bool b)=>b
 |_=>false
def numO (o:Option Value):Nat:=match o with
 |some (.int _ n)=>n.toNat
 |_=>0
def slN (o:Option Value):Nat:=match o with
 |some (.slice _ n _)=>n
 |_=>0
def jmu (X:DrX ord)(a:Act)(w:World):Nat:=2*drCnt X w+(if isTru (a.tmps[19]?)&&isPtr (w.cell? ⟨ptrB (a.tmps[17]?),3,none⟩) then 0 else 1)
def lmu (a:Act)(w:World):Nat:=numO (w.cell? ⟨ptrB (a.tmps[17]?),1,none⟩)
def NextQ (X:DrX ord)(w0:World)(mR nL mJ:Nat):Exit→Act→World→Prop
 |.goto l,a,w=>(l=1∧LabJ X w0 mR nL a w∧jmu X a w<mJ)∨(l=0∧LabR X w0 a w∧drCnt X w<mR)
 |.exit id,a,w=>id=1∧LabL X w0 mR a w∧lmu a w<nL
 |.ret,a,w=>DrEnd X w0 a w
 |_,_,_=>False
theorem maxstop_any {rt:Option Nat}{cnt:Int}{Dq:List (Bk ord)}{es:List (Nat×Int)}(h:DrW X w0 w F H rt cnt p c q Dq st es)(u:It ord) :
  Calls Tp 74 #[.agg #[Ii Ij u.1,Ii Ij u.2],Ip (some ⟨X.s+4,0,none⟩),Ip (some ⟨X.s,0,none⟩),Ip (some ⟨X.s+2,0,none⟩)] w fun e w'=>e=Ir (.bool (X.st u))∧Chg (fun _ _=>False) w w':=by
 have HW:=zL h
 clear h
 go_enter Try.func74,Try.ntmps74
 go_upto_region 1 with fail
 refine kbD (fun w1=>Chg (fun _ _=>False) w w1∧w1.heap[w.heap.size]?=some (Ic #[Ii Ij u.1,Ii Ij u.2] 27 (0,0))) ⟨(zK _ _).alloc _,kbT _ _ rfl⟩ ?_
 rintro w1 ⟨hc1,hb1⟩
 have h:=HW.out.keep hc1
 have y0:=kbB h.x12 0
 have y1:=kbB h.x5 0
 have y2:=kbB h.x7 0
 have y3:=kbB h.x7 1
 have y4:=(h.mb.at_).c6l
 have u0:=kbB hb1 0
 have u1:=kbB hb1 1
 simp only [zF,zD,zE] at y0 y1 y2 y3 u0 u1
 have HO:=zL h.mb.ord
 have HC:=zL hc1
 unfold kcQ at y4
 obtain ⟨ic,hic⟩:∃ic,X.inc=ic:=⟨_,rfl⟩
 have HST:=zL (show X.st u=if ic then ltM X.hi u else !ltM u X.hi by unfold DrX.st;rw [hic])
 rw [hic] at y0
 clear h hic hb1 hc1
 cases ic
 ·go_wp2_with fail
  refine kbM (fun w'=>w'.cell? ⟨X.s,0,none⟩=some (Ip (some ⟨X.t,0,none⟩))∧w'.cell? ⟨X.t,6,none⟩=some (.func (.func 63) #[] #[Ip (some ⟨X.k.ob,0,none⟩)])∧w'.cell? ⟨X.s+2,0,none⟩=some (Ii Ij X.hi.1)∧w'.cell? ⟨X.s+2,1,none⟩=some (Ii Ij X.hi.2)∧w'.cell? ⟨w.heap.size,0,none⟩=some (Ii Ij u.1)∧w'.cell? ⟨w.heap.size,1,none⟩=some (Ii Ij u.2)) (.soft 0 (.soft 1 (.soft 2 (.soft 3 (.soft 4 (.soft 5 (.hard 6 (.soft 7 (.soft 8 .nil))))))))) (by kernel_rfl) (by kernel_rfl) (fun _ _ _ _ _ h=>h) ⟨y1,y4,y2,y3,u0,u1⟩ ?_
  repeat ((first|(refine kbH (by rfl) ?_ ?_ ?_ ?_;rotate_left;(· simp [zI,yielded]);(· rintro _ ⟨a1,a2,a3,a4,a5,a6⟩;go_simp;try with_reducible rfl))|(refine kbJ (by rfl) ?_ ?_;(· simp [zI,yielded])));simp only [zJ,zA,zB,zC])
  refine kbY (by rfl) (by simp [zI,yielded]) (fun K hK=>?_)
  go_simp
  refine (less_any u X.hi _ (HO.out.chg (zK (fun _ _=>False) _).drew (fun _ h=>h) (fun _ h=>h))).mono ?_
  rintro e w2 ⟨rfl,hc2⟩
  refine hK _ _ ⟨hc2.q y1,hc2.q y4,hc2.q y2,hc2.q y3,hc2.q u0,hc2.q u1⟩ ?_
  clear hK K
  repeat ((first|(refine kbH (by rfl) ?_ ?_ ?_ ?_;rotate_left;(· simp [zI,yielded]);(· rintro _ ⟨a1,a2,a3,a4,a5,a6⟩;go_simp;try with_reducible rfl))|(refine kbJ (by rfl) ?_ ?_;(· simp [zI,yielded])));simp only [zJ,zA,zB,zC])
  refine kcT ?_
  go_wp2_with fail
  go_ret
  exact ⟨by rw [HST.out];rfl,HC.out.trans ((zK _ _).drew.trans hc2)⟩
 ·go_wp2_with fail
  refine kbM (fun w'=>w'.cell? ⟨X.s,0,none⟩=some (Ip (some ⟨X.t,0,none⟩))∧w'.cell? ⟨X.t,6,none⟩=some (.func (.func 63) #[] #[Ip (some ⟨X.k.ob,0,none⟩)])∧w'.cell? ⟨X.s+2,0,none⟩=some (Ii Ij X.hi.1)∧w'.cell? ⟨X.s+2,1,none⟩=some (Ii Ij X.hi.2)∧w'.cell? ⟨w.heap.size,0,none⟩=some (Ii Ij u.1)∧w'.cell? ⟨w.heap.size,1,none⟩=some (Ii Ij u.2)) (.soft 0 (.soft 1 (.soft 2 (.soft 3 (.soft 4 (.soft 5 (.hard 6 (.soft 7 .nil)))))))) (by kernel_rfl) (by kernel_rfl) (fun _ _ _ _ _ h=>h) ⟨y1,y4,y2,y3,u0,u1⟩ ?_
  repeat ((first|(refine kbH (by rfl) ?_ ?_ ?_ ?_;rotate_left;(· simp [zI,yielded]);(· rintro _ ⟨a1,a2,a3,a4,a5,a6⟩;go_simp;try with_reducible rfl))|(refine kbJ (by rfl) ?_ ?_;(· simp [zI,yielded])));simp only [zJ,zA,zB,zC])
  refine kbY (by rfl) (by simp [zI,yielded]) (fun K hK=>?_)
  go_simp
  refine (less_any X.hi u _ (HO.out.chg (zK (fun _ _=>False) _).drew (fun _ h=>h) (fun _ h=>h))).mono ?_
  rintro e w2 ⟨rfl,hc2⟩
  refine hK _ _ ⟨hc2.q y1,hc2.q y4,hc2.q y2,hc2.q y3,hc2.q u0,hc2.q u1⟩ ?_
  clear hK K
  repeat ((first|(refine kbH (by rfl) ?_ ?_ ?_ ?_;rotate_left;(· simp [zI,yielded]);(· rintro _ ⟨a1,a2,a3,a4,a5,a6⟩;go_simp;try with_reducible rfl))|(refine kbJ (by rfl) ?_ ?_;(· simp [zI,yielded])));simp only [zJ,zA,zB,zC])
  refine kcT ?_
  go_wp2_with fail
  go_ret
  exact ⟨by rw [HST.out];rfl,HC.out.trans ((zK _ _).drew.trans hc2)⟩
end
end
section
section
variable {ord:List Int}
theorem road_inv {α:Type}{h0:Nat}{T0:BT α h0}{B P:List Nat}{off h:Nat}{T:BT α h}(hr:Road h0 T0 B P off h T) :
  (B=[]∧P=[]∧off=0∧toL h T=toL h0 T0∧rid T=rid T0)∨∃(B' P':List Nat) (off' j:Nat) (T':BT α (h+1)),B=B'++[j]∧P=P'++[rid T']∧off=off'+(pre (T'.2.1.take j) ((T'.2.2.map (toL h)).take j)).length∧Road h0 T0 B' P' off' (h+1) T'∧T'.2.2[j]?=some T:=by
 cases hr with
 |nil=>exact .inl ⟨rfl,rfl,rfl,rfl,rfl⟩
 |snoc hr hc=>exact .inr ⟨_,_,_,_,_,rfl,rfl,rfl,hr,hc⟩
theorem stk_last {P B:List Nat}(n:Nat)(h:P.length=B.length):∃(l:List (Nat×Int)) (z:Int),kdG P B n=l++[(n,z)]∧l.length=P.length:=by
 rcases List.eq_nil_or_concat B with rfl | ⟨B',j,rfl⟩
 ·obtain rfl:P=[]:=List.length_eq_zero_iff.1 h
  exact ⟨[],0,rfl,rfl⟩
 ·rcases List.eq_nil_or_concat P with rfl | ⟨P',m,rfl⟩
  ·simp at h
  ·have h':P'.length=B'.length:=by simpa using h
   simp only [List.concat_eq_append] at h ⊢
   rw [stk_push m n j h']
   exact ⟨_,_,rfl,by rw [stk_len _ h'];simp⟩
theorem blk4r {w:World}{b:Nat}{T:TypeId}{fr:Nat×Nat}{u0 u1 u2 u3:Value}(h:w.heap[b]?=some (Ic #[u0,u1,u2,u3] T fr))(v0 v1 v2 v3:Value):((((w.setCell ⟨b,0,none⟩ v0).setCell ⟨b,1,none⟩ v1).setCell ⟨b,2,none⟩ v2).setCell ⟨b,3,none⟩ v3).heap[b]?=some (Ic #[v0,v1,v2,v3] T fr):=by
 rw [kbV (kbV (kbV (kbV h _) _) _)];rfl
def LabZ' (X:DrX ord)(w0:World)(mR mJ:Nat)(a:Act)(w:World):Prop :=
 DrFr X a∧∃(h0:Nat) (T0:BT (It ord) h0) (F:Nat→Prop) (H:HN ord) (p:It ord) (c:Int) (q:Value) (Dq D:List (Bk ord)) (st:Value) (B P:List Nat) (off h:Nat) (T:BT (It ord) h),
  a.tmps[16]?=some st∧DrM X w0 w h0 T0 F H p c q Dq D st B P off h T∧(toL h0 T0).length≤mR∧2*(toL h0 T0).length<mJ∧CutP ltM p (toL h0 T0) (off+(toL h T).length)
theorem dr_up {X:DrX ord}{w0:World}(ok:DrOk X)(mR nL mJ:Nat)(a:Act)(w:World)(hz:LabZ' X w0 mR mJ a w):(drUp Try.f58).wp Tp (NextQ X w0 mR nL mJ) a w:=by
 conv=>arg 2;whnf
 refine wp_block ?_
 refine wp_loop (LabZ' X w0 mR mJ) (fun a _=>slN (a.tmps[16]?)) hz ?_
 clear hz
 rintro a w ⟨hfr,h0,T0,F,H,p,c,q,Dq,D,st,B,P,off,h,T,s16,hm,hmR,hmJ,hcut⟩
 obtain ⟨f,rfl,e4,e5,e7,e10,e11,e13,e14,e15⟩:=hfr.lit
 unfold kdJ at *
 simp only [zF,zE,zD,zc] at s16
 simp only [zF,zE,zD]
 obtain ⟨hPB,hPh⟩:=hm.rd.same
 rcases road_inv hm.rd with ⟨rfl,rfl,rfl,hTL,hTr⟩ | ⟨B',P',off',j,T',rfl,rfl,rfl,hr',hcj⟩
 ·have hso:=hm.dw.so
  rw [stk_root] at hso
  obtain ⟨b,o,cap,hst⟩:=stk_topR (l:=[]) (n:=rid T) (i:=0) hso
  have hste:st=Is (some ⟨b,o,none⟩) 1 cap:=hst.eq
  subst hste
  have g1:=hst.c1
  have g3:=hst.room
  simp only [List.length_nil,Nat.zero_mul,Nat.add_zero,Nat.zero_add] at g1 g3
  obtain ⟨qa,qc,hqf⟩:=hm.dw.qo.sl.form
  subst hqf
  have l0:=hm.dw.lb.c0
  have l1:=hm.dw.lb.c1
  have l2:=hm.dw.lb.c2
  have l3:=hm.dw.lb.c3
  unfold kcQ at l0
  have r0:=kbB hm.dw.x10 0
  have r1:=kbB hm.dw.x10 1
  have r2:=kbB hm.dw.x10 2
  have r3:=kbB hm.dw.x10 3
  simp only [zF,zD,zE] at r0 r1 r2 r3
  have r4:=kbC hm.dw.x10 0
  have r5:=kbC hm.dw.x10 1
  have r6:=kbC hm.dw.x10 2
  have r7:=kbC hm.dw.x10 3
  have g2:(0:Int)≤(cap:Int):=by omega
  have HM:=zL hm
  have HC:=zL hcut
  rw [e4,e5,e7,e10,e11,e13,e14,e15,s16]
  clear hfr hm hcut e4 e5 e7 e10 e11 e13 e14 e15 s16 hst hso
  go_wp2_with fail
  refine kbQ (fun wf=>Chg (fun b _=>b=X.s+3) w wf∧wf.heap[X.s+3]?=some (Ic #[kcQ X.k,Ii Ij c,Ii Ij 0,(.slice qa Dq.length qc)] 67 (0,0))) ⟨((((zK _ _).setCell (.inl rfl) _).setCell (.inl rfl) _).setCell (.inl rfl) _).setCell (.inl rfl) _,blk4r HM.out.dw.x10 _ _ _ _⟩ ?_
  clear l0 l1 l2 l3 r0 r1 r2 r3 r4 r5 r6 r7
  rintro wf ⟨hcf,hbf⟩
  have hce:CutP ltM p (toL h0 T0) (toL h0 T0).length:=by have:=HC.out;rw [Nat.zero_add,hTL] at this;exact this
  exact ⟨rfl,rfl,c,_,F,H,_,Dq,D,hbf,(HM.out.out (HM.out.ds.fin_end hce)).res ok hcf⟩
 ·have hPB':P'.length=B'.length:=by simpa using hPB
  have hso:=hm.dw.so
  rw [stk_push (rid T') (rid T) j hPB'] at hso
  obtain ⟨b,o,cap,hst⟩:=stk_topR hso
  obtain ⟨N,hN⟩:∃N,(kdG P' B' (rid T')).length=N:=⟨_,rfl⟩
  obtain ⟨N1,hN1⟩:∃N1,N+1=N1:=⟨_,rfl⟩
  have hNp:N=P'.length+1:=by rw [←hN,stk_len _ hPB']
  have hPs:P'.length+1≤h0:=by have:=hr'.same.2;omega
  have hhl:=hgt_le ok.m1 h0 T0 hm.ds.di.sh hm.one
  have hll:(toL h0 T0).length≤1000000000000:=by
   have h1:=hm.ds.dg.perm.length_eq
   have h2:=ok.ll
   simp only [zT] at h1;omega
  have hste:st=Is (some ⟨b,o,none⟩) N1 cap:=by rw [hst.eq,hN,hN1]
  subst hste
  have g1:=hst.c1
  have hpop:=hst.pop
  have hroom:=hst.room
  rw [hN] at g1 hpop hroom
  have hdw:=hm.dw.stack ok hpop (zK _ _) (.inl rfl)
  obtain ⟨l,z,hl1,hl2⟩:=stk_last (rid T') hPB'
  have hpop2:=hpop
  rw [hl1] at hpop2
  obtain ⟨b2,o2,cap2,hst2⟩:=stk_topR hpop2
  have he2:=hst2.eq
  rw [hl2] at he2
  injection he2 with e1' e2' e3'
  injection e1' with e1'
  injection e1' with e4' e5' e6'
  subst e4'
  subst e5'
  subst e3'
  have g0:=hst2.c0
  rw [hl2] at g0
  have hIT:=(hr'.close (m:=0) hm.ds.di.isT hm.ds.di.nd hm.ds.di.sh).1
  have hSh:=(hr'.close (m:=0) hm.ds.di.isT hm.ds.di.nd hm.ds.di.sh).2.1
  obtain ⟨l9,hn9⟩:=hm.dw.fam.node hIT.root
  have n2:w.cell? ⟨rid T',2,none⟩=some (Is (some ⟨l9.ib,l9.io,none⟩) T'.2.1.length l9.ic):=hn9.c2
  have n3:=hn9.c3s (show (kbP (h+1) T').kids=some (T'.2.2.map fun c=>some (rid c)) from rfl)
  have hm':DrM X w0 w h0 T0 F H p c q Dq D (Is (some ⟨b,o,none⟩) N cap) B' P' off' (h+1) T':=⟨hdw,hm.ds,hm.hp,hm.pm,hm.ct,hm.one,hr'⟩
  have s1:Ij.wrap ((N1:Int)-1)=(N:Int):=(by rw [IntWalk.i64_in _ (by omega)];omega)
  have s2:(0:Int)≤(N:Int):=by omega
  have s3:(N:Int)<(N1:Int):=by omega
  have s4:(N:Int)≤(cap:Int):=by omega
  have s5:((N:Int)==0)=false:=beq_eq_false_iff_ne.2 (by omega)
  obtain ⟨N2,hN2⟩:∃N2,P'.length=N2:=⟨_,rfl⟩
  rw [hN2] at g0
  have p1:Ij.wrap ((N:Int)-1)=(N2:Int):=(by rw [IntWalk.i64_in _ (by omega)];omega)
  have p2:(0:Int)≤(N2:Int):=by omega
  have p3:(N2:Int)<(N:Int):=by omega
  have hkl:=hSh.2.1
  have hjl:=(zG.1 hcj).1
  have hTL:=kfY hSh hcj
  have HM:=zL hm'
  have HC:=zL hcut
  have HTL:=zL hTL
  have HCJ:=zL hcj
  have HN1:=zL hN1
  have HIT:=zL hIT
  rw [e4,e5,e7,e10,e11,e13,e14,e15,s16]
  clear hfr hm hm' hcut e4 e5 e7 e10 e11 e13 e14 e15 s16 hst hso hpop hroom hdw hpop2 hst2 hl1 hl2 e2' e6' hn9 hTL hN hN1 hNp hPB hPB' hPh hN2 hr' hcj hIT
  by_cases hlt:j<T'.2.1.length
  ·have hcmp:(j:Int)<(T'.2.1.length:Int):=by omega
   go_wp2_with fail
   go_step3
   refine .inl ⟨rfl,⟨⟨rfl,rfl,rfl,rfl,rfl,rfl,rfl,rfl,rfl,rfl⟩,h0,T0,F,H,p,c,q,Dq,D,_,B',P',off',h+1,T',j,true,rfl,rfl,rfl,rfl,HM.out,hmR,hlt,?_⟩,?_⟩
   ·have e:(((T'.2.2.map (toL h))[j]?).getD [])=toL h T:=by simp [HCJ.out]
    rw [e];exact HC.out
   ·show 2*drCnt X w+(if isTru (some (.bool true))&&isPtr (w.cell? ⟨rid T',3,none⟩) then 0 else 1)<mJ
    rw [n3,HM.out.dw.cnt_eq]
    exact hmJ
  ·have hcmp:¬(j:Int)<(T'.2.1.length:Int):=by omega
   go_wp2_with fail
   refine ⟨⟨⟨rfl,rfl,rfl,rfl,rfl,rfl,rfl,rfl,rfl,rfl⟩,h0,T0,F,H,p,c,q,Dq,D,_,B',P',off',h+1,T',rfl,HM.out,hmR,hmJ,?_⟩,?_⟩
   ·have e:post (T'.2.1.drop j) ((T'.2.2.map (toL h)).drop (j+1))=[]:=by rw [List.drop_eq_nil_of_le (by omega)];rfl
    have e2:off'+(toL (h+1) T').length=off'+(pre (T'.2.1.take j) ((T'.2.2.map (toL h)).take j)).length+(toL h T).length:=by
     rw [HTL.out,e,List.append_nil,zT];omega
    rw [e2];exact HC.out
   ·show N<N1
    have:=HN1.out
    omega
end
end
section
section
variable {ord:List Int}
section
variable {X:DrX ord}{w0 w w':World}{h0:Nat}{T0:BT (It ord) h0}{F:Nat→Prop}{H:HN ord}{p:It ord}{c:Int}{q:Value}{Dq D:List (Bk ord)}{st:Value}{B P:List Nat}{off h:Nat}{T:BT (It ord) h}
theorem DrM.keep (m:DrM X w0 w h0 T0 F H p c q Dq D st B P off h T)(k:Chg (fun _ _=>False) w w'):DrM X w0 w' h0 T0 F H p c q Dq D st B P off h T:=⟨m.dw.keep k,m.ds,m.hp,m.pm,m.ct,m.one,m.rd⟩
theorem DrM.isT (m:DrM X w0 w h0 T0 F H p c q Dq D st B P off h T):IsT H h T:=(m.rd.close (m:=0) m.ds.di.isT m.ds.di.nd m.ds.di.sh).1
theorem DrM.sh (m:DrM X w0 w h0 T0 F H p c q Dq D st B P off h T):Sh X.mn X.mx h T:=(m.rd.lists m.ds.di.sh).1
theorem DrM.srt (m:DrM X w0 w h0 T0 F H p c q Dq D st B P off h T):Srt ltM (toL h T):=m.rd.srt m.ds.di.sh m.ds.di.srt
theorem DrM.pos (m:DrM X w0 w h0 T0 F H p c q Dq D st B P off h T)(ok:DrOk X):1≤(its T).length:=by
 obtain ⟨_,_,h3,h4,_⟩:=m.rd.close (m:=0) m.ds.di.isT m.ds.di.nd m.ds.di.sh
 by_cases hp:P=[]
 ·rw [h4 hp];exact m.one
 ·have:=h3 hp;have:=ok.m1;omega
theorem DrM.big (m:DrM X w0 w h0 T0 F H p c q Dq D st B P off h T)(ok:DrOk X):(toL h0 T0).length≤1000000000000∧h0≤1000000000000∧(toL h T).length≤1000000000000∧(kdM (pl D)).length≤1000000000000:=by
 have h1:=m.ds.dg.perm.length_eq
 have h2:=ok.ll
 have h3:=hgt_le ok.m1 h0 T0 m.ds.di.sh m.one
 obtain ⟨_,A,C,_,hL⟩:=m.rd.lists m.ds.di.sh
 have h4:=congrArg List.length hL
 simp only [zT] at h1 h4
 exact ⟨by omega,by omega,by omega,by omega⟩
theorem DrM.depth (m:DrM X w0 w h0 T0 F H p c q Dq D st B P off h T)(ok:DrOk X):(kdG P B (rid T)).length=P.length+1∧P.length≤1000000000000:=by
 obtain ⟨h1,h2⟩:=m.rd.same
 have:=(m.big ok).2.1
 exact ⟨stk_len _ h1,by omega⟩
end
theorem dr_down {X:DrX ord}{w0:World}(ok:DrOk X)(mR nL mJ:Nat)(a:Act)(w:World){h0:Nat}{T0:BT (It ord) h0}{F:Nat→Prop}{H:HN ord}{p:It ord}{c:Int}{q:Value}{Dq D:List (Bk ord)}{st:Value}{B P:List Nat}{off h:Nat}{T:BT (It ord) (h+1)}{i:Nat}
  (hfr:DrFr X a)(s16:a.tmps[16]?=some st)(s17:a.tmps[17]?=some (Ip (some ⟨rid T,0,none⟩)))(s18:a.tmps[18]?=some (Ii Ij i))(hm:DrM X w0 w h0 T0 F H p c q Dq D st B P off (h+1) T)(hmR:(toL h0 T0).length≤mR)
  (hpos:PosAt ltM T.2.1 p i)(hnL:(toL (h+1) T).length≤nL){z:Nat}(hq1:off≤z)(hq2:z≤off+(toL (h+1) T).length)(hcut:CutP ltM p (toL h0 T0) z) :
  (drDown Try.f58).wp Tp (NextQ X w0 mR nL mJ) a w:=by
 conv=>arg 2;whnf
 obtain ⟨f,rfl,e4,e5,e7,e10,e11,e13,e14,e15⟩:=hfr.lit
 unfold kdJ at *
 simp only [zF,zE,zD,zc] at s16 s17 s18
 obtain ⟨i0,hi0,hz0,hz1,hz2⟩:=info_parts infoStkR
 have hSh:=hm.sh
 have hIT:=hm.isT
 have hsrt:=hm.srt
 have hple:=hpos.le
 have hkl:=hSh.2.1
 obtain ⟨cc,hcj⟩:∃cc,T.2.2[i]?=some cc:=⟨_,zH (by omega)⟩
 have hcm:cc∈T.2.2:=zS hcj
 obtain ⟨l1,hn1⟩:=hm.dw.fam.node hIT.root
 have hk:(kbP (h+1) T).kids=some (T.2.2.map fun c=>some (rid c)):=rfl
 have n3:=hn1.c3s hk
 have nc:=hn1.cc hk
 rw [zU] at nc
 have kc:w.cell? ⟨l1.cb,l1.co+i,none⟩=some (Ip (some ⟨rid cc,0,none⟩)):=hn1.kidc hk (j:=i) (o:=some (rid cc)) (by simp [hcj])
 have b1:(0:Int)≤(i:Int):=by omega
 have b2:(i:Int)<(T.2.2.length:Int):=by omega
 obtain ⟨lc,hnc⟩:=hm.dw.fam.node (hIT.kid hcm).root
 have nc0:=hnc.c0
 have x5:=kbB hm.dw.x5 0
 simp only [zF,zD] at x5
 have c0:=hm.dw.mb.at_.c0
 have hgt:=kid_lt hSh hcm (by have:=hm.pos ok;exact this)
 obtain ⟨hdl,hdp⟩:=hm.depth ok
 have hrd:=hm.rd.snoc hcj
 have hst:=hm.rd.same.1
 obtain ⟨_,A,C,hAl,hLL⟩:=hm.rd.lists hm.ds.di.sh
 have hTL:=kfY hSh hcj
 have hcut2:CutP ltM p (toL h0 T0) z∧off+(pre (T.2.1.take i) ((T.2.2.map (toL h)).take i)).length≤z∧z≤off+(pre (T.2.1.take i) ((T.2.2.map (toL h)).take i)).length+(toL h cc).length:=by
  obtain ⟨p1,p2⟩:=around swoM hSh hcj hsrt hpos
  refine ⟨hcut,?_,?_⟩
  ·refine Nat.le_of_not_lt fun hlt=>?_
   have hg:z-off<(pre (T.2.1.take i) ((T.2.2.map (toL h)).take i)).length:=by omega
   obtain ⟨u,hu⟩:∃u,(pre (T.2.1.take i) ((T.2.2.map (toL h)).take i))[z-off]?=some u:=⟨_,zH hg⟩
   have hul:=p1 u (zS hu)
   have hu2:(toL h0 T0)[z]?=some u:=by
    rw [hLL,hTL]
    have e:A++(pre (T.2.1.take i) ((T.2.2.map (toL h)).take i)++toL h cc++post (T.2.1.drop i) ((T.2.2.map (toL h)).drop (i+1)))++C=(A++pre (T.2.1.take i) ((T.2.2.map (toL h)).take i))++(toL h cc++post (T.2.1.drop i) ((T.2.2.map (toL h)).drop (i+1))++C):=by simp
    rw [e,zn (by rw [zT];omega),zo (by omega),hAl]
    exact hu
   have hu3:u∈(toL h0 T0).drop z:=by
    refine zS (i:=0) ?_
    rw [List.getElem?_drop,Nat.add_zero];exact hu2
   rw [hcut.2 u hu3] at hul;cases hul
  ·refine Nat.le_of_not_lt fun hlt=>?_
   have hlen:(toL (h+1) T).length=(pre (T.2.1.take i) ((T.2.2.map (toL h)).take i)).length+(toL h cc).length+(post (T.2.1.drop i) ((T.2.2.map (toL h)).drop (i+1))).length:=by rw [hTL,zT,zT]
   obtain ⟨g,hg⟩:∃g,z=off+((pre (T.2.1.take i) ((T.2.2.map (toL h)).take i)).length+(toL h cc).length+g)+1:=⟨z-off-((pre (T.2.1.take i) ((T.2.2.map (toL h)).take i)).length+(toL h cc).length)-1,by omega⟩
   have hgl:g<(post (T.2.1.drop i) ((T.2.2.map (toL h)).drop (i+1))).length:=by omega
   obtain ⟨u,hu⟩:∃u,(post (T.2.1.drop i) ((T.2.2.map (toL h)).drop (i+1)))[g]?=some u:=⟨_,zH hgl⟩
   have hul:=swoM.asymm _ _ (p2 u (zS hu))
   have hu2:(toL h0 T0)[z-1]?=some u:=by
    rw [hLL,hTL]
    have e:A++(pre (T.2.1.take i) ((T.2.2.map (toL h)).take i)++toL h cc++post (T.2.1.drop i) ((T.2.2.map (toL h)).drop (i+1)))++C=(A++pre (T.2.1.take i) ((T.2.2.map (toL h)).take i)++toL h cc)++(post (T.2.1.drop i) ((T.2.2.map (toL h)).drop (i+1))++C):=by simp
    rw [e,zo (by simp only [zT];omega),zn (by simp only [zT];omega)]
    rw [←hu]
    congr 1
    simp only [zT];omega
   have hu3:u∈(toL h0 T0).take z:=by
    refine zS (i:=z-1) ?_
    rw [zq (by omega)];exact hu2
   rw [hcut.1 u hu3] at hul;cases hul
 have HM:=zL hm
 have HRD:=zL hrd
 have HCUT:=zL hcut2
 have HGT:=zL hgt
 have HST:=zL hst
 have HDL:=zL hdl
 have HCM:=zL hcm
 obtain ⟨sa,sc,hsf⟩:=hm.dw.so.sl.form
 obtain ⟨N,hN⟩:∃N,(kdG P B (rid T)).length=N:=⟨_,rfl⟩
 rw [hN] at hsf
 subst hsf
 have HN:=zL hN
 rw [e4,e5,e7,e10,e11,e13,e14,e15,s16,s17,s18]
 clear hfr hm hcut hcut2 e4 e5 e7 e10 e11 e13 e14 e15 s16 s17 s18 hrd hgt hst hnc hcj hTL hLL hn1 hsrt hIT hN hdl hkl hAl
 go_wp2_with fail
 refine kbM (fun w'=>w'.cell? ⟨X.s,0,none⟩=some (Ip (some ⟨X.t,0,none⟩))∧w'.cell? ⟨rid T,3,none⟩=some (Ip (some ⟨l1.cc,0,none⟩))∧w'.cell? ⟨l1.cc,0,none⟩=some (Is (some ⟨l1.cb,l1.co,none⟩) T.2.2.length l1.ck)) (.soft 0 (.soft 1 (.soft 2 (.soft 3 (.soft 4 (.soft 5 (.soft 6 (.soft 7 (.soft 8 (.hard 9 (.soft 10 .nil))))))))))) (by kernel_rfl) (by kernel_rfl) (fun _ _ _ _ _ h=>h) ⟨x5,n3,nc⟩ ?_
 repeat ((first|(refine kbH (by rfl) ?_ ?_ ?_ ?_;rotate_left;(· simp [zI,yielded]);(· rintro _ ⟨a1,a2,a3⟩;go_simp;try with_reducible rfl))|(refine kbJ (by rfl) ?_ ?_;(· simp [zI,yielded])));simp only [zJ,zA,zB,zC])
 refine kbY (by rfl) (by simp [zI,yielded]) (fun K hK=>?_)
 go_simp
 refine (kcD X.t (rid cc) X.k _ _ w.drew kc nc0 c0).mono ?_
 rintro e w5 ⟨rfl,m5,hw5⟩
 have hc5:Chg (fun _ _=>False) w w5:=by rw [hw5];exact ((zK _ _).drew).drewN _
 refine hK _ _ ⟨hc5.q x5,hc5.q n3,hc5.q nc⟩ ?_
 clear hK K
 repeat ((first|(refine kbH (by rfl) ?_ ?_ ?_ ?_;rotate_left;(· simp [zI,yielded]);(· rintro _ ⟨a1,a2,a3⟩;go_simp;try with_reducible rfl))|(refine kbJ (by rfl) ?_ ?_;(· simp [zI,yielded])));simp only [zJ,zA,zB,zC])
 refine kcT ?_
 have hm5:=HM.out.keep hc5
 have HM5:=zL hm5
 clear hw5 hm5 hc5 n3 nc kc nc0 x5 c0
 have hca:=(zK (fun _ _=>False) w5).alloc (Ic #[Ip (some ⟨(rid cc),0,none⟩),Ii Ij (i:Int)] 133)
 have HOW:=zL (HM5.out.dw.so.keep hca)
 have hbs:X.base≤(w5.alloc (Ic #[Ip (some ⟨(rid cc),0,none⟩),Ii Ij (i:Int)] 133)).heap.size:=zj HM5.out.dw.rw_ hca.size
 go_wp2_with (refine wpList_append_E2 stkR (by rfl) _ _ _ (by rfl) i0 _ 16 Try.underlying132 hi0 hz0 hz1 hz2 rfl (.slice sa N sc) (by rfl) (kdG P B (rid T)) X.base HOW.out hbs ⟨w5.heap.size,0,none⟩ 1 _ (by rfl) [((rid cc),(i:Int))] rfl (by decide) ?_ ?_ ?_ ?_)
 ·first|exact El.src1 stkR (c:=#[Ip (some ⟨(rid cc),0,none⟩),Ii Ij (i:Int)]) (kbT _ _ (by first|rfl | simp)) _ rfl | exact fun _ _ h=>h
 ·unfold maxLen;(have:=HDL.out;omega)
 ·(have:=HDL.out;omega)
 intro v6 w6 g1 g2 g3
 have hB6:=HM5.out.dw.stack ok g1 (hca.trans' g2 (B:=fun b _=>((.slice sa N sc):Value).ownBlock=some b) (fun _ _ _ h=>h.elim) i3) (g3.imp id fun ⟨nb,h1,h2⟩=>.inr ⟨nb,h1,by first|omega | exact zj hca.size h2⟩)
 have HB6:=zL hB6
 obtain ⟨va,vc,hvf⟩:=g1.sl.form
 subst hvf
 clear hca hbs g1 g2 g3 hB6
 go_wp2_with fail
 obtain ⟨l6,hn6⟩:=HB6.out.fam.node (HM.out.isT.kid HCM.out).root
 have n6:=hn6.c1
 rw [kcH] at n6
 refine ⟨rfl,⟨⟨rfl,rfl,rfl,rfl,rfl,rfl,rfl,rfl,rfl,rfl⟩,h0,T0,F,H,p,c,q,Dq,D,_,B++[i],P++[rid T],_,h,cc,rfl,rfl,⟨by rw [stk_push (rid T) (rid cc) i HST.out];exact HB6.out,HM.out.ds,HM.out.hp,HM.out.pm,HM.out.ct,HM.out.one,HRD.out⟩,hmR,z,HCUT.out.2.1,HCUT.out.2.2,HCUT.out.1⟩,?_⟩
 show numO (w6.cell? ⟨rid cc,1,none⟩)<nL
 rw [n6]
 show (((toL h cc).length:Nat):Int).toNat<nL
 have:=HGT.out
 omega
end
end
section
variable {ord:List Int}{k:Kc ord}
section
variable {ord:List Int}
variable {α:Type}{x:α}
theorem drop_consX {l:List α}{k:Nat}(h:l[k]?=some x):l.drop k=x::l.drop (k+1):=by
 obtain ⟨h1,rfl⟩:=zG.1 h
 exact List.drop_eq_getElem_cons h1
theorem post_dropX {xs:List α}{ts:List (List α)}{k:Nat}{t:List α}(hx:xs[k]?=some x)(ht:ts[k+1]?=some t):post (xs.drop k) (ts.drop (k+1))=x::(t++post (xs.drop (k+1)) (ts.drop (k+1+1))):=by
 rw [drop_consX hx,drop_consX ht,post];rfl
theorem item_at {mn mx h0:Nat}{T0:BT α h0}{B P:List Nat}{off h:Nat}{T:BT α (h+1)}(hr:Road h0 T0 B P off (h+1) T)(hs:Sh mn mx h0 T0){i:Nat}(hx:T.2.1[i]?=some x) :
  (toL h0 T0)[off+(pre (T.2.1.take i) ((T.2.2.map (toL h)).take i)).length+(((T.2.2.map (toL h))[i]?).getD []).length]?=some x:=by
 obtain ⟨hs',A,C,hA,hL⟩:=hr.lists hs
 have hi:=(zG.1 hx).1
 have hkl:=hs'.2.1
 obtain ⟨c,hc⟩:∃c,T.2.2[i]?=some c:=⟨_,zH (by omega)⟩
 have e:(((T.2.2.map (toL h))[i]?).getD [])=toL h c:=by simp [hc]
 rw [e,hL,kfY hs' hc]
 have hp:post (T.2.1.drop i) ((T.2.2.map (toL h)).drop (i+1))=x::(post (T.2.1.drop i) ((T.2.2.map (toL h)).drop (i+1))).tail:=by
  obtain ⟨d,hd⟩:∃d,T.2.2[i+1]?=some d:=⟨_,zH (by omega)⟩
  rw [post_dropX hx (t:=toL h d) (by simp [hd])];rfl
 rw [hp]
 have e2:A++(pre (T.2.1.take i) ((T.2.2.map (toL h)).take i)++toL h c++x::(post (T.2.1.drop i) ((T.2.2.map (toL h)).drop (i+1))).tail)++C=(A++pre (T.2.1.take i) ((T.2.2.map (toL h)).take i)++toL h c)++x::((post (T.2.1.drop i) ((T.2.2.map (toL h)).drop (i+1))).tail++C):=by simp
 rw [e2,zo (by simp only [zT];omega)]
 have e3:off+(pre (T.2.1.take i) ((T.2.2.map (toL h)).take i)).length+(toL h c).length-(A++pre (T.2.1.take i) ((T.2.2.map (toL h)).take i)++toL h c).length=0:=by simp only [zT];omega
 rw [e3];rfl
theorem item_leaf {mn mx h0:Nat}{T0:BT α h0}{B P:List Nat}{off:Nat}{T:BT α 0}(hr:Road h0 T0 B P off 0 T)(hs:Sh mn mx h0 T0){i:Nat}(hx:T.2[i]?=some x):(toL h0 T0)[off+i]?=some x:=by
 obtain ⟨_,A,C,hA,hL⟩:=hr.lists hs
 have hi:=(zG.1 hx).1
 rw [hL,zu,zo (by omega)]
 rw [show off+i-A.length=i by omega,zn (by show i<T.2.length;exact hi)]
 exact hx
theorem cut_around {p x:It ord}{L:List (It ord)}{z:Nat}(hc:CutP ltM p L z)(hx:L[z]?=some x):L=L.take z++x::L.drop (z+1)∧(∀u∈L.take z,ltM u p=true)∧ltM x p=false:=by
 obtain ⟨hz,rfl⟩:=zG.1 hx
 refine ⟨by rw [←List.drop_eq_getElem_cons hz,zw],hc.1,hc.2 _ ?_⟩
 rw [List.drop_eq_getElem_cons hz];exact zP
theorem own_zero {p:El α}{w:World}{a:Option Addr}{n cap:Nat}{xs:List α}{base:Nat}(h:OwnE p w (.slice a n cap) xs base):OwnE p w (.slice a 0 cap) [] base:=by
 rcases h with ⟨_,h⟩ | ⟨b,o,cap',h,h2,h3,h4⟩
 ·injection h with h1 h2 h3
  subst h1;subst h3
  exact OwnE.nil _ _ _
 ·injection h with e1 e2 e3
  subst e1;subst e3
  refine .inr ⟨b,o,cap,rfl,Nat.zero_le _,h3,?_⟩
  have h5:=h4.part 0 0 (cap*p.es) (by omega) (by omega) (by omega)
  rw [flat_nil];simpa using h5
theorem flat_lone {D1 D2:List (Bk ord)}{x:It ord}:(kdM (pl (D1++lone x::D2))).length=(kdM (pl (D1++D2))).length+1:=by
 have e:pl (D1++lone x::D2)=pl D1++(x,[])::pl D2:=by
  show (D1++lone x::D2).map Bk.plain=_
  rw [zv];rfl
 rw [e,pl_app,kdZ,kdZ,kdY]
 simp only [zT,List.length_cons,List.length_nil]
 omega
theorem labR_del {X:DrX ord}{w0 w1 w2:World}(ok:DrOk X){h0:Nat}{T0:BT (It ord) h0}{F:Nat→Prop}{H:HN ord}{p x:It ord}{c:Int}{q:Value}{Dq D Dq0:List (Bk ord)}{st:Value}{es:List (Nat×Int)}{z:Nat}{e:Ending}
  (hS:DrS X.st X.lo p X.L0 D X.mn X.mx H h0 T0)(hW:DrW X w0 w1 F H (some (rid T0)) (toL h0 T0).length x c q Dq st es)(hh:kfF ltE Dq)(hq:Dq.Perm (Dq0++[lone x]))(hp:Dq0.Perm D)(hc:c=(kdM (pl D)).length+1)
  (hcut:CutP ltM p (toL h0 T0) z)(hx:(toL h0 T0)[z]?=some x)(hst:X.st x=false)(hD:DelAnsK X.k X.mn X.mx (some X.bh) w1 F H X.t h0 T0 x (QF ltM p (pl D) (toL h0 T0)) e w2) :
  ∃(F':Nat→Prop) (H':HN ord) (D':List (Bk ord)),kfF ltE Dq∧Dq.Perm D'∧c=(kdM (pl D')).length∧drCnt X w2<(toL h0 T0).length ∧
   ((DrW X w0 w2 F' H' none 0 x c q Dq st es∧DrF X.st X.lo X.L0 [] D' X.mn X.mx H') ∨
   ∃(h2:Nat) (T2:BT (It ord) h2),DrW X w0 w2 F' H' (some (rid T2)) (toL h2 T2).length x c q Dq st es∧DrS X.st X.lo x X.L0 D' X.mn X.mx H' h2 T2∧1≤(its T2).length∧∃z,z≤(toL h2 T2).length∧CutP ltM x (toL h2 T2) z):=by
 obtain ⟨_,F',H',g1,g2,g3,g4,g5,g6⟩:=hD
 obtain ⟨hL,hA,hxp⟩:=cut_around hcut hx
 have hsrt:=hS.di.srt
 have hzl:=(zG.1 hx).1
 have hhit:delL ltM x (toL h0 T0)=(toL h0 T0).take z++(toL h0 T0).drop (z+1):=by
  have h1:=delL_hit (lt:=ltM) (x:=x) (y:=x) (P:=(toL h0 T0).take z) (S:=(toL h0 T0).drop (z+1)) (fun u hu=>swoM.lt_of_lt_of_nlt (hA u hu) hxp) (swoM.irrefl x) (swoM.irrefl x)
  rw [←hL] at h1;exact h1
 have hperm:∀D1 D2,D=D1++D2→Dq.Perm (D1++lone x::D2):=fun D1 D2 hD=>by
  refine hq.trans ((hp.append_right _).trans ?_)
  rw [hD]
  exact (List.perm_append_singleton _ _).trans List.perm_middle.symm
 rcases g3 with ⟨k1,k2⟩ | ⟨h2,T2,k1,k2,k3,k4,k5,k6⟩
 ·rw [hhit] at k1
  obtain ⟨e1,e2⟩:=List.append_eq_nil_iff.1 k1
  have hone:toL h0 T0=[x]:=by rw [hL,e1,e2];rfl
  obtain ⟨D1,D2,rfl,hF⟩:=drs_del_last hS hone hxp hst g2
  have hw:=hW.tree ok g4 g1 g5 k2 (g6 _ rfl)
  exact ⟨F',H',_,hh,hperm D1 D2 rfl,by rw [hc,flat_lone];rfl,by rw [hw.cnt_eq (n:=0),hone];exact Nat.zero_lt_one,.inl ⟨hw,hF⟩⟩
 ·rw [hhit] at k4
  obtain ⟨D1,D2,rfl,hS',hz⟩:=drs_del hS hL hA hxp hst k1.isT k1.nd k1.sh k4 k6 k2 g2
  have hw:=hW.tree ok g4 g1 g5 k3 (g6 _ rfl)
  refine ⟨F',H',_,hh,hperm D1 D2 rfl,by rw [hc,flat_lone];rfl,?_,.inr ⟨h2,T2,hw,hS',k5,hz⟩⟩
  rw [hw.cnt_eq,k4,zT,zV,List.length_drop]
  omega
end
end
section
variable {ord:List Int}{k:Kc ord}
section
variable {ord:List Int}
theorem DrOk.kb {X:DrX ord}(ok:DrOk X):X.k.ob<X.base∧X.k.rb<X.base∧X.k.ob≠X.d∧X.k.rb≠X.d:=by
 have h1:=ok.tl X.k.ob (.inr (.inl rfl))
 have h2:=ok.tl X.k.rb (.inr (.inr rfl))
 have o1:=ok.o1
 have o2:=ok.o2
 have o3:=ok.o3
 exact ⟨by omega,by omega,h1.2.2,h2.2.2⟩
theorem len_flat:∀(D:List (Bk ord)),D.length≤(kdM (pl D)).length
 |[]=>Nat.zero_le _
 |d::D=>by
  have h1:=len_flat D
  have e:kdM (pl (d::D))=(d.1::d.kin)++kdM (pl D):=rfl
  rw [e]
  simp only [zT,List.length_cons]
  omega
theorem own_zero_blk (a:Option Addr)(n cap:Nat):(Value.slice a 0 cap).ownBlock=(Value.slice a n cap).ownBlock:=by cases a<;>rfl
theorem del_at {X:DrX ord}{w0 w1:World}(ok:DrOk X){h0:Nat}{T0:BT (It ord) h0}{F:Nat→Prop}{H:HN ord}{p x:It ord}{c:Int}{q:Value}{Dq D:List (Bk ord)}{st:Value}{es:List (Nat×Int)}{z:Nat}
  (hS:DrS X.st X.lo p X.L0 D X.mn X.mx H h0 T0)(h1:1≤(its T0).length)(hW:DrW X w0 w1 F H (some (rid T0)) (toL h0 T0).length x c q Dq st es)(hcut:CutP ltM p (toL h0 T0) z)(hx:(toL h0 T0)[z]?=some x) :
  Calls Tp 50 #[Ip (some ⟨X.t,0,none⟩),aggM x,hintV (some X.bh)] w1 (DelAnsK X.k X.mn X.mx (some X.bh) w1 F H X.t h0 T0 x (QF ltM p (pl D) (toL h0 T0))):=by
 obtain ⟨hL,hA,hxp⟩:=cut_around hcut hx
 have hlen:(toL h0 T0).length≤1000000000000:=by
  have h1:=hS.dg.perm.length_eq
  have h2:=ok.ll
  simp only [zT] at h1;omega
 have o1:=ok.o1
 have o2:=ok.o2
 refine deleteHint_treeK x ⟨hW.fam,hW.mb.at_,fun b hm hf=>(hW.fz ok b hf).2.2.2.2.2.2.2 hm,hS.di.isT,hS.di.nd,hS.di.sh,hS.di.srt,by omega,ok.m3,ok.m1000,ok.mh,ok.mh2⟩ hW.mb h1 ok.m1 ?_ (fun b hb=>by obtain rfl:=Iq hb;exact hW.xh) (fun b hb hf=>by obtain rfl:=Iq hb;exact (hW.fz ok _ hf).2.2.2.2.1 rfl) (fun b hb hm=>by obtain rfl:=Iq hb;have:=(ok.tl _ hm).1;omega) hlen
 exact kgQ (fun s hs=>swoM.ntrans _ _ _ hs hxp) (fun _ h=>h) h0 T0 hS.di.flag
theorem dr_found {X:DrX ord}{w0:World}(ok:DrOk X)(mR nL mJ:Nat)(a:Act)(w:World){h0:Nat}{T0:BT (It ord) h0}{F:Nat→Prop}{H:HN ord}{p:It ord}{c:Int}{q:Value}{Dq D:List (Bk ord)}{st:Value}{B P:List Nat}{off h:Nat}{T:BT (It ord) (h+1)}{i:Nat}
  (hfr:DrFr X a)(s16:a.tmps[16]?=some st)(s17:a.tmps[17]?=some (Ip (some ⟨rid T,0,none⟩)))(s18:a.tmps[18]?=some (Ii Ij i))(hm:DrM X w0 w h0 T0 F H p c q Dq D st B P off (h+1) T)(hmR:(toL h0 T0).length≤mR)
  (hi:i<T.2.1.length)(hcut:CutP ltM p (toL h0 T0) (off+(pre (T.2.1.take i) ((T.2.2.map (toL h)).take i)).length+(((T.2.2.map (toL h))[i]?).getD []).length)) :
  (drFound Try.f58).wp Tp (NextQ X w0 mR nL mJ) a w:=by
 conv=>arg 2;whnf
 obtain ⟨f,rfl,e4,e5,e7,e10,e11,e13,e14,e15⟩:=hfr.lit
 unfold kdJ at *
 simp only [zF,zE,zD,zc] at s16 s17 s18
 obtain ⟨x,hy⟩:∃x,T.2.1[i]?=some x:=⟨_,zH hi⟩
 have HXA:=zL (item_at hm.rd hm.ds.di.sh hy)
 have HCUT:=zL hcut
 have hsl:=hm.sh.len
 have hmx:=ok.m1000
 obtain ⟨NI,hNI⟩:∃NI,(its T).length=NI:=⟨_,rfl⟩
 have hNI':T.2.1.length=NI:=hNI
 have HIT:=zL hm.isT
 have HM:=zL hm
 have HY:=zL (show (its T)[i]?=some x from hy)
 have HNI:=zL hNI
 have b1:(0:Int)≤(i:Int):=by omega
 have b2:(i:Int)<(NI:Int):=by omega
 have HMS:=zL (maxstop_any hm.dw x)
 obtain ⟨sa,sc,hsf⟩:=hm.dw.so.sl.form
 subst hsf
 rw [e4,e5,e7,e10,e11,e13,e14,e15,s16,s17,s18]
 obtain ⟨l1,hnx⟩:=HM.out.dw.fam.node HIT.out.root
 have n2:w.cell? ⟨rid T,2,none⟩=some (Is (some ⟨l1.ib,l1.io,none⟩) NI l1.ic):=(by have:=hnx.c2;rw [kbG,HNI.out] at this;exact this)
 have y0:=hnx.mkey (j:=i) (by rw [kbG];exact HY.out)
 have y1:=hnx.mval (j:=i) (by rw [kbG];exact HY.out)
 clear hnx
 clear hfr hm hcut e4 e5 e7 e10 e11 e13 e14 e15 s16 s17 s18 hy hNI hNI' hi hsl
 obtain ⟨sv,hsv⟩:∃sv,X.st x=sv:=⟨_,rfl⟩
 rw [hsv] at HMS
 have HSV:=zL hsv
 clear hsv
 go_wp2_with fail
 refine HMS.out.mono ?_
 rintro e w2 ⟨rfl,hc2⟩
 have hm2:=HM.out.keep hc2
 clear HM HMS y0 y1 n2 hc2
 have HM:=zL hm2
 clear hm2
 cases sv
 rotate_left
 ·obtain ⟨qa,qc,hqf⟩:=HM.out.dw.qo.sl.form
  subst hqf
  have l0:=HM.out.dw.lb.c0
  have l1:=HM.out.dw.lb.c1
  have l2:=HM.out.dw.lb.c2
  have l3:=HM.out.dw.lb.c3
  unfold kcQ at l0
  have r0:=kbB HM.out.dw.x10 0
  have r1:=kbB HM.out.dw.x10 1
  have r2:=kbB HM.out.dw.x10 2
  have r3:=kbB HM.out.dw.x10 3
  simp only [zF,zD,zE] at r0 r1 r2 r3
  have r4:=kbC HM.out.dw.x10 0
  have r5:=kbC HM.out.dw.x10 1
  have r6:=kbC HM.out.dw.x10 2
  have r7:=kbC HM.out.dw.x10 3
  go_wp2_with fail
  refine kbQ (fun wf=>Chg (fun b _=>b=X.s+3) w2 wf∧wf.heap[X.s+3]?=some (Ic #[kcQ X.k,Ii Ij c,Ii Ij 0,(.slice qa Dq.length qc)] 67 (0,0))) ⟨((((zK _ _).setCell (.inl rfl) _).setCell (.inl rfl) _).setCell (.inl rfl) _).setCell (.inl rfl) _,blk4r HM.out.dw.x10 _ _ _ _⟩ ?_
  clear l0 l1 l2 l3 r0 r1 r2 r3 r4 r5 r6 r7
  rintro wf ⟨hcf,hbf⟩
  exact ⟨rfl,rfl,c,_,F,H,_,Dq,D,hbf,(HM.out.out (HM.out.ds.fin_stop X.st_mono HCUT.out HXA.out HSV.out)).res ok hcf⟩
 -- the pivot
 obtain ⟨l3,hnx⟩:=HM.out.dw.fam.node HIT.out.root
 have n2:w2.cell? ⟨rid T,2,none⟩=some (Is (some ⟨l3.ib,l3.io,none⟩) NI l3.ic):=(by have:=hnx.c2;rw [kbG,HNI.out] at this;exact this)
 have y0:=hnx.mkey (j:=i) (by rw [kbG];exact HY.out)
 have y1:=hnx.mval (j:=i) (by rw [kbG];exact HY.out)
 clear hnx
 have P0:=kbB HM.out.dw.xp 0
 have P1:=kbB HM.out.dw.xp 1
 simp only [zF,zD,zE] at P0 P1
 have P2:=kbC HM.out.dw.xp 0
 have P3:=kbC HM.out.dw.xp 1
 go_upto_region 41 with fail
 refine kbD (fun w3=>Chg (fun b _=>b=X.bp) w2 w3∧w3.heap[X.bp]?=some (Ic #[Ii Ij x.1,Ii Ij x.2] 27 (0,0))) ⟨((zK _ _).setCell (.inl rfl) _).setCell (.inl rfl) _,blk2 HM.out.dw.xp _ _⟩ ?_
 clear n2 y0 y1 P0 P1 P2 P3
 rintro w3 ⟨hc3,hb3⟩
 have hdw3:=HM.out.dw.piv ok hc3 hb3
 have HW3:=zL hdw3
 clear hc3 hb3 hdw3
 obtain ⟨l4,hnx⟩:=HW3.out.fam.node HIT.out.root
 have n2:w3.cell? ⟨rid T,2,none⟩=some (Is (some ⟨l4.ib,l4.io,none⟩) NI l4.ic):=(by have:=hnx.c2;rw [kbG,HNI.out] at this;exact this)
 have y0:=hnx.mkey (j:=i) (by rw [kbG];exact HY.out)
 have y1:=hnx.mval (j:=i) (by rw [kbG];exact HY.out)
 clear hnx
 have hlb:=HM.out.big ok
 have hap:=append_any (lone x) HW3.out.lb HW3.out.qo HM.out.hp HW3.out.mb.ord (by have:=ok.dl.1;have:=ok.o1;have:=ok.o2;have:=ok.o3;omega) HW3.out.rw_ (DrOk.kb ok) (by have:=HM.out.pm.length_eq;have:=len_flat D;omega) (fun _ h=>by cases h) (by rw [HM.out.ct];omega) (by rw [HM.out.ct];show _+0≤_;omega)
 have hnp:(lone x:Bk ord).npA=none:=rfl
 rw [hnp] at hap
 have HAP:=zL hap
 clear hap hnp hlb
 go_wp2_with fail
 refine HAP.out.mono ?_
 rintro e w4 ⟨rfl,q4,Dq4,hp4,hh4,hl4,ho4,hc4,hv4,hk4⟩
 have hdw4:=HW3.out.app ok hl4 ho4 hc4 hv4 hk4
 have HW4:=zL hdw4
 have HP4:=zL (And.intro hp4 hh4)
 clear hp4 hh4 hl4 ho4 hc4 hv4 hk4 hdw4 HAP n2 y0 y1
 obtain ⟨l5,hnx⟩:=HW4.out.fam.node HIT.out.root
 have n2:w4.cell? ⟨rid T,2,none⟩=some (Is (some ⟨l5.ib,l5.io,none⟩) NI l5.ic):=(by have:=hnx.c2;rw [kbG,HNI.out] at this;exact this)
 have y0:=hnx.mkey (j:=i) (by rw [kbG];exact HY.out)
 have y1:=hnx.mval (j:=i) (by rw [kbG];exact HY.out)
 clear hnx
 have x5:=kbB HW4.out.x5 0
 simp only [zF,zD] at x5
 go_wp2_with fail
 refine wp_region_call (fun w'=>w'.cell? ⟨X.s,0,none⟩=some (Ip (some ⟨X.t,0,none⟩))∧w'.cell? ⟨rid T,2,none⟩=some (Is (some ⟨l5.ib,l5.io,none⟩) NI l5.ic)∧w'.cell? ⟨l5.ib,l5.io+i*2,none⟩=some (Ii Ij x.1)∧w'.cell? ⟨l5.ib,l5.io+i*2+1,none⟩=some (Ii Ij x.2))
  8 [0,1,2,3,4,5,6,7] _ [] (by kernel_rfl) (by kernel_rfl) (fun _ _ _ _ _ h=>h) rfl rfl rfl ⟨x5,n2,y1,y0⟩ ?_
 simp only [kbK,List.filterMap_cons,List.filterMap_nil,zD,zE]
 iterate 8
  refine kbR ?_ rfl ?_ ?_
  rotate_left
  ·intro w' hS
   obtain ⟨a1,a2,a3,a4⟩:=hS
   go_simp
   try with_reducible rfl
  simp only [zJ,zA,zB,zC]
 refine kbS ?_
 refine wp_hide (fun K hK=>?_)
 go_simp
 have hdel:=del_at (w1:=w4.drew) ok HM.out.ds HM.out.one (HW4.out.keep (zK _ _).drew) HCUT.out HXA.out
 unfold aggM hintV at hdel
 refine hdel.mono ?_
 rintro e w5 hD
 have hret:∃rv,e=Ir rv:=by
  rcases hD.1 with ⟨y,_,he⟩ | ⟨_,he⟩
  ·exact ⟨_,he⟩
  ·exact ⟨_,he⟩
 obtain ⟨rv,rfl⟩:=hret
 refine hK _ _ ?_
 clear hK K
 refine kbS ?_
 have hlab:=labR_del ok HM.out.ds (HW4.out.keep (zK _ _).drew) HP4.out.2 HP4.out.1 HM.out.pm (by rw [HM.out.ct];rfl) HCUT.out HXA.out HSV.out hD
 have HLAB:=zL hlab
 clear hlab hD hdel x5 n2 y0 y1
 have sq:(0:Int)≤(sc:Int):=by omega
 go_wp2_with fail
 go_step3
 obtain ⟨F',H',D',g1,g2,g3,g4,g5⟩:=HLAB.out
 refine .inr ⟨rfl,⟨⟨rfl,rfl,rfl,rfl,rfl,rfl,rfl,rfl,rfl,rfl⟩,F',H',x,_,q4,Dq4,D',.slice sa 0 sc,rfl,g1,g2,g3,?_⟩,by omega⟩
 rcases g5 with ⟨k1,k2⟩ | ⟨h2,T2,k1,k2,k3,k4⟩
 ·exact .inl ⟨k1.stack ok (own_zero k1.so) (zK _ _) (.inl (own_zero_blk _ _ _)),k2⟩
 ·exact .inr ⟨h2,T2,k1.stack ok (own_zero k1.so) (zK _ _) (.inl (own_zero_blk _ _ _)),k2,k3,k4⟩
end
end
section
section
variable {α:Type}
theorem Road.nodup {h:Nat}{T:BT α h}{B P:List Nat}{off h':Nat}{T':BT α h'}(hr:Road h T B P off h' T')(hd:(ids h T).Nodup):(P++[rid T']).Nodup:=by
 induction hr with
 |nil=>simp
 |@snoc B P off h' T' j c hr hc ih =>
  have h1:=((hr.snoc hc).out hd).2.2
  refine List.nodup_append.2 ⟨ih,by simp,fun a ha b hb=>?_⟩
  rw [zy.1 hb]
  exact fun e=>(h1 a ha).1 (e▸kcV c)
theorem Road.recs {mn mx h:Nat}{T:BT α h}{B P:List Nat}{off h':Nat}{T':BT α h'}{H:Nat→Option (NodeR α)}(hr:Road h T B P off h' T')(hT:IsT H h T)(hs:Sh mn mx h T) :
  IsT H h' T'∧Sh mn mx h' T'∧(toL h' T').length≤(toL h T).length∧∀a∈P++[rid T'],∃r,H a=some r∧0≤r.cnt∧r.cnt≤(toL h T).length∧((toL h' T').length:Int)≤r.cnt:=by
 induction hr with
 |nil =>
  refine ⟨hT,hs,Nat.le_refl _,fun a ha=>?_⟩
  have ha':a=rid T:=by simpa using ha
  subst ha'
  exact ⟨_,hT.root,by rw [kcH];omega,by rw [kcH];omega,by rw [kcH];omega⟩
 |@snoc B P off h' T' j c hr hc ih =>
  obtain ⟨h1,h2,h3,h4⟩:=ih
  have hcm:=zS hc
  have hlen:(toL h' c).length≤(toL (h'+1) T').length:=by
   rw [kfY h2 hc];simp only [zT];omega
  refine ⟨h1.kid hcm,(h2.2.2 c hcm).2,by omega,fun a ha=>?_⟩
  rcases zO.1 ha with ha | ha
  ·obtain ⟨r,g1,g2,g3,g4⟩:=h4 a ha
   exact ⟨r,g1,g2,g3,by omega⟩
  ·rw [zy.1 ha]
   exact ⟨_,(h1.kid hcm).root,by rw [kcH];omega,by rw [kcH];omega,by rw [kcH];omega⟩
theorem bmp_last {H:Nat→Option (NodeR α)}{P:List Nat}{n:Nat}{r:NodeR α}{δ:Int}(hn:n∉P):bmp (upd H n r) (P++[n]) δ=bmp (upd H n { r with cnt:=r.cnt+δ }) P δ:=by
 funext m
 by_cases e:m=n
 ·subst e
  rw [bmp_in (r:=r) (by simp) (kbX _ _ _),bmp_out hn,kbX]
 ·unfold bmp
  simp only [zO,zy,e,or_false,kcP _ _ e]
theorem nodup_take {l:List Nat}(hd:l.Nodup){k a:Nat}(ha:l[k]?=some a):a∉l.take k:=by
 intro hm
 obtain ⟨j,hj,h2⟩:=kfR hm
 have h3:=(zG.1 ha).1
 have h4:=(zG.1 h2).1
 have h5:l[j]=l[k]:=by rw [(zG.1 h2).2,(zG.1 ha).2]
 exact List.pairwise_iff_getElem.1 hd j k h4 h3 hj h5
theorem take_snoc {β:Type}{l:List β}{k:Nat}{a:β}(ha:l[k]?=some a):l.take (k+1)=l.take k++[a]:=by
 rw [List.take_add_one,ha];rfl
theorem downTakeJ {β:Type}(xs:List β)(i j:Nat)(hi:i+j≤xs.length):(xs.take i++xs.drop (i+j)++xs.drop (i+(xs.drop (i+j)).length)).take (xs.length-j)=xs.take i++xs.drop (i+j) :=
 zs (by simp;omega)
theorem downLenJ {β:Type}(xs:List β)(i j:Nat)(hi:i+j≤xs.length):(xs.take i++xs.drop (i+j)++xs.drop (i+(xs.drop (i+j)).length)).length=xs.length:=by
 simp;omega
end
section
variable {P:Program}{α:Type}{p:Par α}{w0 w:World}{n:Nat}{r0 r:NodeR α}{l0 l:Lay}
theorem wpList_downJ {ops:Array Oper}{rest:List Oper}{o':Oper}{a:Act}{Q:Exit→Act→World→Prop}(hgd:o'.guard=none)(d s:Operand)(dT sT:TypeId)
  (ho:o'.op=.call { callee:=.builtin .copy,args:=#[d,s],argTypes:=#[dT,sT] })(elem:TypeId)(hu:P.underlying dT=some (.slice elem))(hsz:(P.info? elem).map (·.size)=some p.es)
  (h1:Run p w0 n r0 l0 w r l)(i j od dl dc sl sc:Nat)(hij:i+j≤r.items.length)(hi:i<r.items.length)(hod:od=l.io+i*p.es)
  (hd:a.eval d=Is (some ⟨l.ib,od,none⟩) dl dc)(sp:Addr)(hs:a.eval s=Is (some sp) sl sc)(hsp:i+j<r.items.length→sp=⟨l.ib,l.io+(i+j)*p.es,none⟩)(hdl:dl=r.items.length-i)(hsl:sl=r.items.length-(i+j))
  (h:∀w' ys,Run p w0 n r0 l0 w' { r with items:=ys } l→ys.length=r.items.length→ys.take (r.items.length-j)=r.items.take i++r.items.drop (i+j)→wpList P ops Q rest (a.put o'.dst (goInt (Nat.min sl dl))) w'):wpList P ops Q (o'::rest) a w:=by
 subst hod
 obtain ⟨q0,c,q1,q2,q3⟩:=h1.at_.row
 have hlen:=h1.at_.len
 have m1:r.items.length*p.es≤l.ic*p.es:=Nat.mul_le_mul_right _ hlen
 have m3:i*p.es+(r.items.length-(i+j))*p.es≤r.items.length*p.es:=by rw [←Nat.add_mul];exact Nat.mul_le_mul_right _ (by omega)
 have hcl:(flat p (r.items.drop (i+j))).length=(r.items.length-(i+j))*p.es:=by rw [kcW];simp
 have hmin:Nat.min sl dl=r.items.length-(i+j):=by rw [hsl,hdl];exact Nat.min_eq_left (by omega)
 refine kfP hgd d s dT sT ho elem p.es hu hsz l.ib (l.io+i*p.es) dl dc hd _ sl sc hs (flat p (r.items.drop (i+j))) (by rw [hmin,hcl]) ?_ c p.TI q1 ?_ (flat_one p _) ?_
 ·intro m v hj
  have hlt:=(zG.1 hj).1
  have hi2:i+j<r.items.length:=by
   rw [hcl] at hlt
   rcases Nat.lt_or_ge (i+j) r.items.length with h | h
   ·exact h
   ·rw [show r.items.length-(i+j)=0 by omega] at hlt;simp at hlt
  rw [hsp hi2,kdS]
  have e:(flat p r.items)[(i+j)*p.es+m]?=some v:=by
   rw [←List.getElem?_drop,flat_drop]
   exact hj
  have:=h1.at_.row.cell e
  rw [Nat.add_assoc]
  exact this
 ·rw [hcl];omega
 ·refine h _ _ (h1.putItems i (r.items.drop (i+j)) (by rw [List.length_drop];omega)) (downLenJ _ _ _ hij) (downTakeJ _ _ _ hij)
end
end
end Go.Proofs.Ytnohimhihombmaa
