/- The records that the walk of nodeRebalance leaves are those of the new branch. No program in sight. -/
import Derived.Test.YtnohimhihombmaaA1
import Derived.Test.YtnohimhihombmaaA3
import Derived.Test.YtnohimhihombmaaA4
import Derived.Test.YtnohimhihombmaaA8
namespace Go.Proofs.Ytnohimhihombmaa
set_option linter.unusedSimpArgs false
set_option linter.unusedVariables false
set_option maxRecDepth 100000
set_option maxHeartbeats 40000000
open Value renaming int → Ii, pointer → Ip, slice → Is, tuple → Iu
open IntKind renaming i64 → Ij
open Obj renaming cells → Ic
open Ending renaming returned → Ir
open Option.some renaming inj → Iq
open List renaming getElem?_eq_some_iff → zG, getElem?_eq_getElem → zH, mem_append_right → zM, mem_append_left → zN, mem_append → zO, mem_cons_self → zP, mem_cons_of_mem → zQ, mem_cons → zR, mem_of_getElem? → zS, length_map → zU, pairwise_append → zZ, getElem?_append_left → zn, getElem?_append_right → zo, append_assoc → zu, map_append → zv, take_append_drop → zw, singleton_append → zx, mem_singleton → zy, mem_map → zza, mem_flatMap → zzb, nodup_append → zzd
open Nat renaming le_refl → zi
section
variable {α:Type}
def catT:{h:Nat}→BT α h→α→BT α h→BT α h
 | 0,a,x,b=>(a.1,a.2++x::b.2)
 | _+1,a,x,b=>(a.1,a.2.1++x::b.2.1,a.2.2++b.2.2)
def lftA:{h:Nat}→BT α h→α→BT α h→BT α h
 | 0,a,x,_=>(a.1,a.2++[x])
 | _+1,a,x,b=>(a.1,a.2.1++[x],a.2.2++b.2.2.take 1)
def lftB:{h:Nat}→BT α h→BT α h
 | 0,b=>(b.1,b.2.drop 1)
 | _+1,b=>(b.1,b.2.1.drop 1,b.2.2.drop 1)
def rgtA:{h:Nat}→BT α h→BT α h
 | 0,a=>(a.1,a.2.take (a.2.length - 1))
 | _+1,a=>(a.1,a.2.1.take (a.2.1.length - 1),a.2.2.take (a.2.2.length - 1))
def rgtB:{h:Nat}→BT α h→α→BT α h→BT α h
 | 0,_,x,b=>(b.1,x::b.2)
 | _+1,a,x,b=>(b.1,x::b.2.1,a.2.2.drop (a.2.2.length - 1)++b.2.2)
variable {mn mx:Nat}
theorem toL_catT:{h:Nat}→{a b:BT α h}→(x:α)→Sh mn mx h a→toL h (catT a x b)=toL h a++x::toL h b
 | 0,_,_,_,_=>rfl
 | h+1,a,b,x,hs=>by
  show kcM (a.2.1++x::b.2.1) ((a.2.2++b.2.2).map (toL h))=_
  rw [zv,kgV _ _ _ _ _ (by rw [zU];exact hs.2.1)]
  rfl
theorem its_catT:{h:Nat}→(a b:BT α h)→(x:α)→its (catT a x b)=its a++x::its b
 | 0,_,_,_=>rfl
 | _+1,_,_,_=>rfl
theorem rid_catT:{h:Nat}→(a b:BT α h)→(x:α)→rid (catT a x b)=rid a
 | 0,_,_,_=>rfl
 | _+1,_,_,_=>rfl
theorem sh_catT:{h:Nat}→{a b:BT α h}→(x:α)→Sh mn mx h a→Sh mn mx h b→(its a).length+(its b).length < mx→Sh mn mx h (catT a x b)
 | 0,a,b,x,_,_,h=>by
  show (a.2++x::b.2).length≤mx
  have h2:a.2.length+b.2.length < mx:=h
  simp;omega
 | h+1,a,b,x,ha,hb,hl=>by
  have h2:a.2.1.length+b.2.1.length < mx:=hl
  obtain ⟨a1,a2,a3⟩:=ha
  obtain ⟨b1,b2,b3⟩:=hb
  refine ⟨?_,?_,fun c hc=>?_⟩
  ·show (a.2.1++x::b.2.1).length≤mx
   simp;omega
  ·show (a.2.2++b.2.2).length=(a.2.1++x::b.2.1).length+1
   simp;omega
  ·rcases zO.1 hc with hc | hc
   ·exact a3 c hc
   ·exact b3 c hc
theorem ids_catT:{h:Nat}→(a b:BT α h)→(x:α)→ids h b=rid b::(ids h b).tail∧ids h (catT a x b)=ids h a++(ids h b).tail
 | 0,_,_,_=>⟨rfl,rfl⟩
 | h+1,a,b,x=>⟨rfl,by
  show a.1::(a.2.2++b.2.2).flatMap (ids h)=(a.1::a.2.2.flatMap (ids h))++b.2.2.flatMap (ids h)
  rw [List.flatMap_append];rfl⟩
theorem rec_catT:{h:Nat}→{a b:BT α h}→(x:α)→Sh mn mx h a→kbP h (catT a x b)=⟨(kbP h a).cnt+((kbP h b).cnt+1),its a++x::its b,match (kbP h a).kids,(kbP h b).kids with | some u,some v=>some (u++v) | _,_=>none⟩
 | 0,a,b,x,_=>by
  show (⟨((a.2++x::b.2).length:Nat),a.2++x::b.2,none⟩:NodeR α)=⟨(a.2.length:Int)+((b.2.length:Int)+1),a.2++x::b.2,none⟩
  congr 1
  simp
 | h+1,a,b,x,hs=>by
  show (⟨((toL (h+1) (catT a x b)).length:Nat),a.2.1++x::b.2.1,some ((a.2.2++b.2.2).map fun c=>some (rid c))⟩:NodeR α)=⟨((toL (h+1) a).length:Int)+(((toL (h+1) b).length:Int)+1),a.2.1++x::b.2.1,some ((a.2.2.map fun c=>some (rid c))++(b.2.2.map fun c=>some (rid c)))⟩
  rw [toL_catT x hs,zv]
  congr 1
  simp
theorem kgJ {β:Type} {l:List β} {y:β} (h:l[0]?=some y):l=y::l.drop 1:=by
 match l,h with
 | z::l,h =>
  obtain rfl:z=y:=by simpa using h
  rfl
theorem kgK {β:Type} {l:List β} {z:β} (h:l[l.length - 1]?=some z):l=l.take (l.length - 1)++[z]∧l.drop (l.length - 1)=[z]:=by
 obtain ⟨h1,h2⟩:=zG.1 h
 have e:l.drop (l.length - 1)=[z]:=by
  rw [List.drop_eq_getElem_cons h1,h2,List.drop_eq_nil_of_le (by omega)]
 exact ⟨by rw [←e,zw],e⟩
theorem toL_lft:{h:Nat}→{a b:BT α h}→(x:α)→{y:α}→Sh mn mx h a→Sh mn mx h b→(its b)[0]?=some y→toL h (lftA a x b)++y::toL h (lftB b)=toL h a++x::toL h b
 | 0,a,b,x,y,_,_,h=>by
  show (a.2++[x])++y::b.2.drop 1=a.2++x::b.2
  have:=kgJ (l:=b.2) h
  rw [zu,zx,←this]
 | h+1,a,b,x,y,ha,hb,hy=>by
  have e1:=kgJ (l:=b.2.1) hy
  obtain ⟨c,hc⟩:∃c,b.2.2[0]?=some c:=⟨_,zH (by have:=hb.2.1;omega)⟩
  have e2:=kgJ (l:=b.2.2) hc
  show kcM (a.2.1++[x]) ((a.2.2++b.2.2.take 1).map (toL h))++y::kcM (b.2.1.drop 1) ((b.2.2.drop 1).map (toL h))=kcM a.2.1 (a.2.2.map (toL h))++x::kcM b.2.1 (b.2.2.map (toL h))
  have e3:b.2.2.take 1=[c]:=by rw [e2];rfl
  have e4:kcM b.2.1 (b.2.2.map (toL h))=toL h c++y::kcM (b.2.1.drop 1) ((b.2.2.drop 1).map (toL h)):=by
   conv=>lhs;rw [e1,e2]
   rfl
  rw [e3,e4,zv,kgV _ _ _ _ _ (by rw [zU];exact ha.2.1)]
  simp [kgM]
theorem toL_rgt:{h:Nat}→{a b:BT α h}→(x:α)→{z:α}→Sh mn mx h a→Sh mn mx h b→(its a)[(its a).length - 1]?=some z→toL h (rgtA a)++z::toL h (rgtB a x b)=toL h a++x::toL h b
 | 0,a,b,x,z,_,_,h=>by
  show a.2.take (a.2.length - 1)++z::(x::b.2)=a.2++x::b.2
  have:=(kgK (l:=a.2) h).1
  conv=>rhs;rw [this]
  simp
 | h+1,a,b,x,z,ha,hb,hz=>by
  have e1:=(kgK (l:=a.2.1) hz).1
  obtain ⟨c,hc⟩:∃c,a.2.2[a.2.2.length - 1]?=some c:=⟨_,zH (by have:=ha.2.1;omega)⟩
  obtain ⟨e2,e3⟩:=kgK (l:=a.2.2) hc
  have hl:=ha.2.1
  have hz1:=(zG.1 hz).1
  have hz2:a.2.1.length - 1 < a.2.1.length:=hz1
  show kcM (a.2.1.take (a.2.1.length - 1)) ((a.2.2.take (a.2.2.length - 1)).map (toL h))++z::kcM (x::b.2.1) ((a.2.2.drop (a.2.2.length - 1)++b.2.2).map (toL h))=kcM a.2.1 (a.2.2.map (toL h))++x::kcM b.2.1 (b.2.2.map (toL h))
  rw [e3]
  have e4:kcM a.2.1 (a.2.2.map (toL h))=kcM (a.2.1.take (a.2.1.length - 1)) ((a.2.2.take (a.2.2.length - 1)).map (toL h))++z::toL h c:=by
   conv=>lhs;rw [e1,e2]
   rw [zv,kgV _ _ _ _ _ (by simp;omega)]
   simp [kgM]
  rw [e4]
  simp [kcM]
theorem its_lftA:{h:Nat}→(a b:BT α h)→(x:α)→its (lftA a x b)=its a++[x]
 | 0,_,_,_=>rfl
 | _+1,_,_,_=>rfl
theorem its_lftB:{h:Nat}→(b:BT α h)→its (lftB b)=(its b).drop 1
 | 0,_=>rfl
 | _+1,_=>rfl
theorem its_rgtA:{h:Nat}→(a:BT α h)→its (rgtA a)=(its a).take ((its a).length - 1)
 | 0,_=>rfl
 | _+1,_=>rfl
theorem its_rgtB:{h:Nat}→(a b:BT α h)→(x:α)→its (rgtB a x b)=x::its b
 | 0,_,_,_=>rfl
 | _+1,_,_,_=>rfl
theorem rid_lftA:{h:Nat}→(a b:BT α h)→(x:α)→rid (lftA a x b)=rid a
 | 0,_,_,_=>rfl
 | _+1,_,_,_=>rfl
theorem rid_lftB:{h:Nat}→(b:BT α h)→rid (lftB b)=rid b
 | 0,_=>rfl
 | _+1,_=>rfl
theorem rid_rgtA:{h:Nat}→(a:BT α h)→rid (rgtA a)=rid a
 | 0,_=>rfl
 | _+1,_=>rfl
theorem rid_rgtB:{h:Nat}→(a b:BT α h)→(x:α)→rid (rgtB a x b)=rid b
 | 0,_,_,_=>rfl
 | _+1,_,_,_=>rfl
theorem sh_lft:{h:Nat}→{a b:BT α h}→(x:α)→Sh mn mx h a→Sh mn mx h b→(its a).length < mx→0 < (its b).length→Sh mn mx h (lftA a x b)∧Sh mn mx h (lftB b)
 | 0,a,b,x,ha,hb,h1,h2=>by
  have h1':a.2.length < mx:=h1
  have hb':b.2.length≤mx:=hb
  refine ⟨?_,?_⟩
  ·show (a.2++[x]).length≤mx
   simp;omega
  ·show (b.2.drop 1).length≤mx
   simp;omega
 | h+1,a,b,x,ha,hb,h1,h2=>by
  have h1':a.2.1.length < mx:=h1
  have h2':0 < b.2.1.length:=h2
  obtain ⟨a1,a2,a3⟩:=ha
  obtain ⟨b1,b2,b3⟩:=hb
  refine ⟨⟨?_,?_,fun c hc=>?_⟩,?_,?_,fun c hc=>b3 c (List.mem_of_mem_drop hc)⟩
  ·show (a.2.1++[x]).length≤mx
   simp;omega
  ·show (a.2.2++b.2.2.take 1).length=(a.2.1++[x]).length+1
   simp;omega
  ·rcases zO.1 hc with hc | hc
   ·exact a3 c hc
   ·exact b3 c (List.mem_of_mem_take hc)
  ·show (b.2.1.drop 1).length≤mx
   simp;omega
  ·show (b.2.2.drop 1).length=(b.2.1.drop 1).length+1
   simp;omega
theorem sh_rgt:{h:Nat}→{a b:BT α h}→(x:α)→Sh mn mx h a→Sh mn mx h b→(its b).length < mx→0 < (its a).length→Sh mn mx h (rgtA a)∧Sh mn mx h (rgtB a x b)
 | 0,a,b,x,ha,hb,h1,h2=>by
  have h1':b.2.length < mx:=h1
  have ha':a.2.length≤mx:=ha
  refine ⟨?_,?_⟩
  ·show (a.2.take (a.2.length - 1)).length≤mx
   simp;omega
  ·show (x::b.2).length≤mx
   simp;omega
 | h+1,a,b,x,ha,hb,h1,h2=>by
  have h1':b.2.1.length < mx:=h1
  have h2':0 < a.2.1.length:=h2
  obtain ⟨a1,a2,a3⟩:=ha
  obtain ⟨b1,b2,b3⟩:=hb
  refine ⟨⟨?_,?_,fun c hc=>a3 c (List.mem_of_mem_take hc)⟩,?_,?_,fun c hc=>?_⟩
  ·show (a.2.1.take (a.2.1.length - 1)).length≤mx
   simp;omega
  ·show (a.2.2.take (a.2.2.length - 1)).length=(a.2.1.take (a.2.1.length - 1)).length+1
   simp;omega
  ·show (x::b.2.1).length≤mx
   simp;omega
  ·show (a.2.2.drop (a.2.2.length - 1)++b.2.2).length=(x::b.2.1).length+1
   simp;omega
  ·rcases zO.1 hc with hc | hc
   ·exact a3 c (List.mem_of_mem_drop hc)
   ·exact b3 c hc
theorem ids_lft:{h:Nat}→(a b:BT α h)→(x:α)→(ids h (lftA a x b)++ids h (lftB b)).Perm (ids h a++ids h b)
 | 0,_,_,_=>List.Perm.refl _
 | h+1,a,b,x=>by
  show (a.1::(a.2.2++b.2.2.take 1).flatMap (ids h)++b.1::(b.2.2.drop 1).flatMap (ids h)).Perm (a.1::a.2.2.flatMap (ids h)++b.1::b.2.2.flatMap (ids h))
  have e:b.2.2.flatMap (ids h)=(b.2.2.take 1).flatMap (ids h)++(b.2.2.drop 1).flatMap (ids h):=by rw [←List.flatMap_append,zw]
  rw [e,List.flatMap_append,List.cons_append,List.cons_append,zu]
  refine List.Perm.cons _ (List.Perm.append_left _ ?_)
  rw [←zx,←zu,←zx (l:=(b.2.2.take 1).flatMap (ids h)++_),←zu]
  exact List.Perm.append_right _ List.perm_append_comm
theorem ids_rgt:{h:Nat}→(a b:BT α h)→(x:α)→(ids h (rgtA a)++ids h (rgtB a x b)).Perm (ids h a++ids h b)
 | 0,_,_,_=>List.Perm.refl _
 | h+1,a,b,x=>by
  show (a.1::(a.2.2.take (a.2.2.length - 1)).flatMap (ids h)++b.1::(a.2.2.drop (a.2.2.length - 1)++b.2.2).flatMap (ids h)).Perm (a.1::a.2.2.flatMap (ids h)++b.1::b.2.2.flatMap (ids h))
  have e:a.2.2.flatMap (ids h)=(a.2.2.take (a.2.2.length - 1)).flatMap (ids h)++(a.2.2.drop (a.2.2.length - 1)).flatMap (ids h):=by rw [←List.flatMap_append,zw]
  rw [e,List.flatMap_append,List.cons_append,List.cons_append,zu]
  refine List.Perm.cons _ (List.Perm.append_left _ ?_)
  rw [←zx,←zu,←zx (l:=b.2.2.flatMap (ids h)),←zu]
  exact List.Perm.append_right _ List.perm_append_comm
end
section
variable {α:Type}
variable {h:Nat} {L R:List (BT α h)} {X Y:List α} {A B:BT α h} {n:Nat} {x:α}
theorem toL_two {mn mx:Nat} (hL:L.length=X.length) (hR:R.length=Y.length) :
  toL (h+1) ((n,X++x::Y,L++A::B::R):BT α (h+1))=pre X (L.map (toL h))++(toL h A++x::toL h B)++post Y (R.map (toL h)):=by
 show kcM (X++x::Y) ((L++A::B::R).map (toL h))=_
 have e:(L++A::B::R).map (toL h)=(L.map (toL h)++[toL h A])++(toL h B::R.map (toL h)):=by simp
 rw [e,kgV _ _ _ _ _ (by simp [hL]),inter_eq _ _ _ (by simp [hR])]
 have e2:kcM X (L.map (toL h)++[toL h A])=pre X (L.map (toL h))++toL h A:=by
  rw [kdX L.length X _ (toL h A) (by simp [hL]) (by simp),hL,List.take_of_length_le (zi _),List.drop_eq_nil_of_le (zi _)]
  rw [List.take_append_of_le_length (by simp [hL]),List.take_of_length_le (by simp [hL]),List.drop_eq_nil_of_le (by simp [hL])]
  simp [post]
 rw [e2]
 simp
theorem toL_one {A:BT α h} (hL:L.length=X.length) (hR:R.length=Y.length) :
  toL (h+1) ((n,X++Y,L++A::R):BT α (h+1))=pre X (L.map (toL h))++toL h A++post Y (R.map (toL h)):=by
 show kcM (X++Y) ((L++A::R).map (toL h))=_
 rw [kdX L.length (X++Y) _ (toL h A) (by simp [hL,hR];omega) (by simp)]
 have h1:(X++Y).take L.length=X:=by rw [hL];simp
 have h2:(X++Y).drop L.length=Y:=by rw [hL];simp
 rw [h1,h2,zv,List.map_cons]
 congr 2
 ·rw [List.take_append_of_le_length (by simp),List.take_of_length_le (by simp)]
 ·rw [List.drop_append,List.drop_eq_nil_of_le (by simp)]
  simp
theorem toL_join {mn mx:Nat} (hL:L.length=X.length) (hR:R.length=Y.length) (hA:Sh mn mx h A) :
  toL (h+1) ((n,X++Y,L++catT A x B::R):BT α (h+1))=toL (h+1) ((n,X++x::Y,L++A::B::R):BT α (h+1)):=by
 rw [toL_one hL hR,toL_two (mn:=mn) (mx:=mx) hL hR,toL_catT x hA]
theorem toL_lend {mn mx:Nat} {x y:α} {A B A' B':BT α h} (hL:L.length=X.length) (hR:R.length=Y.length) (e:toL h A'++y::toL h B'=toL h A++x::toL h B) :
  toL (h+1) ((n,X++y::Y,L++A'::B'::R):BT α (h+1))=toL (h+1) ((n,X++x::Y,L++A::B::R):BT α (h+1)):=by
 rw [toL_two (mn:=mn) (mx:=mx) hL hR,toL_two (mn:=mn) (mx:=mx) hL hR,e]
theorem ids_two {X:List α}:ids (h+1) ((n,X,L++A::B::R):BT α (h+1))=n::(L.flatMap (ids h)++((ids h A++ids h B)++R.flatMap (ids h))):=by
 show n::(L++A::B::R).flatMap (ids h)=_
 simp
theorem ids_lend {A B A' B':BT α h} (e:(ids h A'++ids h B').Perm (ids h A++ids h B)) :
  (ids (h+1) ((n,X,L++A'::B'::R):BT α (h+1))).Perm (ids (h+1) ((n,Y,L++A::B::R):BT α (h+1))):=by
 rw [ids_two,ids_two]
 exact ((e.append_right _).append_left _).cons _
theorem ids_join :
  (ids (h+1) ((n,X,L++catT A x B::R):BT α (h+1))).Sublist (ids (h+1) ((n,Y,L++A::B::R):BT α (h+1))):=by
 rw [ids_two]
 show (n::(L++catT A x B::R).flatMap (ids h)).Sublist _
 rw [List.flatMap_append,List.flatMap_cons,(ids_catT A B x).2]
 have e:ids h B=rid B::(ids h B).tail:=(ids_catT A B x).1
 refine ((List.Sublist.append_right (List.Sublist.append_left ?_ _) _).append_left _).cons_cons _
 conv=>rhs;rw [e]
 exact List.sublist_cons_self _ _
theorem kids_keep {H H':Nat→Option (NodeR α)} {X:List α} (hT:IsT H (h+1) ((n,X,L++A::B::R):BT α (h+1))) (hd:(ids (h+1) ((n,X,L++A::B::R):BT α (h+1))).Nodup)
  (hr:∀m,m≠n→m≠rid A→m≠rid B→H' m=H m) :
  (∀c∈L,IsT H' h c)∧(∀c∈R,IsT H' h c)∧(∀{h':Nat} (e:h=h'+1),∀c,(c∈(e▸A:BT α (h'+1)).2.2∨c∈(e▸B:BT α (h'+1)).2.2)→IsT H' h' c):=by
 rw [ids_two] at hd
 obtain ⟨d1,d2⟩:=List.nodup_cons.1 hd
 obtain ⟨d3,d4,d5⟩:=zzd.1 d2
 obtain ⟨d6,d7,d8⟩:=zzd.1 d4
 obtain ⟨d9,d10,d11⟩:=zzd.1 d6
 have mA:rid A∈ids h A:=kcV A
 have mB:rid B∈ids h B:=kcV B
 refine ⟨fun c hc=>?_,fun c hc=>?_,?_⟩
 ·refine (hT.2 c (zN _ hc)).congr fun a ha=>hr a ?_ ?_ ?_
  ·rintro rfl;exact d1 (zN _ (zzb.2 ⟨c,hc,ha⟩))
  ·exact d5 a (zzb.2 ⟨c,hc,ha⟩) _ (zN _ (zN _ mA))
  ·exact d5 a (zzb.2 ⟨c,hc,ha⟩) _ (zN _ (zM _ mB))
 ·refine (hT.2 c (zM _ (zQ _ (zQ _ hc)))).congr fun a ha=>hr a ?_ ?_ ?_
  ·rintro rfl;exact d1 (zM _ (zM _ (zzb.2 ⟨c,hc,ha⟩)))
  ·exact fun e=>d8 _ (zN _ mA) a (zzb.2 ⟨c,hc,ha⟩) e.symm
  ·exact fun e=>d8 _ (zM _ mB) a (zzb.2 ⟨c,hc,ha⟩) e.symm
 ·rintro h' rfl c hc
  rcases hc with hc | hc
  ·have hA:IsT H (h'+1) A:=hT.2 A (zM _ zP)
   refine (hA.2 c hc).congr fun a ha=>hr a ?_ ?_ ?_
   ·rintro rfl;exact d1 (zM _ (zN _ (zN _ (kdF hc ha))))
   ·exact fun e=>kcK d9 hc (e▸ha)
   ·exact d11 a (kdF hc ha) _ mB
  ·have hB:IsT H (h'+1) B:=hT.2 B (zM _ (zQ _ zP))
   refine (hB.2 c hc).congr fun a ha=>hr a ?_ ?_ ?_
   ·rintro rfl;exact d1 (zM _ (zN _ (zM _ (kdF hc ha))))
   ·exact fun e=>d11 _ mA a (kdF hc ha) e.symm
   ·exact fun e=>kcK d10 hc (e▸ha)
theorem isT_of {H:Nat→Option (NodeR α)}:{h:Nat}→{a:BT α h}→H (rid a)=some (kbP h a)→(∀{h':Nat} (e:h=h'+1),∀c,c∈(e▸a:BT α (h'+1)).2.2→IsT H h' c)→IsT H h a
 | 0,_,h1,_=>h1
 | _+1,_,h1,h2=>⟨h1,h2 rfl⟩
end
section
section
variable {α:Type} {Bd Q:α→Prop}
def TopOk (Bd Q:α→Prop) {h:Nat} (I:List α) (K:List (BT α h)):Prop:=∀(a j:Nat) (s:α) (c:BT α h),I[a]?=some s→Bd s→a < j→K[j]?=some c→∀v∈toL h c,¬Q v
def kcG (Bd Q:α→Prop):(h:Nat)→BT α h→Prop
 | 0,_=>True
 | h+1,T=>TopOk Bd Q T.2.1 T.2.2∧∀c∈T.2.2,kcG Bd Q h c
theorem inter_mem:∀(xs:List α) (ts:List (List α)),ts.length=xs.length+1→(∀t∈ts,∀v∈t,v∈kcM xs ts)∧(∀x∈xs,x∈kcM xs ts)
 | [],[t],_=>⟨by simp [kcM],by simp⟩
 | [],[],h=>by simp at h
 | [],_::_::_,h=>by simp at h
 | _::_,[],h=>by simp at h
 | x::xs,t::ts,h=>by
  have ih:=inter_mem xs ts (by simpa using h)
  refine ⟨fun u hu v hv=>?_,fun u hu=>?_⟩
  ·rcases zR.1 hu with rfl | hu
   ·exact zN _ hv
   ·exact zM _ (zQ _ (ih.1 u hu v hv))
  ·rcases zR.1 hu with rfl | hu
   ·exact zM _ zP
   ·exact zM _ (zQ _ (ih.2 u hu))
theorem inter_inv:∀(xs:List α) (ts:List (List α)) (v:α),v∈kcM xs ts→v∈xs∨∃t∈ts,v∈t
 | _,[],v,h=>by simp [kcM] at h
 | [],t::ts,v,h=>by
  rcases zO.1 h with h | h
  ·exact .inr ⟨t,zP,h⟩
  ·rcases inter_inv [] ts v h with h | ⟨u,hu,h⟩
   ·exact .inl h
   ·exact .inr ⟨u,zQ _ hu,h⟩
 | x::xs,t::ts,v,h=>by
  rcases zO.1 h with h | h
  ·exact .inr ⟨t,zP,h⟩
  ·rcases zR.1 h with rfl | h
   ·exact .inl zP
   ·rcases inter_inv xs ts v h with h | ⟨u,hu,h⟩
    ·exact .inl (zQ _ h)
    ·exact .inr ⟨u,zQ _ hu,h⟩
variable {mn mx:Nat} {h:Nat}
theorem kid_toL {T:BT α (h+1)} (hs:Sh mn mx (h+1) T) {c:BT α h} (hc:c∈T.2.2) {v:α} (hv:v∈toL h c):v∈toL (h+1) T :=
 (inter_mem T.2.1 (T.2.2.map (toL h)) (by rw [zU];exact hs.2.1)).1 _ (List.mem_map_of_mem hc) v hv
theorem its_toL:{h:Nat}→{T:BT α h}→Sh mn mx h T→∀s∈its T,s∈toL h T
 | 0,_,_,_,h=>h
 | h+1,T,hs,s,hi=>(inter_mem T.2.1 (T.2.2.map (toL h)) (by rw [zU];exact hs.2.1)).2 s hi
theorem topA {I1 I2:List α} {K1 K2:List (BT α h)} (hK:K1.length=I1.length+1) (h1:TopOk Bd Q I1 K1) (h2:∀c∈K2,∀v∈toL h c,¬Q v):TopOk Bd Q (I1++I2) (K1++K2):=by
 intro a j s c ha hs haj hj
 by_cases hjl:j < K1.length
 ·rw [zn hjl] at hj
  rw [zn (by omega)] at ha
  exact h1 a j s c ha hs haj hj
 ·rw [zo (by omega)] at hj
  exact h2 c (zS hj)
theorem topB {I1 I2:List α} {K1 K2:List (BT α h)} (hK:K1.length=I1.length) (h1:∀s∈I1,¬Bd s) (h2:TopOk Bd Q I2 K2):TopOk Bd Q (I1++I2) (K1++K2):=by
 intro a j s c ha hs haj hj
 by_cases hal:a < I1.length
 ·rw [zn hal] at ha
  exact absurd hs (h1 s (zS ha))
 ·rw [zo (by omega)] at ha hj
  exact h2 (a - I1.length) (j - K1.length) s c ha hs (by omega) hj
variable {I:List α}
theorem topC {C:BT α h} {W:List (BT α h)} (h2:∀c∈W,∀v∈toL h c,¬Q v):TopOk Bd Q I (C::W):=by
 intro a j s c _ _ haj hj
 obtain ⟨j,rfl⟩:∃i,j=i+1:=⟨j - 1,by omega⟩
 rw [List.getElem?_cons_succ] at hj
 exact h2 c (zS hj)
theorem topN {K:List (BT α h)} (h2:∀c∈K,∀v∈toL h c,¬Q v):TopOk Bd Q I K:=fun _ _ _ c _ _ _ hj=>h2 c (zS hj)
theorem topL {K:List (BT α h)} (h1:∀s∈I,¬Bd s):TopOk Bd Q I K:=fun _ _ s _ ha hs _ _=>absurd hs (h1 s (zS ha))
theorem flag_cat1:{h:Nat}→{A B:BT α h}→(x:α)→Sh mn mx h A→Sh mn mx h B→kcG Bd Q h A→kcG Bd Q h B→(∀v∈toL h B,¬Q v)→kcG Bd Q h (catT A x B)
 | 0,_,_,_,_,_,_,_,_=>trivial
 | _+1,A,_,_,hA,hB,fA,fB,q=>⟨topA (I1:=A.2.1) (K1:=A.2.2) hA.2.1 fA.1 (fun _ hc v hv=>q v (kid_toL hB hc hv)),fun c hc=>(zO.1 hc).elim (fA.2 c) (fB.2 c)⟩
theorem flag_cat2:{h:Nat}→{A B:BT α h}→(x:α)→Sh mn mx h A→kcG Bd Q h A→kcG Bd Q h B→(∀v∈toL h A,¬Bd v)→¬Bd x→kcG Bd Q h (catT A x B)
 | 0,_,_,_,_,_,_,_,_=>trivial
 | _+1,A,B,x,hA,fA,fB,q,hx=>by
  refine ⟨?_,fun c hc=>(zO.1 hc).elim (fA.2 c) (fB.2 c)⟩
  show TopOk Bd Q (A.2.1++x::B.2.1) (A.2.2++B.2.2)
  rw [show A.2.1++x::B.2.1=(A.2.1++[x])++B.2.1 by simp]
  refine topB (by rw [hA.2.1];simp) (fun s hs=>?_) fB.1
  rcases zO.1 hs with hs | hs
  ·exact q s (its_toL hA s hs)
  ·rw [zy.1 hs];exact hx
theorem flag_lftA:{h:Nat}→{A B:BT α h}→(x:α)→Sh mn mx h A→Sh mn mx h B→kcG Bd Q h A→kcG Bd Q h B→(∀v∈toL h B,¬Q v)→kcG Bd Q h (lftA A x B)
 | 0,_,_,_,_,_,_,_,_=>trivial
 | _+1,A,_,_,hA,hB,fA,fB,q=>⟨topA (I1:=A.2.1) (K1:=A.2.2) hA.2.1 fA.1 (fun _ hc v hv=>q v (kid_toL hB (List.mem_of_mem_take hc) hv)),fun c hc=>(zO.1 hc).elim (fA.2 c) (fun hc=>fB.2 c (List.mem_of_mem_take hc))⟩
theorem flag_lftB:{h:Nat}→{B:BT α h}→Sh mn mx h B→kcG Bd Q h B→(∀v∈toL h B,¬Q v)→kcG Bd Q h (lftB B)
 | 0,_,_,_,_=>trivial
 | _+1,_,hB,fB,q=>⟨topN (fun _ hc v hv=>q v (kid_toL hB (List.mem_of_mem_drop hc) hv)),fun c hc=>fB.2 c (List.mem_of_mem_drop hc)⟩
theorem lftB_sub:{h:Nat}→{B:BT α h}→Sh mn mx h B→∀v∈toL h (lftB B),v∈toL h B
 | 0,_,_,_,hv=>List.mem_of_mem_drop hv
 | h+1,B,hB,v,hv=>by
  rcases inter_inv _ _ v hv with hi | ⟨t,ht,hv⟩
  ·exact its_toL hB v (List.mem_of_mem_drop hi)
  ·obtain ⟨c,hc,rfl⟩:=zza.1 ht
   exact kid_toL hB (List.mem_of_mem_drop hc) hv
theorem flag_rgtA:{h:Nat}→{A:BT α h}→Sh mn mx h A→kcG Bd Q h A→(∀v∈toL h A,¬Bd v)→kcG Bd Q h (rgtA A)
 | 0,_,_,_,_=>trivial
 | _+1,_,hA,fA,q=>⟨topL (fun s hs=>q s (its_toL hA s (List.mem_of_mem_take hs))),fun c hc=>fA.2 c (List.mem_of_mem_take hc)⟩
theorem flag_rgtB:{h:Nat}→{A B:BT α h}→(x:α)→Sh mn mx h A→kcG Bd Q h A→kcG Bd Q h B→¬Bd x→kcG Bd Q h (rgtB A x B)
 | 0,_,_,_,_,_,_,_=>trivial
 | _+1,A,B,x,hA,fA,fB,hx=>by
  refine ⟨?_,fun c hc=>(zO.1 hc).elim (fun hc=>fA.2 c (List.mem_of_mem_drop hc)) (fB.2 c)⟩
  have hl:=hA.2.1
  exact topB (I1:=[x]) (K1:=A.2.2.drop (A.2.2.length - 1)) (by rw [List.length_drop];simp;omega) (fun s hs=>by rw [zy.1 hs];exact hx) fB.1
def RebFlag (j:Nat) {h:Nat} (T T':BT α (h+1)):Prop:=∀(Bd Q:α→Prop),(∀s∈T.2.1.take j,¬Bd s)→(∀c∈T.2.2.drop (j+1),∀v∈toL h c,¬Q v) →
 (toL (h+1) T).Pairwise (fun a b=>Bd a→Bd b)→kcG Bd Q (h+1) T→kcG Bd Q (h+1) T'
theorem drop_app1 {β:Type} (L:List β) (a:β) (W:List β):(L++a::W).drop (L.length+1)=W:=by
 rw [show L++a::W=(L++[a])++W by simp]
 exact List.drop_left' (by simp)
variable {X Y:List α}
theorem low_left {mn mx:Nat} {h n:Nat} {x:α} {L R:List (BT α h)} {A B:BT α h} (hL:L.length=X.length) (hR:R.length=Y.length)
  (hp:(toL (h+1) ((n,X++x::Y,L++A::B::R):BT α (h+1))).Pairwise (fun a b=>Bd a→Bd b)) (hx:¬Bd x):∀v∈toL h A,¬Bd v:=by
 rw [toL_two (mn:=mn) (mx:=mx) hL hR] at hp
 have h1:=(zZ.1 (zZ.1 hp).1).2.1
 exact fun v hv hb=>hx ((zZ.1 h1).2.2 v hv x zP hb)
theorem join_flag {h n j:Nat} {x:α} {L R:List (BT α h)} {A B:BT α h} (hL:L.length=X.length) (hR:R.length=Y.length) (hA:Sh mn mx h A) (hB:Sh mn mx h B) (hj:j=X.length∨(j=X.length+1∧Y=[])) :
  RebFlag j ((n,X++x::Y,L++A::B::R):BT α (h+1)) ((n,X++Y,L++catT A x B::R):BT α (h+1)):=by
 intro Bd Q h1 h2 hp hf
 obtain ⟨_,hfk⟩:=hf
 change ∀c∈L++A::B::R,kcG Bd Q h c at hfk
 have fA:=hfk A (zM _ zP)
 have fB:=hfk B (zM _ (zQ _ zP))
 have kids:kcG Bd Q h (catT A x B)→∀c∈L++catT A x B::R,kcG Bd Q h c:=by
  intro hc c hm
  rcases zO.1 hm with hm | hm
  ·exact hfk c (zN _ hm)
  ·rcases zR.1 hm with rfl | hm
   ·exact hc
   ·exact hfk c (zM _ (zQ _ (zQ _ hm)))
 rcases hj with rfl | ⟨rfl,rfl⟩
 ·change ∀s∈List.take X.length (X++x::Y),¬Bd s at h1
  change ∀c∈List.drop (X.length+1) (L++A::B::R),∀v∈toL h c,¬Q v at h2
  rw [List.take_left] at h1
  rw [←hL,drop_app1] at h2
  exact ⟨topB hL h1 (topC fun c hc=>h2 c (zQ _ hc)),kids (flag_cat1 x hA hB fA fB (h2 B zP))⟩
 ·change ∀s∈List.take (X.length+1) (X++x::[]),¬Bd s at h1
  rw [List.take_of_length_le (by simp)] at h1
  have hx:¬Bd x:=h1 x (by simp)
  refine ⟨topL fun s hs=>?_,kids (flag_cat2 x hA fA fB (low_left (mn:=mn) (mx:=mx) hL hR hp hx) hx)⟩
  change s∈X++[] at hs
  rw [List.append_nil] at hs
  exact h1 s (zN _ hs)
theorem lft_flag {h n:Nat} {x y:α} {L R:List (BT α h)} {A B:BT α h} (hL:L.length=X.length) (hA:Sh mn mx h A) (hB:Sh mn mx h B) :
  RebFlag L.length ((n,X++x::Y,L++A::B::R):BT α (h+1)) ((n,X++y::Y,L++lftA A x B::lftB B::R):BT α (h+1)):=by
 intro Bd Q h1 h2 hp hf
 obtain ⟨_,hfk⟩:=hf
 change ∀c∈L++A::B::R,kcG Bd Q h c at hfk
 have fA:=hfk A (zM _ zP)
 have fB:=hfk B (zM _ (zQ _ zP))
 change ∀s∈List.take L.length (X++x::Y),¬Bd s at h1
 change ∀c∈List.drop (L.length+1) (L++A::B::R),∀v∈toL h c,¬Q v at h2
 rw [hL,List.take_left] at h1
 rw [drop_app1] at h2
 have qB:=h2 B zP
 refine ⟨topB hL h1 (topC fun c hc=>?_),fun c hm=>?_⟩
 ·rcases zR.1 hc with rfl | hc
  ·exact fun v hv=>qB v (lftB_sub hB v hv)
  ·exact h2 c (zQ _ hc)
 ·change c∈L++lftA A x B::lftB B::R at hm
  rcases zO.1 hm with hm | hm
  ·exact hfk c (zN _ hm)
  ·rcases zR.1 hm with rfl | hm
   ·exact flag_lftA x hA hB fA fB qB
   ·rcases zR.1 hm with rfl | hm
    ·exact flag_lftB hB fB qB
    ·exact hfk c (zM _ (zQ _ (zQ _ hm)))
theorem rgt_flag {h n:Nat} {X:List α} {x z:α} {L:List (BT α h)} {A B:BT α h} (hL:L.length=X.length) (hA:Sh mn mx h A) (hz:z∈its A) :
  RebFlag (X++x::[]).length ((n,X++x::[],L++A::B::[]):BT α (h+1)) ((n,X++z::[],L++rgtA A::rgtB A x B::[]):BT α (h+1)):=by
 intro Bd Q h1 h2 hp hf
 obtain ⟨_,hfk⟩:=hf
 change ∀c∈L++A::B::[],kcG Bd Q h c at hfk
 have fA:=hfk A (zM _ zP)
 have fB:=hfk B (zM _ (zQ _ zP))
 change ∀s∈List.take (X++x::[]).length (X++x::[]),¬Bd s at h1
 rw [List.take_length] at h1
 have hx:¬Bd x:=h1 x (by simp)
 have lA:=low_left (mn:=mn) (mx:=mx) hL (by rfl) hp hx
 refine ⟨topL fun s hs=>?_,fun c hm=>?_⟩
 ·change s∈X++z::[] at hs
  rcases zO.1 hs with hs | hs
  ·exact h1 s (zN _ hs)
  ·rw [zy.1 hs]
   exact lA z (its_toL hA z hz)
 ·change c∈L++rgtA A::rgtB A x B::[] at hm
  rcases zO.1 hm with hm | hm
  ·exact hfk c (zN _ hm)
  ·rcases zR.1 hm with rfl | hm
   ·exact flag_rgtA hA fA lA
   ·rw [zy.1 hm]
    exact flag_rgtB x hA fA fB hx
end
end
section
variable {α:Type}
structure RebOut (mn mx:Nat) (H H':Nat→Option (NodeR α)) (h j:Nat) (T T':BT α (h+1)):Prop where
 isT:IsT H' (h+1) T'
 rid':rid T'=rid T
 nd:(ids (h+1) T').Nodup
 sub:∀a∈ids (h+1) T',a∈ids (h+1) T
 sh:Sh mn mx (h+1) T'
 len:(its T).length≤(its T').length+1
 list:toL (h+1) T'=toL (h+1) T
 rest:∀a,a∉ids (h+1) T→H' a=H a
 flag:RebFlag j T T'
variable {H H':Nat→Option (NodeR α)} {n:Nat}
theorem rest_of {h:Nat} {X:List α} {L R:List (BT α h)} {A B:BT α h} (hr:∀m,m≠n→m≠rid A→m≠rid B→H' m=H m) (a:Nat) (ha:a∉ids (h+1) ((n,X,L++A::B::R):BT α (h+1))):H' a=H a:=by
 rw [ids_two] at ha
 refine hr a ?_ ?_ ?_
 ·rintro rfl;exact ha zP
 ·rintro rfl;exact ha (zQ _ (zM _ (zN _ (zN _ (kcV A)))))
 ·rintro rfl;exact ha (zQ _ (zM _ (zN _ (zM _ (kcV B)))))
variable {h h':Nat} {A B:BT α h} {x:α}
theorem catT_kids (e:h=h'+1) (c:BT α h') (hc:c∈(e▸catT A x B:BT α (h'+1)).2.2):c∈(e▸A:BT α (h'+1)).2.2∨c∈(e▸B:BT α (h'+1)).2.2:=by
 subst e
 exact zO.1 hc
theorem lft_kids (e:h=h'+1) (c:BT α h') (hc:c∈(e▸lftA A x B:BT α (h'+1)).2.2∨c∈(e▸lftB B:BT α (h'+1)).2.2):c∈(e▸A:BT α (h'+1)).2.2∨c∈(e▸B:BT α (h'+1)).2.2:=by
 subst e
 rcases hc with hc | hc
 ·rcases zO.1 hc with hc | hc
  ·exact .inl hc
  ·exact .inr (List.mem_of_mem_take hc)
 ·exact .inr (List.mem_of_mem_drop hc)
theorem rgt_kids (e:h=h'+1) (c:BT α h') (hc:c∈(e▸rgtA A:BT α (h'+1)).2.2∨c∈(e▸rgtB A x B:BT α (h'+1)).2.2):c∈(e▸A:BT α (h'+1)).2.2∨c∈(e▸B:BT α (h'+1)).2.2:=by
 subst e
 rcases hc with hc | hc
 ·exact .inl (List.mem_of_mem_take hc)
 ·rcases zO.1 hc with hc | hc
  ·exact .inl (List.mem_of_mem_drop hc)
  ·exact .inr hc
theorem join_out {mn mx j:Nat} {h:Nat} {X Y:List α} {L R:List (BT α h)} {A B:BT α h} (hL:L.length=X.length) (hR:R.length=Y.length)
  (hT:IsT H (h+1) ((n,X++x::Y,L++A::B::R):BT α (h+1))) (hd:(ids (h+1) ((n,X++x::Y,L++A::B::R):BT α (h+1))).Nodup)
  (hA:Sh mn mx h A) (hB:Sh mn mx h B) (hs:∀c,(c∈L∨c∈R)→mn≤(its c).length∧Sh mn mx h c) (hx:(X++x::Y).length≤mx) (hsum:(its A).length+(its B).length < mx) (hmn:mn≤(its A).length+(its B).length+1)
  (hj:j=X.length∨(j=X.length+1∧Y=[])) (hN:H' n=some (kbP (h+1) ((n,X++Y,L++catT A x B::R):BT α (h+1)))) (hA':H' (rid A)=some (kbP h (catT A x B))) (hr:∀m,m≠n→m≠rid A→m≠rid B→H' m=H m) :
  RebOut mn mx H H' h j ((n,X++x::Y,L++A::B::R):BT α (h+1)) ((n,X++Y,L++catT A x B::R):BT α (h+1)):=by
 obtain ⟨k1,k2,k3⟩:=kids_keep hT hd hr
 have hsub:=ids_join (h:=h) (n:=n) (X:=X++Y) (Y:=X++x::Y) (x:=x) (L:=L) (R:=R) (A:=A) (B:=B)
 refine ⟨⟨hN,fun c hc=>?_⟩,rfl,hd.sublist hsub,fun a ha=>hsub.subset ha,⟨?_,?_,fun c hc=>?_⟩,?_,toL_join hL hR hA,fun a ha=>rest_of hr a ha,join_flag hL hR hA hB hj⟩
 ·rcases zO.1 hc with hc | hc
  ·exact k1 c hc
  ·rcases zR.1 hc with rfl | hc
   ·exact isT_of (by rw [rid_catT];exact hA') fun e c hc=>k3 e c (catT_kids e c hc)
   ·exact k2 c hc
 ·show (X++Y).length≤mx
  simp at hx ⊢;omega
 ·show (L++catT A x B::R).length=(X++Y).length+1
  simp;omega
 ·rcases zO.1 hc with hc | hc
  ·exact hs c (.inl hc)
  ·rcases zR.1 hc with rfl | hc
   ·refine ⟨?_,sh_catT x hA hB hsum⟩
    rw [its_catT];simp;omega
   ·exact hs c (.inr hc)
 ·show (X++x::Y).length≤(X++Y).length+1
  simp;omega
theorem lend_out {mn mx j:Nat} {h:Nat} {X Y:List α} {x y:α} {L R:List (BT α h)} {A B A' B':BT α h} (hL:L.length=X.length) (hR:R.length=Y.length)
  (hT:IsT H (h+1) ((n,X++x::Y,L++A::B::R):BT α (h+1))) (hd:(ids (h+1) ((n,X++x::Y,L++A::B::R):BT α (h+1))).Nodup)
  (hA:Sh mn mx h A') (hB:Sh mn mx h B') (hs:∀c,(c∈L∨c∈R)→mn≤(its c).length∧Sh mn mx h c) (hx:(X++x::Y).length≤mx) (hla:mn≤(its A').length) (hlb:mn≤(its B').length)
  (hra:rid A'=rid A) (hrb:rid B'=rid B) (hp:(ids h A'++ids h B').Perm (ids h A++ids h B)) (hl:toL h A'++y::toL h B'=toL h A++x::toL h B)
  (hk:∀{h':Nat} (e:h=h'+1),∀c,(c∈(e▸A':BT α (h'+1)).2.2∨c∈(e▸B':BT α (h'+1)).2.2)→(c∈(e▸A:BT α (h'+1)).2.2∨c∈(e▸B:BT α (h'+1)).2.2))
  (hflag:RebFlag j ((n,X++x::Y,L++A::B::R):BT α (h+1)) ((n,X++y::Y,L++A'::B'::R):BT α (h+1))) (hN:H' n=some (kbP (h+1) ((n,X++y::Y,L++A'::B'::R):BT α (h+1)))) (hA':H' (rid A)=some (kbP h A')) (hB':H' (rid B)=some (kbP h B')) (hr:∀m,m≠n→m≠rid A→m≠rid B→H' m=H m) :
  RebOut mn mx H H' h j ((n,X++x::Y,L++A::B::R):BT α (h+1)) ((n,X++y::Y,L++A'::B'::R):BT α (h+1)):=by
 obtain ⟨k1,k2,k3⟩:=kids_keep hT hd hr
 have hperm:=ids_lend (h:=h) (n:=n) (X:=X++y::Y) (Y:=X++x::Y) (L:=L) (R:=R) hp
 refine ⟨⟨hN,fun c hc=>?_⟩,rfl,hperm.nodup_iff.2 hd,fun a ha=>hperm.mem_iff.1 ha,⟨?_,?_,fun c hc=>?_⟩,?_,toL_lend (mn:=mn) (mx:=mx) hL hR hl,fun a ha=>rest_of hr a ha,hflag⟩
 ·rcases zO.1 hc with hc | hc
  ·exact k1 c hc
  ·rcases zR.1 hc with rfl | hc
   ·exact isT_of (by rw [hra];exact hA') fun e c hc=>k3 e c (hk e c (.inl hc))
   ·rcases zR.1 hc with rfl | hc
    ·exact isT_of (by rw [hrb];exact hB') fun e c hc=>k3 e c (hk e c (.inr hc))
    ·exact k2 c hc
 ·show (X++y::Y).length≤mx
  simp at hx ⊢;omega
 ·show (L++A'::B'::R).length=(X++y::Y).length+1
  simp;omega
 ·rcases zO.1 hc with hc | hc
  ·exact hs c (.inl hc)
  ·rcases zR.1 hc with rfl | hc
   ·exact ⟨hla,hA⟩
   ·rcases zR.1 hc with rfl | hc
    ·exact ⟨hlb,hB⟩
    ·exact hs c (.inr hc)
 ·show (X++x::Y).length≤(X++y::Y).length+1
  simp
theorem two_at {h:Nat} {T:BT α (h+1)} {i:Nat} {A B:BT α h} (hl:T.2.2.length=T.2.1.length+1) (hA:T.2.2[i]?=some A) (hB:T.2.2[i+1]?=some B) (hx:T.2.1[i]?=some x) :
  T=(T.1,T.2.1.take i++x::T.2.1.drop (i+1),T.2.2.take i++A::B::T.2.2.drop (i+2))∧(T.2.2.take i).length=(T.2.1.take i).length∧(T.2.2.drop (i+2)).length=(T.2.1.drop (i+1)).length:=by
 obtain ⟨n,xs,ts⟩:=T
 simp only at hl hA hB hx ⊢
 obtain ⟨a1,rfl⟩:=zG.1 hA
 obtain ⟨b1,rfl⟩:=zG.1 hB
 obtain ⟨x1,rfl⟩:=zG.1 hx
 refine ⟨?_,by simp;omega,by simp;omega⟩
 rw [←List.drop_eq_getElem_cons x1,zw,←List.drop_eq_getElem_cons b1,←List.drop_eq_getElem_cons a1,zw]
end
section
section
variable {α:Type}
def delL (lt:α→α→Bool) (x:α):List α→List α
 | []=>[]
 | y::l=>if lt y x then y::delL lt x l else if lt x y then y::l else l
variable {lt:α→α→Bool} {x:α}
theorem delL_pre:∀{A B:List α},(∀a∈A,lt a x=true)→delL lt x (A++B)=A++delL lt x B
 | [],_,_=>rfl
 | a::A,B,h=>by
  rw [List.cons_append,delL,if_pos (h a zP),delL_pre (fun b hb=>h b (zQ _ hb))];rfl
theorem delL_post (s:Swo lt):∀{B C:List α},(∀c∈C,lt x c=true)→delL lt x (B++C)=delL lt x B++C
 | [],[],_=>rfl
 | [],c::C,h=>by
  have:=h c zP
  simp [delL,this,s.asymm _ _ this]
 | b::B,C,h=>by
  rw [List.cons_append,delL,delL]
  split
  ·rw [delL_post s h];rfl
  ·split<;>rfl
theorem delL_mid (s:Swo lt) {A B C:List α} (hA:∀a∈A,lt a x=true) (hC:∀c∈C,lt x c=true):delL lt x (A++B++C)=A++delL lt x B++C:=by
 rw [zu,delL_pre hA,delL_post s hC,zu]
theorem delL_hit {x y:α} {P S:List α} (hP:∀a∈P,lt a x=true) (h1:lt y x=false) (h2:lt x y=false):delL lt x (P++y::S)=P++S:=by
 rw [delL_pre hP];simp [delL,h1,h2]
theorem delL_sub:∀l:List α,(delL lt x l).Sublist l
 | []=>List.Sublist.refl _
 | y::l=>by
  rw [delL]
  split
  ·exact (delL_sub l).cons_cons y
  ·split
   ·exact List.Sublist.refl _
   ·exact List.sublist_cons_self y l
theorem delL_none:∀{l:List α},fndL lt x l=none→delL lt x l=l
 | [],_=>rfl
 | y::l,h=>by
  rw [fndL] at h
  rw [delL]
  split at h
  ·rw [if_pos (by assumption),delL_none h]
  ·split at h
   ·rw [if_neg (by assumption),if_pos (by assumption)]
   ·cases h
theorem delL_len:∀{l:List α} {y:α},fndL lt x l=some y→(delL lt x l).length+1=l.length
 | [],_,h=>by simp [fndL] at h
 | z::l,y,h=>by
  rw [fndL] at h
  rw [delL]
  split at h
  ·rw [if_pos (by assumption)]
   simp only [List.length_cons,delL_len h]
  ·split at h
   ·cases h
   ·rw [if_neg (by assumption),if_neg (by assumption)];rfl
def Gone (lt:α→α→Bool) (m:Option α) (l l':List α) (o:Option α):Prop :=
 match m with
 | some x=>o=fndL lt x l∧l'=delL lt x l
 | none=>∃y,o=some y∧l=l'++[y]
theorem Gone.len {m:Option α} {l l':List α} {y:α} (h:Gone lt m l l' (some y)):l'.length+1=l.length:=by
 match m,h with
 | some x,h=>rw [h.2];exact delL_len h.1.symm
 | none,⟨_,_,h⟩=>rw [h];simp
variable {o:Option α}
theorem Gone.sub {m:Option α} {l l':List α} (h:Gone lt m l l' o):l'.Sublist l:=by
 match m,h with
 | some x,h=>rw [h.2];exact delL_sub l
 | none,⟨_,_,h⟩=>rw [h];exact List.sublist_append_left _ _
theorem Gone.mid (s:Swo lt) {A B B' C:List α} (hA:∀a∈A,lt a x=true) (hC:∀c∈C,lt x c=true) (h:Gone lt (some x) B B' o):Gone lt (some x) (A++B++C) (A++B'++C) o :=
 ⟨by rw [fndL_mid s hA hC];exact h.1,by rw [delL_mid s hA hC,h.2]⟩
theorem Gone.last {A B B':List α} (h:Gone lt none B B' o):Gone lt none (A++B) (A++B') o:=by
 obtain ⟨y,h1,h2⟩:=h
 exact ⟨y,h1,by rw [h2,zu]⟩
theorem Gone.hit {x y z:α} {A B B' C:List α} (hA:∀a∈A++B,lt a x=true) (h1:lt y x=false) (h2:lt x y=false) (h:Gone lt none B B' (some z)):Gone lt (some x) (A++B++y::C) (A++B'++z::C) (some y):=by
 obtain ⟨z',e,h⟩:=h
 obtain rfl:=Iq e
 refine ⟨(fndL_hit hA h1 h2).symm,?_⟩
 rw [delL_hit hA h1 h2,h];simp
structure DelIn (mn mx:Nat) (H H':Nat→Option (NodeR α)) (h:Nat) (T T':BT α h):Prop where
 isT:IsT H' h T'
 rid':rid T'=rid T
 nd:(ids h T').Nodup
 sub:∀a∈ids h T',a∈ids h T
 sh:Sh mn mx h T'
 len:(its T).length≤(its T').length+1
 rest:∀a,a∉ids h T→H' a=H a
variable {mn mx:Nat} {h:Nat}
theorem DelIn.same {H:Nat→Option (NodeR α)} {T:BT α h} (hT:IsT H h T) (hd:(ids h T).Nodup) (hs:Sh mn mx h T):DelIn mn mx H H h T T :=
 ⟨hT,rfl,hd,fun _ h=>h,hs,Nat.le_succ _,fun _ _=>rfl⟩
structure Cut1 (mn mx:Nat) (H H':Nat→Option (NodeR α)) (h:Nat) (T T1:BT α (h+1)) (i:Nat) (c':BT α h):Prop where
 isT:IsT H' (h+1) T1
 rid':T1.1=T.1
 nd:(ids (h+1) T1).Nodup
 sub:∀a∈ids (h+1) T1,a∈ids (h+1) T
 its':T1.2.1.length=T.2.1.length
 kids':T1.2.2.length=T1.2.1.length+1
 sh:∀c∈T1.2.2,Sh mn mx h c
 others:∀j d,T1.2.2[j]?=some d→j≠i→mn≤(its d).length
 kid:T1.2.2[i]?=some c'
 rest:∀a,a∉ids (h+1) T→H' a=H a
def cutK {h:Nat} (T:BT α (h+1)) (xs:List α) (i:Nat) (c':BT α h):BT α (h+1):=(T.1,xs,T.2.2.set i c')
variable {i:Nat}
theorem toL_cutK {T:BT α (h+1)} {c c':BT α h} {xs:List α} (hs:Sh mn mx (h+1) T) (hc:T.2.2[i]?=some c) (hx:xs.length=T.2.1.length) :
  toL (h+1) (cutK T xs i c')=pre (xs.take i) ((T.2.2.map (toL h)).take i)++toL h c'++post (xs.drop i) ((T.2.2.map (toL h)).drop (i+1)):=by
 obtain ⟨hi,_⟩:=zG.1 hc
 show kcM xs ((T.2.2.set i c').map (toL h))=_
 rw [kdX i xs ((T.2.2.set i c').map (toL h)) (toL h c') (by simp [hs.2.1,hx]) (by simp [hi])]
 have e1:((T.2.2.set i c').map (toL h)).take i=(T.2.2.map (toL h)).take i:=by rw [List.map_set,List.take_set_of_le (zi _)]
 have e2:((T.2.2.set i c').map (toL h)).drop (i+1)=(T.2.2.map (toL h)).drop (i+1):=by rw [List.map_set,List.drop_set_of_lt (Nat.lt_succ_self _)]
 rw [e1,e2]
theorem cut1_of {H H1:Nat→Option (NodeR α)} {T:BT α (h+1)} {c c':BT α h} {xs:List α} (hT:IsT H (h+1) T) (hd:(ids (h+1) T).Nodup) (hs:Sh mn mx (h+1) T) (hc:T.2.2[i]?=some c) (hi:DelIn mn mx H H1 h c c') (hx:xs.length=T.2.1.length) :
  Cut1 mn mx H (upd H1 (rid T) ⟨((toL (h+1) (cutK T xs i c')).length:Nat),xs,(kbP (h+1) T).kids⟩) h T (cutK T xs i c') i c':=by
 have hcm:c∈T.2.2:=zS hc
 obtain ⟨hil,_⟩:=zG.1 hc
 have hroot:rid T∉ids h c:=kcK hd hcm
 have hB:∃B,∀a∈ids (h+1) T,a < B:=by
  clear hT hd hs hroot
  generalize ids (h+1) T=l
  induction l with
  | nil=>exact ⟨0,by simp⟩
  | cons a l ih =>
   obtain ⟨B,hB⟩:=ih
   refine ⟨max B (a+1),fun b hb=>?_⟩
   rcases zR.1 hb with rfl | hb
   ·omega
   ·have:=hB b hb;omega
 obtain ⟨B,hB⟩:=hB
 obtain ⟨n1,n2⟩:=ids_setKid (c':=c') hc hd hB (fun a ha=>.inl (hi.sub a ha)) hi.nd
 have n3:∀a∈ids (h+1) (setKid T i c'),a∈ids (h+1) T:=by
  intro a ha
  have e:ids (h+1) (setKid T i c')=T.1::(T.2.2.set i c').flatMap (ids h):=rfl
  rw [e] at ha
  rcases zR.1 ha with rfl | ha
  ·exact zP
  ·obtain ⟨d,hd1,hd2⟩:=zzb.1 ha
   rcases kdK hc hd1 with rfl | hd1
   ·exact kdF hcm (hi.sub a hd2)
   ·exact kdF (kid_mem hd1) hd2
 have hkids:(T.2.2.set i c').map (fun c=>some (rid c))=T.2.2.map fun c=>some (rid c):=by
  rw [List.map_set,hi.rid']
  exact set_same (by simp [hc])
 have hoff:∀a,a≠rid T→upd H1 (rid T) (⟨((toL (h+1) (cutK T xs i c')).length:Nat),xs,(kbP (h+1) T).kids⟩:NodeR α) a=H1 a:=fun a ha=>kcP _ _ ha
 refine ⟨⟨?_,fun d hd2=>?_⟩,rfl,n1,n3,hx,?_,fun d hd2=>?_,fun j d hj hji=>?_,?_,fun a ha=>?_⟩
 ·refine (kbX _ _ _).trans ?_
  show _=some (⟨((toL (h+1) (cutK T xs i c')).length:Nat),xs,some ((T.2.2.set i c').map fun c=>some (rid c))⟩:NodeR α)
  rw [hkids];rfl
 ·change d∈T.2.2.set i c' at hd2
  rcases kdK hc hd2 with rfl | hd2
  ·exact hi.isT.congr fun a ha=>hoff a fun e=>hroot (e▸hi.sub a ha)
  ·have hdm:=kid_mem hd2
   refine (hT.2 d hdm).congr fun a ha=>?_
   rw [hoff a fun e=>kcK hd hdm (e▸ha)]
   exact hi.rest a (kid_apart hc hd hd2 ha)
 ·show (T.2.2.set i c').length=xs.length+1
  rw [List.length_set,hx];exact hs.2.1
 ·change d∈T.2.2.set i c' at hd2
  rcases kdK hc hd2 with rfl | hd2
  ·exact hi.sh
  ·exact (hs.2.2 d (kid_mem hd2)).2
 ·change (T.2.2.set i c')[j]?=some d at hj
  rw [List.getElem?_set_ne (Ne.symm hji)] at hj
  exact (hs.2.2 d (zS hj)).1
 ·show (T.2.2.set i c')[i]?=some c'
  simp [hil]
 ·rw [hoff a fun e=>ha (e▸kcV T)]
  exact hi.rest a fun hm=>ha (kdF hcm hm)
theorem Cut1.fine {H H':Nat→Option (NodeR α)} {T T1:BT α (h+1)} {c':BT α h} (hs:Sh mn mx (h+1) T) (hq:Cut1 mn mx H H' h T T1 i c') (hm:mn≤(its c').length):DelIn mn mx H H' (h+1) T T1:=by
 refine ⟨hq.isT,hq.rid',hq.nd,hq.sub,⟨?_,hq.kids',fun d hd=>⟨?_,hq.sh d hd⟩⟩,?_,hq.rest⟩
 ·rw [hq.its'];exact hs.1
 ·obtain ⟨j,hj⟩:=List.mem_iff_getElem?.1 hd
  by_cases hji:j=i
  ·subst hji
   rw [hq.kid] at hj
   obtain rfl:=Iq hj
   exact hm
  ·exact hq.others j d hj hji
 ·show T.2.1.length≤T1.2.1.length+1
  rw [hq.its'];omega
theorem Cut1.reb {H H2 H':Nat→Option (NodeR α)} {T T1 T':BT α (h+1)} {c':BT α h} (hq:Cut1 mn mx H H2 h T T1 i c') (hr:RebOut mn mx H2 H' h i T1 T'):DelIn mn mx H H' (h+1) T T':=by
 refine ⟨hr.isT,hr.rid'.trans hq.rid',hr.nd,fun a ha=>hq.sub a (hr.sub a ha),hr.sh,?_,fun a ha=>?_⟩
 ·have h1:=hr.len
  have h2:(its T1).length=(its T).length:=hq.its'
  omega
 ·rw [hr.rest a fun hm=>ha (hq.sub a hm)]
  exact hq.rest a ha
theorem delIn_leaf {H:Nat→Option (NodeR α)} {T:BT α 0} (hd:(ids 0 T).Nodup) (hs:Sh mn mx 0 T) (hi:i < T.2.length) :
  DelIn mn mx H (upd H (rid T) ⟨((T.2.take i++T.2.drop (i+1)).length:Nat),T.2.take i++T.2.drop (i+1),none⟩) 0 T ((T.1,T.2.take i++T.2.drop (i+1)):BT α 0):=by
 have hl:(T.2.take i++T.2.drop (i+1)).length+1=T.2.length:=by simp;omega
 have hs':T.2.length≤mx:=hs
 refine ⟨kbX _ _ _,rfl,hd,fun _ h=>h,?_,?_,fun a ha=>kcP _ _ fun e=>ha (e▸kcV T)⟩
 ·show (T.2.take i++T.2.drop (i+1)).length≤mx
  omega
 ·show T.2.length≤(T.2.take i++T.2.drop (i+1)).length+1
  omega
end
end
section
open Go.RowKit
variable {P:Program} {α:Type} {p:Par α} {w0 w:World} {n:Nat} {r0 r:NodeR α} {l0 l:Lay}
theorem downLen {β:Type} (xs:List β) (i:Nat) (hi:i < xs.length):(xs.take i++xs.drop (i+1)++xs.drop (i+(xs.drop (i+1)).length)).length=xs.length:=by
 simp;omega
theorem downTake {β:Type} (xs:List β) (i:Nat) (hi:i < xs.length):(xs.take i++xs.drop (i+1)++xs.drop (i+(xs.drop (i+1)).length)).take (xs.length - 1)=xs.take i++xs.drop (i+1) :=
 List.take_left' (by simp;omega)
theorem kdB {β:Type} (ys:List β) (m:Nat) (z:β):(ys.set m z).take m=ys.take m:=by
 rw [List.take_set_of_le (zi _)]
theorem kfQ {ops:Array Oper} {rest:List Oper} {o':Oper} {a:Act} {Q:Exit→Act→World→Prop} (hgd:o'.guard=none) (d s:Operand) (dT sT:TypeId)
  (ho:o'.op=.call { callee:=.builtin .copy,args:=#[d,s],argTypes:=#[dT,sT] }) (elem:TypeId) (hu:P.underlying dT=some (.slice elem)) (hsz:(P.info? elem).map (·.size)=some p.es)
  (h1:Run p w0 n r0 l0 w r l) (i od dl dc sl sc:Nat) (hi:i < r.items.length) (hod:od=l.io+i * p.es)
  (hd:a.eval d=Is (some ⟨l.ib,od,none⟩) dl dc) (sp:Addr) (hs:a.eval s=Is (some sp) sl sc) (hsp:i+1 < r.items.length→sp=⟨l.ib,l.io+(i+1) * p.es,none⟩) (hdl:dl=r.items.length - i) (hsl:sl=r.items.length - (i+1))
  (h:∀w' ys,Run p w0 n r0 l0 w' { r with items:=ys } l→ys.length=r.items.length→ys.take (r.items.length - 1)=r.items.take i++r.items.drop (i+1)→wpList P ops Q rest (a.put o'.dst (goInt (Nat.min sl dl))) w'):wpList P ops Q (o'::rest) a w:=by
 subst hod
 obtain ⟨q0,c,q1,q2,q3⟩:=h1.at_.row
 have hlen:=h1.at_.len
 have m1:r.items.length * p.es≤l.ic * p.es:=Nat.mul_le_mul_right _ hlen
 have m3:i * p.es+(r.items.length - (i+1)) * p.es≤r.items.length * p.es:=by rw [←Nat.add_mul];exact Nat.mul_le_mul_right _ (by omega)
 have hcl:(flat p (r.items.drop (i+1))).length=(r.items.length - (i+1)) * p.es:=by rw [kcW];simp
 have hmin:Nat.min sl dl=r.items.length - (i+1):=by rw [hsl,hdl];exact Nat.min_eq_left (by omega)
 refine kfP hgd d s dT sT ho elem p.es hu hsz l.ib (l.io+i * p.es) dl dc hd _ sl sc hs (flat p (r.items.drop (i+1))) (by rw [hmin,hcl]) ?_ c p.TI q1 ?_ (flat_one p _) ?_
 ·intro j v hj
  have hlt:=(zG.1 hj).1
  have hi2:i+1 < r.items.length:=by
   rw [hcl] at hlt
   rcases Nat.lt_or_ge (i+1) r.items.length with h | h
   ·exact h
   ·rw [show r.items.length - (i+1)=0 by omega] at hlt;simp at hlt
  rw [hsp hi2,kdS]
  have e:(flat p r.items)[(i+1) * p.es+j]?=some v:=by
   rw [←List.getElem?_drop,flat_drop]
   exact hj
  have:=h1.at_.row.cell e
  rw [Nat.add_assoc]
  exact this
 ·rw [hcl];omega
 ·refine h _ _ (h1.putItems i (r.items.drop (i+1)) (by rw [List.length_drop];omega)) (downLen _ _ hi) (downTake _ _ hi)
theorem kgS {ops:Array Oper} {rest:List Oper} {o':Oper} {a:Act} {Q:Exit→Act→World→Prop} (hgd:o'.guard=none) (d s:Operand) (dT sT:TypeId)
  (ho:o'.op=.call { callee:=.builtin .copy,args:=#[d,s],argTypes:=#[dT,sT] }) (elem:TypeId) (hu:P.underlying dT=some (.slice elem)) (hsz:(P.info? elem).map (·.size)=some 1)
  (h1:Run p w0 n r0 l0 w r l) (ks:List (Option Nat)) (hr:r.kids=some ks) (i od dl dc sl sc:Nat) (hi:i < ks.length) (hod:od=l.co+i)
  (hd:a.eval d=Is (some ⟨l.cb,od,none⟩) dl dc) (sp:Addr) (hs:a.eval s=Is (some sp) sl sc) (hsp:i+1 < ks.length→sp=⟨l.cb,l.co+(i+1),none⟩) (hdl:dl=ks.length - i) (hsl:sl=ks.length - (i+1))
  (h:∀w' ys,Run p w0 n r0 l0 w' { r with kids:=some ys } l→ys.length=ks.length→ys.take (ks.length - 1)=ks.take i++ks.drop (i+1)→wpList P ops Q rest (a.put o'.dst (goInt (Nat.min sl dl))) w'):wpList P ops Q (o'::rest) a w:=by
 subst hod
 obtain ⟨k1,k2⟩:=h1.at_.kid _ hr
 obtain ⟨q0,c,q1,q2,q3⟩:=k2
 have hlen:=h1.at_.klen hr
 have hcl:((ks.drop (i+1)).map kidV).length=ks.length - (i+1):=by simp
 have hmin:Nat.min sl dl=ks.length - (i+1):=by rw [hsl,hdl];exact Nat.min_eq_left (by omega)
 refine kfP hgd d s dT sT ho elem 1 hu hsz l.cb (l.co+i) dl dc hd _ sl sc hs ((ks.drop (i+1)).map kidV) (by rw [hmin,hcl,Nat.mul_one]) ?_ c p.TP q1 ?_ ?_ ?_
 ·intro j v hj
  have hlt:=(zG.1 hj).1
  have hi2:i+1 < ks.length:=by rw [hcl] at hlt;omega
  rw [hsp hi2,kdS]
  have e:(ks.map kidV)[(i+1)+j]?=some v:=by
   rw [←List.getElem?_drop,←List.map_drop]
   exact hj
  have:=(h1.at_.kid _ hr).2.cell e
  rw [Nat.add_assoc]
  exact this
 ·rw [hcl];omega
 ·intro u hu
  obtain ⟨x,_,rfl⟩:=zza.1 hu
  cases x<;>rfl
 ·refine h _ _ (h1.putKids hr i (ks.drop (i+1)) (by rw [List.length_drop];omega)) (downLen _ _ hi) (downTake _ _ hi)
end
section
open Go.RowKit
variable {α:Type}
def FamL (p:Par α) (w:World) (F:Nat→Prop) (H:Nat→Option (NodeR α)) (L:Nat→Lay):Prop :=
 (∀n r,H n=some r→NodeAt p w n r (L n)∧∀b,Blk n r (L n) b→F b) ∧
  (∀n m r s,n≠m→H n=some r→H m=some s→∀b o,Ext p n r (L n) b o→¬Ext p m s (L m) b o)∧(∀b,F b→b < w.heap.size)
variable {H:Nat→Option (NodeR α)} {F:Nat→Prop} {p:Par α}
theorem FamL.close {w:World} {L:Nat→Lay} (h:FamL p w F H L) {n:Nat} {r:NodeR α} (hn:H n=some r) {w':World} {r':NodeR α} {l':Lay} (hr:Run p w n r (L n) w' r' l') :
  Fam p w' (grow F w w') (upd H n r')∧Chg (fun b _=>F b) w w':=by
 obtain ⟨a,b,c⟩:=h
 have hc:=hr.chg
 have hn':=hr.at_
 refine ⟨⟨fun m=>if m=n then l' else L m,?_,?_,?_⟩,hc.mono fun x o _ hb=>(a n r hn).2 x hb.blk⟩
 ·intro m s hm
  by_cases hmn:m=n
  ·subst hmn
   rw [kbX] at hm
   obtain rfl:=Iq hm
   simp only [if_true]
   refine ⟨hn',fun x hx=>?_⟩
   rcases hr.blk x hx with h1 | h1
   ·exact .inl ((a m r hn).2 x h1)
   ·exact .inr ⟨h1,hn'.lt hx⟩
  ·rw [kcP _ _ hmn] at hm
   simp only [hmn,if_false]
   refine ⟨(a m s hm).1.chg hc fun x o hx hy=>b m n s r hmn hm hn x o hx hy,fun x hx=>.inl ((a m s hm).2 x hx)⟩
 ·have key:∀m s,m≠n→H m=some s→∀x o,Ext p m s (L m) x o→¬Ext p n r' l' x o:=by
   intro m s hmn hm x o hx hy
   rcases hr.ext x o hy with h1 | h1
   ·exact b m n s r hmn hm hn x o hx h1
   ·have:=c x ((a m s hm).2 x hx.blk);omega
  intro m q s t hmq hm hq x o hx hy
  by_cases h1:m=n
  ·subst h1
   have hqn:q≠m:=fun e=>hmq e.symm
   rw [kbX] at hm
   obtain rfl:=Iq hm
   rw [kcP _ _ hqn] at hq
   simp only [if_true,hqn,if_false] at hx hy
   exact key q t hqn hq x o hy hx
  ·rw [kcP _ _ h1] at hm
   simp only [h1,if_false] at hx
   by_cases h2:q=n
   ·subst h2
    rw [kbX] at hq
    obtain rfl:=Iq hq
    simp only [if_true] at hy
    exact key m s h1 hm x o hx hy
   ·rw [kcP _ _ h2] at hq
    simp only [h2,if_false] at hy
    exact b m q s t hmq hm hq x o hx hy
 ·intro x hx
  rcases hx with hx | hx
  ·exact Nat.lt_of_lt_of_le (c x hx) hc.size
  ·exact hx.2
def Tri (p:Par α) (w:World) (F:Nat→Prop) (H:Nat→Option (NodeR α)) (n a b:Nat) (w':World) (rn ra rb:NodeR α):Prop :=
 ∃F' H',Fam p w' F' H'∧(∀x,F' x→F x∨w.heap.size≤x)∧Chg (fun x _=>F x) w w'∧H' n=some rn∧H' a=some ra∧H' b=some rb∧(∀m,m≠n→m≠a→m≠b→H' m=H m)
variable {rn ra rb:NodeR α} {n a b:Nat}
theorem Tri.start {w w':World} (hF:Fam p w F H) (hc:Chg (fun _ _=>False) w w') (hn:H n=some rn) (ha:H a=some ra) (hb:H b=some rb):Tri p w F H n a b w' rn ra rb :=
 ⟨F,H,hF.chg hc i3,fun _ h=>.inl h,hc.mono (fun _ _ _ h=>h.elim),hn,ha,hb,fun _ _ _ _=>rfl⟩
theorem Tri.still {w w1 w2:World} (h:Tri p w F H n a b w1 rn ra rb) (hc:Chg (fun _ _=>False) w1 w2):Tri p w F H n a b w2 rn ra rb:=by
 obtain ⟨F',H',h1,h2,h3,h4⟩:=h
 exact ⟨F',H',h1.chg hc i3,h2,h3.trans (hc.mono (fun _ _ _ h=>h.elim)),h4⟩
theorem Tri.chg {w w1:World} (h:Tri p w F H n a b w1 rn ra rb):Chg (fun x _=>F x) w w1:=by
 obtain ⟨F',H',h1,h2,h3,h4⟩:=h
 exact h3
structure TriOpen (p:Par α) (w:World) (F:Nat→Prop) (H:Nat→Option (NodeR α)) (n a b:Nat) (w':World) (rn ra rb:NodeR α) (ln la lb:Lay):Prop where
 atN:NodeAt p w' n rn ln
 atA:NodeAt p w' a ra la
 atB:NodeAt p w' b rb lb
 na:∀x o,Ext p n rn ln x o→¬Ext p a ra la x o
 nb:∀x o,Ext p n rn ln x o→¬Ext p b rb lb x o
 ab:∀x o,Ext p a ra la x o→¬Ext p b rb lb x o
 blkN:∀x,Blk n rn ln x→F x∨w.heap.size≤x
 blkA:∀x,Blk a ra la x→F x∨w.heap.size≤x
 blkB:∀x,Blk b rb lb x→F x∨w.heap.size≤x
 doN:∀{w2 r2 l2},Run p w' n rn ln w2 r2 l2→Tri p w F H n a b w2 r2 ra rb
 doA:∀{w2 r2 l2},Run p w' a ra la w2 r2 l2→Tri p w F H n a b w2 rn r2 rb
 doB:∀{w2 r2 l2},Run p w' b rb lb w2 r2 l2→Tri p w F H n a b w2 rn ra r2
theorem Tri.open {w w':World} (h:Tri p w F H n a b w' rn ra rb) (na:n≠a) (nb:n≠b) (ab:a≠b):∃ln la lb,TriOpen p w F H n a b w' rn ra rb ln la lb:=by
 obtain ⟨F',H',⟨L,hL⟩,h2,h3,g1,g2,g3,g4⟩:=h
 have hL':FamL p w' F' H' L:=hL
 obtain ⟨q1,q2,q3⟩:=hL
 have fin:∀{m r w2 r2 l2},H' m=some r→Run p w' m r (L m) w2 r2 l2→Fam p w2 (grow F' w' w2) (upd H' m r2)∧(∀x,grow F' w' w2 x→F x∨w.heap.size≤x)∧Chg (fun x _=>F x) w w2:=by
  intro m r w2 r2 l2 hm hr
  obtain ⟨k1,k2⟩:=hL'.close hm hr
  refine ⟨k1,fun x hx=>?_,h3.trans' k2 i3 (fun x o hx hf=>?_)⟩
  ·rcases hx with hx | hx
   ·exact h2 x hx
   ·exact .inr (Nat.le_trans h3.size hx.1)
  ·rcases h2 x hf with h | h
   ·exact h
   ·omega
 refine ⟨L n,L a,L b,(q1 n rn g1).1,(q1 a ra g2).1,(q1 b rb g3).1,q2 n a rn ra na g1 g2,q2 n b rn rb nb g1 g3,q2 a b ra rb ab g2 g3,fun x hx=>h2 x ((q1 n rn g1).2 x hx),fun x hx=>h2 x ((q1 a ra g2).2 x hx),fun x hx=>h2 x ((q1 b rb g3).2 x hx),?_,?_,?_⟩
 ·intro w2 r2 l2 hr
  obtain ⟨k1,k2,k3⟩:=fin g1 hr
  exact ⟨_,_,k1,k2,k3,kbX _ _ _,by rw [kcP _ _ (Ne.symm na)];exact g2,by rw [kcP _ _ (Ne.symm nb)];exact g3,fun m m1 m2 m3=>by rw [kcP _ _ m1];exact g4 m m1 m2 m3⟩
 ·intro w2 r2 l2 hr
  obtain ⟨k1,k2,k3⟩:=fin g2 hr
  exact ⟨_,_,k1,k2,k3,by rw [kcP _ _ na];exact g1,kbX _ _ _,by rw [kcP _ _ (Ne.symm ab)];exact g3,fun m m1 m2 m3=>by rw [kcP _ _ m2];exact g4 m m1 m2 m3⟩
 ·intro w2 r2 l2 hr
  obtain ⟨k1,k2,k3⟩:=fin g3 hr
  exact ⟨_,_,k1,k2,k3,by rw [kcP _ _ nb];exact g1,by rw [kcP _ _ ab];exact g2,kbX _ _ _,fun m m1 m2 m3=>by rw [kcP _ _ m3];exact g4 m m1 m2 m3⟩
end
section
open Go.RowKit
theorem Tri.other {α:Type} {p:Par α} {w w1:World} {F:Nat→Prop} {H:Nat→Option (NodeR α)} {n a b:Nat} {rn ra rb:NodeR α} (h:Tri p w F H n a b w1 rn ra rb) {c:Nat} {s:NodeR α} (hc:H c=some s) (h1:c≠n) (h2:c≠a) (h3:c≠b):w1.cell? ⟨c,1,none⟩=some (Ii Ij s.cnt):=by
 obtain ⟨F',H',⟨L,hL⟩,_,_,_,_,_,h4⟩:=h
 exact (hL.1 c s (by rw [h4 c h1 h2 h3];exact hc)).1.c1
end
section
variable {α:Type}
theorem take_mid {β:Type} (L R:List β) (a:β):(L++a::R).take (L.length+1)=L++[a]∧(L++a::R).drop (L.length+1)=R∧(L++a::R).take L.length=L:=by
 refine ⟨?_,?_,?_⟩
 ·rw [List.take_append,List.take_of_length_le (by omega)];simp
 ·rw [List.drop_append];simp
 ·rw [List.take_append];simp
variable {mn mx:Nat} {h:Nat}
theorem rec_join {n:Nat} {X Y:List α} {x:α} {L R:List (BT α h)} {A B:BT α h} (hL:L.length=X.length) (hR:R.length=Y.length) (hA:Sh mn mx h A) :
  (⟨(kbP (h+1) ((n,X++x::Y,L++A::B::R):BT α (h+1))).cnt,(X++x::Y).take L.length++(X++x::Y).drop (L.length+1),
   some ((((L++A::B::R).map rid).map some).take (L.length+1)++(((L++A::B::R).map rid).map some).drop (L.length+1+1))⟩:NodeR α)=kbP (h+1) ((n,X++Y,L++catT A x B::R):BT α (h+1)):=by
 show (⟨((toL (h+1) ((n,X++x::Y,L++A::B::R):BT α (h+1))).length:Nat),_,_⟩:NodeR α)=⟨((toL (h+1) ((n,X++Y,L++catT A x B::R):BT α (h+1))).length:Nat),X++Y,some ((L++catT A x B::R).map fun c=>some (rid c))⟩
 rw [toL_join hL hR hA]
 have e1:(X++x::Y).take L.length++(X++x::Y).drop (L.length+1)=X++Y:=by
  rw [hL,(take_mid X Y x).2.2,(take_mid X Y x).2.1]
 have e2:(((L++A::B::R).map rid).map some).take (L.length+1)++(((L++A::B::R).map rid).map some).drop (L.length+1+1)=(L++catT A x B::R).map fun c=>some (rid c):=by
  rw [List.map_map,zv,List.map_cons,List.map_cons]
  have hl:(L.map (some ∘ rid)).length=L.length:=zU _
  have h1:=(take_mid (L.map (some ∘ rid)) ((some ∘ rid) B::R.map (some ∘ rid)) ((some ∘ rid) A)).1
  rw [hl] at h1
  have h2:(L.map (some ∘ rid)++(some ∘ rid) A::(some ∘ rid) B::R.map (some ∘ rid)).drop (L.length+1+1)=R.map (some ∘ rid):=by
   have h3:=(take_mid (L.map (some ∘ rid)++[(some ∘ rid) A]) (R.map (some ∘ rid)) ((some ∘ rid) B)).2.1
   rw [List.length_append,hl] at h3
   simpa using h3
  rw [h1,h2]
  simp [rid_catT]
  try (constructor<;>rfl)
 rw [e1,e2]
theorem rec_lend {mn mx:Nat} {n:Nat} {X Y:List α} {x y:α} {L R:List (BT α h)} {A B A' B':BT α h} (hL:L.length=X.length) (hR:R.length=Y.length) (hl:toL h A'++y::toL h B'=toL h A++x::toL h B) (hra:rid A'=rid A) (hrb:rid B'=rid B) :
  (⟨(kbP (h+1) ((n,X++x::Y,L++A::B::R):BT α (h+1))).cnt,(X++x::Y).set L.length y,some (((L++A::B::R).map rid).map some)⟩:NodeR α)=kbP (h+1) ((n,X++y::Y,L++A'::B'::R):BT α (h+1)):=by
 show (⟨((toL (h+1) ((n,X++x::Y,L++A::B::R):BT α (h+1))).length:Nat),_,_⟩:NodeR α)=⟨((toL (h+1) ((n,X++y::Y,L++A'::B'::R):BT α (h+1))).length:Nat),X++y::Y,some ((L++A'::B'::R).map fun c=>some (rid c))⟩
 rw [toL_lend (mn:=mn) (mx:=mx) hL hR hl]
 have e1:(X++x::Y).set L.length y=X++y::Y:=by rw [hL];simp
 have e2:((L++A::B::R).map rid).map some=(L++A'::B'::R).map fun c=>some (rid c):=by
  rw [List.map_map]
  simp [hra,hrb]
  rfl
 rw [e1,e2]
theorem rec_lftA0 (a b:BT α 0) (x:α):(⟨(kbP 0 a).cnt+1,its a++[x],none⟩:NodeR α)=kbP 0 (lftA a x b):=by
 show (⟨(a.2.length:Int)+1,a.2++[x],none⟩:NodeR α)=⟨((a.2++[x]).length:Nat),a.2++[x],none⟩
 congr 1
 simp
theorem rec_lftB0 (b:BT α 0) (hb:0 < (its b).length):(⟨(kbP 0 b).cnt - 1,(its b).drop 1,none⟩:NodeR α)=kbP 0 (lftB b):=by
 have h:0 < b.2.length:=hb
 show (⟨(b.2.length:Int) - 1,b.2.drop 1,none⟩:NodeR α)=⟨((b.2.drop 1).length:Nat),b.2.drop 1,none⟩
 congr 1
 simp;omega
theorem rec_rgtA0 (a:BT α 0) (ha:0 < (its a).length):(⟨(kbP 0 a).cnt - 1,(its a).take ((its a).length - 1),none⟩:NodeR α)=kbP 0 (rgtA a):=by
 have h:0 < a.2.length:=ha
 show (⟨(a.2.length:Int) - 1,a.2.take (a.2.length - 1),none⟩:NodeR α)=⟨((a.2.take (a.2.length - 1)).length:Nat),a.2.take (a.2.length - 1),none⟩
 congr 1
 simp;omega
theorem rec_rgtB0 (a b:BT α 0) (x:α):(⟨(kbP 0 b).cnt+1,x::its b,none⟩:NodeR α)=kbP 0 (rgtB a x b):=by
 show (⟨(b.2.length:Int)+1,x::b.2,none⟩:NodeR α)=⟨((x::b.2).length:Nat),x::b.2,none⟩
 congr 1
variable {c:BT α h}
theorem toL_first {b:BT α (h+1)} {y:α} (hb:Sh mn mx (h+1) b) (hy:(its b)[0]?=some y) (hc:b.2.2[0]?=some c):toL (h+1) b=toL h c++y::toL (h+1) (lftB b):=by
 have e1:=kgJ (l:=b.2.1) hy
 have e2:=kgJ (l:=b.2.2) hc
 show kcM b.2.1 (b.2.2.map (toL h))=toL h c++y::kcM (b.2.1.drop 1) ((b.2.2.drop 1).map (toL h))
 conv=>lhs;rw [e1,e2]
 rfl
theorem toL_last {a:BT α (h+1)} {z:α} (ha:Sh mn mx (h+1) a) (hz:(its a)[(its a).length - 1]?=some z) (hc:a.2.2[a.2.2.length - 1]?=some c):toL (h+1) a=toL (h+1) (rgtA a)++z::toL h c:=by
 have e1:=(kgK (l:=a.2.1) hz).1
 obtain ⟨e2,e3⟩:=kgK (l:=a.2.2) hc
 have hl:=ha.2.1
 have hz2:a.2.1.length - 1 < a.2.1.length:=(zG.1 hz).1
 show kcM a.2.1 (a.2.2.map (toL h))=kcM (a.2.1.take (a.2.1.length - 1)) ((a.2.2.take (a.2.2.length - 1)).map (toL h))++z::toL h c
 conv=>lhs;rw [e1,e2]
 rw [zv,kgV _ _ _ _ _ (by simp;omega)]
 simp [kgM]
theorem rec_lftA1 {a b:BT α (h+1)} (x:α) (ha:Sh mn mx (h+1) a) (hc:b.2.2[0]?=some c) :
  (⟨(kbP (h+1) a).cnt+1+(kbP h c).cnt,its a++[x],some ((a.2.2.map fun c=>some (rid c))++[some (rid c)])⟩:NodeR α)=kbP (h+1) (lftA a x b):=by
 have e3:b.2.2.take 1=[c]:=by rw [kgJ (l:=b.2.2) hc];rfl
 have e:toL (h+1) (lftA a x b)=toL (h+1) a++x::toL h c:=by
  show kcM (a.2.1++[x]) ((a.2.2++b.2.2.take 1).map (toL h))=kcM a.2.1 (a.2.2.map (toL h))++x::toL h c
  rw [e3,zv,kgV _ _ _ _ _ (by rw [zU];exact ha.2.1)]
  simp [kgM]
 show _=(⟨((toL (h+1) (lftA a x b)).length:Nat),a.2.1++[x],some ((a.2.2++b.2.2.take 1).map fun c=>some (rid c))⟩:NodeR α)
 rw [e,e3,kcH,kcH]
 congr 1
 ·simp;omega
 ·simp
theorem rec_lftB1 {b:BT α (h+1)} {y:α} (hb:Sh mn mx (h+1) b) (hy:(its b)[0]?=some y) (hc:b.2.2[0]?=some c) :
  (⟨(kbP (h+1) b).cnt - 1 - (kbP h c).cnt,(its b).tail,some ((b.2.2.map fun c=>some (rid c)).tail)⟩:NodeR α)=kbP (h+1) (lftB b):=by
 show _=(⟨((toL (h+1) (lftB b)).length:Nat),b.2.1.drop 1,some ((b.2.2.drop 1).map fun c=>some (rid c))⟩:NodeR α)
 rw [kcH,kcH,toL_first hb hy hc]
 congr 1
 ·simp;omega
 ·rw [List.drop_one];rfl
 ·rw [List.drop_one,List.map_tail]
theorem rec_rgtA1 {a:BT α (h+1)} {z:α} (ha:Sh mn mx (h+1) a) (hz:(its a)[(its a).length - 1]?=some z) (hc:a.2.2[a.2.2.length - 1]?=some c) :
  (⟨(kbP (h+1) a).cnt - 1 - (kbP h c).cnt,(its a).take ((its a).length - 1),some ((a.2.2.map fun c=>some (rid c)).take ((a.2.2.map fun c=>some (rid c)).length - 1))⟩:NodeR α)=kbP (h+1) (rgtA a):=by
 show _=(⟨((toL (h+1) (rgtA a)).length:Nat),a.2.1.take (a.2.1.length - 1),some ((a.2.2.take (a.2.2.length - 1)).map fun c=>some (rid c))⟩:NodeR α)
 rw [kcH,kcH,toL_last ha hz hc]
 congr 1
 ·simp;omega
 ·rw [zU,List.map_take]
theorem rec_rgtB1 {a b:BT α (h+1)} (x:α) (hc:a.2.2[a.2.2.length - 1]?=some c) :
  (⟨(kbP (h+1) b).cnt+1+(kbP h c).cnt,x::its b,some (some (rid c)::(b.2.2.map fun c=>some (rid c)))⟩:NodeR α)=kbP (h+1) (rgtB a x b):=by
 have e3:=(kgK (l:=a.2.2) hc).2
 have e:toL (h+1) (rgtB a x b)=toL h c++x::toL (h+1) b:=by
  show kcM (x::b.2.1) ((a.2.2.drop (a.2.2.length - 1)++b.2.2).map (toL h))=_
  rw [e3]
  rfl
 show _=(⟨((toL (h+1) (rgtB a x b)).length:Nat),x::b.2.1,some ((a.2.2.drop (a.2.2.length - 1)++b.2.2).map fun c=>some (rid c))⟩:NodeR α)
 rw [e,e3,kcH,kcH]
 congr 1
 simp;omega
end
end Go.Proofs.Ytnohimhihombmaa
