/- DeleteHint and Delete. -/
import Derived.Test.YtnohimhihombmaaT1
import Derived.Test.YtnohimhihombmaaE1
import Derived.Test.YtnohimhihombmaaR1
import Derived.Test.YtnohimhihombmaaR2
import Derived.Test.YtnohimhihombmaaRj
import Derived.Test.YtnohimhihombmaaRm
namespace Go.Proofs.Ytnohimhihombmaa
set_option linter.unusedSimpArgs false
set_option linter.unusedVariables false
set_option maxRecDepth 100000
set_option maxHeartbeats 40000000
open Value renaming int → Ii, pointer → Ip, slice → Is, tuple → Iu
open IntKind renaming i64 → Ij
open Obj renaming cells → Ic
open Ending renaming returned → Ir
open Option.some renaming inj → Iq
open _root_.Go.Proofs.Try renaming prog → Tp
open List renaming setIfInBounds_toArray → zA, set_cons_zero → zB, set_cons_succ → zC, getElem?_cons_zero → zD, getElem?_cons_succ → zE, getElem?_toArray → zF, getElem?_eq_some_iff → zG, getElem?_eq_getElem → zH, mem_append_right → zM, mem_append_left → zN, mem_cons_self → zP, mem_cons_of_mem → zQ, mem_of_getElem? → zS, length_append → zT, length_map → zU, length_set → zW, pairwise_append → zZ, getElem?_append_right → zo, getElem?_map → zp, getElem?_set_ne → zr, mem_singleton → zy, nodup_cons → zzc, nodup_append → zzd
open Region renaming wanted → zI
open Act renaming put → zJ
open Chg renaming refl → zK, setCell → zd, drew → ze, drewN → zf
open Lib renaming hid → zL
open Nat renaming le_refl → zi, le_trans → zj, lt_of_lt_of_le → zk, le_add_right → zl
section
open Go.RowKit
def RebAny {ord:List Int} (k:Kc ord) (mn mx:Nat) (w:World) (F:Nat→Prop) (H:HN ord) (h j:Nat) (T:BT (It ord) (h+1)) (e:Ending) (w':World):Prop :=
 e=Ir (Iu #[])∧∃H' T',Fam (parM k) w' (grow F w w') H'∧Chg (fun x _=>F x) w w'∧RebOut mn mx H H' h j T T'
theorem Tri.fam {α:Type} {p:Par α} {w w1:World} {F:Nat→Prop} {H:Nat→Option (NodeR α)} {n a b:Nat} {rn ra rb:NodeR α} (h0:Fam p w F H) (h:Tri p w F H n a b w1 rn ra rb) :
  ∃H',Fam p w1 (grow F w w1) H'∧Chg (fun x _=>F x) w w1∧H' n=some rn∧H' a=some ra∧H' b=some rb∧∀m,m≠n→m≠a→m≠b→H' m=H m:=by
 obtain ⟨F',H',hF,h2,h3,g1,g2,g3,g4⟩:=h
 refine ⟨H',hF.mono (fun x hx=>?_) (fun x hx=>?_),h3,g1,g2,g3,g4⟩
 ·rcases h2 x hx with h | h
  ·exact .inl h
  ·exact .inr ⟨h,hF.lt hx⟩
 ·rcases hx with hx | hx
  ·exact zk (h0.lt hx) h3.size
  ·exact hx.2
theorem two_ne {α:Type} {h:Nat} {n:Nat} {X:List α} {L R:List (BT α h)} {A B:BT α h} (hd:(ids (h+1) ((n,X,L++A::B::R):BT α (h+1))).Nodup):n≠rid A∧n≠rid B∧rid A≠rid B:=by
 rw [ids_two] at hd
 obtain ⟨d1,d2⟩:=zzc.1 hd
 obtain ⟨_,d4,_⟩:=zzd.1 d2
 obtain ⟨d6,_,_⟩:=zzd.1 d4
 obtain ⟨_,_,d11⟩:=zzd.1 d6
 refine ⟨?_,?_,d11 _ (kcV A) _ (kcV B)⟩
 ·rintro rfl;exact d1 (zM _ (zN _ (zN _ (kcV A))))
 ·rintro rfl;exact d1 (zM _ (zN _ (zM _ (kcV B))))
theorem rec_root {α:Type} {H:Nat→Option (NodeR α)} {h:Nat} {T:BT α (h+1)} (hT:IsT H (h+1) T):H T.1=some ⟨(kbP (h+1) T).cnt,T.2.1,some ((T.2.2.map rid).map some)⟩:=by
 have:=hT.1
 rw [List.map_map]
 exact this
variable {ord:List Int}
theorem reb_join {k:Kc ord} {mn mx:Nat} {w:World} {F:Nat→Prop} {H:HN ord} {t h:Nat} {n:Nat} {X Y:List (It ord)} {x:It ord} {L R:List (BT (It ord) h)} {A B:BT (It ord) h}
  (hF:Fam (parM k) w F H) (hm:MapAt k mn mx w t) (hout:∀b,MOwn k t b→¬F b) (hL:L.length=X.length) (hR:R.length=Y.length)
  (hT:IsT H (h+1) ((n,X++x::Y,L++A::B::R):BT (It ord) (h+1))) (hd:(ids (h+1) ((n,X++x::Y,L++A::B::R):BT (It ord) (h+1))).Nodup)
  (hA:Sh mn mx h A) (hB:Sh mn mx h B) (hs:∀c,(c∈L∨c∈R)→mn≤(its c).length∧Sh mn mx h c) (hx:(X++x::Y).length≤mx) (hmx:mx≤1000) (hsum:(its A).length+(its B).length < mx) (hmn:mn≤(its A).length+(its B).length+1)
  (hba:(toL h A).length≤100000000000000) (hbb:(toL h B).length≤100000000000000) (j:Nat) (harg:j=L.length∨(j=(X++x::Y).length∧Y=[])) :
  Calls Tp 80 #[Ip (some ⟨t,0,none⟩),Ip (some ⟨n,0,none⟩),Ii Ij (j:Nat)] w (RebAny k mn mx w F H h j ((n,X++x::Y,L++A::B::R):BT (It ord) (h+1))):=by
 obtain ⟨na,nb,ab⟩:=two_ne hd
 have hn:H n=some ⟨(kbP (h+1) ((n,X++x::Y,L++A::B::R):BT (It ord) (h+1))).cnt,X++x::Y,some (((L++A::B::R).map rid).map some)⟩:=rec_root hT
 have mA:A∈L++A::B::R:=zM _ zP
 have mB:B∈L++A::B::R:=zM _ (zQ _ zP)
 have rA:=(hT.2 A mA).root
 have rB:=(hT.2 B mB).root
 have hk:((L++A::B::R).map rid).length=(X++x::Y).length+1:=by simp;omega
 have hia:((L++A::B::R).map rid)[L.length]?=some (rid A):=by simp
 have hib:((L++A::B::R).map rid)[L.length+1]?=some (rid B):=by
  rw [zp,zo (by omega)];simp
 have hxi:(X++x::Y)[L.length]?=some x:=by rw [hL];simp
 have hi:L.length < (X++x::Y).length:=by simp;omega
 have ca:=kcH A
 have cb:=kcH B
 have hj:j=X.length∨(j=X.length+1∧Y=[]):=by
  rcases harg with rfl | ⟨rfl,rfl⟩
  ·exact .inl hL
  ·exact .inr ⟨by simp,rfl⟩
 have fin:∀w' rb,Tri (parM k) w F H n (rid A) (rid B) w' ⟨(kbP (h+1) ((n,X++x::Y,L++A::B::R):BT (It ord) (h+1))).cnt,(X++x::Y).take L.length++(X++x::Y).drop (L.length+1),some ((((L++A::B::R).map rid).map some).take (L.length+1)++(((L++A::B::R).map rid).map some).drop (L.length+1+1))⟩ (kbP h (catT A x B)) rb →
   RebAny k mn mx w F H h j ((n,X++x::Y,L++A::B::R):BT (It ord) (h+1)) (Ir (Iu #[])) w':=by
  intro w' rb hTri
  obtain ⟨H',f1,f2,g1,g2,_,g4⟩:=hTri.fam hF
  rw [rec_join hL hR hA] at g1
  exact ⟨rfl,H',_,f1,f2,join_out hL hR hT hd hA hB hs hx hsum hmn hj g1 g2 g4⟩
 have wa:0≤(kbP h A).cnt∧(kbP h A).cnt≤100000000000000:=by rw [ca];omega
 have wb:0≤(kbP h B).cnt∧(kbP h B).cnt≤100000000000000:=by rw [cb];omega
 have hxl:=zj hx hmx
 match h,A,B with
 | 0,A,B =>
  have e:=rec_catT x (b:=B) hA
  rcases harg with rfl | ⟨rfl,rfl⟩
  ·refine (reb_merge_leaf (mn:=mn) hF hm hout hn hk rA rB hia hib na nb ab hxi hi (.inl rfl) hxl hmx hsum wa wb).mono ?_
   rintro e' w' ⟨rfl,hTri⟩
   refine fin w' (kbP 0 B) ?_
   rw [e]
   exact hTri
  ·refine (reb_merge_leaf (mn:=mn) hF hm hout hn hk rA rB hia hib na nb ab hxi hi (.inr ⟨rfl,by simp [hL]⟩) hxl hmx hsum wa wb).mono ?_
   rintro e' w' ⟨rfl,hTri⟩
   refine fin w' (kbP 0 B) ?_
   rw [e]
   exact hTri
 | h+1,A,B =>
  have e:=rec_catT x (b:=B) hA
  have hkb:(A.2.2.map fun c=>some (rid c)).length+(B.2.2.map fun c=>some (rid c)).length≤2000:=by
   have h1:=hA.2.1
   have h2:=hB.2.1
   have h3:A.2.1.length+B.2.1.length < mx:=hsum
   simp only [zU]
   omega
  rcases harg with rfl | ⟨rfl,rfl⟩
  ·refine (reb_merge_kids (mn:=mn) hF hm hout hn hk rA rB hia hib na nb ab hxi hi (.inl rfl) hxl hmx hsum wa hkb wb).mono ?_
   rintro e' w' ⟨rfl,hTri⟩
   refine fin w' (kbP (h+1) B) ?_
   rw [e]
   exact hTri
  ·refine (reb_merge_kids (mn:=mn) hF hm hout hn hk rA rB hia hib na nb ab hxi hi (.inr ⟨rfl,by simp [hL]⟩) hxl hmx hsum wa hkb wb).mono ?_
   rintro e' w' ⟨rfl,hTri⟩
   refine fin w' (kbP (h+1) B) ?_
   rw [e]
   exact hTri
end
section
open Go.RowKit
theorem kid_ne {α:Type} {h:Nat} {n:Nat} {X:List α} {L R:List (BT α (h+1))} {A B:BT α (h+1)} (hd:(ids (h+1+1) ((n,X,L++A::B::R):BT α (h+1+1))).Nodup) {c:BT α h} (hc:c∈A.2.2∨c∈B.2.2):rid c≠n∧rid c≠rid A∧rid c≠rid B:=by
 rw [ids_two] at hd
 obtain ⟨d1,d2⟩:=zzc.1 hd
 obtain ⟨_,d4,_⟩:=zzd.1 d2
 obtain ⟨d6,_,_⟩:=zzd.1 d4
 obtain ⟨d9,d10,d11⟩:=zzd.1 d6
 have hm:=kcV c
 rcases hc with hc | hc
 ·refine ⟨?_,fun e=>kcK d9 hc (e▸hm),d11 _ (kdF hc hm) _ (kcV B)⟩
  intro e
  exact d1 (zM _ (zN _ (zN _ (e▸kdF hc hm))))
 ·refine ⟨?_,fun e=>d11 _ (kcV A) _ (kdF hc hm) e.symm,fun e=>kcK d10 hc (e▸hm)⟩
  intro e
  exact d1 (zM _ (zN _ (zM _ (e▸kdF hc hm))))
variable {ord:List Int}
theorem reb_left {k:Kc ord} {mn mx:Nat} {w:World} {F:Nat→Prop} {H:HN ord} {t h:Nat} {n:Nat} {X Y:List (It ord)} {x:It ord} {L R:List (BT (It ord) h)} {A B:BT (It ord) h}
  (hF:Fam (parM k) w F H) (hm:MapAt k mn mx w t) (hout:∀b,MOwn k t b→¬F b) (hL:L.length=X.length) (hR:R.length=Y.length)
  (hT:IsT H (h+1) ((n,X++x::Y,L++A::B::R):BT (It ord) (h+1))) (hd:(ids (h+1) ((n,X++x::Y,L++A::B::R):BT (It ord) (h+1))).Nodup)
  (hA:Sh mn mx h A) (hB:Sh mn mx h B) (hs:∀c,(c∈L∨c∈R)→mn≤(its c).length∧Sh mn mx h c) (hx:(X++x::Y).length≤mx) (hmx:mx≤1000) (hsum:mx≤(its A).length+(its B).length) (hlt:(its A).length < (its B).length) (hla:mn≤(its A).length+1) (hlb:mn+1≤(its B).length)
  (hba:(toL h A).length≤100000000000000) (hbb:(toL h B).length≤100000000000000) :
  Calls Tp 80 #[Ip (some ⟨t,0,none⟩),Ip (some ⟨n,0,none⟩),Ii Ij (L.length:Nat)] w (RebAny k mn mx w F H h L.length ((n,X++x::Y,L++A::B::R):BT (It ord) (h+1))):=by
 obtain ⟨na,nb,ab⟩:=two_ne hd
 have hn:H n=some ⟨(kbP (h+1) ((n,X++x::Y,L++A::B::R):BT (It ord) (h+1))).cnt,X++x::Y,some (((L++A::B::R).map rid).map some)⟩:=rec_root hT
 have mA:A∈L++A::B::R:=zM _ zP
 have mB:B∈L++A::B::R:=zM _ (zQ _ zP)
 have rA:=(hT.2 A mA).root
 have rB:=(hT.2 B mB).root
 have hk:((L++A::B::R).map rid).length=(X++x::Y).length+1:=by simp;omega
 have hia:((L++A::B::R).map rid)[L.length]?=some (rid A):=by simp
 have hib:((L++A::B::R).map rid)[L.length+1]?=some (rid B):=by
  rw [zp,zo (by omega)];simp
 have hxi:(X++x::Y)[L.length]?=some x:=by rw [hL];simp
 have hi:L.length < (X++x::Y).length:=by simp;omega
 obtain ⟨y,hy⟩:∃y,(its B)[0]?=some y:=⟨_,zH (by omega)⟩
 have ca:=kcH A
 have cb:=kcH B
 have lA:=hA.len
 have lB:=hB.len
 have hsh:=sh_lft x hA hB (by omega) (by omega)
 have htl:=toL_lft x hA hB hy
 have fin:∀w',Tri (parM k) w F H n (rid A) (rid B) w' ⟨(kbP (h+1) ((n,X++x::Y,L++A::B::R):BT (It ord) (h+1))).cnt,(X++x::Y).set L.length y,some (((L++A::B::R).map rid).map some)⟩ (kbP h (lftA A x B)) (kbP h (lftB B)) →
   RebAny k mn mx w F H h L.length ((n,X++x::Y,L++A::B::R):BT (It ord) (h+1)) (Ir (Iu #[])) w':=by
  intro w' hTri
  obtain ⟨H',f1,f2,g1,g2,g3,g4⟩:=hTri.fam hF
  rw [rec_lend (mn:=mn) (mx:=mx) hL hR htl (rid_lftA A B x) (rid_lftB B)] at g1
  exact ⟨rfl,H',_,f1,f2,lend_out hL hR hT hd hsh.1 hsh.2 hs hx (by rw [its_lftA];simp;omega) (by rw [its_lftB];simp;omega) (rid_lftA A B x) (rid_lftB B) (ids_lft A B x) htl (fun e c hc=>lft_kids e c hc) (lft_flag hL hA hB) g1 g2 g3 g4⟩
 have wa:0≤(kbP h A).cnt∧(kbP h A).cnt≤100000000000000:=by rw [ca];omega
 have wb:0≤(kbP h B).cnt∧(kbP h B).cnt≤100000000000000:=by rw [cb];omega
 have hxl:=zj hx hmx
 match h,A,B with
 | 0,A,B =>
  refine (reb_left_leaf (mn:=mn) hF hm hout hn hk rA rB hia hib na nb ab hxi hy hi hxl hmx hsum hlt (zj lB hmx) wa wb).mono ?_
  rintro e' w' ⟨rfl,hTri⟩
  refine fin w' ?_
  rw [←rec_lftA0,←rec_lftB0 B (by omega)]
  exact hTri
 | h+1,A,B =>
  have h1:=hA.2.1
  have h2:=hB.2.1
  have lA':A.2.1.length≤mx:=lA
  have lB':B.2.1.length≤mx:=lB
  obtain ⟨c,hc⟩:∃c,B.2.2[0]?=some c:=⟨_,zH (by omega)⟩
  have hcm:c∈B.2.2:=zS hc
  obtain ⟨cN,cA,cB⟩:=kid_ne hd (.inr hcm)
  have hcc:=((hT.2 B mB).2 c hcm).root
  have hfst:=toL_first hB hy hc
  have hcs:0≤(kbP h c).cnt∧(kbP h c).cnt≤100000000000000:=by
   rw [kcH]
   rw [hfst] at hbb
   simp only [zT] at hbb
   omega
  refine (reb_left_kids (mn:=mn) hF hm hout hn hk rA rB hia hib na nb ab hxi hy hi hxl hmx hsum hlt (zj lB hmx) wa wb (by rw [zp,hc];rfl) hcc cN cA cB hcs (by simp only [zU];omega) (by simp only [zU];omega)).mono ?_
  rintro e' w' ⟨rfl,hTri⟩
  refine fin w' ?_
  rw [←rec_lftA1 x hA hc,←rec_lftB1 hB hy hc]
  exact hTri
theorem reb_right {k:Kc ord} {mn mx:Nat} {w:World} {F:Nat→Prop} {H:HN ord} {t h:Nat} {n:Nat} {X:List (It ord)} {x:It ord} {L:List (BT (It ord) h)} {A B:BT (It ord) h}
  (hF:Fam (parM k) w F H) (hm:MapAt k mn mx w t) (hout:∀b,MOwn k t b→¬F b) (hL:L.length=X.length)
  (hT:IsT H (h+1) ((n,X++x::[],L++A::B::[]):BT (It ord) (h+1))) (hd:(ids (h+1) ((n,X++x::[],L++A::B::[]):BT (It ord) (h+1))).Nodup)
  (hA:Sh mn mx h A) (hB:Sh mn mx h B) (hs:∀c,(c∈L∨c∈([]:List (BT (It ord) h)))→mn≤(its c).length∧Sh mn mx h c) (hx:(X++x::[]).length≤mx) (hmx:mx≤1000) (hsum:mx≤(its A).length+(its B).length) (hlt:(its B).length < (its A).length) (hla:mn+1≤(its A).length) (hlb:mn≤(its B).length+1)
  (hba:(toL h A).length≤100000000000000) (hbb:(toL h B).length≤100000000000000) :
  Calls Tp 80 #[Ip (some ⟨t,0,none⟩),Ip (some ⟨n,0,none⟩),Ii Ij ((X++x::[]).length:Nat)] w (RebAny k mn mx w F H h (X++x::[]).length ((n,X++x::[],L++A::B::[]):BT (It ord) (h+1))):=by
 obtain ⟨na,nb,ab⟩:=two_ne hd
 have hn:H n=some ⟨(kbP (h+1) ((n,X++x::[],L++A::B::[]):BT (It ord) (h+1))).cnt,X++x::[],some (((L++A::B::[]).map rid).map some)⟩:=rec_root hT
 have mA:A∈L++A::B::[]:=zM _ zP
 have mB:B∈L++A::B::[]:=zM _ (zQ _ zP)
 have rA:=(hT.2 A mA).root
 have rB:=(hT.2 B mB).root
 have hk:((L++A::B::[]).map rid).length=(X++x::[]).length+1:=by simp;omega
 have hia:((L++A::B::[]).map rid)[L.length]?=some (rid A):=by simp
 have hib:((L++A::B::[]).map rid)[L.length+1]?=some (rid B):=by
  rw [zp,zo (by omega)];simp
 have hxi:(X++x::[])[L.length]?=some x:=by rw [hL];simp
 have hi:L.length < (X++x::[]).length:=by simp;omega
 obtain ⟨z,hz⟩:∃z,(its A)[(its A).length - 1]?=some z:=⟨_,zH (by omega)⟩
 have ca:=kcH A
 have cb:=kcH B
 have lA:=hA.len
 have lB:=hB.len
 have hsh:=sh_rgt x hA hB (by omega) (by omega)
 have htl:=toL_rgt x hA hB hz
 have fin:∀w',Tri (parM k) w F H n (rid A) (rid B) w' ⟨(kbP (h+1) ((n,X++x::[],L++A::B::[]):BT (It ord) (h+1))).cnt,(X++x::[]).set L.length z,some (((L++A::B::[]).map rid).map some)⟩ (kbP h (rgtA A)) (kbP h (rgtB A x B)) →
   RebAny k mn mx w F H h (X++x::[]).length ((n,X++x::[],L++A::B::[]):BT (It ord) (h+1)) (Ir (Iu #[])) w':=by
  intro w' hTri
  obtain ⟨H',f1,f2,g1,g2,g3,g4⟩:=hTri.fam hF
  rw [rec_lend (mn:=mn) (mx:=mx) hL rfl htl (rid_rgtA A) (rid_rgtB A B x)] at g1
  exact ⟨rfl,H',_,f1,f2,lend_out hL rfl hT hd hsh.1 hsh.2 hs hx (by rw [its_rgtA];simp;omega) (by rw [its_rgtB];simp;omega) (rid_rgtA A) (rid_rgtB A B x) (ids_rgt A B x) htl (fun e c hc=>rgt_kids e c hc) (rgt_flag hL hA (zS hz)) g1 g2 g3 g4⟩
 have wa:0≤(kbP h A).cnt∧(kbP h A).cnt≤100000000000000:=by rw [ca];omega
 have wb:0≤(kbP h B).cnt∧(kbP h B).cnt≤100000000000000:=by rw [cb];omega
 have hxl:=zj hx hmx
 match h,A,B with
 | 0,A,B =>
  refine (reb_right_leaf (mn:=mn) hF hm hout hn hk rA rB hia hib na nb ab hxi hz hi (by simp [hL]) hxl hmx hsum hlt (zj lA hmx) wa wb).mono ?_
  rintro e' w' ⟨rfl,hTri⟩
  refine fin w' ?_
  rw [←rec_rgtA0 A (by omega),←rec_rgtB0]
  exact hTri
 | h+1,A,B =>
  have h1:=hA.2.1
  have h2:=hB.2.1
  have lA':A.2.1.length≤mx:=lA
  have lB':B.2.1.length≤mx:=lB
  obtain ⟨c,hc⟩:∃c,A.2.2[A.2.2.length - 1]?=some c:=⟨_,zH (by omega)⟩
  have hcm:c∈A.2.2:=zS hc
  obtain ⟨cN,cA,cB⟩:=kid_ne hd (.inl hcm)
  have hcc:=((hT.2 A mA).2 c hcm).root
  have hlst:=toL_last hA hz hc
  have hcs:0≤(kbP h c).cnt∧(kbP h c).cnt≤100000000000000:=by
   rw [kcH]
   rw [hlst] at hba
   simp only [zT,List.length_cons] at hba
   omega
  refine (reb_right_kids (mn:=mn) hF hm hout hn hk rA rB hia hib na nb ab hxi hz hi (by simp [hL]) hxl hmx hsum hlt (zj lA hmx) wa wb (by rw [zU,zp,hc];rfl) hcc cN cA cB hcs (by simp only [zU];omega) (by simp only [zU];omega) (by simp only [zU];omega)).mono ?_
  rintro e' w' ⟨rfl,hTri⟩
  refine fin w' ?_
  rw [←rec_rgtA1 hA hz hc,←rec_rgtB1 x hc]
  exact hTri
end
section
open Go.RowKit
variable {ord:List Int}
theorem reb_any {k:Kc ord} {mn mx:Nat} {w:World} {F:Nat→Prop} {H:HN ord} {t h j:Nat} {T:BT (It ord) (h+1)} {c0:BT (It ord) h}
  (hF:Fam (parM k) w F H) (hm:MapAt k mn mx w t) (hout:∀b,MOwn k t b→¬F b) (hT:IsT H (h+1) T) (hd:(ids (h+1) T).Nodup) (hx1:1≤T.2.1.length) (hx:T.2.1.length≤mx) (hlen:T.2.2.length=T.2.1.length+1)
  (hsh:∀c∈T.2.2,Sh mn mx h c) (hoth:∀i c,T.2.2[i]?=some c→i≠j→mn≤(its c).length) (hj:T.2.2[j]?=some c0) (hdef:(its c0).length+1=mn) (hmn:mn+mn≤mx) (hmx:mx≤1000) (big:(toL (h+1) T).length≤100000000000000) :
  Calls Tp 80 #[Ip (some ⟨t,0,none⟩),Ip (some ⟨T.1,0,none⟩),Ii Ij (j:Nat)] w (RebAny k mn mx w F H h j T):=by
 have hjl:=(zG.1 hj).1
 obtain ⟨i,hi,hij⟩:∃i,i < T.2.1.length∧(i=j∨(i+1=j∧j=T.2.1.length)):=by
  rcases Nat.lt_or_ge j T.2.1.length with h | h
  ·exact ⟨j,h,.inl rfl⟩
  ·exact ⟨j - 1,by omega,.inr ⟨by omega,by omega⟩⟩
 obtain ⟨A,hA⟩:∃A,T.2.2[i]?=some A:=⟨_,zH (by omega)⟩
 obtain ⟨B,hB⟩:∃B,T.2.2[i+1]?=some B:=⟨_,zH (by omega)⟩
 obtain ⟨x,hxi⟩:∃x,T.2.1[i]?=some x:=⟨_,zH hi⟩
 obtain ⟨e,hL,hR⟩:=two_at hlen hA hB hxi
 have sA:=hsh A (zS hA)
 have sB:=hsh B (zS hB)
 have lL:(T.2.2.take i).length=i:=by simp;omega
 have hs:∀c,(c∈T.2.2.take i∨c∈T.2.2.drop (i+2))→mn≤(its c).length∧Sh mn mx h c:=by
  rintro c (hc | hc)
  ·obtain ⟨q,q1,q2⟩:=kfR hc
   exact ⟨hoth q c q2 (by omega),hsh c (zS q2)⟩
  ·obtain ⟨q,q1,q2⟩:=mem_drop_get hc
   exact ⟨hoth q c q2 (by omega),hsh c (zS q2)⟩
 have hxl:(T.2.1.take i++x::T.2.1.drop (i+1)).length=T.2.1.length:=by simp;omega
 have hbig:(toL h A).length≤100000000000000∧(toL h B).length≤100000000000000:=by
  have h1:(toL (h+1) T).length=(toL (h+1) ((T.1,T.2.1.take i++x::T.2.1.drop (i+1),T.2.2.take i++A::B::T.2.2.drop (i+2)):BT (It ord) (h+1))).length:=by rw [←e]
  rw [toL_two (mn:=mn) (mx:=mx) hL hR] at h1
  simp only [zT,List.length_cons] at h1
  omega
 revert hT hd
 generalize hX:T.2.1.take i=X at *
 generalize hY:T.2.1.drop (i+1)=Y at *
 generalize hLL:T.2.2.take i=L at *
 generalize hRR:T.2.2.drop (i+2)=R at *
 generalize hn:T.1=n at *
 rw [e]
 intro hT hd
 rcases hij with rfl | ⟨rfl,hend⟩
 ·obtain rfl:c0=A:=Iq (hj.symm.trans hA)
  have hBm:=hoth (i+1) B hB (by omega)
  rcases Nat.lt_or_ge ((its c0).length+(its B).length) mx with h1 | h1
  ·exact reb_join hF hm hout hL hR hT hd sA sB hs (by omega) hmx h1 (by omega) hbig.1 hbig.2 _ (.inl (by rw [lL]))
  ·have:=reb_left hF hm hout hL hR hT hd sA sB hs (by omega) hmx h1 (by omega) (by omega) (by omega) hbig.1 hbig.2
   rw [lL] at this
   exact this
 ·obtain rfl:c0=B:=Iq (hj.symm.trans hB)
  have hAm:=hoth i A hA (by omega)
  have y0:Y=[]:=by rw [←hY];exact List.drop_eq_nil_of_le (by omega)
  subst y0
  have r0:R=[]:=List.eq_nil_of_length_eq_zero (by simpa using hR)
  subst r0
  rcases Nat.lt_or_ge ((its A).length+(its c0).length) mx with h1 | h1
  ·exact reb_join hF hm hout hL hR hT hd sA sB hs (by omega) hmx h1 (by omega) hbig.1 hbig.2 _ (.inr ⟨by rw [hxl,hend],rfl⟩)
  ·have:=reb_right hF hm hout hL hT hd sA sB hs (by omega) hmx h1 (by omega) (by omega) (by omega) hbig.1 hbig.2
   rw [hxl,←hend] at this
   exact this
end
section
open Go.RowKit
variable {ord:List Int}
def lowB (x:It ord):It ord→Prop:=fun s=>ltM s x=false
def MarkOk {h:Nat} (m:Option (It ord)) (T T':BT (It ord) h):Prop:=∀x,m=some x→∀Q,kcG (lowB x) Q h T→kcG (lowB x) Q h T'
theorem lowB_up (x:It ord) {l:List (It ord)} (hs:Srt ltM l):l.Pairwise (fun a b=>lowB x a→lowB x b):=by
 refine List.Pairwise.imp (fun {a b} hab ha=>?_) hs
 cases hb:ltM b x with
 | false=>exact hb
 | true =>
  have h1:ltM a x=true:=swoM.trans hab hb
  have h2:ltM a x=false:=ha
  rw [h1] at h2;cases h2
theorem flag_low {α:Type} {Bd Q:α→Prop} {mn mx:Nat}:{h:Nat}→{T:BT α h}→Sh mn mx h T→(∀v∈toL h T,¬Bd v)→kcG Bd Q h T
 | 0,_,_,_=>trivial
 | _+1,_,hs,q=>⟨topL fun s hi=>q s (its_toL hs s hi),fun c hc=>flag_low (hs.2.2 c hc).2 fun v hv=>q v (kid_toL hs hc hv)⟩
theorem flag_cutK {x:It ord} {Q:It ord→Prop} {h i:Nat} {T:BT (It ord) (h+1)} {c c':BT (It ord) h} {xs:List (It ord)} (hc:T.2.2[i]?=some c) (hf:kcG (lowB x) Q (h+1) T) (hc':kcG (lowB x) Q h c')
  (hl:∀a s,a≤i→xs[a]?=some s→ltM s x=true∨T.2.1[a]?=some s) (hl':∀a s,a < i→xs[a]?=some s→ltM s x=true) (hr:∀a,i < a→xs[a]?=T.2.1[a]?):kcG (lowB x) Q (h+1) (cutK T xs i c'):=by
 refine ⟨fun a j s d ha hs haj hj=>?_,fun d hd=>?_⟩
 ·change xs[a]?=some s at ha
  change (T.2.2.set i c')[j]?=some d at hj
  have hs':ltM s x=false:=hs
  have hai:¬a < i:=fun h=>by
   have:=hl' a s h ha
   rw [this] at hs';cases hs'
  rw [zr (by omega)] at hj
  have ha2:T.2.1[a]?=some s:=by
   by_cases e:a=i
   ·rcases hl a s (by omega) ha with h | h
    ·rw [h] at hs';cases hs'
    ·exact h
   ·rw [←hr a (by omega)];exact ha
  exact hf.1 a j s d ha2 hs haj hj
 ·change d∈T.2.2.set i c' at hd
  rcases kdK hc hd with rfl | hd
  ·exact hc'
  ·exact hf.2 d (kid_mem hd)
def DelT (mn mx:Nat) (H:HN ord) (h:Nat) (T:BT (It ord) h) (m:Option (It ord)) (H':HN ord) (o:Option (It ord)):Prop :=
 (∃T',DelIn mn mx H H' h T T'∧Gone ltM m (toL h T) (toL h T') o∧MarkOk m T T')∧(o=none→H'=H)
def DelMax (ord:List Int) (h:Nat):Prop:=∀(k:Kc ord) (mn mx t:Nat) (pa:Addr) (w:World) (F:Nat→Prop) (H:HN ord) (T:BT (It ord) h),TreeIn k mn mx w F H t h T→1≤mn→1≤(its T).length →
 w.cell? pa=some (Ip (some ⟨rid T,0,none⟩)) →
 Calls Tp 70 #[Ip (some ⟨t,0,none⟩),Ip (some pa),.bool true,.agg #[Ii Ij 0,Ii Ij 0],Ip none,Ii Ij 0] w (DelPost k F none (DelT mn mx H h T none) w)
def DelKey (ord:List Int) (h:Nat):Prop:=∀(k:Kc ord) (mn mx t d:Nat) (pa:Addr) (x:It ord) (w:World) (F:Nat→Prop) (H:HN ord) (hv:Option Nat) (T:BT (It ord) h),TreeIn k mn mx w F H t h T→1≤mn→1≤(its T).length →
 HintO hv w→(∀b,hv=some b→¬F b)→(∀b,hv=some b→¬MOwn k t b)→d+h≤1000000000000→w.cell? pa=some (Ip (some ⟨rid T,0,none⟩)) →
 Calls Tp 70 #[Ip (some ⟨t,0,none⟩),Ip (some pa),.bool false,aggM x,hintV hv,Ii Ij d] w (DelPost k F hv (DelT mn mx H h T (some x)) w)
variable {F:Nat→Prop} {k:Kc ord}
theorem DelPost.mono {hv:Option Nat} {Z Z2:(HN ord)→Option (It ord)→Prop} {w w':World} {e:Ending} (h:DelPost k F hv Z w e w') (hz:∀H' o,Z H' o→Z2 H' o):DelPost k F hv Z2 w e w':=by
 obtain ⟨H',o,h1,h2,h3,h4,h5⟩:=h
 exact ⟨H',o,h1,h2,h3,h4,hz _ _ h5⟩
theorem upd_upd {α:Type} (H:Nat→Option (NodeR α)) (n:Nat) (r s:NodeR α):upd (upd H n r) n s=upd H n s:=by
 funext m
 by_cases h:m=n
 ·subst h;rw [kbX,kbX]
 ·rw [kcP _ _ h,kcP _ _ h,kcP _ _ h]
variable {H:HN ord} {i:Nat}
theorem leaf_recs {T:BT (It ord) 0} (hi:i < T.2.length) :
  upd H (rid T) ⟨(kbP 0 T).cnt - 1,(kbP 0 T).items.take i++(kbP 0 T).items.drop (i+1),(kbP 0 T).kids⟩=upd H (rid T) ⟨((T.2.take i++T.2.drop (i+1)).length:Nat),T.2.take i++T.2.drop (i+1),none⟩:=by
 congr 1
 show (⟨(T.2.length:Int) - 1,T.2.take i++T.2.drop (i+1),none⟩:NodeR (It ord))=_
 congr 1
 simp only [zT,List.length_take,List.length_drop]
 omega
theorem delMax0:DelMax ord 0:=by
 intro k mn mx t pa w F H T hI hmn h1 hpa
 have hl:T.2.length≤mx:=hI.sh
 have hm:=hI.m1000
 have h1':1≤T.2.length:=h1
 obtain ⟨i,hil⟩:∃i,T.2.length=i+1:=⟨T.2.length - 1,by omega⟩
 have hi:i < T.2.length:=by omega
 obtain ⟨y,hy⟩:∃y,T.2[i]?=some y:=⟨_,zH hi⟩
 refine (delete_leaf_max (r:=kbP 0 T) hI.fam hI.map hI.out hI.isT.root hpa (by show T.2.length≤1000;omega) rfl hy hil (by show (0:Int)≤(T.2.length:Nat)∧((T.2.length:Nat):Int)≤_;omega)).mono fun e w' h=>h.mono ?_
 rintro H' o ⟨rfl,rfl⟩
 rw [leaf_recs hi]
 refine ⟨⟨_,delIn_leaf hI.nd hI.sh hi,⟨y,rfl,?_⟩,fun _ e=>by cases e⟩,fun e=>by cases e⟩
 show T.2=(T.2.take i++T.2.drop (i+1))++[y]
 have e0:T.2.drop (i+1)=[]:=List.drop_eq_nil_of_le (by omega)
 have e:=split_at hy
 rw [e0] at e ⊢
 rw [List.append_nil]
 exact e
theorem delKey0:DelKey ord 0:=by
 intro k mn mx t d pa x w F H hv T hI hmn h1 hh hvF hvt hd hpa
 have hl:T.2.length≤mx:=hI.sh
 have hm:=hI.m1000
 have h1':1≤T.2.length:=h1
 rcases pos_or_hit swoM (x:=x) (its_srt hI.sh hI.srt) with ⟨i,hp⟩ | ⟨i,y,hy⟩
 ·refine (delete_leaf_miss (r:=kbP 0 T) hI.fam hI.map hI.isT.root hpa hI.srt (by show T.2.length≤1000;omega) h1' rfl hp hh hvF hvt (by omega)).mono fun e w' h=>h.mono ?_
  rintro H' o ⟨rfl,rfl⟩
  refine ⟨⟨T,DelIn.same hI.isT hI.nd hI.sh,?_,fun _ _ _ h=>h⟩,fun _=>rfl⟩
  have e2:=(pos_gap swoM (xs:=T.2) hp).2
  exact ⟨e2.symm,(delL_none e2).symm⟩
 ·have hi:=(zG.1 hy.at_).1
  have hi':i < T.2.length:=hi
  refine (delete_leaf_hit (r:=kbP 0 T) hI.fam hI.map hI.out hI.isT.root hpa hI.srt (by show T.2.length≤1000;omega) rfl hy (by show (0:Int)≤(T.2.length:Nat)∧((T.2.length:Nat):Int)≤_;omega) hh hvF hvt (by omega)).mono fun e w' h=>h.mono ?_
  rintro H' o ⟨rfl,rfl⟩
  rw [leaf_recs hi']
  have e:=split_at hy.at_
  have e1:its T=T.2:=rfl
  rw [e1] at e
  have hA:∀a∈T.2.take i,ltM a x=true:=fun a ha=>by
   obtain ⟨j,hj,e⟩:=kfR ha
   exact hy.left j a hj e
  refine ⟨⟨_,delIn_leaf hI.nd hI.sh hi',⟨?_,?_⟩,fun _ _ _ _=>trivial⟩,fun e=>by cases e⟩
  ·show some y=fndL ltM x T.2
   rw [e]
   exact (fndL_hit hA hy.n1 hy.n2).symm
  ·show T.2.take i++T.2.drop (i+1)=delL ltM x T.2
   conv=>rhs;rw [e]
   exact (delL_hit hA hy.n1 hy.n2).symm
variable {mn mx t h:Nat} {T:BT (It ord) (h+1)}
theorem kid_close {w:World} {H H1:HN ord} (hI:TreeIn k mn mx w F H t (h+1) T) (h1:1≤(its T).length) {c c':BT (It ord) h} {xs:List (It ord)} (hc:T.2.2[i]?=some c)
  (hd:DelIn mn mx H H1 h c c') (hx:xs.length=T.2.1.length) (hcnt:(toL (h+1) (cutK T xs i c')).length+1=(toL (h+1) T).length) {m:Option (It ord)} {y:It ord} (hg:Gone ltM m (toL (h+1) T) (toL (h+1) (cutK T xs i c')) (some y))
  (hfl:∀x,m=some x→∀Q,kcG (lowB x) Q (h+1) T→kcG (lowB x) Q (h+1) (cutK T xs i c')∧(∀s∈xs.take i,ltM s x=true)∧(∀d∈T.2.2.drop (i+1),∀v∈toL h d,¬Q v)) :
  (∀rc,H1 (rid c)=some rc→rc=kbP h c') ∧
  (mn≤(its c').length→DelT mn mx H (h+1) T m (upd H1 (rid T) ⟨(kbP (h+1) T).cnt - 1,xs,(kbP (h+1) T).kids⟩) (some y)) ∧
  (∀w1 F1,(its c').length < mn→Fam (parM k) w1 F1 (upd H1 (rid T) ⟨(kbP (h+1) T).cnt - 1,xs,(kbP (h+1) T).kids⟩)→MapAt k mn mx w1 t→(∀b,MOwn k t b→¬F1 b) →
   Calls Tp 80 #[Ip (some ⟨t,0,none⟩),Ip (some ⟨rid T,0,none⟩),Ii Ij i] w1 (RebPost' k F1 (fun H''=>DelT mn mx H (h+1) T m H'' (some y)) w1)):=by
 have hcm:c∈T.2.2:=zS hc
 have q:=cut1_of hI.isT hI.nd hI.sh hc hd hx
 have e:(⟨(kbP (h+1) T).cnt - 1,xs,(kbP (h+1) T).kids⟩:NodeR (It ord))=⟨((toL (h+1) (cutK T xs i c')).length:Nat),xs,(kbP (h+1) T).kids⟩:=by
  congr 1
  rw [kcH];omega
 rw [e]
 refine ⟨fun rc hrc=>?_,fun hm=>⟨⟨_,q.fine hI.sh hm,hg,fun x e Q hf=>(hfl x e Q hf).1⟩,fun e=>by cases e⟩,fun w1 F1 hlt hF1 hM1 hout=>?_⟩
 ·have:=hd.isT.root
  rw [hd.rid',hrc] at this
  exact Iq this
 ·have hcl:=(hI.sh.2.2 c hcm).1
  have hl:=hd.len
  have hxT:T.2.1.length≤mx:=hI.sh.1
  have hbig:=hI.big
  have hmh:=hI.mh
  refine (reb_any (j:=i) (T:=cutK T xs i c') (c0:=c') hF1 hM1 hout q.isT q.nd (by rw [q.its'];exact h1) (by rw [q.its'];exact hxT) q.kids' q.sh q.others q.kid (by omega) (by omega) hI.m1000 (by omega)).mono ?_
  rintro e' w' ⟨rfl,H',T',f1,f2,f3⟩
  refine ⟨rfl,H',f1,f2,⟨T',q.reb f3,by rw [f3.list];exact hg,fun x e Q hf=>?_⟩,fun e=>by cases e⟩
  obtain ⟨g1,g2,g3⟩:=hfl x e Q hf
  refine f3.flag (lowB x) Q (fun s hs hb=>?_) (fun d hd=>?_) (lowB_up x (List.Pairwise.sublist hg.sub hI.srt)) g1
  ·have h1:ltM s x=true:=g2 s hs
   have h2:ltM s x=false:=hb
   rw [h1] at h2;cases h2
  ·change d∈List.drop (i+1) (T.2.2.set i c') at hd
   rw [List.drop_set_of_lt (Nat.lt_succ_self _)] at hd
   exact g3 d hd
theorem TreeIn.at {w w1:World} {T:BT (It ord) h} (hI:TreeIn k mn mx w F H t h T) (hf:Fam (parM k) w1 F H) (hm:MapAt k mn mx w1 t):TreeIn k mn mx w1 F H t h T :=
 ⟨hf,hm,hI.out,hI.isT,hI.nd,hI.sh,hI.srt,hI.big,hI.m3,hI.m1000,hI.mh,hI.mh2⟩
theorem kid_facts {w:World} (hI:TreeIn k mn mx w F H t (h+1) T) {c:BT (It ord) h} (hc:T.2.2[i]?=some c) {m:Option (It ord)} :
  ∀H' o,DelT mn mx H h c m H' o→H' (rid T)=some (kbP (h+1) T)∧∃rc,H' (rid c)=some rc∧rc.items.length≤1000:=by
 rintro H' o ⟨⟨c',hd,hg⟩,_⟩
 have hcm:c∈T.2.2:=zS hc
 have hm:=hI.m1000
 refine ⟨(hd.rest _ (kcK hI.nd hcm)).trans hI.isT.root,kbP h c',?_,?_⟩
 ·rw [←hd.rid'];exact hd.isT.root
 ·rw [kbG]
  have:=hd.sh.len
  omega
theorem kl_get {h:Nat} {T:BT (It ord) (h+1)} {c:BT (It ord) h} (hc:T.2.2[i]?=some c):(T.2.2.map rid)[i]?=some (rid c):=by rw [zp,hc];rfl
theorem recOf_kids' {h:Nat} (T:BT (It ord) (h+1)):(kbP (h+1) T).kids=some ((T.2.2.map rid).map some):=by
 show some (T.2.2.map fun c=>some (rid c))=_
 rw [List.map_map];rfl
theorem delMaxS {h:Nat} (ih:DelMax ord h):DelMax ord (h+1):=by
 intro k mn mx t pa w F H T hI hmn h1 hpa
 have hl:T.2.1.length≤mx:=hI.sh.1
 have hm:=hI.m1000
 have h1':1≤T.2.1.length:=h1
 have hkl:T.2.2.length=T.2.1.length+1:=hI.sh.2.1
 have hbig:=hI.big
 obtain ⟨j,hil⟩:∃j,T.2.1.length=j+1:=⟨T.2.1.length - 1,by omega⟩
 obtain ⟨c,hc⟩:∃c,T.2.2[j+1]?=some c:=⟨_,zH (by omega)⟩
 have hcm:c∈T.2.2:=zS hc
 have hcn:rid c≠rid T:=fun e=>kcK hI.nd hcm (e▸kcV c)
 have hgone:∀c' o,Gone ltM none (toL h c) (toL h c') o→Gone ltM none (toL (h+1) T) (toL (h+1) (cutK T T.2.1 (j+1) c')) o:=by
  intro c' o hg
  rw [kfY hI.sh hc,toL_cutK hI.sh hc rfl]
  have e:T.2.1.drop (j+1)=[]:=List.drop_eq_nil_of_le (by omega)
  rw [e]
  have e2:∀us,post ([]:List (It ord)) us=[]:=fun us=>by cases us<;>rfl
  rw [e2,List.append_nil,List.append_nil]
  exact hg.last
 refine delete_kid_max (r:=kbP (h+1) T) (kl:=T.2.2.map rid) (c:=rid c) (j:=j) (i:=j+1) hI.fam hI.map hI.out hI.isT.root hpa (by show T.2.1.length≤1000;omega) hil rfl (recOf_kids' T) (kl_get hc) hcn (by rw [kcH];omega)
  (DelT mn mx H h c none) (DelT mn mx H (h+1) T none) (fun w1 pa1 hc1 hf1 hm1 hp1=>ih k mn mx t pa1 w1 F H c (hI.kid hc1 hf1 hm1 hc) hmn (zj hmn (hI.sh.2.2 c hcm).1) hp1) (kid_facts hI hc) ?_ ?_ ?_
 ·rintro H' ⟨⟨c',_,⟨y,e,_⟩,_⟩,_⟩
  cases e
 ·rintro H' y rc ⟨⟨c',hd,hg,_⟩,_⟩ hrc hmr
  have hg2:=hgone c' _ hg
  obtain ⟨q1,q2,_⟩:=kid_close hI h1 hc hd rfl hg2.len hg2 (fun _ e=>by cases e)
  have e:=q1 rc hrc
  refine q2 ?_
  rw [e,kbG] at hmr;exact hmr
 ·rintro H' y rc w1 F1 ⟨⟨c',hd,hg,_⟩,_⟩ hrc hmr hF1 hM1 ho1
  have hg2:=hgone c' _ hg
  obtain ⟨q1,_,q3⟩:=kid_close hI h1 hc hd rfl hg2.len hg2 (fun _ e=>by cases e)
  have e:=q1 rc hrc
  rw [e,kbG] at hmr
  exact q3 w1 F1 hmr hF1 hM1 ho1
theorem delMax:∀h,DelMax ord h
 | 0=>delMax0
 | h+1=>delMaxS (delMax h)
theorem delKeyS {h:Nat} (ih:DelKey ord h):DelKey ord (h+1):=by
 intro k mn mx t d pa x w F H hv T hI hmn h1 hh hvF hvt hd hpa
 have hl:T.2.1.length≤mx:=hI.sh.1
 have hm:=hI.m1000
 have h1':1≤T.2.1.length:=h1
 have hkl:T.2.2.length=T.2.1.length+1:=hI.sh.2.1
 have hbig:=hI.big
 have hits:=its_srt hI.sh hI.srt
 have hcnt:0≤(kbP (h+1) T).cnt∧(kbP (h+1) T).cnt≤100000000000000:=by rw [kcH];omega
 have hfch:∀w1,Chg (fun b _=>hv=some b) w w1→Fam (parM k) w1 F H:=fun w1 c=>hI.fam.chg c (fun b _ hb e=>hvF b e hb)
 rcases pos_or_hit swoM (x:=x) hits with ⟨i,hp⟩ | ⟨i,y,hy⟩
 ·have hip:i≤T.2.1.length:=hp.le
  obtain ⟨c,hc⟩:∃c,T.2.2[i]?=some c:=⟨_,zH (by omega)⟩
  have hcm:c∈T.2.2:=zS hc
  have hcn:rid c≠rid T:=fun e=>kcK hI.nd hcm (e▸kcV c)
  obtain ⟨hA,hC⟩:=around swoM hI.sh hc hI.srt hp
  have hgone:∀c' o,Gone ltM (some x) (toL h c) (toL h c') o→Gone ltM (some x) (toL (h+1) T) (toL (h+1) (cutK T T.2.1 i c')) o:=by
   intro c' o hg
   rw [kfY hI.sh hc,toL_cutK hI.sh hc rfl]
   exact hg.mid swoM hA hC
  have hfl:∀c',MarkOk (some x) c c'→∀x',some x=some x'→∀Q,kcG (lowB x') Q (h+1) T→kcG (lowB x') Q (h+1) (cutK T T.2.1 i c')∧(∀s∈T.2.1.take i,ltM s x'=true)∧(∀d∈T.2.2.drop (i+1),∀v∈toL h d,¬Q v):=by
   intro c' hmk x' ex Q hf
   obtain rfl:=Iq ex
   refine ⟨flag_cutK hc hf (hmk x rfl Q (hf.2 c hcm)) (fun _ _ _ h=>.inr h) (fun a s h1 h2=>hp.left a s h1 h2) (fun _ _=>rfl),fun s hs=>?_,fun d hd=>?_⟩
   ·obtain ⟨q,q1,q2⟩:=kfR hs
    exact hp.left q s q1 q2
   ·obtain ⟨q,q1,q2⟩:=mem_drop_get hd
    have hql:=(zG.1 q2).1
    obtain ⟨s,hs⟩:∃s,T.2.1[i]?=some s:=⟨_,zH (by omega)⟩
    exact hf.1 i q s d hs (swoM.asymm _ _ (hp.right i s (zi _) hs)) (by omega) q2
  refine delete_kid (r:=kbP (h+1) T) (kl:=T.2.2.map rid) (c:=rid c) (i:=i) hI.fam hI.map hI.out hI.isT.root hpa hits (by show T.2.1.length≤1000;omega) h1' (recOf_kids' T) (kl_get hc) hcn hp hcnt hh hvF hvt (by omega)
   (DelT mn mx H h c (some x)) (DelT mn mx H (h+1) T (some x)) (fun w1 pa1 hc1 hf1 hm1 hh1 hp1=>?_) (kid_facts hI hc) ?_ ?_ ?_
  ·exact ih k mn mx t (d+1) pa1 x w1 F H hv c ((hI.at hf1 hm1).kid (zK _ _) hf1 hm1 hc) hmn (zj hmn (hI.sh.2.2 c hcm).1) hh1 hvF hvt (by omega) hp1
  ·rintro H' ⟨⟨c',hd2,hg,_⟩,he⟩
   obtain rfl:=he rfl
   refine ⟨⟨T,DelIn.same hI.isT hI.nd hI.sh,?_,fun _ _ _ h=>h⟩,fun _=>rfl⟩
   have e:none=fndL ltM x (toL (h+1) T):=(hgone c' none hg).1
   exact ⟨e,(delL_none e.symm).symm⟩
  ·rintro H' y rc ⟨⟨c',hd2,hg,hmk⟩,_⟩ hrc hmr
   have hg2:=hgone c' _ hg
   obtain ⟨q1,q2,_⟩:=kid_close hI h1 hc hd2 rfl hg2.len hg2 (hfl c' hmk)
   have e:=q1 rc hrc
   refine q2 ?_
   rw [e,kbG] at hmr;exact hmr
  ·rintro H' y rc w1 F1 ⟨⟨c',hd2,hg,hmk⟩,_⟩ hrc hmr hF1 hM1 ho1
   have hg2:=hgone c' _ hg
   obtain ⟨q1,_,q3⟩:=kid_close hI h1 hc hd2 rfl hg2.len hg2 (hfl c' hmk)
   have e:=q1 rc hrc
   rw [e,kbG] at hmr
   exact q3 w1 F1 hmr hF1 hM1 ho1
 ·have hyi:T.2.1[i]?=some y:=hy.at_
  have hip:i < T.2.1.length:=(zG.1 hyi).1
  obtain ⟨c,hc⟩:∃c,T.2.2[i]?=some c:=⟨_,zH (by omega)⟩
  have hcm:c∈T.2.2:=zS hc
  have hcn:rid c≠rid T:=fun e=>kcK hI.nd hcm (e▸kcV c)
  have hgone:∀c' z,Gone ltM none (toL h c) (toL h c') (some z)→Gone ltM (some x) (toL (h+1) T) (toL (h+1) (cutK T (T.2.1.set i z) i c')) (some y):=by
   intro c' z hg
   rw [kfY hI.sh hc,toL_cutK hI.sh hc (by rw [zW])]
   have e1:(T.2.1.set i z).take i=T.2.1.take i:=List.take_set_of_le (zi _)
   have e2:(T.2.1.set i z).drop i=z::T.2.1.drop (i+1):=by
    rw [List.drop_eq_getElem_cons (by rw [zW];exact hip),List.drop_set_of_lt (Nat.lt_succ_self _)]
    simp
   have e3:T.2.1.drop i=y::T.2.1.drop (i+1):=by
    obtain ⟨g1,g2⟩:=zG.1 hyi
    rw [List.drop_eq_getElem_cons g1,g2]
   obtain ⟨u,us,e4⟩:∃u us,(T.2.2.map (toL h)).drop (i+1)=u::us:=by
    have hlt:i+1 < (T.2.2.map (toL h)).length:=by rw [zU];omega
    exact ⟨_,_,List.drop_eq_getElem_cons hlt⟩
   rw [e1,e2,e3,e4]
   have hsrt:=hI.srt
   rw [kfY hI.sh hc,e3,e4] at hsrt
   show Gone ltM (some x) (_++toL h c++y::(u++post (T.2.1.drop (i+1)) us)) (_++toL h c'++z::(u++post (T.2.1.drop (i+1)) us)) (some y)
   refine Gone.hit (fun a ha=>?_) hy.n1 hy.n2 hg
   exact swoM.lt_of_lt_of_nlt ((zZ.1 hsrt).2.2 a ha y zP) hy.n2
  have hlow:∀v∈toL h c,ltM v x=true:=by
   intro v hv
   have hsrt:=hI.srt
   have e3:T.2.1.drop i=y::T.2.1.drop (i+1):=by
    obtain ⟨g1,g2⟩:=zG.1 hyi
    rw [List.drop_eq_getElem_cons g1,g2]
   obtain ⟨u,us,e4⟩:∃u us,(T.2.2.map (toL h)).drop (i+1)=u::us:=by
    have hlt:i+1 < (T.2.2.map (toL h)).length:=by rw [zU];omega
    exact ⟨_,_,List.drop_eq_getElem_cons hlt⟩
   rw [kfY hI.sh hc,e3,e4] at hsrt
   exact swoM.lt_of_lt_of_nlt ((zZ.1 hsrt).2.2 v (zM _ hv) y zP) hy.n2
  have hfl:∀c' z,Sh mn mx h c'→Gone ltM none (toL h c) (toL h c') (some z)→∀x',some x=some x'→∀Q,kcG (lowB x') Q (h+1) T→kcG (lowB x') Q (h+1) (cutK T (T.2.1.set i z) i c')∧(∀s∈(T.2.1.set i z).take i,ltM s x'=true)∧(∀d∈T.2.2.drop (i+1),∀v∈toL h d,¬Q v):=by
   intro c' z hs' hg x' ex Q hf
   obtain rfl:=Iq ex
   obtain ⟨z',ez,eL⟩:=hg
   obtain rfl:=Iq ez
   have hzl:ltM z x=true:=hlow z (by rw [eL];exact zM _ (zy.2 rfl))
   have hnb:∀s,ltM s x=true→¬lowB x s:=fun s h1 h2=>by
    have h3:ltM s x=false:=h2
    rw [h1] at h3;cases h3
   refine ⟨flag_cutK hc hf (flag_low hs' fun v hv=>hnb v (hlow v (by rw [eL];exact zN _ hv))) (fun a s h1 h2=>?_) (fun a s h1 h2=>?_) (fun a h1=>zr (by omega)),fun s hs=>?_,fun d hd=>?_⟩
   ·by_cases e:a=i
    ·subst e
     rw [List.getElem?_set_self hip] at h2
     rw [←Iq h2]
     exact .inl hzl
    ·rw [zr (by omega)] at h2
     exact .inr h2
   ·rw [zr (by omega)] at h2
    exact hy.left a s h1 h2
   ·rw [List.take_set_of_le (zi _)] at hs
    obtain ⟨q,q1,q2⟩:=kfR hs
    exact hy.left q s q1 q2
   ·obtain ⟨q,q1,q2⟩:=mem_drop_get hd
    exact hf.1 i q y d hyi hy.n1 (by omega) q2
  refine delete_kid_hit (r:=kbP (h+1) T) (kl:=T.2.2.map rid) (c:=rid c) (i:=i) hI.fam hI.map hI.out hI.isT.root hpa hits (by show T.2.1.length≤1000;omega) (recOf_kids' T) (kl_get hc) hcn hy hcnt hh hvF hvt (by omega)
   (DelT mn mx H h c none) (DelT mn mx H (h+1) T (some x)) (fun w1 pa1 hc1 hf1 hm1 hp1=>?_) (kid_facts hI hc) ?_ ?_ ?_
  ·exact delMax h k mn mx t pa1 w1 F H c ((hI.at hf1 hm1).kid (zK _ _) hf1 hm1 hc) hmn (zj hmn (hI.sh.2.2 c hcm).1) hp1
  ·rintro H' ⟨⟨c',_,⟨y,e,_⟩,_⟩,_⟩
   cases e
  ·rintro H' z rc ⟨⟨c',hd2,hg,_⟩,_⟩ hrc hmr
   have hg2:=hgone c' _ hg
   obtain ⟨q1,q2,_⟩:=kid_close hI h1 hc hd2 (by rw [zW]) hg2.len hg2 (hfl c' z hd2.sh hg)
   have e:=q1 rc hrc
   rw [upd_upd]
   refine q2 ?_
   rw [e,kbG] at hmr;exact hmr
  ·rintro H' z rc w1 F1 ⟨⟨c',hd2,hg,_⟩,_⟩ hrc hmr hF1 hM1 ho1
   have hg2:=hgone c' _ hg
   obtain ⟨q1,_,q3⟩:=kid_close hI h1 hc hd2 (by rw [zW]) hg2.len hg2 (hfl c' z hd2.sh hg)
   have e:=q1 rc hrc
   rw [e,kbG] at hmr
   rw [upd_upd] at hF1
   exact q3 w1 F1 hmr hF1 hM1 ho1
theorem delKey:∀h,DelKey ord h
 | 0=>delKey0
 | h+1=>delKeyS (delKey h)
end
section
open Go.RowKit
variable {ord:List Int}
def MapAlt (k:Kc ord) (mn mx:Nat) (w:World) (F:Nat→Prop) (H':HN ord) (t h:Nat) (T:BT (It ord) h) (l:List (It ord)) (P:(h:Nat)→BT (It ord) h→Prop):Prop :=
 (l=[]∧MapBlk k mn mx w t none 0)∨∃h',∃T':BT (It ord) h',TreeIn k mn mx w F H' t h' T'∧(∀a∈ids h' T',a∈ids h T)∧MapBlk k mn mx w t (some (rid T')) (toL h' T').length∧toL h' T'=l∧1≤(its T').length∧P h' T'
theorem MapAlt.chgA {k:Kc ord} {A:Nat→Nat→Prop} {mn mx:Nat} {w w':World} {F:Nat→Prop} {H':HN ord} {t h:Nat} {T:BT (It ord) h} {l:List (It ord)} {P:(h:Nat)→BT (It ord) h→Prop} (hm:MapAlt k mn mx w F H' t h T l P) (c:Chg A w w') (h1:∀b o,F b→¬A b o) (h2:∀b o,MOwn k t b→¬A b o):MapAlt k mn mx w' F H' t h T l P:=by
 rcases hm with ⟨g1,g3⟩ | ⟨h',T',g1,g1',g2,g3,g4,g5⟩
 ·exact .inl ⟨g1,g3.chg c h2⟩
 ·exact .inr ⟨h',T',⟨g1.fam.chg c h1,g1.map.chg c h2,g1.out,g1.isT,g1.nd,g1.sh,g1.srt,g1.big,g1.m3,g1.m1000,g1.mh,g1.mh2⟩,g1',g2.chg c h2,g3,g4,g5⟩
def DelAnsK (k:Kc ord) (mn mx:Nat) (hv:Option Nat) (w:World) (F:Nat→Prop) (H:HN ord) (t h:Nat) (T:BT (It ord) h) (x:It ord) (Q:It ord→Prop) (e:Ending) (w':World):Prop :=
 SetRet (toL h T) x e∧∃F' H',Fam (parM k) w' F' H'∧(∀a,a∉ids h T→H' a=H a)∧MapAlt k mn mx w' F' H' t h T (delL ltM x (toL h T)) (kcG (lowB x) Q)∧Chg (fun b _=>(F b∨b=t)∨hv=some b) w w'∧(∀b,F' b→F b∨w.heap.size≤b)∧HintO hv w'
theorem setRet_last {l:List (It ord)} {x:It ord} {o:Option (It ord)} (h:o=fndL ltM x l):SetRet l x (Ir (lastV o)):=by
 cases o with
 | none=>exact .inr ⟨h.symm,rfl⟩
 | some y=>exact .inl ⟨y,h.symm,rfl⟩
theorem hgt_le {α:Type} {mn mx:Nat} (hmn:1≤mn):(h:Nat)→(T:BT α h)→Sh mn mx h T→1≤(its T).length→h≤(toL h T).length
 | 0,_,_,_=>Nat.zero_le _
 | h+1,T,hs,h1=>by
  obtain ⟨c,hc⟩:∃c,T.2.2[0]?=some c:=⟨_,zH (by have:=hs.2.1;omega)⟩
  have hcm:c∈T.2.2:=zS hc
  have h2:=hgt_le hmn h c (hs.2.2 c hcm).2 (by have:=(hs.2.2 c hcm).1;omega)
  have h3:=kid_lt hs hcm h1
  omega
theorem deleteHint_treeK {Q:It ord→Prop} {k:Kc ord} {mn mx:Nat} {w:World} {F:Nat→Prop} {H:HN ord} {t h:Nat} {T:BT (It ord) h} {hv:Option Nat} (x:It ord) (hI:TreeIn k mn mx w F H t h T) (hB:MapBlk k mn mx w t (some (rid T)) (toL h T).length) (h1:1≤(its T).length) (hmn:1≤mn)
  (hQ:kcG (lowB x) Q h T) (hh:HintO hv w) (hvF:∀b,hv=some b→¬F b) (hvt:∀b,hv=some b→¬MOwn k t b) (hsz:(toL h T).length≤1000000000000) :
  Calls Tp 50 #[Ip (some ⟨t,0,none⟩),aggM x,hintV hv] w (DelAnsK k mn mx hv w F H t h T x Q):=by
 have HQ:=zL hQ
 clear hQ
 have c2:w.cell? ⟨t,2,none⟩=some (Ip (some ⟨rid T,0,none⟩)):=hB.c2
 have tlt:=hB.lt
 have tlt1:t < w.heap.size+1:=by omega
 have hgt:=hgt_le hmn h T hI.sh h1
 have hnv:∀b,w.heap.size≤b→¬hv=some b:=fun b hb e=>by have:=hh.lt e;omega
 have nF:∀b,w.heap.size≤b→¬F b:=fun b hb hf=>Nat.lt_irrefl _ (zk (hI.fam.lt hf) hb)
 have hdel:=fun (w1:World) (c:Chg (fun _ _=>False) w w1)=>delKey (ord:=ord) h k mn mx t 0 ⟨t,2,none⟩ x w1 F H hv T (hI.at (hI.fam.chg c i3) (hI.map.chg c i3)) hmn h1 (hh.keep c) hvF hvt (by omega) (c.q hB.c2)
 rw [show ((0:Nat):Int)=0 from rfl] at hdel
 unfold aggM hintV at hdel
 have HDEL:=zL hdel
 clear hdel
 unfold aggM hintV
 go_enter Try.func50,Try.ntmps50
 go_wp2_with fail
 refine kbD (fun w1=>Chg (fun _ _=>False) w w1∧w1.heap[w.heap.size]?=some (Ic #[Ii Ij x.1,Ii Ij x.2] 27 (0,0))∧w1.heap[w.heap.size+1]?=some (Ic #[Ii Ij 0,Ii Ij 0] 27 (0,0))) ⟨((zK _ _).alloc _).alloc _,?_,kbT _ _ (by simp)⟩ ?_
 ·rw [kcZ _ _ (by simp)];exact kbT _ _ rfl
 rintro w1 ⟨hc1,hb4,hb6⟩
 have q0:=kbB hb4 0
 have q1:=kbB hb4 1
 simp only [zF,zD,zE] at q0 q1
 have hl6:=kbF hb6
 have HB6:=zL hb6
 have hsz1:=hc1.size
 clear hb4 hb6 c2
 refine kbM (fun w'=>w'.cell? ⟨w.heap.size,0,none⟩=some (Ii Ij x.1)∧w'.cell? ⟨w.heap.size,1,none⟩=some (Ii Ij x.2)) (.soft 0 (.soft 1 (.soft 2 (.soft 3 (.soft 4 (.soft 5 (.fork 6 10 (.soft 7 (.soft 8 (.soft 9 (.hard 10 (.hard 11 (.soft 12 .nil)))))) (.hard 6 (.soft 7 (.soft 8 (.soft 9 (.hard 11 (.soft 12 .nil))))))))))))) (by kernel_rfl) (by kernel_rfl) (fun _ _ _ _ _ h=>h) ⟨q0,q1⟩ ?_
 repeat (first | (refine kbH (by rfl) ?_ ?_ ?_ ?_;rotate_left;(· simp [zI,yielded];done);(· intro w' hS;try obtain ⟨a1,a2⟩:=hS;go_simp;try with_reducible rfl);simp only [zJ,zA,zB,zC]) | (refine kbJ (by rfl) ?_ ?_;(· simp [zI,yielded];done);simp only [zJ,zA,zB,zC]))
 refine scr_fork (by rfl) (by rfl) rfl rfl (fun K hK=>?_) (fun K hK=>?_)
 ·go_simp
  refine (HDEL.out _ hc1.drew).mono ?_
  rintro e w2 ⟨H',o,rfl,hF2,hc2,hh2,hz⟩
  have hno:∀b,w.heap.size≤b→¬(F b∨hv=some b):=fun b hb h=>h.elim (nF b hb) (hnv b hb)
  refine hK _ _ ⟨hc2.cell (hno _ (zi _)) (by simpa using q0),hc2.cell (hno _ (zi _)) (by simpa using q1)⟩ ?_
  clear hK K
  have hsz2:=hc2.size
  have hszd:w1.drew.heap.size=w1.heap.size:=rfl
  obtain ⟨vx,vb,hov,hvo⟩:∃(vx:It ord) (vb:Bool),lastV o=Iu #[.agg #[Ii Ij vx.1,Ii Ij vx.2],.bool vb]∧((o=none∧vx=(0,0)∧vb=false)∨(o=some vx∧vb=true)):=by
   rcases o with _ | y
   ·exact ⟨(0,0),false,rfl,.inl ⟨rfl,rfl,rfl⟩⟩
   ·exact ⟨y,true,rfl,.inr ⟨rfl,rfl⟩⟩
  rw [hov]
  have HVO:=zL hvo
  have q0':=hc2.cell (hno _ (zi _)) (show w1.drew.cell? ⟨w.heap.size,0,none⟩=some (Ii Ij x.1) by simpa using q0)
  have q1':=hc2.cell (hno _ (zi _)) (show w1.drew.cell? ⟨w.heap.size,1,none⟩=some (Ii Ij x.2) by simpa using q1)
  clear hov hvo
  repeat (first | (refine kbH (by rfl) ?_ ?_ ?_ ?_;rotate_left;(· simp [zI,yielded];done);(· intro w' hS;try obtain ⟨a1,a2⟩:=hS;go_simp;try with_reducible rfl);simp only [zJ,zA,zB,zC]) | (refine kbJ (by rfl) ?_ ?_;(· simp [zI,yielded];done);simp only [zJ,zA,zB,zC]))
  refine kbY (by rfl) (by simp [zI,yielded]) (fun K hK=>?_)
  go_simp
  have hca:=(zK (fun _ _=>False) w2).alloc (Ic #[Ii Ij 0,Ii Ij 0] 27)
  refine hK _ _ ⟨hca.q q0',hca.q q1'⟩ ?_
  clear hK K
  refine kbY (by rfl) (by simp [zI,yielded]) (fun K hK=>?_)
  go_simp
  refine hK _ _ ⟨Chg.cell (A:=fun _ _=>False) ?_ (fun h=>h) q0',Chg.cell (A:=fun _ _=>False) ?_ (fun h=>h) q1'⟩ ?_
  ·repeat (first | refine ze ?_ | refine zf ?_ _ | refine zd ?_ (.inr (by simp)) _ | refine Chg.alloc ?_ _ | exact zK _ _)
  ·repeat (first | refine ze ?_ | refine zf ?_ _ | refine zd ?_ (.inr (by simp)) _ | refine Chg.alloc ?_ _ | exact zK _ _)
  clear hK K
  repeat (first | (refine kbH (by rfl) ?_ ?_ ?_ ?_;rotate_left;(· simp [zI,yielded];done);(· intro w' hS;try obtain ⟨a1,a2⟩:=hS;go_simp;try with_reducible rfl);simp only [zJ,zA,zB,zC]) | (refine kbJ (by rfl) ?_ ?_;(· simp [zI,yielded];done);simp only [zJ,zA,zB,zC]))
  refine kcT ?_
  refine kbQ (fun w3=>Chg (fun _ _=>False) w2 w3∧w3.heap[w2.heap.size]?=some (Ic #[Ii Ij vx.1,Ii Ij vx.2] 27 (0,0))) ⟨?_,by first | exact kbT _ _ rfl | exact blk2 (kbT _ _ rfl) _ _⟩ ?_
  ·repeat (first | refine ze ?_ | refine zf ?_ _ | refine zd ?_ (.inr (by simp)) _ | refine Chg.alloc ?_ _ | exact zK _ _)
  rintro w3 ⟨hc23,hb8⟩
  obtain ⟨G,hGd⟩:∃G,G=grow F w1.drew w2:=⟨_,rfl⟩
  have hc03:Chg (fun b _=>F b∨hv=some b) w w3:=((hc1.drew.mono (fun _ _ _ h=>h.elim)).trans hc2).trans (hc23.mono (fun _ _ _ h=>h.elim))
  have hF3:Fam (parM k) w3 G H':=by rw [hGd];exact hF2.chg hc23 i3
  have hB3:=hB.chg hc03 (fun b _ hm h=>h.elim (hI.out b hm) (fun e=>hvt b e hm))
  have hh3:HintO hv w3:=hh2.keep hc23
  have hb6:w3.heap[w.heap.size+1]?=some (Ic #[Ii Ij 0,Ii Ij 0] 27 (0,0)):=by
   rw [hc23.block (by omega) (fun _ h=>h),hc2.block (by omega) (fun _ h=>hno _ (zl _ _) h),kbZ];exact HB6.out
  have hG0:∀b,G b→F b∨w.heap.size≤b:=fun b h=>by
   rw [hGd] at h
   rcases h with h | h
   ·exact .inl h
   ·exact .inr (by have:=h.1;omega)
  have hGo:∀b,(b=w.heap.size+1∨b=w2.heap.size)→¬G b:=fun b hb h=>by
   rw [hGd] at h
   rcases h with h | h
   ·exact nF b (by omega) h
   ·have h3:=h.1;have h4:=h.2;omega
  clear q0' q1' q0 q1 hF2 hc2 hh2 hc23 hGd
  have e30:=hB3.c3
  have z32:=hB3.fz 2
  have z33:=hB3.fz 3
  have c2:w3.cell? ⟨t,2,none⟩=some (Ip (some ⟨rid T,0,none⟩)):=hB3.c2
  obtain ⟨e7,e8⟩:=hB3.empty
  have HB3:=zL hB3
  have HF3:=zL hF3
  have HC03:=zL hc03
  have HH3:=zL hh3
  have HG0:=zL hG0
  have HGo:=zL hGo
  have HB6:=zL hb6
  have HB8:=zL hb8
  have HOT:=zL hI.out
  have HSRT:=zL hI.srt
  have HBIG:=zL hI.big
  have hs4:=zL (show _∧_∧_∧_ from ⟨hI.m3,hI.m1000,hI.mh,hI.mh2⟩)
  have mlt:∀b,MOwn k t b→b < w.heap.size:=fun b hm=>hI.map.lt hm
  have HML:=zL mlt
  have hl8:=kbF hb8
  obtain ⟨⟨T',hd,hg,hmk⟩,hsame⟩:=hz
  have HMK:=zL (hmk x rfl Q HQ.out)
  clear hmk
  have HD:=zL hd
  have HGN:=zL hg
  have hfl:o=fndL ltM x (toL h T):=hg.1
  have hle:toL h T'=delL ltM x (toL h T):=hg.2
  have HFL:=zL hfl
  have HLE:=zL hle
  have hout3:∀b,MOwn k t b→¬G b:=fun b hm h=>(HG0.out b h).elim (HOT.out b hm) (fun h=>by have:=HML.out b hm;omega)
  have HO3:=zL hout3
  clear hd hg hfl hle hB3 hF3 hc03 hh3 hG0 hGo hb6 hb8 mlt hout3
  rcases HVO.out with ⟨rfl,rfl,rfl⟩ | ⟨rfl,rfl⟩
  ·obtain rfl:=hsame rfl
   have hdl:=zL (delL_none HFL.out.symm)
   have y0:=kbC HB6.out 0
   have y1:=kbC HB6.out 1
   have p0:=kbB HB6.out 0
   have p1:=kbB HB6.out 1
   simp only [zF,zD,zE] at p0 p1
   clear z32 z33 e30 c2
   go_wp2_with fail
   refine kbQ (fun wl=>Chg (fun b _=>b=w.heap.size+1) (w3) wl∧wl.heap[w.heap.size+1]?=some (Ic #[Ii Ij 0,Ii Ij 0] 27 (0,0))) ⟨?_,blk2 HB6.out _ _⟩ ?_
   ·repeat (first | refine ze ?_ | refine zf ?_ _ | refine zd ?_ (.inl rfl) _ | exact zK _ _)
   clear p0 p1
   rintro wl ⟨hcl,hbl⟩
   have p0:=kbB hbl 0
   have p1:=kbB hbl 1
   simp only [zF,zD,zE] at p0 p1
   refine bodyPost_ret (v:=Iu #[.agg #[Ii Ij 0,Ii Ij 0],.bool false]) (by simp [results,Try.results50,go_sem,p0,p1]) rfl ?_
   have hbw:w.heap.size+1≠t:=fun e=>by have:=HML.out t MOwn.self;omega
   have hB9:=HB3.out.chg hcl (fun b _ hm e=>by have:=HML.out b hm;omega)
   have hF9:=HF3.out.chg hcl (fun b _ hb e=>HGo.out b (.inl e) hb)
   refine ⟨setRet_last HFL.out,G,H',hF9,fun _ _=>rfl,.inr ⟨h,T,⟨hF9,hB9.at_,HO3.out,hI.isT,hI.nd,hI.sh,hI.srt,hI.big,hI.m3,hI.m1000,hI.mh,hI.mh2⟩,fun _ h=>h,hB9,hdl.out.symm,h1,HQ.out⟩,?_,HG0.out,HH3.out.chg hcl (fun b _ e e2=>by have:=hh.lt e;omega)⟩
   exact (HC03.out.mono (fun b _ _ h=>h.elim (fun h=>.inl (.inl h)) .inr)).trans' hcl i3 (fun b o hb e=>by omega)
  ·have hroot:H' (rid T)=some (kbP h T'):=by rw [←HD.out.rid'];exact HD.out.isT.root
   obtain ⟨ln,hnr⟩:=HF3.out.node hroot
   have n2:=hnr.c2
   rw [kbG] at n2
   have hlen:=HGN.out.len
   have hsl:=HD.out.sh.len
   have hbg:=HBIG.out
   have h1000:=hs4.out.2.1
   have s1:Ij.wrap (((toL h T).length:Int) - 1)=((toL h T').length:Int):=(by rw [IntWalk.i64_in _ (by omega)];omega)
   have srt':Srt ltM (toL h T'):=HSRT.out.sublist HGN.out.sub
   have HS':=zL srt'
   replace hlen:=zL hlen
   have fin:∀w9 (wf:World),Chg (fun b _=>b=t) w3 w9→Chg (fun b _=>b=w.heap.size+1) w9 wf→MapAlt k mn mx w9 G H' t h T (toL h T') (kcG (lowB x) Q)→DelAnsK k mn mx hv w F H t h T x Q (Ir (Iu #[.agg #[Ii Ij vx.1,Ii Ij vx.2],.bool true])) wf:=by
    intro w9 wf c1 c2 hM
    refine ⟨setRet_last HFL.out,G,H',(HF3.out.chg c1 (fun b _ hb e=>HO3.out t MOwn.self (e▸hb))).chg c2 (fun b _ hb e=>HGo.out b (.inl e) hb),HD.out.rest,?_,?_,HG0.out,(HH3.out.chg c1 (fun b _ e e2=>hvt b e (e2▸MOwn.self))).chg c2 (fun b _ e e2=>by have:=hh.lt e;omega)⟩
    ·rw [←HLE.out]
     exact hM.chgA c2 (fun b _ hb e=>HGo.out b (.inl e) hb) (fun b _ hm e=>by have:=HML.out b hm;omega)
    ·exact ((HC03.out.mono (fun b _ _ h=>h.elim (fun h=>.inl (.inl h)) .inr)).trans (c1.mono (fun b _ _ h=>.inl (.inr h)))).trans' c2 i3 (fun b o hb e=>by omega)
   have FIN:=zL fin
   have y0:=kbC HB6.out 0
   have y1:=kbC HB6.out 1
   have p0:=kbB HB6.out 0
   have p1:=kbB HB6.out 1
   simp only [zF,zD,zE] at p0 p1
   have x0:=kbC HB8.out 0
   have x1:=kbC HB8.out 1
   have r0:=kbB HB8.out 0
   have r1:=kbB HB8.out 1
   simp only [zF,zD,zE] at r0 r1
   clear srt' fin
   have u1:¬w.heap.size+1=t:=fun e=>by have:=HML.out t MOwn.self;omega
   have u2:¬t=w.heap.size+1:=fun e=>u1 e.symm
   have u3:¬t=w2.heap.size:=fun e=>by have:=HML.out t MOwn.self;omega
   have u4:¬w2.heap.size=t:=fun e=>u3 e.symm
   by_cases h0:1≤(its T').length
   ·have g0:(((its T').length:Int) == 0)=false:=beq_eq_false_iff_ne.2 (by omega)
    have hp:=its_head HD.out.sh h0
    have g1:(((toL h T').length:Int) == 0)=false:=beq_eq_false_iff_ne.2 (by omega)
    clear hp
    have hB9:=HB3.out.setCnt ((toL h T').length:Int)
    have HB9:=zL hB9
    have hc9:Chg (fun b _=>b=t) w3 (w3.setCell ⟨t,3,none⟩ (Ii Ij ((toL h T').length:Int))):=(zK _ _).setCell (.inl rfl) _
    have HC9:=zL hc9
    have hb9:(w3.setCell ⟨t,3,none⟩ (Ii Ij ((toL h T').length:Int))).heap[w.heap.size+1]?=some (Ic #[Ii Ij 0,Ii Ij 0] 27 (0,0)):=by rw [hc9.block (kbF HB6.out) (fun _ e=>u1 e)];exact HB6.out
    have HBL9:=zL hb9
    clear hB9 hc9 hb9
    go_wp2_with fail
    refine kbQ (fun wl=>Chg (fun b _=>b=w.heap.size+1) (w3.setCell ⟨t,3,none⟩ (Ii Ij ((toL h T').length:Int))) wl∧wl.heap[w.heap.size+1]?=some (Ic #[Ii Ij vx.1,Ii Ij vx.2] 27 (0,0))) ⟨?_,blk2 HBL9.out _ _⟩ ?_
    ·repeat (first | refine ze ?_ | refine zf ?_ _ | refine zd ?_ (.inl rfl) _ | exact zK _ _)
    clear p0 p1 r0 r1
    rintro wl ⟨hcl,hbl⟩
    have p0:=kbB hbl 0
    have p1:=kbB hbl 1
    simp only [zF,zD,zE] at p0 p1
    refine bodyPost_ret (v:=Iu #[.agg #[Ii Ij vx.1,Ii Ij vx.2],.bool true]) (by simp [results,Try.results50,go_sem,p0,p1]) rfl ?_
    refine FIN.out _ _ HC9.out hcl (.inr ⟨h,T',⟨HF3.out.chg HC9.out (fun b _ hb e=>HO3.out t MOwn.self (e▸hb)),HB9.out.at_,HO3.out,HD.out.isT,HD.out.nd,HD.out.sh,HS'.out,by have:=hlen.out;omega,hs4.out.1,hs4.out.2.1,hs4.out.2.2.1,hs4.out.2.2.2⟩,HD.out.sub,?_,rfl,h0,HMK.out⟩)
    rw [HD.out.rid'];exact HB9.out
   ·have hnil:its T'=[]:=List.eq_nil_of_length_eq_zero (by omega)
    have g0:(((its T').length:Int) == 0)=true:=beq_iff_eq.2 (by omega)
    have hp1:(toL h T).length=(toL h T).length:=rfl
    rcases h with _ | h
    ·have ht0:toL 0 T'=[]:=hnil
     have g1:(((toL 0 T').length:Int) == 0)=true:=by rw [ht0];rfl
     have n3:=hnr.c3n rfl
     have hB9:=(HB3.out.setCnt ((toL 0 T').length:Int)).setRoot none
     have hB9':MapBlk k mn mx ((w3.setCell ⟨t,3,none⟩ (Ii Ij ((toL 0 T').length:Int))).setCell ⟨t,2,none⟩ (Ip none)) t none 0:=by
      have e:((toL 0 T').length:Int)=0:=by rw [ht0];rfl
      have h2:=hB9
      rw [e] at h2 ⊢
      exact h2
     have HB9:=zL hB9'
     have hc9:Chg (fun b _=>b=t) w3 ((w3.setCell ⟨t,3,none⟩ (Ii Ij ((toL 0 T').length:Int))).setCell ⟨t,2,none⟩ (Ip none)):=((zK _ _).setCell (.inl rfl) _).setCell (.inl rfl) _
     have HC9:=zL hc9
     have hb9:((w3.setCell ⟨t,3,none⟩ (Ii Ij ((toL 0 T').length:Int))).setCell ⟨t,2,none⟩ (Ip none)).heap[w.heap.size+1]?=some (Ic #[Ii Ij 0,Ii Ij 0] 27 (0,0)):=by rw [hc9.block (kbF HB6.out) (fun _ e=>u1 e)];exact HB6.out
     have HBL9:=zL hb9
     have HT0:=zL ht0
     clear hB9 hB9' hc9 hb9 ht0 hnil hnr
     go_wp2_with (go_at_call 51;refine (kcJ _ none _ ?_).mono ?_;(focus go_simp);rintro e w' ⟨rfl,rfl⟩)
     refine kbQ (fun wl=>Chg (fun b _=>b=w.heap.size+1) (((w3.setCell ⟨t,3,none⟩ (Ii Ij ((toL 0 T').length:Int))).setCell ⟨t,2,none⟩ (Ip none))) wl∧wl.heap[w.heap.size+1]?=some (Ic #[Ii Ij vx.1,Ii Ij vx.2] 27 (0,0))) ⟨?_,blk2 HBL9.out _ _⟩ ?_
     ·repeat (first | refine ze ?_ | refine zf ?_ _ | refine zd ?_ (.inl rfl) _ | exact zK _ _)
     clear p0 p1 r0 r1
     rintro wl ⟨hcl,hbl⟩
     have p0:=kbB hbl 0
     have p1:=kbB hbl 1
     simp only [zF,zD,zE] at p0 p1
     refine bodyPost_ret (v:=Iu #[.agg #[Ii Ij vx.1,Ii Ij vx.2],.bool true]) (by simp [results,Try.results50,go_sem,p0,p1]) rfl ?_
     exact FIN.out _ _ HC9.out hcl (.inl ⟨HT0.out,HB9.out⟩)
    ·have hk1:T'.2.2.length=1:=by have:=HD.out.sh.2.1;have e:T'.2.1=[]:=hnil;rw [e] at this;exact this
     obtain ⟨c,hc⟩:∃c,T'.2.2=[c]:=by
      match h2:T'.2.2,hk1 with
      | [c],_=>exact ⟨c,rfl⟩
     have hcm:c∈T'.2.2:=by rw [hc];exact zy.2 rfl
     have ht1:toL (h+1) T'=toL h c:=by
      show kcM T'.2.1 (T'.2.2.map (toL h))=toL h c
      have e:T'.2.1=[]:=hnil
      rw [e,hc]
      exact kgM _
     obtain ⟨hcm1,hcs⟩:=HD.out.sh.2.2 c hcm
     have hc1':1≤(its c).length:=by omega
     have hp:=its_head hcs hc1'
     have hkk:(kbP (h+1) T').kids=some [some (rid c)]:=by
      show some (T'.2.2.map fun c=>some (rid c))=_
      rw [hc];rfl
     have n3:=hnr.c3s hkk
     have nc:w3.cell? ⟨ln.cc,0,none⟩=some (Is (some ⟨ln.cb,ln.co,none⟩) 1 ln.ck):=hnr.cc hkk
     have k0:w3.cell? ⟨ln.cb,ln.co,none⟩=some (Ip (some ⟨rid c,0,none⟩)):=by
      have:=hnr.kidc hkk (j:=0) (o:=some (rid c)) rfl
      rw [Nat.add_zero] at this
      exact this
     rw [ht1] at s1
     have g1:(((toL h c).length:Int) == 0)=false:=beq_eq_false_iff_ne.2 (by omega)
     have hB9:=(HB3.out.setRoot (some (rid c))).setCnt ((toL h c).length:Int)
     have HB9:=zL hB9
     have hc9:Chg (fun b _=>b=t) w3 ((w3.setCell ⟨t,2,none⟩ (Ip (some ⟨rid c,0,none⟩))).setCell ⟨t,3,none⟩ (Ii Ij ((toL h c).length:Int))):=((zK _ _).setCell (.inl rfl) _).setCell (.inl rfl) _
     have HC9:=zL hc9
     have hb9:((w3.setCell ⟨t,2,none⟩ (Ip (some ⟨rid c,0,none⟩))).setCell ⟨t,3,none⟩ (Ii Ij ((toL h c).length:Int))).heap[w.heap.size+1]?=some (Ic #[Ii Ij 0,Ii Ij 0] 27 (0,0)):=by rw [hc9.block (kbF HB6.out) (fun _ e=>u1 e)];exact HB6.out
     have HBL9:=zL hb9
     have HT1:=zL ht1
     have HCM:=zL hcm
     have HP:=zL (And.intro hcs hc1')
     clear hB9 hc9 hb9 ht1 hnil hnr hc hk1 hcm hcs hc1' hp hcm1 hkk
     go_wp2_with (go_at_call 51;refine (kcJ _ (some ⟨ln.cc,0,none⟩) _ ?_).mono ?_;(focus go_simp);rintro e w' ⟨rfl,rfl⟩)
     refine kbQ (fun wl=>Chg (fun b _=>b=w.heap.size+1) (((w3.setCell ⟨t,2,none⟩ (Ip (some ⟨rid c,0,none⟩))).setCell ⟨t,3,none⟩ (Ii Ij ((toL h c).length:Int)))) wl∧wl.heap[w.heap.size+1]?=some (Ic #[Ii Ij vx.1,Ii Ij vx.2] 27 (0,0))) ⟨?_,blk2 HBL9.out _ _⟩ ?_
     ·repeat (first | refine ze ?_ | refine zf ?_ _ | refine zd ?_ (.inl rfl) _ | exact zK _ _)
     clear p0 p1 r0 r1
     rintro wl ⟨hcl,hbl⟩
     have p0:=kbB hbl 0
     have p1:=kbB hbl 1
     simp only [zF,zD,zE] at p0 p1
     refine bodyPost_ret (v:=Iu #[.agg #[Ii Ij vx.1,Ii Ij vx.2],.bool true]) (by simp [results,Try.results50,go_sem,p0,p1]) rfl ?_
     have hs2:=HS'.out
     rw [HT1.out] at hs2
     refine FIN.out _ _ HC9.out hcl (.inr ⟨h,c,⟨HF3.out.chg HC9.out (fun b _ hb e=>HO3.out t MOwn.self (e▸hb)),HB9.out.at_,HO3.out,HD.out.isT.kid HCM.out,nodup_kid HD.out.nd HCM.out,HP.out.1,hs2,by have:=hlen.out;rw [HT1.out] at this;omega,hs4.out.1,hs4.out.2.1,hs4.out.2.2.1,hs4.out.2.2.2⟩,fun a ha=>HD.out.sub a (kdF HCM.out ha),HB9.out,HT1.out.symm,HP.out.2,HMK.out.2 _ HCM.out⟩)
 ·go_simp
  have hca1:=(zK (fun _ _=>False) w1.drew).alloc (Ic #[Ii Ij 0,Ii Ij 0] 27)
  have q0':(w1.drew.alloc (Ic #[Ii Ij 0,Ii Ij 0] 27)).cell? ⟨w.heap.size,0,none⟩=some (Ii Ij x.1):=hca1.q (by simpa using q0)
  have q1':(w1.drew.alloc (Ic #[Ii Ij 0,Ii Ij 0] 27)).cell? ⟨w.heap.size,1,none⟩=some (Ii Ij x.2):=hca1.q (by simpa using q1)
  refine hK _ _ ⟨q0',q1'⟩ ?_
  clear hK K
  refine kbY (by rfl) (by simp [zI,yielded]) (fun K hK=>?_)
  go_simp
  have hc1a:=hc1.drew.alloc (Ic #[Ii Ij 0,Ii Ij 0] 27)
  refine (HDEL.out _ hc1a).mono ?_
  rintro e w2 ⟨H',o,rfl,hF2,hc2,hh2,hz⟩
  have hno:∀b,w.heap.size≤b→¬(F b∨hv=some b):=fun b hb h=>h.elim (nF b hb) (hnv b hb)
  replace q0':=hc2.cell (hno _ (zi _)) q0'
  replace q1':=hc2.cell (hno _ (zi _)) q1'
  refine hK _ _ ⟨q0',q1'⟩ ?_
  clear hK K
  have hsza:(w1.drew.alloc (Ic #[Ii Ij 0,Ii Ij 0] 27)).heap.size=w1.heap.size+1:=by simp
  have hsz2:=hc2.size
  obtain ⟨vx,vb,hov,hvo⟩:∃(vx:It ord) (vb:Bool),lastV o=Iu #[.agg #[Ii Ij vx.1,Ii Ij vx.2],.bool vb]∧((o=none∧vx=(0,0)∧vb=false)∨(o=some vx∧vb=true)):=by
   rcases o with _ | y
   ·exact ⟨(0,0),false,rfl,.inl ⟨rfl,rfl,rfl⟩⟩
   ·exact ⟨y,true,rfl,.inr ⟨rfl,rfl⟩⟩
  rw [hov]
  have HVO:=zL hvo
  have hb8:w2.heap[w1.heap.size]?=some (Ic #[Ii Ij 0,Ii Ij 0] 27 (0,0)):=by
   rw [hc2.block (by omega) (fun _ h=>hno _ (by omega) h)];exact kbT _ _ (by simp)
  have y0:=kbC hb8 0
  have y1:=kbC hb8 1
  have p0:=kbB hb8 0
  have p1:=kbB hb8 1
  simp only [zF,zD,zE] at p0 p1
  have HB8':=zL hb8
  clear hov hvo hb8
  repeat (first | (refine kbH (by rfl) ?_ ?_ ?_ ?_;rotate_left;(· simp [zI,yielded];done);(· intro w' hS;try obtain ⟨a1,a2⟩:=hS;go_simp;try with_reducible rfl);simp only [zJ,zA,zB,zC]) | (refine kbJ (by rfl) ?_ ?_;(· simp [zI,yielded];done);simp only [zJ,zA,zB,zC]))
  refine kbY (by rfl) (by simp [zI,yielded]) (fun K hK=>?_)
  go_simp
  refine hK _ _ ⟨Chg.cell (A:=fun b _=>b=w1.heap.size) ?_ (fun h=>by simp at h;omega) q0',Chg.cell (A:=fun b _=>b=w1.heap.size) ?_ (fun h=>by simp at h;omega) q1'⟩ ?_
  ·repeat (first | refine ze ?_ | refine zf ?_ _ | refine zd ?_ (.inl rfl) _ | exact zK _ _)
  ·repeat (first | refine ze ?_ | refine zf ?_ _ | refine zd ?_ (.inl rfl) _ | exact zK _ _)
  clear hK K
  repeat (first | (refine kbH (by rfl) ?_ ?_ ?_ ?_;rotate_left;(· simp [zI,yielded];done);(· intro w' hS;try obtain ⟨a1,a2⟩:=hS;go_simp;try with_reducible rfl);simp only [zJ,zA,zB,zC]) | (refine kbJ (by rfl) ?_ ?_;(· simp [zI,yielded];done);simp only [zJ,zA,zB,zC]))
  refine kcT ?_
  refine kbQ (fun w3=>Chg (fun b _=>b=w1.heap.size) w2 w3∧w3.heap[w1.heap.size]?=some (Ic #[Ii Ij vx.1,Ii Ij vx.2] 27 (0,0))) ⟨?_,blk2 HB8'.out _ _⟩ ?_
  ·repeat (first | refine ze ?_ | refine zf ?_ _ | refine zd ?_ (.inl rfl) _ | exact zK _ _)
  clear p0 p1 y0 y1 HB8'
  rintro w3 ⟨hc23,hb8⟩
  obtain ⟨G,hGd⟩:∃G,G=grow F (w1.drew.alloc (Ic #[Ii Ij 0,Ii Ij 0] 27)) w2:=⟨_,rfl⟩
  have hG0:∀b,G b→F b∨w.heap.size≤b:=fun b h=>by
   rw [hGd] at h
   rcases h with h | h
   ·exact .inl h
   ·exact .inr (by have:=h.1;omega)
  have hGo:∀b,(b=w.heap.size+1∨b=w1.heap.size)→¬G b:=fun b hb h=>by
   rw [hGd] at h
   rcases h with h | h
   ·exact nF b (by omega) h
   ·have h3:=h.1;have h4:=h.2;omega
  have hc03:Chg (fun b _=>F b∨hv=some b) w w3:=((hc1a.mono (fun _ _ _ h=>h.elim)).trans hc2).trans' hc23 i3 (fun b o hb e=>by omega)
  have hF3:Fam (parM k) w3 G H':=by
   have h2:=hF2.chg hc23 (fun b _ hb e=>hGo b (.inr e) (by rw [hGd];exact hb))
   rw [hGd];exact h2
  have hB3:=hB.chg hc03 (fun b _ hm h=>h.elim (hI.out b hm) (fun e=>hvt b e hm))
  have hh3:HintO hv w3:=hh2.chg hc23 (fun b _ e e2=>by have:=hh.lt e;omega)
  have hb6:w3.heap[w.heap.size+1]?=some (Ic #[Ii Ij 0,Ii Ij 0] 27 (0,0)):=by
   rw [hc23.block (by omega) (fun _ e=>by omega),hc2.block (by omega) (fun _ h=>hno _ (zl _ _) h),kcZ _ _ (by simp;omega),kbZ];exact HB6.out
  clear q0' q1' q0 q1 hF2 hc2 hh2 hc23 hGd
  have e30:=hB3.c3
  have z32:=hB3.fz 2
  have z33:=hB3.fz 3
  have c2:w3.cell? ⟨t,2,none⟩=some (Ip (some ⟨rid T,0,none⟩)):=hB3.c2
  obtain ⟨e7,e8⟩:=hB3.empty
  have HB3:=zL hB3
  have HF3:=zL hF3
  have HC03:=zL hc03
  have HH3:=zL hh3
  have HG0:=zL hG0
  have HGo:=zL hGo
  have HB6:=zL hb6
  have HB8:=zL hb8
  have HOT:=zL hI.out
  have HSRT:=zL hI.srt
  have HBIG:=zL hI.big
  have hs4:=zL (show _∧_∧_∧_ from ⟨hI.m3,hI.m1000,hI.mh,hI.mh2⟩)
  have mlt:∀b,MOwn k t b→b < w.heap.size:=fun b hm=>hI.map.lt hm
  have HML:=zL mlt
  have hl8:=kbF hb8
  obtain ⟨⟨T',hd,hg,hmk⟩,hsame⟩:=hz
  have HMK:=zL (hmk x rfl Q HQ.out)
  clear hmk
  have HD:=zL hd
  have HGN:=zL hg
  have hfl:o=fndL ltM x (toL h T):=hg.1
  have hle:toL h T'=delL ltM x (toL h T):=hg.2
  have HFL:=zL hfl
  have HLE:=zL hle
  have hout3:∀b,MOwn k t b→¬G b:=fun b hm h=>(HG0.out b h).elim (HOT.out b hm) (fun h=>by have:=HML.out b hm;omega)
  have HO3:=zL hout3
  clear hd hg hfl hle hB3 hF3 hc03 hh3 hG0 hGo hb6 hb8 mlt hout3
  rcases HVO.out with ⟨rfl,rfl,rfl⟩ | ⟨rfl,rfl⟩
  ·obtain rfl:=hsame rfl
   have hdl:=zL (delL_none HFL.out.symm)
   have y0:=kbC HB6.out 0
   have y1:=kbC HB6.out 1
   have p0:=kbB HB6.out 0
   have p1:=kbB HB6.out 1
   simp only [zF,zD,zE] at p0 p1
   clear z32 z33 e30 c2
   go_wp2_with fail
   refine kbQ (fun wl=>Chg (fun b _=>b=w.heap.size+1) (w3) wl∧wl.heap[w.heap.size+1]?=some (Ic #[Ii Ij 0,Ii Ij 0] 27 (0,0))) ⟨?_,blk2 HB6.out _ _⟩ ?_
   ·repeat (first | refine ze ?_ | refine zf ?_ _ | refine zd ?_ (.inl rfl) _ | exact zK _ _)
   clear p0 p1
   rintro wl ⟨hcl,hbl⟩
   have p0:=kbB hbl 0
   have p1:=kbB hbl 1
   simp only [zF,zD,zE] at p0 p1
   refine bodyPost_ret (v:=Iu #[.agg #[Ii Ij 0,Ii Ij 0],.bool false]) (by simp [results,Try.results50,go_sem,p0,p1]) rfl ?_
   have hbw:w.heap.size+1≠t:=fun e=>by have:=HML.out t MOwn.self;omega
   have hB9:=HB3.out.chg hcl (fun b _ hm e=>by have:=HML.out b hm;omega)
   have hF9:=HF3.out.chg hcl (fun b _ hb e=>HGo.out b (.inl e) hb)
   refine ⟨setRet_last HFL.out,G,H',hF9,fun _ _=>rfl,.inr ⟨h,T,⟨hF9,hB9.at_,HO3.out,hI.isT,hI.nd,hI.sh,hI.srt,hI.big,hI.m3,hI.m1000,hI.mh,hI.mh2⟩,fun _ h=>h,hB9,hdl.out.symm,h1,HQ.out⟩,?_,HG0.out,HH3.out.chg hcl (fun b _ e e2=>by have:=hh.lt e;omega)⟩
   exact (HC03.out.mono (fun b _ _ h=>h.elim (fun h=>.inl (.inl h)) .inr)).trans' hcl i3 (fun b o hb e=>by omega)
  ·have hroot:H' (rid T)=some (kbP h T'):=by rw [←HD.out.rid'];exact HD.out.isT.root
   obtain ⟨ln,hnr⟩:=HF3.out.node hroot
   have n2:=hnr.c2
   rw [kbG] at n2
   have hlen:=HGN.out.len
   have hsl:=HD.out.sh.len
   have hbg:=HBIG.out
   have h1000:=hs4.out.2.1
   have s1:Ij.wrap (((toL h T).length:Int) - 1)=((toL h T').length:Int):=(by rw [IntWalk.i64_in _ (by omega)];omega)
   have srt':Srt ltM (toL h T'):=HSRT.out.sublist HGN.out.sub
   have HS':=zL srt'
   replace hlen:=zL hlen
   have fin:∀w9 (wf:World),Chg (fun b _=>b=t) w3 w9→Chg (fun b _=>b=w.heap.size+1) w9 wf→MapAlt k mn mx w9 G H' t h T (toL h T') (kcG (lowB x) Q)→DelAnsK k mn mx hv w F H t h T x Q (Ir (Iu #[.agg #[Ii Ij vx.1,Ii Ij vx.2],.bool true])) wf:=by
    intro w9 wf c1 c2 hM
    refine ⟨setRet_last HFL.out,G,H',(HF3.out.chg c1 (fun b _ hb e=>HO3.out t MOwn.self (e▸hb))).chg c2 (fun b _ hb e=>HGo.out b (.inl e) hb),HD.out.rest,?_,?_,HG0.out,(HH3.out.chg c1 (fun b _ e e2=>hvt b e (e2▸MOwn.self))).chg c2 (fun b _ e e2=>by have:=hh.lt e;omega)⟩
    ·rw [←HLE.out]
     exact hM.chgA c2 (fun b _ hb e=>HGo.out b (.inl e) hb) (fun b _ hm e=>by have:=HML.out b hm;omega)
    ·exact ((HC03.out.mono (fun b _ _ h=>h.elim (fun h=>.inl (.inl h)) .inr)).trans (c1.mono (fun b _ _ h=>.inl (.inr h)))).trans' c2 i3 (fun b o hb e=>by omega)
   have FIN:=zL fin
   have y0:=kbC HB6.out 0
   have y1:=kbC HB6.out 1
   have p0:=kbB HB6.out 0
   have p1:=kbB HB6.out 1
   simp only [zF,zD,zE] at p0 p1
   have x0:=kbC HB8.out 0
   have x1:=kbC HB8.out 1
   have r0:=kbB HB8.out 0
   have r1:=kbB HB8.out 1
   simp only [zF,zD,zE] at r0 r1
   clear srt' fin
   have u1:¬w.heap.size+1=t:=fun e=>by have:=HML.out t MOwn.self;omega
   have u2:¬t=w.heap.size+1:=fun e=>u1 e.symm
   have u3:¬t=w1.heap.size:=fun e=>by have:=HML.out t MOwn.self;omega
   have u4:¬w1.heap.size=t:=fun e=>u3 e.symm
   by_cases h0:1≤(its T').length
   ·have g0:(((its T').length:Int) == 0)=false:=beq_eq_false_iff_ne.2 (by omega)
    have hp:=its_head HD.out.sh h0
    have g1:(((toL h T').length:Int) == 0)=false:=beq_eq_false_iff_ne.2 (by omega)
    clear hp
    have hB9:=HB3.out.setCnt ((toL h T').length:Int)
    have HB9:=zL hB9
    have hc9:Chg (fun b _=>b=t) w3 (w3.setCell ⟨t,3,none⟩ (Ii Ij ((toL h T').length:Int))):=(zK _ _).setCell (.inl rfl) _
    have HC9:=zL hc9
    have hb9:(w3.setCell ⟨t,3,none⟩ (Ii Ij ((toL h T').length:Int))).heap[w.heap.size+1]?=some (Ic #[Ii Ij 0,Ii Ij 0] 27 (0,0)):=by rw [hc9.block (kbF HB6.out) (fun _ e=>u1 e)];exact HB6.out
    have HBL9:=zL hb9
    clear hB9 hc9 hb9
    go_wp2_with fail
    refine kbQ (fun wl=>Chg (fun b _=>b=w.heap.size+1) (w3.setCell ⟨t,3,none⟩ (Ii Ij ((toL h T').length:Int))) wl∧wl.heap[w.heap.size+1]?=some (Ic #[Ii Ij vx.1,Ii Ij vx.2] 27 (0,0))) ⟨?_,blk2 HBL9.out _ _⟩ ?_
    ·repeat (first | refine ze ?_ | refine zf ?_ _ | refine zd ?_ (.inl rfl) _ | exact zK _ _)
    clear p0 p1 r0 r1
    rintro wl ⟨hcl,hbl⟩
    have p0:=kbB hbl 0
    have p1:=kbB hbl 1
    simp only [zF,zD,zE] at p0 p1
    refine bodyPost_ret (v:=Iu #[.agg #[Ii Ij vx.1,Ii Ij vx.2],.bool true]) (by simp [results,Try.results50,go_sem,p0,p1]) rfl ?_
    refine FIN.out _ _ HC9.out hcl (.inr ⟨h,T',⟨HF3.out.chg HC9.out (fun b _ hb e=>HO3.out t MOwn.self (e▸hb)),HB9.out.at_,HO3.out,HD.out.isT,HD.out.nd,HD.out.sh,HS'.out,by have:=hlen.out;omega,hs4.out.1,hs4.out.2.1,hs4.out.2.2.1,hs4.out.2.2.2⟩,HD.out.sub,?_,rfl,h0,HMK.out⟩)
    rw [HD.out.rid'];exact HB9.out
   ·have hnil:its T'=[]:=List.eq_nil_of_length_eq_zero (by omega)
    have g0:(((its T').length:Int) == 0)=true:=beq_iff_eq.2 (by omega)
    have hp1:(toL h T).length=(toL h T).length:=rfl
    rcases h with _ | h
    ·have ht0:toL 0 T'=[]:=hnil
     have g1:(((toL 0 T').length:Int) == 0)=true:=by rw [ht0];rfl
     have n3:=hnr.c3n rfl
     have hB9:=(HB3.out.setCnt ((toL 0 T').length:Int)).setRoot none
     have hB9':MapBlk k mn mx ((w3.setCell ⟨t,3,none⟩ (Ii Ij ((toL 0 T').length:Int))).setCell ⟨t,2,none⟩ (Ip none)) t none 0:=by
      have e:((toL 0 T').length:Int)=0:=by rw [ht0];rfl
      have h2:=hB9
      rw [e] at h2 ⊢
      exact h2
     have HB9:=zL hB9'
     have hc9:Chg (fun b _=>b=t) w3 ((w3.setCell ⟨t,3,none⟩ (Ii Ij ((toL 0 T').length:Int))).setCell ⟨t,2,none⟩ (Ip none)):=((zK _ _).setCell (.inl rfl) _).setCell (.inl rfl) _
     have HC9:=zL hc9
     have hb9:((w3.setCell ⟨t,3,none⟩ (Ii Ij ((toL 0 T').length:Int))).setCell ⟨t,2,none⟩ (Ip none)).heap[w.heap.size+1]?=some (Ic #[Ii Ij 0,Ii Ij 0] 27 (0,0)):=by rw [hc9.block (kbF HB6.out) (fun _ e=>u1 e)];exact HB6.out
     have HBL9:=zL hb9
     have HT0:=zL ht0
     clear hB9 hB9' hc9 hb9 ht0 hnil hnr
     go_wp2_with (go_at_call 51;refine (kcJ _ none _ ?_).mono ?_;(focus go_simp);rintro e w' ⟨rfl,rfl⟩)
     refine kbQ (fun wl=>Chg (fun b _=>b=w.heap.size+1) (((w3.setCell ⟨t,3,none⟩ (Ii Ij ((toL 0 T').length:Int))).setCell ⟨t,2,none⟩ (Ip none))) wl∧wl.heap[w.heap.size+1]?=some (Ic #[Ii Ij vx.1,Ii Ij vx.2] 27 (0,0))) ⟨?_,blk2 HBL9.out _ _⟩ ?_
     ·repeat (first | refine ze ?_ | refine zf ?_ _ | refine zd ?_ (.inl rfl) _ | exact zK _ _)
     clear p0 p1 r0 r1
     rintro wl ⟨hcl,hbl⟩
     have p0:=kbB hbl 0
     have p1:=kbB hbl 1
     simp only [zF,zD,zE] at p0 p1
     refine bodyPost_ret (v:=Iu #[.agg #[Ii Ij vx.1,Ii Ij vx.2],.bool true]) (by simp [results,Try.results50,go_sem,p0,p1]) rfl ?_
     exact FIN.out _ _ HC9.out hcl (.inl ⟨HT0.out,HB9.out⟩)
    ·have hk1:T'.2.2.length=1:=by have:=HD.out.sh.2.1;have e:T'.2.1=[]:=hnil;rw [e] at this;exact this
     obtain ⟨c,hc⟩:∃c,T'.2.2=[c]:=by
      match h2:T'.2.2,hk1 with
      | [c],_=>exact ⟨c,rfl⟩
     have hcm:c∈T'.2.2:=by rw [hc];exact zy.2 rfl
     have ht1:toL (h+1) T'=toL h c:=by
      show kcM T'.2.1 (T'.2.2.map (toL h))=toL h c
      have e:T'.2.1=[]:=hnil
      rw [e,hc]
      exact kgM _
     obtain ⟨hcm1,hcs⟩:=HD.out.sh.2.2 c hcm
     have hc1':1≤(its c).length:=by omega
     have hp:=its_head hcs hc1'
     have hkk:(kbP (h+1) T').kids=some [some (rid c)]:=by
      show some (T'.2.2.map fun c=>some (rid c))=_
      rw [hc];rfl
     have n3:=hnr.c3s hkk
     have nc:w3.cell? ⟨ln.cc,0,none⟩=some (Is (some ⟨ln.cb,ln.co,none⟩) 1 ln.ck):=hnr.cc hkk
     have k0:w3.cell? ⟨ln.cb,ln.co,none⟩=some (Ip (some ⟨rid c,0,none⟩)):=by
      have:=hnr.kidc hkk (j:=0) (o:=some (rid c)) rfl
      rw [Nat.add_zero] at this
      exact this
     rw [ht1] at s1
     have g1:(((toL h c).length:Int) == 0)=false:=beq_eq_false_iff_ne.2 (by omega)
     have hB9:=(HB3.out.setRoot (some (rid c))).setCnt ((toL h c).length:Int)
     have HB9:=zL hB9
     have hc9:Chg (fun b _=>b=t) w3 ((w3.setCell ⟨t,2,none⟩ (Ip (some ⟨rid c,0,none⟩))).setCell ⟨t,3,none⟩ (Ii Ij ((toL h c).length:Int))):=((zK _ _).setCell (.inl rfl) _).setCell (.inl rfl) _
     have HC9:=zL hc9
     have hb9:((w3.setCell ⟨t,2,none⟩ (Ip (some ⟨rid c,0,none⟩))).setCell ⟨t,3,none⟩ (Ii Ij ((toL h c).length:Int))).heap[w.heap.size+1]?=some (Ic #[Ii Ij 0,Ii Ij 0] 27 (0,0)):=by rw [hc9.block (kbF HB6.out) (fun _ e=>u1 e)];exact HB6.out
     have HBL9:=zL hb9
     have HT1:=zL ht1
     have HCM:=zL hcm
     have HP:=zL (And.intro hcs hc1')
     clear hB9 hc9 hb9 ht1 hnil hnr hc hk1 hcm hcs hc1' hp hcm1 hkk
     go_wp2_with (go_at_call 51;refine (kcJ _ (some ⟨ln.cc,0,none⟩) _ ?_).mono ?_;(focus go_simp);rintro e w' ⟨rfl,rfl⟩)
     refine kbQ (fun wl=>Chg (fun b _=>b=w.heap.size+1) (((w3.setCell ⟨t,2,none⟩ (Ip (some ⟨rid c,0,none⟩))).setCell ⟨t,3,none⟩ (Ii Ij ((toL h c).length:Int)))) wl∧wl.heap[w.heap.size+1]?=some (Ic #[Ii Ij vx.1,Ii Ij vx.2] 27 (0,0))) ⟨?_,blk2 HBL9.out _ _⟩ ?_
     ·repeat (first | refine ze ?_ | refine zf ?_ _ | refine zd ?_ (.inl rfl) _ | exact zK _ _)
     clear p0 p1 r0 r1
     rintro wl ⟨hcl,hbl⟩
     have p0:=kbB hbl 0
     have p1:=kbB hbl 1
     simp only [zF,zD,zE] at p0 p1
     refine bodyPost_ret (v:=Iu #[.agg #[Ii Ij vx.1,Ii Ij vx.2],.bool true]) (by simp [results,Try.results50,go_sem,p0,p1]) rfl ?_
     have hs2:=HS'.out
     rw [HT1.out] at hs2
     refine FIN.out _ _ HC9.out hcl (.inr ⟨h,c,⟨HF3.out.chg HC9.out (fun b _ hb e=>HO3.out t MOwn.self (e▸hb)),HB9.out.at_,HO3.out,HD.out.isT.kid HCM.out,nodup_kid HD.out.nd HCM.out,HP.out.1,hs2,by have:=hlen.out;rw [HT1.out] at this;omega,hs4.out.1,hs4.out.2.1,hs4.out.2.2.1,hs4.out.2.2.2⟩,fun a ha=>HD.out.sub a (kdF HCM.out ha),HB9.out,HT1.out.symm,HP.out.2,HMK.out.2 _ HCM.out⟩)
end
section
open Go.RowKit
variable {ord:List Int}
end
end Go.Proofs.Ytnohimhihombmaa
