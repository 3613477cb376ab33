/- Set of the map: its root takes the item. -/
import Derived.Test.YtnohimhihombmaaA1
import Derived.Test.YtnohimhihombmaaA2
import Derived.Test.YtnohimhihombmaaA4
namespace Go.Proofs.Ytnohimhihombmaa
set_option linter.unusedSimpArgs false
set_option linter.unusedVariables false
set_option maxRecDepth 100000
set_option maxHeartbeats 40000000
open Value renaming int → Ii, pointer → Ip, slice → Is, tuple → Iu
open IntKind renaming i64 → Ij
open Obj renaming cells → Ic
open Ending renaming returned → Ir
open Option.some renaming inj → Iq
open _root_.Go.Proofs.Try renaming prog → Tp
open List renaming setIfInBounds_toArray → zA, set_cons_zero → zB, set_cons_succ → zC, getElem?_cons_zero → zD, getElem?_cons_succ → zE, getElem?_toArray → zF, getElem?_eq_getElem → zH, mem_append → zO, mem_cons → zR, mem_of_getElem? → zS, length_append → zT, length_map → zU, length_take → zV, length_set → zW, getElem?_append_right → zo, getElem?_map → zp, append_assoc → zu, mem_flatMap → zzb
open Region renaming wanted → zI
open Chg renaming refl → zK, setCell → zd, drewN → zf
open Nat renaming le_refl → zi, le_trans → zj, le_add_right → zl
section
open Go.RowKit
variable {ord:List Int} {k:Kc ord}
variable {α:Type}
theorem inter_len:∀(xs:List α) (ts:List (List α)),ts.length=xs.length+1→(kcM xs ts).length=xs.length+(ts.map (·.length)).sum
 | [],[t],_=>by simp [kcM]
 | x::xs,t::ts,h=>by
  simp only [kcM,zT,List.length_cons,List.map_cons,List.sum_cons]
  rw [inter_len xs ts (by simpa using h)];omega
variable {h:Nat}
theorem ksum_rids (cf:Nat→Int):∀ks:List (BT α h),(∀c∈ks,cf (rid c)=((toL h c).length:Nat))→ksum cf (ks.map rid)=(((ks.map (toL h)).map (·.length)).sum:Nat)
 | [],_=>rfl
 | c::ks,h=>by
  rw [List.map_cons,ksum_cons,h c List.mem_cons_self,ksum_rids cf ks (fun d hd=>h d (List.mem_cons_of_mem _ hd))]
  simp
def kidIds {α:Type}:{h:Nat}→BT α h→List Nat
 | 0,_=>[]
 | _+1,t=>t.2.2.map rid
def cntOf {α:Type} (H:Nat→Option (NodeR α)) (a:Nat):Int:=((H a).map (·.cnt)).getD 0
variable {H:Nat→Option (NodeR α)}
theorem cntOf_kid {t:BT α (h+1)} (hT:IsT H (h+1) t) {c:BT α h} (hc:c∈t.2.2):cntOf H (rid c)=((toL h c).length:Nat):=by
 unfold cntOf
 rw [(hT.2 c hc).root]
 simp [kcH]
theorem recOf_cut {t:BT α h} {mn mx i:Nat} (m:Nat) (hT:IsT H h t) (hs:Sh mn mx h t) (hi:i < (its t).length) :
  kbP h (cutL t i)=⟨(i:Nat)+ksum (cntOf H) ((kidIds t).take (i+1)),(its t).take i,(kbP h t).kids.map (·.take (i+1))⟩ ∧
  kbP h (cutR t m i)=⟨(((its t).length - (i+1):Nat):Int)+ksum (cntOf H) ((kidIds t).drop (i+1)),(its t).drop (i+1),(kbP h t).kids.map (·.drop (i+1))⟩:=by
 match h,t with
 | 0,t =>
  have hi':i < t.2.length:=hi
  refine ⟨?_,?_⟩
  ·show (⟨((t.2.take i).length:Nat),t.2.take i,none⟩:NodeR α)=⟨(i:Nat)+ksum (cntOf H) (([]:List Nat).take (i+1)),t.2.take i,none⟩
   rw [List.take_nil,ksum_nil,zV,Nat.min_eq_left (by omega)];simp
  ·show (⟨((t.2.drop (i+1)).length:Nat),t.2.drop (i+1),none⟩:NodeR α)=⟨((t.2.length - (i+1):Nat):Int)+ksum (cntOf H) (([]:List Nat).drop (i+1)),t.2.drop (i+1),none⟩
   rw [List.drop_nil,ksum_nil,List.length_drop];simp
 | h+1,t =>
  have hi':i < t.2.1.length:=hi
  have hl:t.2.2.length=t.2.1.length+1:=hs.2.1
  have hk1:=ksum_rids (cntOf H) (t.2.2.take (i+1)) (fun c hc=>cntOf_kid hT (List.mem_of_mem_take hc))
  have hk2:=ksum_rids (cntOf H) (t.2.2.drop (i+1)) (fun c hc=>cntOf_kid hT (List.mem_of_mem_drop hc))
  refine ⟨?_,?_⟩
  ·show (⟨((kcM (t.2.1.take i) ((t.2.2.take (i+1)).map (toL h))).length:Nat),t.2.1.take i,some ((t.2.2.take (i+1)).map fun c=>some (rid c))⟩:NodeR α) =
    ⟨(i:Nat)+ksum (cntOf H) ((t.2.2.map rid).take (i+1)),t.2.1.take i,some ((t.2.2.map fun c=>some (rid c)).take (i+1))⟩
   rw [←List.map_take,←List.map_take,hk1,inter_len _ _ (by simp;omega),zV,Nat.min_eq_left (by omega)]
   simp
  ·show (⟨((kcM (t.2.1.drop (i+1)) ((t.2.2.drop (i+1)).map (toL h))).length:Nat),t.2.1.drop (i+1),some ((t.2.2.drop (i+1)).map fun c=>some (rid c))⟩:NodeR α) =
    ⟨((t.2.1.length - (i+1):Nat):Int)+ksum (cntOf H) ((t.2.2.map rid).drop (i+1)),t.2.1.drop (i+1),some ((t.2.2.map fun c=>some (rid c)).drop (i+1))⟩
   rw [←List.map_drop,←List.map_drop,hk2,inter_len _ _ (by simp;omega),List.length_drop]
   simp
def Avail (mx:Nat):(h:Nat)→BT (It ord) h→It ord→Prop
 | 0,t,x=>t.2.length < mx∨∃i y,HitAt ltM t.2 x i y
 | h+1,t,x=>t.2.1.length < mx∨(∃i y,HitAt ltM t.2.1 x i y)∨∃i c,PosAt ltM t.2.1 x i∧t.2.2[i]?=some c∧Avail mx h c x
theorem Avail.room {mx:Nat}:{h:Nat}→{t:BT (It ord) h}→{x:It ord}→(its t).length < mx→Avail mx h t x
 | 0,_,_,h=>.inl h
 | _+1,_,_,h=>.inl h
theorem Avail.hit {mx:Nat}:{h:Nat}→{t:BT (It ord) h}→{x y:It ord}→{i:Nat}→HitAt ltM (its t) x i y→Avail mx h t x
 | 0,_,_,_,_,h=>.inr ⟨_,_,h⟩
 | _+1,_,_,_,_,h=>.inr (.inl ⟨_,_,h⟩)
def Found (l:List (It ord)) (x:It ord) (pr:It ord) (rp:Bool):Prop:=(∃y,fndL ltM x l=some y∧pr=y∧rp=true)∨(fndL ltM x l=none∧rp=false)
structure SetIn (mn mx B:Nat) (H:HN ord) (h:Nat) (T:BT (It ord) h) (x:It ord) (H':HN ord) (pr:It ord) (rp:Bool) (T':BT (It ord) h):Prop where
 isT:IsT H' h T'
 rid':rid T'=rid T
 nd:(ids h T').Nodup
 new:∀a∈ids h T',a∈ids h T∨B≤a
 sh:Sh mn mx h T'
 len:(its T).length≤(its T').length
 list:toL h T'=insL ltM x (toL h T)
 found:Found (toL h T) x pr rp
 rest:∀a,a < B→a∉ids h T→H' a=H a
def SetOut (mn mx B:Nat) (H:HN ord) (h:Nat) (T:BT (It ord) h) (x:It ord) (H':HN ord) (pr:It ord) (rp sp:Bool):Prop :=
 (sp=true∧H'=H∧¬Avail mx h T x)∨(sp=false∧Avail mx h T x∧∃T',SetIn mn mx B H h T x H' pr rp T')
structure TreeIn (k:Kc ord) (mn mx:Nat) (w:World) (F:Nat→Prop) (H:HN ord) (t:Nat) (h:Nat) (T:BT (It ord) h):Prop where
 fam:Fam (parM k) w F H
 map:MapAt k mn mx w t
 out:∀b,MOwn k t b→¬F b
 isT:IsT H h T
 nd:(ids h T).Nodup
 sh:Sh mn mx h T
 srt:Srt ltM (toL h T)
 big:(toL h T).length≤100000000000000
 m3:3≤mx
 m1000:mx≤1000
 mh:mn≤mx / 2
 mh2:mn≤mx - (mx / 2+1)
def SetSpec (ord:List Int) (h:Nat):Prop:=∀(k:Kc ord) (mn mx t:Nat) (pa:Addr) (dp:Int) (x:It ord) (w:World) (F:Nat→Prop) (H:HN ord) (T:BT (It ord) h),TreeIn k mn mx w F H t h T →
 w.cell? pa=some (Ip (some ⟨rid T,0,none⟩)) →
 Calls Tp 84 #[Ip (some ⟨t,0,none⟩),Ip (some pa),aggM x,Ip none,Ii Ij dp] w (KidPost k F (fun w1 H' pr rp sp=>SetOut mn mx w1.heap.size H h T x H' pr rp sp) w)
theorem updNe {n a:Nat} {r:NodeR α} (h:a≠n):upd H n r a=H a:=if_neg h
theorem set_hit_any {k:Kc ord} {mn mx t:Nat} {pa:Addr} {dp:Int} {x y:It ord} {i:Nat} {w:World} {F:Nat→Prop} {H:HN ord} {T:BT (It ord) h} (hI:TreeIn k mn mx w F H t h T)
  (hpa:w.cell? pa=some (Ip (some ⟨rid T,0,none⟩))) (hy:HitAt ltM (its T) x i y) :
  Calls Tp 84 #[Ip (some ⟨t,0,none⟩),Ip (some pa),aggM x,Ip none,Ii Ij dp] w (KidPost k F (fun w1 H' pr rp sp=>SetOut mn mx w1.heap.size H h T x H' pr rp sp) w):=by
 have hl:=hI.sh.len
 have hs:=its_srt hI.sh hI.srt
 have:=hI.m1000
 refine (nodeSet_hit k mn mx t (rid T) pa dp x y i (kbP h T) w F H hI.fam hI.map hI.isT.root hpa (by rw [kbG];exact hs) (by rw [kbG];omega) (by rw [kbG];exact hy)).mono ?_
 rintro e w' ⟨rfl,h1,h2⟩
 rw [kbG] at h1
 obtain ⟨e1,e2⟩:=toL_hit swoM hI.sh hI.srt hy
 refine ⟨_,y,true,false,rfl,h1,h2,.inr ⟨rfl,.hit hy,setIt T i x,?_⟩⟩
 exact ⟨hI.isT.setIt hI.nd hI.sh hy.at_ x,rid_setIt T i x,by rw [ids_setIt];exact hI.nd,fun a ha=>.inl (by rw [ids_setIt] at ha;exact ha),sh_setIt i x hI.sh,by rw [its_setIt,zW];exact zi _,e1,.inl ⟨y,e2,rfl,rfl⟩,
  fun a ha hn=>updNe (fun e=>hn (e▸kcV T))⟩
theorem setSpec0:SetSpec ord 0:=by
 intro k mn mx t pa dp x w F H T hI hpa
 rcases pos_or_hit swoM (x:=x) (its_srt hI.sh hI.srt) with ⟨i,hp⟩ | ⟨i,y,hy⟩
 ·have hl:T.2.length≤mx:=hI.sh
  have hm:=hI.m1000
  rcases Nat.lt_or_ge T.2.length mx with hlt | hge
  ·refine (nodeSet_leaf_room k mn mx t (rid T) pa dp x i (kbP 0 T) w F H hI.fam hI.map hI.out hI.isT.root hpa hI.srt hlt hm hp rfl (by show (0:Int)≤(T.2.length:Nat);omega) (by show ((T.2.length:Nat):Int)≤_;omega)).mono ?_
   rintro e w' ⟨rfl,h1,h2⟩
   obtain ⟨e1,e2⟩:=pos_gap swoM hp
   refine ⟨_,((0,0):It ord),false,false,rfl,h1,h2,.inr ⟨rfl,.room hlt,(T.1,T.2.take i++x::T.2.drop i),?_⟩⟩
   have hle:=hp.le
   have hl2:(T.2.take i++x::T.2.drop i).length=T.2.length+1:=by
    have:i≤T.2.length:=hle
    simp;omega
   refine ⟨?_,rfl,hI.nd,fun a ha=>.inl ha,?_,?_,e1.symm,.inr ⟨e2,rfl⟩,fun a ha hn=>updNe (fun e=>hn (e▸kcV T))⟩
   ·show upd H (rid T) _ (rid T)=some (kbP 0 ((T.1,T.2.take i++x::T.2.drop i):BT (It ord) 0))
    refine (if_pos rfl).trans ?_
    show some (⟨((T.2.length:Nat):Int)+1,T.2.take i++x::T.2.drop i,none⟩:NodeR (It ord))=some ⟨((T.2.take i++x::T.2.drop i).length:Nat),T.2.take i++x::T.2.drop i,none⟩
    rw [hl2];rfl
   ·show (T.2.take i++x::T.2.drop i).length≤mx
    omega
   ·show T.2.length≤(T.2.take i++x::T.2.drop i).length
    omega
  ·refine (nodeSet_leaf_full k mn mx t (rid T) pa dp x i (kbP 0 T) w F H hI.fam hI.map hI.isT.root hpa hI.srt (by show T.2.length=mx;omega) hm hp rfl).mono ?_
   rintro e w' ⟨rfl,h1,h2⟩
   refine ⟨_,((0,0):It ord),false,true,rfl,h1,h2.mono (fun _ _ _ h=>h.elim),.inl ⟨rfl,rfl,?_⟩⟩
   rintro (h | ⟨j,y,h⟩)
   ·omega
   ·have:=hp.right j y (hit_le hp h) h.at_
    rw [h.n2] at this;cases this
 ·exact set_hit_any hI hpa hy
end
section
open Go.RowKit
variable {ord:List Int} {k:Kc ord}
variable {α:Type} {i:Nat}
theorem set_same {l:List α} {v:α} (h:l[i]?=some v):l.set i v=l:=by
 obtain ⟨hi,rfl⟩:=List.getElem?_eq_some_iff.1 h
 exact List.set_getElem_self hi
theorem kdK {l:List α} {c c' d:α} (hc:l[i]?=some c) (hd:d∈l.set i c'):d=c'∨d∈l.take i∨d∈l.drop (i+1):=by
 rw [set_at hc] at hd
 simp only [zO,zR,List.not_mem_nil,or_false] at hd
 rcases hd with (hd | hd) | hd
 ·exact .inr (.inl hd)
 ·exact .inl hd
 ·exact .inr (.inr hd)
variable {h:Nat}
theorem kid_apart {t:BT α (h+1)} {c d:BT α h} (hc:t.2.2[i]?=some c) (hn:(ids (h+1) t).Nodup) (hd:d∈t.2.2.take i∨d∈t.2.2.drop (i+1)) {a:Nat} (ha:a∈ids h d):a∉ids h c:=by
 obtain ⟨n,xs,ts⟩:=t
 intro hac
 have e:ids (h+1) ((n,xs,ts):BT α (h+1))=ids (h+1) ((n,xs,ts.take i++c::ts.drop (i+1)):BT α (h+1)):=by rw [←split_at hc]
 rw [e] at hn
 obtain ⟨_,h1,h2⟩:=nodup_apart hn hac
 rcases hd with hd | hd
 ·exact h1 (zzb.2 ⟨d,hd,ha⟩)
 ·exact h2 (zzb.2 ⟨d,hd,ha⟩)
theorem kid_mem {t:BT α (h+1)} {d:BT α h} (hd:d∈t.2.2.take i∨d∈t.2.2.drop (i+1)):d∈t.2.2:=by
 rcases hd with hd | hd
 ·exact List.mem_of_mem_take hd
 ·exact List.mem_of_mem_drop hd
variable {T:BT (It ord) (h+1)}
theorem setKid_in {mn mx B B1:Nat} {H H':HN ord} {x:It ord} {pr:It ord} {rp:Bool} {c c':BT (It ord) h} (hT:IsT H (h+1) T) (hd:(ids (h+1) T).Nodup) (hB:∀a∈ids (h+1) T,a < B) (hBB:B≤B1)
  (hs:Sh mn mx (h+1) T) (hsrt:Srt ltM (toL (h+1) T)) (hp:PosAt ltM T.2.1 x i) (hc:T.2.2[i]?=some c) (hi:SetIn mn mx B1 H h c x H' pr rp c') :
  SetIn mn mx B H (h+1) T x (if rp then H' else upd H' (rid T) { kbP (h+1) T with cnt:=(kbP (h+1) T).cnt+1 }) pr rp (setKid T i c'):=by
 have hcm:c∈T.2.2:=zS hc
 obtain ⟨hA,hC⟩:=around swoM hs hc hsrt hp
 have hlist:toL (h+1) (setKid T i c')=insL ltM x (toL (h+1) T):=by
  rw [toL_setKid hs hc,hi.list,kfY hs hc,insL_mid swoM hA hC]
 have hfnd:fndL ltM x (toL (h+1) T)=fndL ltM x (toL h c):=by rw [kfY hs hc,fndL_mid swoM hA hC]
 have hfound:Found (toL (h+1) T) x pr rp:=by unfold Found;rw [hfnd];exact hi.found
 have hlen:=insL_len (lt:=ltM) (x:=x) (l:=toL (h+1) T)
 rw [←hlist] at hlen
 obtain ⟨n1,n2⟩:=ids_setKid (c':=c') hc hd hB (fun a ha=>by rcases hi.new a ha with h | h;exact .inl h;exact .inr (by omega)) hi.nd
 have hroot:rid T∉ids h c:=kcK hd hcm
 have hrB:=hB _ (kcV T)
 have hHn:H' (rid T)=some (kbP (h+1) T):=(hi.rest _ (by omega) hroot).trans hT.root
 have hoff:∀a,a≠rid T→(if rp then H' else upd H' (rid T) { kbP (h+1) T with cnt:=(kbP (h+1) T).cnt+1 }) a=H' a:=by
  intro a ha
  cases rp
  ·exact updNe ha
  ·rfl
 have hkids:(setKid T i c').2.2.map (fun c=>some (rid c))=T.2.2.map fun c=>some (rid c):=by
  show (T.2.2.set i c').map _=_
  rw [List.map_set,hi.rid']
  exact set_same (by simp [hc])
 refine ⟨⟨?_,?_⟩,rfl,n1,n2,?_,zi _,hlist,hfound,?_⟩
 ·show (if rp then H' else upd H' (rid T) { kbP (h+1) T with cnt:=(kbP (h+1) T).cnt+1 }) (rid T)=some (⟨((toL (h+1) (setKid T i c')).length:Nat),T.2.1,some ((setKid T i c').2.2.map fun c=>some (rid c))⟩:NodeR (It ord))
  rw [hkids,hlen]
  rcases hfound with ⟨y,f1,_,rfl⟩ | ⟨f1,rfl⟩
  ·rw [f1];exact hHn
  ·rw [f1];exact if_pos rfl
 ·intro d hd2
  rcases kdK hc hd2 with rfl | hd2
  ·refine hi.isT.congr fun a ha=>hoff a fun e=>?_
   rcases hi.new a ha with h | h
   ·exact hroot (e▸h)
   ·omega
  ·have hdm:=kid_mem hd2
   refine (hT.2 d hdm).congr fun a ha=>?_
   rw [hoff a fun e=>kcK hd hdm (e▸ha)]
   exact hi.rest a (by have:=hB a (kdF hdm ha);omega) (kid_apart hc hd hd2 ha)
 ·refine ⟨hs.1,?_,fun d hd2=>?_⟩
  ·show (T.2.2.set i c').length=T.2.1.length+1
   rw [zW];exact hs.2.1
  ·rcases kdK hc hd2 with rfl | hd2
   ·exact ⟨zj (hs.2.2 c hcm).1 hi.len,hi.sh⟩
   ·exact hs.2.2 d (kid_mem hd2)
 ·intro a ha hn
  rw [hoff a fun e=>hn (e▸kcV T)]
  exact hi.rest a (by omega) fun hm=>hn (kdF hcm hm)
theorem TreeIn.kid {k:Kc ord} {mn mx:Nat} {w w1:World} {F:Nat→Prop} {H:HN ord} {t h:Nat} {T:BT (It ord) (h+1)} (hI:TreeIn k mn mx w F H t (h+1) T) (hc1:Chg (fun _ _=>False) w w1) (hf:Fam (parM k) w1 F H) (hm:MapAt k mn mx w1 t)
  {i:Nat} {c:BT (It ord) h} (hc:T.2.2[i]?=some c):TreeIn k mn mx w1 F H t h c:=by
 have hcm:c∈T.2.2:=zS hc
 refine ⟨hf,hm,hI.out,hI.isT.kid hcm,nodup_kid hI.nd hcm,(hI.sh.2.2 c hcm).2,sub_srt hI.sh hc hI.srt,?_,hI.m3,hI.m1000,hI.mh,hI.mh2⟩
 have:=hI.big
 rw [kfY hI.sh hc] at this
 simp only [zT] at this
 omega
def SetYes (mn mx B:Nat) (H:HN ord) (h:Nat) (T:BT (It ord) h) (x:It ord) (H':HN ord) (pr:It ord) (rp sp:Bool):Prop :=
 sp=false∧∃T',SetIn mn mx B H h T x H' pr rp T'
theorem set_step1 (ih:SetSpec ord h) {k:Kc ord} {mn mx t:Nat} {pa:Addr} {dp:Int} {x:It ord} {w:World} {F:Nat→Prop} {H:HN ord} (hI:TreeIn k mn mx w F H t (h+1) T)
  (hpa:w.cell? pa=some (Ip (some ⟨rid T,0,none⟩))) {i:Nat} {c:BT (It ord) h} (hp:PosAt ltM T.2.1 x i) (hc:T.2.2[i]?=some c) (ha:Avail mx h c x) :
  Calls Tp 84 #[Ip (some ⟨t,0,none⟩),Ip (some pa),aggM x,Ip none,Ii Ij dp] w (KidPost k F (fun w1 H' pr rp sp=>SetYes mn mx w1.heap.size H (h+1) T x H' pr rp sp) w):=by
 have hcm:c∈T.2.2:=zS hc
 have hl:(its T).length≤mx:=hI.sh.len
 have hm:=hI.m1000
 have hlt:∀a∈ids (h+1) T,a < w.heap.size:=fun a ha=>hI.isT.lt hI.fam ha
 have hbig:=hI.big
 refine (nodeSet_kid_ok k mn mx t (rid T) pa dp x i (kbP (h+1) T) w F H hI.fam hI.map hI.out hI.isT.root hpa (its_srt hI.sh hI.srt) hl hm hp (T.2.2.map rid) (by show some (T.2.2.map fun c=>some (rid c))=_;rw [List.map_map];rfl) (rid c) (by rw [zp,hc];rfl)
  (by rw [kcH];omega) (by rw [kcH];omega) (fun w1 H' pr rp sp=>SetOut mn mx w1.heap.size H h c x H' pr rp sp) (fun w1 pa' dp' hc1 hf1 hm1 hpa1=>ih k mn mx t pa' dp' x w1 F H c (hI.kid hc1 hf1 hm1 hc) hpa1) ?_).mono ?_
 ·rintro w1 H' pr rp sp (⟨_,_,hno⟩ | ⟨rfl,_,c',hi⟩) hw
  ·exact absurd ha hno
  ·exact ⟨rfl,(hi.rest _ (by have:=hlt _ (kcV T);omega) (kcK hI.nd hcm)).trans hI.isT.root⟩
 ·rintro e w' ⟨w1,H',pr,rp,hc1,hz,rfl,h1,h2⟩
  rcases hz with ⟨hno,_,_⟩ | ⟨_,_,c',hi⟩
  ·cases hno
  ·exact ⟨_,pr,rp,false,rfl,h1,h2,rfl,_,setKid_in hI.isT hI.nd hlt hc1.size hI.sh hI.srt hp hc hi⟩
end
section
open Go.RowKit
variable {ord:List Int} {k:Kc ord}
theorem kidIds_facts {α:Type} {H:Nat→Option (NodeR α)} {mn mx:Nat}:{h:Nat}→{c:BT α h}→IsT H h c→(ids h c).Nodup→Sh mn mx h c →
  (((kbP h c).kids=none∧kidIds c=[])∨((kbP h c).kids=some ((kidIds c).map some)∧(kidIds c).length=(its c).length+1)) ∧
  (∀a∈kidIds c,a≠rid c∧∃s,H a=some s∧s.cnt=cntOf H a∧0≤cntOf H a)∧ksum (cntOf H) (kidIds c)≤((toL h c).length:Nat)
 | 0,c,_,_,_=>by
  refine ⟨.inl ⟨rfl,rfl⟩,?_,?_⟩
  ·intro a ha
   exact absurd ha (List.not_mem_nil)
  ·show ksum (cntOf H) []≤_
   rw [ksum_nil];omega
 | h+1,c,hT,hd,hs=>by
  refine ⟨.inr ⟨?_,?_⟩,?_,?_⟩
  ·show some (c.2.2.map fun c=>some (rid c))=some ((c.2.2.map rid).map some)
   rw [List.map_map];rfl
  ·show (c.2.2.map rid).length=c.2.1.length+1
   rw [zU];exact hs.2.1
  ·intro a ha
   obtain ⟨d,hd2,rfl⟩:=List.mem_map.1 ha
   refine ⟨fun e=>kcK hd hd2 (e▸kcV d),kbP h d,(hT.2 d hd2).root,?_,?_⟩
   ·rw [cntOf_kid hT hd2,kcH]
   ·rw [cntOf_kid hT hd2];omega
  ·show ksum (cntOf H) (c.2.2.map rid)≤_
   rw [ksum_rids _ _ fun d hd2=>cntOf_kid hT hd2]
   have:=inter_len c.2.1 (c.2.2.map (toL h)) (by simpa using hs.2.1)
   show _≤(((kcM c.2.1 (c.2.2.map (toL h))).length:Nat):Int)
   omega
theorem isT_cut {α:Type} {H H5:Nat→Option (NodeR α)} {m i:Nat}:{h:Nat}→{c:BT α h}→IsT H h c→(ids h c).Nodup→H5 (rid c)=some (kbP h (cutL c i))→H5 m=some (kbP h (cutR c m i))→(∀a∈ids h c,a≠rid c→H5 a=H a) →
  IsT H5 h (cutL c i)∧IsT H5 h (cutR c m i)
 | 0,_,_,_,h1,h2,_=>⟨h1,h2⟩
 | h+1,c,hT,hd,h1,h2,h3=>by
  have key:∀d∈c.2.2,IsT H5 h d:=fun d hd2=>(hT.2 d hd2).congr fun a ha=>h3 a (kdF hd2 ha) fun e=>kcK hd hd2 (e▸ha)
  exact ⟨⟨h1,fun d hd2=>key d (List.mem_of_mem_take hd2)⟩,⟨h2,fun d hd2=>key d (List.mem_of_mem_drop hd2)⟩⟩
theorem avail_full {mx:Nat} {h:Nat} {T:BT (It ord) (h+1)} {x:It ord} {i:Nat} {c:BT (It ord) h} (hp:PosAt ltM T.2.1 x i) (hc:T.2.2[i]?=some c) (hl:mx≤T.2.1.length) (hno:¬Avail mx h c x):¬Avail mx (h+1) T x:=by
 rintro (h1 | ⟨j,y,h1⟩ | ⟨j,d,h1,h2,h3⟩)
 ·omega
 ·have:=hp.right j y (hit_le hp h1) h1.at_
  rw [h1.n2] at this;cases this
 ·obtain rfl:=pos_same h1 hp swoM
  rw [hc] at h2
  obtain rfl:=Iq h2
  exact hno h3
theorem pos_put {xs:List (It ord)} {x x2:It ord} {i j:Nat} (h1:PosAt ltM xs x i) (h2:PosAt ltM (xs.take i++x2::xs.drop i) x j):j=i∨j=i+1:=by
 have hle:=h1.le
 have hlen:(xs.take i).length=i:=by simp;omega
 have a1:¬j < i:=fun c=>by
  have e:(xs.take i++x2::xs.drop i)[j]?=xs[j]?:=by
   rw [List.getElem?_append_left (by omega),List.getElem?_take_of_lt c]
  have hj:xs[j]?=some xs[j]:=zH (by omega)
  have g1:=h1.left j _ c hj
  have g2:=h2.right j _ (zi _) (e.trans hj)
  rw [swoM.asymm _ _ g1] at g2;cases g2
 have a2:¬i+1 < j:=fun c=>by
  have hjl:=h2.le
  simp at hjl
  have hi:i < xs.length:=by omega
  have hj:xs[i]?=some xs[i]:=zH hi
  have e:(xs.take i++x2::xs.drop i)[i+1]?=xs[i]?:=by
   rw [zo (by omega),hlen]
   simp [List.getElem?_drop]
  have g1:=h1.right i _ (zi _) hj
  have g2:=h2.left (i+1) _ c (e.trans hj)
  rw [swoM.asymm _ _ g1] at g2;cases g2
 omega
theorem set_yes {h:Nat} (ih:SetSpec ord h) {k:Kc ord} {mn mx t:Nat} {pa:Addr} {dp:Int} {x:It ord} {w:World} {F:Nat→Prop} {H:HN ord} {T:BT (It ord) (h+1)} (hI:TreeIn k mn mx w F H t (h+1) T)
  (hpa:w.cell? pa=some (Ip (some ⟨rid T,0,none⟩))) (hgo:∀j d,PosAt ltM T.2.1 x j→T.2.2[j]?=some d→Avail mx h d x) :
  Calls Tp 84 #[Ip (some ⟨t,0,none⟩),Ip (some pa),aggM x,Ip none,Ii Ij dp] w (KidPost k F (fun w1 H' pr rp sp=>SetYes mn mx w1.heap.size H (h+1) T x H' pr rp sp) w):=by
 rcases pos_or_hit swoM (x:=x) (its_srt hI.sh hI.srt) with ⟨j,hp⟩ | ⟨j,y,hy⟩
 ·have hj:j < T.2.2.length:=by
   have h1:j≤T.2.1.length:=hp.le
   have:=hI.sh.2.1;omega
  exact set_step1 ih hI hpa hp (zH hj) (hgo j _ hp (zH hj))
 ·refine (set_hit_any hI hpa hy).mono ?_
  rintro e w' ⟨H',pr,rp,sp,he,h1,h2,h3⟩
  refine ⟨H',pr,rp,sp,he,h1,h2,?_⟩
  rcases h3 with ⟨_,_,hno⟩ | ⟨h3,_,h4⟩
  ·exact absurd (Avail.hit hy) hno
  ·exact ⟨h3,h4⟩
theorem setSpecS {h:Nat} (ih:SetSpec ord h):SetSpec ord (h+1):=by
 intro k mn mx t pa dp x w F H T hI hpa
 rcases pos_or_hit swoM (x:=x) (its_srt hI.sh hI.srt) with ⟨i,hp⟩ | ⟨i,y,hy⟩
 rotate_left
 ·exact set_hit_any hI hpa hy
 have hj:i < T.2.2.length:=by
  have h1:i≤T.2.1.length:=hp.le
  have:=hI.sh.2.1;omega
 obtain ⟨c,hc⟩:∃c,T.2.2[i]?=some c:=⟨_,zH hj⟩
 have hcm:c∈T.2.2:=zS hc
 have hl:T.2.1.length≤mx:=hI.sh.len
 have hm:=hI.m1000
 have hm3:=hI.m3
 have hlt:∀a∈ids (h+1) T,a < w.heap.size:=fun a ha=>hI.isT.lt hI.fam ha
 have hbig:=hI.big
 have hkr:(kbP (h+1) T).kids=some ((T.2.2.map rid).map some):=by show some (T.2.2.map fun c=>some (rid c))=_;rw [List.map_map];rfl
 have hcr:(T.2.2.map rid)[i]?=some (rid c):=by rw [zp,hc];rfl
 by_cases ha:Avail mx h c x
 ·refine (set_step1 ih hI hpa hp hc ha).mono ?_
  rintro e w' ⟨H',pr,rp,sp,he,h1,h2,h3,h4⟩
  exact ⟨H',pr,rp,sp,he,h1,h2,.inr ⟨h3,.inr (.inr ⟨i,c,hp,hc,ha⟩),h4⟩⟩
 have hcl:(its c).length=mx:=by
  have h1:=(hI.sh.2.2 c hcm).2.len
  rcases Nat.lt_or_ge (its c).length mx with h2 | h2
  ·exact absurd (Avail.room h2) ha
  ·omega
 have hcT:=hI.isT.kid hcm
 have hcd:=nodup_kid hI.nd hcm
 have hcs:=(hI.sh.2.2 c hcm).2
 have hcall:∀w1 pa dp,Chg (fun _ _=>False) w w1→Fam (parM k) w1 F H→MapAt k mn mx w1 t→w1.cell? pa=some (Ip (some ⟨rid c,0,none⟩)) →
   Calls Tp 84 #[Ip (some ⟨t,0,none⟩),Ip (some pa),aggM x,Ip none,Ii Ij dp] w1 (KidPost k F (fun w1 H' pr rp sp=>SetOut mn mx w1.heap.size H h c x H' pr rp sp) w1) :=
  fun w1 pa' dp' hc1 hf1 hm1 hpa1=>ih k mn mx t pa' dp' x w1 F H c (hI.kid hc1 hf1 hm1 hc) hpa1
 have hZ:∀(w1:World) H' pr rp sp,SetOut mn mx w1.heap.size H h c x H' pr rp sp→w.heap.size≤w1.heap.size→sp=true∧H'=H:=by
  rintro w1 H' pr rp sp (⟨h1,h2,_⟩ | ⟨_,h2,_⟩) _
  ·exact ⟨h1,h2⟩
  ·exact absurd h2 ha
 rcases Nat.lt_or_ge T.2.1.length mx with hroom | hfull
 rotate_left
 ·refine (nodeSet_kid_full k mn mx t (rid T) pa dp x i (kbP (h+1) T) w F H hI.fam hI.map hI.out hI.isT.root hpa (its_srt hI.sh hI.srt) (by show T.2.1.length=mx;omega) hm hp (T.2.2.map rid) hkr (rid c) hcr _ hcall hZ).mono ?_
  rintro e w' ⟨rfl,h1,h2⟩
  exact ⟨_,((0,0):It ord),false,true,rfl,h1,h2,.inl ⟨rfl,rfl,avail_full hp hc hfull ha⟩⟩
 obtain ⟨kf1,kf2,kf3⟩:=kidIds_facts hcT hcd hcs
 have hclen:(toL h c).length≤(toL (h+1) T).length:=by rw [kfY hI.sh hc];simp only [zT];omega
 have hrcn:rid c≠rid T:=fun e=>kcK hI.nd hcm (e▸kcV c)
 have tlt:t < w.heap.size:=World.block_lt_of_cell? w _ hI.map.c0
 have hrc:=fun m=>recOf_cut (i:=mx / 2) m hcT hcs (by omega)
 refine (nodeSet_kid_split k mn mx t (rid T) pa dp x i (kbP (h+1) T) w F H hI.fam hI.map hI.out hI.isT.root hpa (its_srt hI.sh hI.srt) hroom hm hm3 hp (T.2.2.map rid) hkr (by rw [zU,hI.sh.2.1];omega) (rid c) hcr _ hcall hZ
  (kbP h c) hcT.root hrcn (kidIds c) (by rw [hcl] at kf1;exact kf1) (by rw [kbG];exact hcl) (cntOf H) kf2 (by omega)
  (fun w1 H' pr rp sp=>∃T2 H5,rid T2=rid T∧(∀a∈ids (h+1) T2,a∈ids (h+1) T∨w.heap.size≤a)∧(its T).length≤(its T2).length∧toL (h+1) T2=toL (h+1) T∧(∀a,a < w.heap.size→a∉ids (h+1) T→H5 a=H a)∧SetYes mn mx w1.heap.size H5 (h+1) T2 x H' pr rp sp) ?_).mono ?_
 ·intro w1 pa1 dp1 F1 m x2 hm1 hm2 hx2 hup hof hFam hMap hpa1
  obtain ⟨rc1,rc2⟩:=hrc m
  rw [hcl] at rc2
  rw [kbG] at hx2
  rw [kbG,←rc1,←rc2] at hFam
  obtain ⟨g1,g2,g3⟩:=ids_cut (t:=c) (m:=m) (i:=mx / 2) hcd (fun a ha=>hlt a (kdF hcm ha)) hm1
  have hids:=ids_replace (n:=T.1) (xs:=T.2.1) (xs':=T.2.1.take i++x2::T.2.1.drop i) (L:=T.2.2.take i) (R:=T.2.2.drop (i+1)) (cs:=[cutL c (mx / 2),cutR c m (mx / 2)]) (c:=c) (B:=w.heap.size)
   (by rw [←split_at hc];exact hI.nd) (by rw [←split_at hc];exact hlt)
   (fun a ha=>by
    simp only [List.flatMap_cons,List.flatMap_nil,List.append_nil,zO] at ha
    rcases ha with ha | ha
    ·exact .inl (g2 a ha)
    ·rcases g3 a ha with h | h
     ·exact .inl h
     ·exact .inr (by omega)) (by simpa using g1)
  rw [←split_at hc] at hids
  have hrT:rid T < w.heap.size:=hlt _ (kcV T)
  have hrc':rid c < w.heap.size:=hlt _ (kdF hcm (kcV c))
  have htoL:toL (h+1) (put2 T i x2 (cutL c (mx / 2)) (cutR c m (mx / 2)))=toL (h+1) T:=toL_put2 hI.sh hc (toL_cut m hcs hx2)
  have e5:(⟨(kbP (h+1) T).cnt,(kbP (h+1) T).items.take i++x2::(kbP (h+1) T).items.drop i,some (((T.2.2.map rid).take (i+1)++m::(T.2.2.map rid).drop (i+1)).map some)⟩:NodeR (It ord))=kbP (h+1) (put2 T i x2 (cutL c (mx / 2)) (cutR c m (mx / 2))):=by
   show _=(⟨((toL (h+1) (put2 T i x2 (cutL c (mx / 2)) (cutR c m (mx / 2)))).length:Nat),T.2.1.take i++x2::T.2.1.drop i,some ((T.2.2.take i++[cutL c (mx / 2),cutR c m (mx / 2)]++T.2.2.drop (i+1)).map fun c=>some (rid c))⟩:NodeR (It ord))
   rw [htoL]
   congr 2
   rw [←List.map_take,←List.map_drop]
   have ht:T.2.2.take (i+1)=T.2.2.take i++[c]:=by rw [List.take_add_one,hc];rfl
   rw [ht]
   simp only [List.map_append,List.map_cons,List.map_nil,rid_cutL,rid_cutR,List.map_map,zu,List.cons_append,List.nil_append]
   rfl
  rw [e5] at hFam
  obtain ⟨H5,hH5⟩:∃H5,H5=upd (upd (upd H (rid c) (kbP h (cutL c (mx / 2)))) m (kbP h (cutR c m (mx / 2)))) (rid T) (kbP (h+1) (put2 T i x2 (cutL c (mx / 2)) (cutR c m (mx / 2)))):=⟨_,rfl⟩
  rw [←hH5] at hFam
  have hat:∀a,a≠rid T→a≠m→a≠rid c→H5 a=H a:=by
   intro a h1 h2 h3
   rw [hH5,updNe h1,updNe h2,updNe h3]
  obtain ⟨tc1,tc2⟩:=isT_cut (H5:=H5) (m:=m) (i:=mx / 2) hcT hcd
   (by rw [hH5,updNe hrcn,updNe (by omega)];exact if_pos rfl) (by rw [hH5,updNe (by omega)];exact if_pos rfl)
   (fun a ha hne=>hat a (fun e=>kcK hI.nd hcm (e▸ha)) (fun e=>by have:=hlt a (kdF hcm ha);omega) hne)
  have hT2:IsT H5 (h+1) (put2 T i x2 (cutL c (mx / 2)) (cutR c m (mx / 2))):=by
   refine ⟨by rw [hH5];exact if_pos rfl,fun d hd=>?_⟩
   change d∈T.2.2.take i++[cutL c (mx / 2),cutR c m (mx / 2)]++T.2.2.drop (i+1) at hd
   simp only [zO,zR,List.not_mem_nil,or_false] at hd
   have other:(d∈T.2.2.take i∨d∈T.2.2.drop (i+1))→IsT H5 h d:=fun hd2=>by
    have hdm:=kid_mem hd2
    refine (hI.isT.2 d hdm).congr fun a ha=>hat a (fun e=>kcK hI.nd hdm (e▸ha)) (fun e=>by have:=hlt a (kdF hdm ha);omega) (fun e=>kid_apart hc hI.nd hd2 ha (e▸kcV c))
   rcases hd with (hd | rfl | rfl) | hd
   ·exact other (.inl hd)
   ·exact tc1
   ·exact tc2
   ·exact other (.inr hd)
  obtain ⟨s1,s2⟩:=sh_cut (i:=mx / 2) m hcs (by omega)
  have l1:(its (cutL c (mx / 2))).length=mx / 2:=by rw [its_cutL,zV];omega
  have l2:(its (cutR c m (mx / 2))).length=mx - (mx / 2+1):=by rw [its_cutR,List.length_drop];omega
  have hI2:TreeIn k mn mx w1 F1 H5 t (h+1) (put2 T i x2 (cutL c (mx / 2)) (cutR c m (mx / 2))) :=
   ⟨hFam,hMap,fun b hm hF1=>hI.out b hm (hof b (hI.map.lt hm) hF1),hT2,hids.1,sh_put2 hI.sh hc hroom s1 s2 (by rw [l1];exact hI.mh) (by rw [l2];exact hI.mh2),by rw [htoL];exact hI.srt,by rw [htoL];exact hbig,hm3,hm,hI.mh,hI.mh2⟩
  refine (set_yes ih hI2 hpa1 ?_).mono ?_
  ·intro j d hpj hdj
   change (T.2.2.take i++[cutL c (mx / 2),cutR c m (mx / 2)]++T.2.2.drop (i+1))[j]?=some d at hdj
   have hti:(T.2.2.take i).length=i:=by simp;omega
   rw [zu,zo (by rcases pos_put hp hpj with h | h<;>omega),hti] at hdj
   rcases pos_put hp hpj with rfl | rfl
   ·rw [Nat.sub_self] at hdj
    obtain rfl:cutL c (mx / 2)=d:=by simpa using hdj
    exact .room (by omega)
   ·rw [show i+1 - i=1 by omega] at hdj
    obtain rfl:cutR c m (mx / 2)=d:=by simpa using hdj
    exact .room (by omega)
  ·rintro e w' ⟨H',pr,rp,sp,he,h1,h2,h3⟩
   refine ⟨H',pr,rp,sp,he,h1,h2,put2 T i x2 (cutL c (mx / 2)) (cutR c m (mx / 2)),H5,rfl,hids.2,?_,htoL,?_,h3⟩
   ·show T.2.1.length≤(T.2.1.take i++x2::T.2.1.drop i).length
    simp;omega
   ·intro a ha hn
    exact hat a (fun e=>hn (e▸kcV T)) (by omega) (fun e=>hn (e▸kdF hcm (kcV c)))
 ·rintro e w' ⟨w1,H',pr,rp,sp,hw1,⟨T2,H5,q1,q2,q3,q4,q5,rfl,T',hi⟩,rfl,h1,h2⟩
  refine ⟨H',pr,rp,false,rfl,h1,h2,.inr ⟨rfl,.room hroom,T',?_⟩⟩
  refine ⟨hi.isT,hi.rid'.trans q1,hi.nd,?_,hi.sh,zj q3 hi.len,by rw [hi.list,q4],by rw [←q4];exact hi.found,?_⟩
  ·intro a ha
   rcases hi.new a ha with h | h
   ·exact q2 a h
   ·exact .inr (by omega)
  ·intro a ha hn
   rw [hi.rest a (by omega) fun hm=>?_]
   ·exact q5 a ha hn
   ·rcases q2 a hm with h | h
    ·exact hn h
    ·omega
theorem setSpec:∀h,SetSpec ord h
 | 0=>setSpec0
 | h+1=>setSpecS (setSpec h)
end
section
open Go.RowKit
variable {ord:List Int} {k:Kc ord}
structure MapBlk (k:Kc ord) (mn mx:Nat) (w:World) (t:Nat) (root:Option Nat) (cnt:Int):Prop where
 blk:w.heap[t]?=some (Ic #[.int .u64 k.iso,Ip (some ⟨k.ctr,0,none⟩),kidV root,Ii Ij cnt,.bool false,.bool false,kcQ k,Ii Ij 0,Ii Ij 0,Ii Ij mx,Ii Ij mn] 99 (0,0))
 ord:OrdAt k w
 ne1:t≠k.ob
 ne2:t≠k.rb
variable {root:Option Nat} {mn mx t:Nat} {cnt:Int} {w:World}
theorem MapBlk.at_ {k:Kc ord} (h:MapBlk k mn mx w t root cnt):MapAt k mn mx w t :=
 ⟨by rw [kbB h.blk];rfl,by rw [kbB h.blk];rfl,by rw [kbB h.blk];rfl,by rw [kbB h.blk];rfl,by rw [kbB h.blk];rfl,by rw [kbB h.blk];rfl,h.ord⟩
theorem MapBlk.c2 {k:Kc ord} (h:MapBlk k mn mx w t root cnt):w.cell? ⟨t,2,none⟩=some (kidV root):=by rw [kbB h.blk];rfl
theorem MapBlk.c3 {k:Kc ord} (h:MapBlk k mn mx w t root cnt):w.cell? ⟨t,3,none⟩=some (Ii Ij cnt):=by rw [kbB h.blk];rfl
theorem MapBlk.fz {k:Kc ord} (h:MapBlk k mn mx w t root cnt) (o:Nat):w.frozen? ⟨t,o,none⟩=false:=kbC h.blk o
theorem MapBlk.chg {A:Nat→Nat→Prop} {k:Kc ord} {w w':World} (h:MapBlk k mn mx w t root cnt) (c:Chg A w w') (hA:∀b o,MOwn k t b→¬A b o):MapBlk k mn mx w' t root cnt :=
 ⟨by rw [c.block (kbF h.blk) (fun o=>hA t o MOwn.self)];exact h.blk,h.ord.chg c (fun o=>hA _ o (.inr (.inl rfl))) (fun o=>hA _ o (.inr (.inr rfl))),h.ne1,h.ne2⟩
theorem MapBlk.lt {k:Kc ord} (h:MapBlk k mn mx w t root cnt):t < w.heap.size:=kbF h.blk
theorem MapBlk.ordSet {k:Kc ord} (h:MapBlk k mn mx w t root cnt) (o:Nat) (v:Value):OrdAt k (w.setCell ⟨t,o,none⟩ v) :=
 h.ord.chg ((zK (fun b _=>b=t) w).setCell (.inl rfl) v) (fun _ e=>h.ne1 e.symm) (fun _ e=>h.ne2 e.symm)
theorem MapBlk.setCnt {k:Kc ord} (h:MapBlk k mn mx w t root cnt) (c:Int):MapBlk k mn mx (w.setCell ⟨t,3,none⟩ (Ii Ij c)) t root c :=
 ⟨by rw [kbV h.blk];rfl,h.ordSet 3 _,h.ne1,h.ne2⟩
theorem MapBlk.setRoot {k:Kc ord} (h:MapBlk k mn mx w t root cnt) (n:Option Nat):MapBlk k mn mx (w.setCell ⟨t,2,none⟩ (kidV n)) t n cnt :=
 ⟨by rw [kbV h.blk];rfl,h.ordSet 2 _,h.ne1,h.ne2⟩
end
section
open Go.RowKit
variable {ord:List Int} {k:Kc ord}
def SetRet (l:List (It ord)) (x:It ord) (e:Ending):Prop :=
 (∃y,fndL ltM x l=some y∧e=Ir (Iu #[.agg #[Ii Ij y.1,Ii Ij y.2],.bool true]))∨(fndL ltM x l=none∧e=Ir (Iu #[.agg #[Ii Ij 0,Ii Ij 0],.bool false]))
def SetTop (k:Kc ord) (mn mx:Nat) (w:World) (F:Nat→Prop) (t:Nat) (l:List (It ord)) (x:It ord) (e:Ending) (w':World):Prop :=
 SetRet l x e∧∃F' H' h T',TreeIn k mn mx w' F' H' t h T'∧MapBlk k mn mx w' t (some (rid T')) (toL h T').length∧toL h T'=insL ltM x l∧1≤(its T').length∧Chg (fun b _=>F b∨b=t) w w'∧(∀b,F' b→F b∨w.heap.size≤b)
theorem set_avail {k:Kc ord} {mn mx:Nat} {w:World} {F:Nat→Prop} {H:HN ord} {t h:Nat} {T:BT (It ord) h} (hI:TreeIn k mn mx w F H t h T) (hB:MapBlk k mn mx w t (some (rid T)) (toL h T).length)
  (x:It ord) (ha:Avail mx h T x) (h1:1≤(its T).length) (hbig:(toL h T).length < 100000000000000) :
  Calls Tp 78 #[Ip (some ⟨t,0,none⟩),aggM x,Ip none] w (SetTop k mn mx w F t (toL h T) x):=by
 have c2:w.cell? ⟨t,2,none⟩=some (Ip (some ⟨rid T,0,none⟩)):=hB.c2
 have tlt:=hB.lt
 have tlt1:t < w.heap.size+1:=by omega
 unfold aggM
 go_enter Try.func78,Try.ntmps78
 go_wp2_with fail
 refine kbD (fun w1=>Chg (fun _ _=>False) w w1∧w1.heap[w.heap.size]?=some (Ic #[Ii Ij x.1,Ii Ij x.2] 27 (0,0))∧w1.heap[w.heap.size+1]?=some (Ic #[Ii Ij 0,Ii Ij 0] 27 (0,0))) ⟨?_,?_,?_⟩ ?_
 ·repeat (first | exact zK _ _ | refine Chg.alloc ?_ _)
 ·rw [kcZ _ _ (by simp)];exact kbT _ _ rfl
 ·exact kbT _ _ (by simp)
 rintro w1 ⟨hc1,hb1,hbp⟩
 have q0:=kbB hb1 0
 have q1:=kbB hb1 1
 simp only [zF,zD,zE] at q0 q1
 have hlt1:=kbF hbp
 have inI:∀w2,Chg (fun _ _=>False) w w2→TreeIn k mn mx w2 F H t h T:=fun w2 hc=>⟨hI.fam.chg hc i3,hI.map.chg hc i3,hI.out,hI.isT,hI.nd,hI.sh,hI.srt,hI.big,hI.m3,hI.m1000,hI.mh,hI.mh2⟩
 have nF:∀b,w.heap.size≤b→¬F b:=fun b hb hf=>Nat.lt_irrefl _ (Nat.lt_of_lt_of_le (hI.fam.lt hf) hb)
 have hout:=hI.out
 have hbigI:=hI.big
 have hsrtI:=hI.srt
 have hs4:=(show _∧_∧_∧_ from ⟨hI.m3,hI.m1000,hI.mh,hI.mh2⟩)
 refine kbM (fun w'=>w'.cell? ⟨w.heap.size,0,none⟩=some (Ii Ij x.1)∧w'.cell? ⟨w.heap.size,1,none⟩=some (Ii Ij x.2)) (.soft 0 (.soft 1 (.soft 2 (.soft 3 (.soft 4 (.soft 5 (.hard 6 (.soft 7 (.soft 8 (.soft 9 (.soft 10 (.hard 11 (.soft 12 (.soft 13 .nil)))))))))))))) (by kernel_rfl) (by kernel_rfl) (fun _ _ _ _ _ h=>h) ⟨q0,q1⟩ ?_
 repeat (first | (refine kbH (by rfl) ?_ ?_ ?_ ?_;rotate_left;(· simp [zI,yielded];done);(· intro w' hS;try obtain ⟨a1,a2⟩:=hS;go_simp;try with_reducible rfl);simp only [Act.put,zA,zB,zC]) | (refine kbJ (by rfl) ?_ ?_;(· simp [zI,yielded];done);simp only [Act.put,zA,zB,zC]))
 refine kbY (by rfl) (by simp [zI,yielded]) (fun K hK=>?_)
 go_simp
 go_at_call 84
 refine (setSpec h k mn mx t ⟨t,2,none⟩ 0 x w1.drew F H T (inI _ hc1.drew) (hB.chg hc1.drew i3).c2).mono ?_
 rintro e w2 ⟨H',pr,rp,sp,rfl,hF2,hc2,hz⟩
 rcases hz with ⟨_,_,hno⟩ | ⟨rfl,_,T',hi⟩
 ·exact absurd ha hno
 have hbp2:w2.heap[w.heap.size+1]?=some (Ic #[Ii Ij 0,Ii Ij 0] 27 (0,0)):=by rw [hc2.block (kbF hbp) (fun _ h=>nF _ (zl _ _) h)];exact hbp
 have p0:=kbB hbp2 0
 have p1:=kbB hbp2 1
 have pf0:=kbC hbp2 0
 have pf1:=kbC hbp2 1
 simp only [zF,zD,zE] at p0 p1
 have r0:=hc2.cell (nF _ (zi _)) q0
 have r1:=hc2.cell (nF _ (zi _)) q1
 refine hK _ _ ⟨r0,r1⟩ ?_
 clear hK K
 repeat (first | (refine kbH (by rfl) ?_ ?_ ?_ ?_;rotate_left;(· simp [zI,yielded];done);(· intro w' hS;try obtain ⟨a1,a2⟩:=hS;go_simp;try with_reducible rfl);simp only [Act.put,zA,zB,zC]) | (refine kbJ (by rfl) ?_ ?_;(· simp [zI,yielded];done);simp only [Act.put,zA,zB,zC]))
 refine kbY (by rfl) (by simp [zI,yielded]) (fun K hK=>?_)
 go_simp
 have hst:Chg (fun b _=>b=w.heap.size+1) w2 ((w2.setCell ⟨w.heap.size+1,0,none⟩ (Ii Ij pr.1)).setCell ⟨w.heap.size+1,1,none⟩ (Ii Ij pr.2)):=((zK _ _).setCell (.inl rfl) _).setCell (.inl rfl) _
 refine hK _ _ ⟨hst.cell (fun h=>by simp at h) r0,hst.cell (fun h=>by simp at h) r1⟩ ?_
 clear hK K
 repeat (first | (refine kbH (by rfl) ?_ ?_ ?_ ?_;rotate_left;(· simp [zI,yielded];done);(· intro w' hS;try obtain ⟨a1,a2⟩:=hS;go_simp;try with_reducible rfl);simp only [Act.put,zA,zB,zC]) | (refine kbJ (by rfl) ?_ ?_;(· simp [zI,yielded];done);simp only [Act.put,zA,zB,zC]))
 refine kcT ?_
 have hc12:Chg (fun b _=>F b) w w2:=(hc1.drew.mono (fun _ _ _ h=>h.elim)).trans hc2
 have hcc:Chg (fun b _=>F b) w ((w2.setCell ⟨w.heap.size+1,0,none⟩ (Ii Ij pr.1)).setCell ⟨w.heap.size+1,1,none⟩ (Ii Ij pr.2)):=hc12.trans' (B:=fun b _=>F b) hst i3 (fun b o hb e=>by omega)
 have hszw:=hc1.size
 have hszx:=hc2.size
 have hfs:=hF2.chg hst (fun b o hb e=>by
  have e2:b=w.heap.size+1:=e
  subst e2
  rcases hb with hb | hb
  ·exact nF _ (zl _ _) hb
  ·have h2:=hb.1;simp at h2;omega)
 have hpv:((w2.setCell ⟨w.heap.size+1,0,none⟩ (Ii Ij pr.1)).setCell ⟨w.heap.size+1,1,none⟩ (Ii Ij pr.2)).heap[w.heap.size+1]?=some (Ic #[Ii Ij pr.1,Ii Ij pr.2] 27 (0,0)):=by rw [kbV (kbV hbp2 _)];rfl
 clear p0 p1 pf0 pf1 r0 r1 q0 q1 c2 hbp2 hbp hb1
 refine kbQ (fun w3=>∃G,Fam (parM k) w3 G H'∧MapBlk k mn mx w3 t (some (rid T)) (toL h T).length∧Chg (fun b _=>F b∨b=t) w w3∧(∀b,G b→F b∨w.heap.size≤b)∧(∀b,MOwn k t b→¬G b)∧¬G (w.heap.size+1)∧w3.heap[w.heap.size+1]?=some (Ic #[Ii Ij pr.1,Ii Ij pr.2] 27 (0,0))) ⟨(grow F w1.drew w2),hfs,hB.chg hcc (fun b _ hm h=>hout b hm h),hcc.mono (fun _ _ _ h=>.inl h),?_,?_,?_,hpv⟩ ?_
 ·rintro b (h | h)
  ·exact .inl h
  ·exact .inr (by have h2:=h.1;simp at h2;omega)
 ·intro b hm
  rintro (h | h)
  ·exact hout b hm h
  ·have h2:=h.1;have:=hI.map.lt hm;simp at h2;omega
 ·rintro (h | h)
  ·exact nF _ (zl _ _) h
  ·have h2:=h.1;simp at h2;omega
 rintro w3 ⟨G,hF3,hB3,hw03,hnew,tout,hnp,hp3⟩
 have e3:=hB3.c3
 have e4:=hB3.at_.c4
 have e5:=hB3.at_.c5
 have z3:=hB3.fz 3
 have p0:=kbB hp3 0
 have p1:=kbB hp3 1
 have pf0:=kbC hp3 0
 have pf1:=kbC hp3 1
 simp only [zF,zD,zE] at p0 p1
 have hpl:=kbF hp3
 have u1:¬w.heap.size+1=t:=by omega
 have u1':¬t=w.heap.size+1:=by omega
 have hlen:=insL_len (lt:=ltM) (x:=x) (l:=toL h T)
 have s1:Ij.wrap (((toL h T).length:Nat)+1)=((toL h T).length:Nat)+1:=IntWalk.i64_in _ (by omega)
 have hsrt':Srt ltM (toL h T'):=by rw [hi.list];exact insL_srt swoM x hsrtI
 have mlt:∀b,MOwn k t b→b < w.heap.size:=fun b hm=>hI.map.lt hm
 clear hp3
 rcases hi.found with ⟨_,f1,rfl,rfl⟩ | ⟨f1,rfl⟩
 ·rw [f1] at hlen
  simp only [Option.isSome_some,if_true,Nat.add_zero] at hlen
  go_wp2_with fail
  refine bodyPost_ret (v:=Iu #[.agg #[Ii Ij pr.1,Ii Ij pr.2],.bool true]) (by simp [results,Try.results78,go_sem,p0,p1]) rfl ?_
  have fin:∀w',Chg (fun b _=>b=w.heap.size+1) w3 w'→SetTop k mn mx w F t (toL h T) x (Ir (Iu #[.agg #[Ii Ij pr.1,Ii Ij pr.2],.bool true])) w':=by
   intro w' c
   have hB4:=hB3.chg c (fun b _ hm e=>by have:=mlt b hm;omega)
   refine ⟨.inl ⟨pr,f1,rfl⟩,_,H',h,T',⟨hF3.chg c (fun b o hb e=>hnp (e▸hb)),hB4.at_,tout,hi.isT,hi.nd,hi.sh,hsrt',by rw [hi.list,hlen];exact hbigI,hs4.1,hs4.2.1,hs4.2.2.1,hs4.2.2.2⟩,?_,hi.list,zj h1 hi.len,hw03.trans' c i3 (fun b o hb e=>by omega),hnew⟩
   rw [hi.rid',hi.list,hlen];exact hB4
  refine fin _ ?_
  repeat (first | refine Chg.drew ?_ | refine zf ?_ _ | refine zd ?_ (.inl rfl) _ | exact zK _ _)
 ·rw [f1] at hlen
  simp only [Option.isSome_none,if_false,Bool.false_eq_true] at hlen
  have hc3:Chg (fun b _=>b=t) w3 (w3.setCell ⟨t,3,none⟩ (Ii Ij (((toL h T).length:Nat)+1))):=(zK _ _).setCell (.inl rfl) _
  have hB4:=hB3.setCnt (((toL h T).length:Nat)+1)
  have e4':=hB4.at_.c4
  have e5':=hB4.at_.c5
  go_wp2_with fail
  refine bodyPost_ret (v:=Iu #[.agg #[Ii Ij 0,Ii Ij 0],.bool false]) (by simp [results,Try.results78,go_sem,p0,p1,u1,u1']) rfl ?_
  have fin:∀w',Chg (fun b _=>b=w.heap.size+1) (w3.setCell ⟨t,3,none⟩ (Ii Ij (((toL h T).length:Nat)+1))) w'→SetTop k mn mx w F t (toL h T) x (Ir (Iu #[.agg #[Ii Ij 0,Ii Ij 0],.bool false])) w':=by
   intro w' c
   have hB5:=hB4.chg c (fun b _ hm e=>by have:=mlt b hm;omega)
   refine ⟨.inr ⟨f1,rfl⟩,G,H',h,T',⟨(hF3.chg hc3 (fun b o hb e=>tout t MOwn.self (e▸hb))).chg c (fun b o hb e=>hnp (e▸hb)),hB5.at_,tout,hi.isT,hi.nd,hi.sh,hsrt',by rw [hi.list,hlen];omega,hs4.1,hs4.2.1,hs4.2.2.1,hs4.2.2.2⟩,?_,hi.list,zj h1 hi.len,(hw03.trans (hc3.mono (fun _ _ _ h=>.inr h))).trans' c i3 (fun b o hb e=>by omega),hnew⟩
   rw [hi.rid',hi.list,hlen];exact hB5
  refine fin _ ?_
  repeat (first | refine Chg.drew ?_ | refine zf ?_ _ | refine zd ?_ (.inl rfl) _ | exact zK _ _)
end
end Go.Proofs.Ytnohimhihombmaa
