/- ascend and descend with a hint or without one; their methods; what the thin package makes of them. -/
import Derived.Test.YtnohimhihombmaaA13
import Derived.Test.YtnohimhihombmaaYb
namespace Go.Proofs.Ytnohimhihombmaa
set_option linter.unusedSimpArgs false
set_option linter.unusedVariables false
set_option maxRecDepth 100000
set_option maxHeartbeats 40000000
open Value renaming int → Ii, pointer → Ip, slice → Is, tuple → Iu
open IntKind renaming i64 → Ij
open Obj renaming cells → Ic
open Ending renaming returned → Ir
open Option.some renaming inj → Iq
open _root_.Go.Proofs.Try renaming prog → Tp
open List renaming setIfInBounds_toArray → zA, set_cons_zero → zB, set_cons_succ → zC, getElem?_cons_zero → zD, getElem?_cons_succ → zE, getElem?_toArray → zF, getElem?_eq_some_iff → zG, getElem?_eq_getElem → zH, mem_cons_self → zP, mem_of_getElem? → zS, length_append → zT, length_map → zU, filterMap_cons → zX, filterMap_nil → zY, append_assoc → zu
open Region renaming wanted → zI
open Act renaming put → zJ
open Chg renaming refl → zK
open Lib renaming hid → zL
section
open Go.RowKit
variable {ord:List Int}
def upp (lt:It ord→It ord→Bool) (x:It ord) (l:List (It ord)):List (It ord):=l.dropWhile fun y=>lt y x
variable {lt:It ord→It ord→Bool} {x:It ord}
theorem upp_pre:∀{A B:List (It ord)},(∀a∈A,lt a x=true)→upp lt x (A++B)=upp lt x B
 | [],_,_=>rfl
 | a::A,B,h=>by
  have h1:=h a zP
  have h2:=upp_pre (B:=B) (fun b hb=>h b (List.mem_cons_of_mem _ hb))
  unfold upp at h2 ⊢
  rw [List.cons_append,List.dropWhile_cons,h1]
  simpa using h2
theorem upp_stop:∀{C:List (It ord)},(∀c∈C,lt c x=false)→upp lt x C=C
 | [],_=>rfl
 | c::C,h=>by unfold upp;rw [List.dropWhile_cons,h c zP];simp
theorem upp_post:∀{B C:List (It ord)},(∀c∈C,lt c x=false)→upp lt x (B++C)=upp lt x B++C
 | [],C,h=>upp_stop h
 | b::B,C,h=>by
  have h2:=upp_post (B:=B) h
  unfold upp at h2 ⊢
  rw [List.cons_append,List.dropWhile_cons,List.dropWhile_cons,h2]
  split<;>rfl
theorem upp_cut {x y:It ord} {Q B:List (It ord)} (s:Swo lt) (hs:Srt lt (Q++y::B)) (n1:lt y x=false) (n2:lt x y=false):upp lt x (Q++y::B)=y::B:=by
 obtain ⟨_,h2,h3⟩:=List.pairwise_append.1 hs
 obtain ⟨h4,_⟩:=List.pairwise_cons.1 h2
 rw [upp_pre (fun a ha=>s.lt_of_lt_of_nlt (h3 a ha y zP) n2),upp_stop]
 intro c hc
 rcases List.mem_cons.1 hc with rfl | hc
 ·exact n1
 ·exact s.asymm _ _ (s.lt_of_nlt_of_lt n1 (h4 c hc))
theorem upp_leaf_pos {l:List (It ord)} {i:Nat} (h:PosAt ltM l x i):upp ltM x l=l.drop i:=by
 obtain ⟨h1,h2⟩:=pos_mem h
 conv=>lhs;rw [←List.take_append_drop i l]
 rw [upp_pre h1,upp_stop (fun c hc=>swoM.asymm _ _ (h2 c hc))]
theorem upp_leaf_hit {x y:It ord} {l:List (It ord)} {i:Nat} (hs:Srt ltM l) (h:HitAt ltM l x i y):upp ltM x l=l.drop i:=by
 have e:l=l.take i++y::l.drop (i+1):=split_at h.at_
 rw [kfG h.at_]
 conv=>lhs;rw [e]
 exact upp_cut swoM (by rw [←e];exact hs) h.n1 h.n2
variable {h:Nat}
theorem upp_kid {T:BT (It ord) (h+1)} {mn mx i:Nat} {c:BT (It ord) h} (hs:Sh mn mx (h+1) T) (hc:T.2.2[i]?=some c) (hsrt:Srt ltM (toL (h+1) T)) (hp:PosAt ltM T.2.1 x i) :
  upp ltM x (toL (h+1) T)=upp ltM x (toL h c)++post (T.2.1.drop i) ((T.2.2.map (toL h)).drop (i+1)):=by
 obtain ⟨h1,h2⟩:=around swoM hs hc hsrt hp
 rw [kfY hs hc,zu,upp_pre h1,upp_post (fun c hc=>swoM.asymm _ _ (h2 c hc))]
variable {α:Type}
theorem inter_pre:∀(xs:List α) (ts:List (List α)) (n:Nat),ts.length=xs.length+1→n≤xs.length→kcM xs ts=pre (xs.take n) (ts.take n)++kcM (xs.drop n) (ts.drop n)
 | xs,ts,0,_,_=>by simp [pre]
 | x::xs,t::ts,n+1,h1,h2=>by
  simp only [List.take_succ_cons,List.drop_succ_cons,pre,kcM,zu,List.cons_append]
  rw [inter_pre xs ts n (by simpa using h1) (by simpa using h2)]
 | [],_,n+1,_,h2=>by simp at h2
 | x::xs,[],n+1,h1,_=>by simp at h1
theorem post_drop {xs:List α} {ts:List (List α)} {k:Nat} {x:α} {t:List α} (hx:xs[k]?=some x) (ht:ts[k+1]?=some t):post (xs.drop k) (ts.drop (k+1))=x::(t++post (xs.drop (k+1)) (ts.drop (k+1+1))):=by
 rw [kfG hx,kfG ht,post];rfl
theorem post_nil {xs:List α} {ts:List (List α)} {k:Nat} (h:xs.length≤k):post (xs.drop k) (ts.drop (k+1))=[]:=by
 rw [List.drop_eq_nil_of_le h];cases ts.drop (k+1)<;>rfl
theorem upp_hit {T:BT (It ord) (h+1)} {mn mx i:Nat} {x y:It ord} (hs:Sh mn mx (h+1) T) (hsrt:Srt ltM (toL (h+1) T)) (hy:HitAt ltM T.2.1 x i y) :
  upp ltM x (toL (h+1) T)=post (T.2.1.drop i) ((T.2.2.map (toL h)).drop (i+1)):=by
 have hi:=(zG.1 hy.at_).1
 have hml:(T.2.2.map (toL h)).length=T.2.1.length+1:=by simpa using hs.2.1
 obtain ⟨t,ht⟩:∃t,(T.2.2.map (toL h))[i]?=some t:=⟨_,zH (by omega)⟩
 obtain ⟨u,hu⟩:∃u,(T.2.2.map (toL h))[i+1]?=some u:=⟨_,zH (by omega)⟩
 have e:toL (h+1) T=pre (T.2.1.take i) ((T.2.2.map (toL h)).take i)++kcM (T.2.1.drop i) ((T.2.2.map (toL h)).drop i):=inter_pre _ _ i hml (by omega)
 have e2:kcM (T.2.1.drop i) ((T.2.2.map (toL h)).drop i)=t++post (T.2.1.drop i) ((T.2.2.map (toL h)).drop (i+1)):=by
  rw [kfG ht]
  exact inter_eq _ _ _ (by rw [List.length_drop,List.length_drop];omega)
 have e4:toL (h+1) T=(pre (T.2.1.take i) ((T.2.2.map (toL h)).take i)++t)++y::(u++post (T.2.1.drop (i+1)) ((T.2.2.map (toL h)).drop (i+1+1))):=by
  rw [e,e2,post_drop hy.at_ hu,zu]
 rw [post_drop hy.at_ hu,e4]
 exact upp_cut swoM (by rw [←e4];exact hsrt) hy.n1 hy.n2
theorem upp_len (lt:It ord→It ord→Bool) (x:It ord) (l:List (It ord)):(upp lt x l).length≤l.length:=(List.dropWhile_sublist _).length_le
def kfV (hv:Option Nat) (n:Int) (ob b2 b3 rb:Nat) (acc l:List (Int×Int)) (w:World) (e:Ending) (w':World):Prop :=
 e=Ir (.bool (runL (kcF n) acc l).2)∧Kept n ob b2 b3 rb w' (runL (kcF n) acc l).1∧HintO hv w'∧Chg (fun b _=>HT hv ob rb b) w w'
def AscSpec (ord:List Int) (h:Nat):Prop:=∀(k0:Kc ord) (mn mx:Nat) (w:World) (F:Nat→Prop) (H:HN ord) (T:BT (It ord) h) (t:Nat) (pa:Addr) (key:It ord) (d:Nat) (hv:Option Nat) (mt:Bool) (n:Int) (ob b2 b3 rb:Nat) (acc:List (It ord)),
 Fam (parM k0) w F H→IsT H h T→Sh mn mx h T→1≤mn→1≤(its T).length→Srt ltM (toL h T)→mx≤1000→w.cell? pa=some (Ip (some ⟨rid T,0,none⟩))→MapAt k0 mn mx w t→Kept n ob b2 b3 rb w acc→HintO hv w→HintK hv ob b2 b3 rb→(∀b,F b→¬HT hv ob rb b)→(∀b,MOwn k0 t b→¬HT hv ob rb b)→d+h≤1000000000000→acc.length+(toL h T).length≤1000000000000 →
 Calls Tp 71 #[Ip (some ⟨t,0,none⟩),Ip (some pa),.agg #[Ii Ij key.1,Ii Ij key.2],hintV hv,Ii Ij (d:Int),fnG b2 b3,.bool mt] w (kfV hv n ob b2 b3 rb acc (upp ltM key (toL h T)) w)
theorem asc_leaf:AscSpec ord 0:=by
 intro k0 mn mx w F H T t pa key d hv mt n ob b2 b3 rb acc hF hT hs hmn hit hsrt hmx hpa hma hK hH hHK hFb htb hdh hlen
 obtain ⟨l0,hn0⟩:=hF.node hT.root
 have n0:=hn0.c0
 have hsl:T.2.length≤mx:=hs.len
 have hlen':acc.length+T.2.length≤1000000000000:=hlen
 have HK:=zL hK
 have HMA:=zL hma
 have HH:=zL hH
 have HHK:=zL hHK
 clear hK hlen hma hH hHK
 unfold fnG hintV
 go_enter Try.func71,Try.ntmps71
 go_wp2_with fail
 refine kbW (fun w0=>Chg (fun _ _=>False) w w0∧w0.heap[w.heap.size]?=some (Ic #[Ii Ij key.1,Ii Ij key.2] 27 (0,0))) ⟨(zK _ _).alloc _,kbT _ _ rfl⟩ ?_
 rintro w0 ⟨hc0,hbk⟩
 refine (kcD t (rid T) k0 pa mt _ (hc0.q hpa) (hc0.q n0) (hc0.q HMA.out.c0)).mono ?_
 rintro e w1 ⟨rfl,m1,hw1⟩
 have hc01:Chg (fun _ _=>False) w0 w1:=by rw [hw1];exact (zK _ _).drewN _
 have hc1:Chg (fun _ _=>False) w w1:=hc0.trans hc01
 have hbk1:w1.heap[w.heap.size]?=some (Ic #[Ii Ij key.1,Ii Ij key.2] 27 (0,0)):=by rw [hc01.block (kbF hbk) (fun _ h=>h)];exact hbk
 have q0:=kbB hbk1 0
 have q1:=kbB hbk1 1
 simp only [zF,zD,zE] at q0 q1
 have hkn:¬hv=some w.heap.size:=fun e=>by have:=HH.out.lt e;omega
 clear hw1 n0 hpa hbk hbk1
 have hse:=find_o hv t d key (HMA.out.chg hc1 i3) (hn0.chg hc1 i3) hsrt (by show T.2.length≤1000000;omega) hit (HH.out.keep hc1) (by omega)
 unfold aggM hintV at hse
 have HSE:=zL hse
 clear hse
 go_wp2_with fail
 refine HSE.out.mono ?_
 rintro e w2 ⟨i,f,rfl,hw2,hh2,hf⟩
 have hccH:Chg (fun b _=>hv=some b) w w2:=(hc1.mono (fun _ _ _ h=>h.elim)).trans hw2
 have hcc:Chg (fun b _=>HT hv ob rb b) w w2:=hccH.mono (fun _ _ _ h=>.inr h)
 replace q0:=hw2.cell (a:=⟨w.heap.size,0,none⟩) hkn q0
 replace q1:=hw2.cell (a:=⟨w.heap.size,1,none⟩) hkn q1
 have HH2:=zL hh2
 have HK2:=zL (HK.out.hint HHK.out hccH)
 clear hw2 hh2
 rcases hf with ⟨rfl,y,hy⟩ | ⟨rfl,hp⟩
 ·have hdw:=upp_leaf_hit (l:=T.2) hsrt hy
  have hil:i≤T.2.length:=Nat.le_of_lt (zG.1 hy.at_).1
  have HDW:=zL hdw
  clear hdw hy
  go_wp2_with fail
  go_loopw [16] (fun i' wr=>∃(k:Nat) (acc':List (It ord)),i'=Ii Ij k∧k≤T.2.length∧Kept n ob b2 b3 rb wr acc'∧HintO hv wr∧runL (kcF n) acc (upp ltM key T.2)=runL (kcF n) acc' (T.2.drop k)∧acc'.length+(T.2.length - k)≤1000000000000∧Chg (fun b _=>HT hv ob rb b) w wr) (fun i' _=>T.2.length - (intOf i').toNat)
  case atStart=>exact ⟨i,acc,rfl,hil,HK2.out,HH2.out,by rw [HDW.out],by omega,hcc⟩
  case round =>
   obtain ⟨k,acc',rfl,hk,hkp,hho,hrun,hal,hc⟩:=hrel
   obtain ⟨l,hn⟩:=(hF.chg hc (fun b o hb h=>hFb b hb h)).node hT.root
   have n2:wr.cell? ⟨rid T,2,none⟩=some (Is (some ⟨l.ib,l.io,none⟩) T.2.length l.ic):=hn.c2
   by_cases hlt:k < T.2.length
   rotate_left
   ·have hnlt:¬(k:Int) < (T.2.length:Int):=by omega
    rw [List.drop_eq_nil_of_le (by omega)] at hrun
    have HR:=zL hrun
    have HKP:=zL hkp
    have HHO:=zL hho
    clear hrun hkp hho
    go_wp2
    go_ret
    unfold kfV
    show _=Ending.returned (.bool (runL (kcF n) acc (upp ltM key T.2)).2)∧Kept n ob b2 b3 rb wr (runL (kcF n) acc (upp ltM key T.2)).1∧_∧_
    rw [HR.out]
    exact ⟨rfl,HKP.out,HHO.out,hc⟩
   ·obtain ⟨x,hx⟩:∃x,T.2[k]?=some x:=⟨_,zH (by omega)⟩
    have ik:=hn.mkey (j:=k) hx
    have iv:=hn.mval (j:=k) hx
    rw [kfG hx] at hrun
    have hp:=fun w1 (h:Kept n ob b2 b3 rb w1 acc')=>kgD x h (by omega)
    have HR:=zL hrun
    have HKP:=zL hkp
    have HHO:=zL hho
    have i0:(0:Int)≤(k:Int):=by omega
    have i1:(k:Int) < (T.2.length:Int):=by omega
    clear hrun hkp hx hho
    cases hb:kcF n (acc'++[x])
    all_goals
     rw [hb] at hp
     have HP:=zL hp
     have HB:=zL hb
     clear hp hb
     go_wp2_with fail
     refine (HP.out _ HKP.out).mono ?_
     rintro e w4 ⟨rfl,hk2,hc2⟩
     have hho4:=HHO.out.chg hc2 (fun b _ hb=>HHK.out.take hb)
     have hc02:=hc.trans (hc2.mono (B:=fun b _=>HT hv ob rb b) (fun _ _ _ h=>.inl h))
     have HHO4:=zL hho4
     clear hho4
    ·go_wp2
     go_ret
     unfold kfV
     show _=Ending.returned (.bool (runL (kcF n) acc (upp ltM key T.2)).2)∧Kept n ob b2 b3 rb w4 (runL (kcF n) acc (upp ltM key T.2)).1∧_∧_
     rw [HR.out,kgR HB.out]
     exact ⟨rfl,hk2,HHO4.out,hc02⟩
    ·obtain ⟨l2,hn2⟩:=(hF.chg hc02 (fun b o hb h=>hFb b hb h)).node hT.root
     have n3:=hn2.c3n rfl
     clear n2 ik iv
     go_wp2_with (go_at_call 51;refine (kcJ _ none _ ?_).mono ?_;(focus go_simp);rintro e w' ⟨rfl,rfl⟩)
     go_roundw
     case rel=>exact ⟨k+1,acc'++[x],by go_num,by omega,hk2,HHO4.out,by rw [HR.out,kfB HB.out],by simp;omega,hc02⟩
     case measure=>simp [intOf];omega
 ·have hdw:=upp_leaf_pos (l:=T.2) hp
  have hil:i≤T.2.length:=hp.le
  have HDW:=zL hdw
  clear hdw hp
  obtain ⟨l2,hn2⟩:=(hF.chg hcc (fun b o hb h=>hFb b hb h)).node hT.root
  have n3:=hn2.c3n rfl
  go_wp2_with (go_at_call 51;refine (kcJ _ none _ ?_).mono ?_;(focus go_simp);rintro e w' ⟨rfl,rfl⟩)
  clear n3
  go_loopw [16] (fun i' wr=>∃(k:Nat) (acc':List (It ord)),i'=Ii Ij k∧k≤T.2.length∧Kept n ob b2 b3 rb wr acc'∧HintO hv wr∧runL (kcF n) acc (upp ltM key T.2)=runL (kcF n) acc' (T.2.drop k)∧acc'.length+(T.2.length - k)≤1000000000000∧Chg (fun b _=>HT hv ob rb b) w wr) (fun i' _=>T.2.length - (intOf i').toNat)
  case atStart=>exact ⟨i,acc,rfl,hil,HK2.out,HH2.out,by rw [HDW.out],by omega,hcc⟩
  case round =>
   obtain ⟨k,acc',rfl,hk,hkp,hho,hrun,hal,hc⟩:=hrel
   obtain ⟨l,hn⟩:=(hF.chg hc (fun b o hb h=>hFb b hb h)).node hT.root
   have n2:wr.cell? ⟨rid T,2,none⟩=some (Is (some ⟨l.ib,l.io,none⟩) T.2.length l.ic):=hn.c2
   by_cases hlt:k < T.2.length
   rotate_left
   ·have hnlt:¬(k:Int) < (T.2.length:Int):=by omega
    rw [List.drop_eq_nil_of_le (by omega)] at hrun
    have HR:=zL hrun
    have HKP:=zL hkp
    have HHO:=zL hho
    clear hrun hkp hho
    go_wp2
    go_ret
    unfold kfV
    show _=Ending.returned (.bool (runL (kcF n) acc (upp ltM key T.2)).2)∧Kept n ob b2 b3 rb wr (runL (kcF n) acc (upp ltM key T.2)).1∧_∧_
    rw [HR.out]
    exact ⟨rfl,HKP.out,HHO.out,hc⟩
   ·obtain ⟨x,hx⟩:∃x,T.2[k]?=some x:=⟨_,zH (by omega)⟩
    have ik:=hn.mkey (j:=k) hx
    have iv:=hn.mval (j:=k) hx
    rw [kfG hx] at hrun
    have hp:=fun w1 (h:Kept n ob b2 b3 rb w1 acc')=>kgD x h (by omega)
    have HR:=zL hrun
    have HKP:=zL hkp
    have HHO:=zL hho
    have i0:(0:Int)≤(k:Int):=by omega
    have i1:(k:Int) < (T.2.length:Int):=by omega
    clear hrun hkp hx hho
    cases hb:kcF n (acc'++[x])
    all_goals
     rw [hb] at hp
     have HP:=zL hp
     have HB:=zL hb
     clear hp hb
     go_wp2_with fail
     refine (HP.out _ HKP.out).mono ?_
     rintro e w4 ⟨rfl,hk2,hc2⟩
     have hho4:=HHO.out.chg hc2 (fun b _ hb=>HHK.out.take hb)
     have hc02:=hc.trans (hc2.mono (B:=fun b _=>HT hv ob rb b) (fun _ _ _ h=>.inl h))
     have HHO4:=zL hho4
     clear hho4
    ·go_wp2
     go_ret
     unfold kfV
     show _=Ending.returned (.bool (runL (kcF n) acc (upp ltM key T.2)).2)∧Kept n ob b2 b3 rb w4 (runL (kcF n) acc (upp ltM key T.2)).1∧_∧_
     rw [HR.out,kgR HB.out]
     exact ⟨rfl,hk2,HHO4.out,hc02⟩
    ·obtain ⟨l2,hn2⟩:=(hF.chg hc02 (fun b o hb h=>hFb b hb h)).node hT.root
     have n3:=hn2.c3n rfl
     clear n2 ik iv
     go_wp2_with (go_at_call 51;refine (kcJ _ none _ ?_).mono ?_;(focus go_simp);rintro e w' ⟨rfl,rfl⟩)
     go_roundw
     case rel=>exact ⟨k+1,acc'++[x],by go_num,by omega,hk2,HHO4.out,by rw [HR.out,kfB HB.out],by simp;omega,hc02⟩
     case measure=>simp [intOf];omega
theorem asc_branch (ih:AscSpec ord h):AscSpec ord (h+1):=by
 intro k0 mn mx w F H T t pa key d hv mt n ob b2 b3 rb acc hF hT hs hmn hit hsrt hmx hpa hma hK hH hHK hFb htb hdh hlen
 obtain ⟨l0,hn0,hblk⟩:=hF.nodeB hT.root
 have n0:=hn0.c0
 have hk:(kbP (h+1) T).kids=some (T.2.2.map fun c=>some (rid c)):=rfl
 have hsl:T.2.1.length≤mx:=hs.len
 have hkl:T.2.2.length=T.2.1.length+1:=hs.2.1
 have hdl:=upp_len ltM key (toL (h+1) T)
 have hits:Srt ltM T.2.1:=its_srt hs hsrt
 have hFt:∀b,F b→¬TakeB ob rb b:=fun b hb h=>hFb b hb (.inl h)
 have htt:¬TakeB ob rb t:=fun h=>htb t MOwn.self (.inl h)
 have HKL:=zL hkl
 have HLEN:=zL hlen
 have HDL:=zL hdl
 have HK:=zL hK
 have HMA:=zL hma
 have HH:=zL hH
 have HHK:=zL hHK
 have HSRT:=zL hsrt
 have hsc:=fun (c:BT (It ord) h) (hcm:c∈T.2.2) (w1:World) (pa1:Addr) (acc1:List (It ord)) (hc1:Chg (fun b _=>HT hv ob rb b) w w1) (hp1:w1.cell? pa1=some (Ip (some ⟨rid c,0,none⟩))) (h1:Kept n ob b2 b3 rb w1 acc1) (h2:acc1.length+(toL h c).length≤1000000000000) =>
  scan_all ord h k0 mn mx w1 F H c t pa1 mt n ob b2 b3 rb acc1 (hF.chg hc1 (fun b o hb h=>hFb b hb h)) (hT.kid hcm) (hs.2.2 c hcm).2 hp1 (hc1.cell (a:=⟨t,0,none⟩) (fun h=>htb t MOwn.self h) HMA.out.c0) h1 hFt htt h2
 have hih:=fun (i:Nat) (c:BT (It ord) h) (hci:T.2.2[i]?=some c) (hcm:c∈T.2.2) (w1:World) (pa1:Addr) (hc1:Chg (fun b _=>HT hv ob rb b) w w1) (hp1:w1.cell? pa1=some (Ip (some ⟨rid c,0,none⟩))) (h1:Kept n ob b2 b3 rb w1 acc) (h3:HintO hv w1) (h2:acc.length+(toL h c).length≤1000000000000) =>
  ih k0 mn mx w1 F H c t pa1 key (d+1) hv mt n ob b2 b3 rb acc (hF.chg hc1 (fun b o hb h=>hFb b hb h)) (hT.kid hcm) (hs.2.2 c hcm).2 hmn (by have:=(hs.2.2 c hcm).1;omega) (sub_srt hs hci HSRT.out) hmx hp1 (HMA.out.chg hc1 (fun b _ hb h=>htb b hb h)) h1 h3 HHK.out hFb htb (by omega) h2
 unfold fnG at hsc hih
 unfold hintV at hih
 have HSC:=zL hsc
 have HIH:=zL hih
 clear hK hlen hkl hsc hih hdl hsrt hma hH hHK
 unfold fnG hintV
 go_enter Try.func71,Try.ntmps71
 go_wp2_with fail
 refine kbW (fun w0=>Chg (fun _ _=>False) w w0∧w0.heap[w.heap.size]?=some (Ic #[Ii Ij key.1,Ii Ij key.2] 27 (0,0))) ⟨(zK _ _).alloc _,kbT _ _ rfl⟩ ?_
 rintro w0 ⟨hc0,hbk⟩
 refine (kcD t (rid T) k0 pa mt _ (hc0.q hpa) (hc0.q n0) (hc0.q HMA.out.c0)).mono ?_
 rintro e w1 ⟨rfl,m1,hw1⟩
 have hc01:Chg (fun _ _=>False) w0 w1:=by rw [hw1];exact (zK _ _).drewN _
 have hc1:Chg (fun _ _=>False) w w1:=hc0.trans hc01
 have hbk1:w1.heap[w.heap.size]?=some (Ic #[Ii Ij key.1,Ii Ij key.2] 27 (0,0)):=by rw [hc01.block (kbF hbk) (fun _ h=>h)];exact hbk
 have q0:=kbB hbk1 0
 have q1:=kbB hbk1 1
 simp only [zF,zD,zE] at q0 q1
 have hkn:¬hv=some w.heap.size:=fun e=>by have:=HH.out.lt e;omega
 clear hw1 n0 hpa hbk hbk1
 have hse:=find_o hv t d key (HMA.out.chg hc1 i3) (hn0.chg hc1 i3) hits (by show T.2.1.length≤1000000;omega) hit (HH.out.keep hc1) (by omega)
 unfold aggM hintV at hse
 have HSE:=zL hse
 clear hse
 go_wp2_with fail
 refine HSE.out.mono ?_
 rintro e w2 ⟨i,f,rfl,hw2,hh2,hf⟩
 have hccH:Chg (fun b _=>hv=some b) w w2:=(hc1.mono (fun _ _ _ h=>h.elim)).trans hw2
 have hcc:Chg (fun b _=>HT hv ob rb b) w w2:=hccH.mono (fun _ _ _ h=>.inr h)
 replace q0:=hw2.cell (a:=⟨w.heap.size,0,none⟩) hkn q0
 replace q1:=hw2.cell (a:=⟨w.heap.size,1,none⟩) hkn q1
 have HH2:=zL hh2
 have HK2:=zL (HK.out.hint HHK.out hccH)
 clear hw2 hh2
 rcases hf with ⟨rfl,y,hy⟩ | ⟨rfl,hp⟩
 ·have hdw:=upp_hit hs HSRT.out hy
  have hil:i < T.2.1.length:=(zG.1 hy.at_).1
  have HDW:=zL hdw
  clear hdw hy
  go_wp2_with fail
  go_loopw [16] (fun i' wr=>∃(k:Nat) (acc':List (It ord)),i'=Ii Ij k∧k≤T.2.1.length∧Kept n ob b2 b3 rb wr acc'∧HintO hv wr∧runL (kcF n) acc (upp ltM key (toL (h+1) T))=runL (kcF n) acc' (post (T.2.1.drop k) ((T.2.2.map (toL h)).drop (k+1)))∧acc'.length+(post (T.2.1.drop k) ((T.2.2.map (toL h)).drop (k+1))).length≤1000000000000∧Chg (fun b _=>HT hv ob rb b) w wr) (fun i' _=>T.2.1.length - (intOf i').toNat)
  case atStart=>exact ⟨i,acc,rfl,by omega,HK2.out,HH2.out,by rw [HDW.out],by have:=HLEN.out;have h2:=HDL.out;rw [HDW.out] at h2;omega,hcc⟩
  case round =>
   obtain ⟨k,acc',rfl,hkk,hkp,hho,hrun,hal,hc⟩:=hrel
   obtain ⟨l,hn⟩:=(hF.chg hc (fun b o hb h=>hFb b hb h)).node hT.root
   have n2:wr.cell? ⟨rid T,2,none⟩=some (Is (some ⟨l.ib,l.io,none⟩) T.2.1.length l.ic):=hn.c2
   by_cases hlt:k < T.2.1.length
   rotate_left
   ·have hnlt:¬(k:Int) < (T.2.1.length:Int):=by omega
    rw [post_nil (by omega)] at hrun
    have HR:=zL hrun
    have HKP:=zL hkp
    have HHO:=zL hho
    clear hrun hkp hho
    go_wp2
    go_ret
    unfold kfV
    show _=Ending.returned (.bool (runL (kcF n) acc (upp ltM key (toL (h+1) T))).2)∧Kept n ob b2 b3 rb wr (runL (kcF n) acc (upp ltM key (toL (h+1) T))).1∧_∧_
    rw [HR.out]
    exact ⟨rfl,HKP.out,HHO.out,hc⟩
   ·obtain ⟨x,hx⟩:∃x,T.2.1[k]?=some x:=⟨_,zH (by omega)⟩
    obtain ⟨c,hcj⟩:∃c,T.2.2[k+1]?=some c:=⟨_,zH (by have:=HKL.out;omega)⟩
    have hcm:c∈T.2.2:=zS hcj
    have hkc:=(zG.1 hcj).1
    have htj:(T.2.2.map (toL h))[k+1]?=some (toL h c):=by simp [hcj]
    have ik:=hn.mkey (j:=k) hx
    have iv:=hn.mval (j:=k) hx
    rw [post_drop hx htj] at hrun hal
    have hp:=fun w1 (h:Kept n ob b2 b3 rb w1 acc')=>kgD x h (by omega)
    have HR:=zL hrun
    have HKP:=zL hkp
    have HHO:=zL hho
    have HCJ:=zL hcj
    have HAL:=zL hal
    have i0:(0:Int)≤(k:Int):=by omega
    have i1:(k:Int) < (T.2.1.length:Int):=by omega
    have i2:(k:Int)+1 < (T.2.2.length:Int):=by omega
    have i3:(0:Int)≤(k:Int)+1:=by omega
    have i4:((k:Int)+1).toNat=k+1:=by omega
    have i5:Ij.wrap ((k:Int)+1)=(k:Int)+1:=IntWalk.i64_in _ (by omega)
    clear hrun hkp hx hcj htj hal hho
    cases hb:kcF n (acc'++[x])
    all_goals
     rw [hb] at hp
     have HP:=zL hp
     have HB1:=zL hb
     clear hp hb
     go_wp2_with fail
     refine (HP.out _ HKP.out).mono ?_
     rintro e w4 ⟨rfl,hk4,hc4⟩
     have hho4:=HHO.out.chg hc4 (fun b _ hb=>HHK.out.take hb)
     have hc04:=hc.trans (hc4.mono (B:=fun b _=>HT hv ob rb b) (fun _ _ _ h=>.inl h))
     have HHO4:=zL hho4
     have HK4:=zL hk4
     clear hk4 hho4
    ·go_wp2
     go_ret
     unfold kfV
     show _=Ending.returned (.bool (runL (kcF n) acc (upp ltM key (toL (h+1) T))).2)∧Kept n ob b2 b3 rb w4 (runL (kcF n) acc (upp ltM key (toL (h+1) T))).1∧_∧_
     rw [HR.out,kgR HB1.out]
     exact ⟨rfl,HK4.out,HHO4.out,hc04⟩
    ·obtain ⟨l4,hn4⟩:=(hF.chg hc04 (fun b o hb h=>hFb b hb h)).node hT.root
     have n3:=hn4.c3s hk
     have nc:=hn4.cc hk
     rw [zU] at nc
     have kc:w4.cell? ⟨l4.cb,l4.co+(k+1),none⟩=some (Ip (some ⟨rid c,0,none⟩)):=hn4.kidc hk (j:=k+1) (o:=some (rid c)) (by simp [HCJ.out])
     clear n2 ik iv
     cases hb2:(runL (kcF n) (acc'++[x]) (toL h c)).2
     all_goals
      have hkid:=HSC.out c hcm w4 ⟨l4.cb,l4.co+(k+1),none⟩ (acc'++[x]) hc04 kc HK4.out (by have:=HAL.out;simp only [zT,List.length_cons,List.length_nil] at this ⊢;omega)
      unfold kfC at hkid
      rw [hb2] at hkid
      have HKID:=zL hkid
      have HB2:=zL hb2
      clear hkid hb2
      go_wp2_with (go_at_call 51;refine (kcJ _ (some ⟨l4.cc,0,none⟩) _ ?_).mono ?_;(focus go_simp);rintro e w' ⟨rfl,rfl⟩)
      refine HKID.out.mono ?_
      rintro e w5 ⟨rfl,hk5,hc5⟩
      have hho5:=HHO4.out.chg hc5 (fun b _ hb=>HHK.out.take hb)
      have hc05:=hc04.trans (hc5.mono (B:=fun b _=>HT hv ob rb b) (fun _ _ _ h=>.inl h))
      have HHO5:=zL hho5
      have HK5:=zL hk5
      clear hk5 hho5
     ·go_wp2
      go_ret
      unfold kfV
      show _=Ending.returned (.bool (runL (kcF n) acc (upp ltM key (toL (h+1) T))).2)∧Kept n ob b2 b3 rb w5 (runL (kcF n) acc (upp ltM key (toL (h+1) T))).1∧_∧_
      rw [HR.out,kfB HB1.out,kfJ HB2.out,HB2.out]
      exact ⟨rfl,HK5.out,HHO5.out,hc05⟩
     ·have hrt2:=runL_true _ _ _ HB2.out
      have HRT2:=zL hrt2
      clear hrt2
      go_wp2
      go_roundw
      case rel=>exact ⟨k+1,_,by go_num,by omega,HK5.out,HHO5.out,by rw [HR.out,kfB HB1.out,kdT HB2.out],by rw [HRT2.out];have:=HAL.out;simp only [zT,List.length_cons,List.length_nil] at this ⊢;omega,hc05⟩
      case measure=>simp [intOf];omega
 ·obtain ⟨c,hcj⟩:∃c,T.2.2[i]?=some c:=⟨_,zH (by have:=HKL.out;have h2:i≤T.2.1.length:=hp.le;omega)⟩
  have hcm:c∈T.2.2:=zS hcj
  have hkc:=(zG.1 hcj).1
  have hdw:=upp_kid hs hcj HSRT.out hp
  have hil:i≤T.2.1.length:=hp.le
  obtain ⟨l2,hn2,hblk2⟩:=(hF.chg hcc (fun b o hb h=>hFb b hb h)).nodeB hT.root
  have n3:=hn2.c3s hk
  have nc:=hn2.cc hk
  rw [zU] at nc
  have kc:w2.cell? ⟨l2.cb,l2.co+i,none⟩=some (Ip (some ⟨rid c,0,none⟩)):=hn2.kidc hk (j:=i) (o:=some (rid c)) (by simp [hcj])
  have hrb2:¬HT hv ob rb (rid T):=hFb _ (hblk2 _ (.inl rfl))
  have hcb2:¬HT hv ob rb l2.cc:=hFb _ (hblk2 _ (.inr (.inr ⟨by rw [hk];simp,.inl rfl⟩)))
  have hcl:acc.length+(toL h c).length≤1000000000000:=by
   have h1:=HLEN.out
   have h2:=kid_lt hs hcm hit
   omega
  have hkid0:=HIH.out i c hcj hcm w2.drew ⟨l2.cb,l2.co+i,none⟩ hcc.drew kc (HK2.out.keep (zK _ _).drew) (HH2.out.keep (zK _ _).drew) hcl
  have hd1:((d+1:Nat):Int)=Ij.wrap ((d:Int)+1):=by rw [IntWalk.i64_in _ (by omega)];omega
  rw [hd1] at hkid0
  have HDW:=zL hdw
  have i0:(0:Int)≤(i:Int):=by omega
  have i1:(i:Int) < (T.2.2.length:Int):=by omega
  have i2:(i:Int)≤1000:=by omega
  have i3:(d:Int)≤1000000000000:=by omega
  have i4:(0:Int)≤(d:Int):=by omega
  clear hdw hp hcj hcl hd1
  cases hb0:(runL (kcF n) acc (upp ltM key (toL h c))).2
  all_goals
   have hkid:=hkid0
   unfold kfV at hkid
   rw [hb0] at hkid
   have HKID:=zL hkid
   have HB0:=zL hb0
   clear hkid hb0 hkid0
   go_wp2_with fail
   refine (kcJ _ (some ⟨l2.cc,0,none⟩) _ n3).mono ?_
   rintro e w' ⟨rfl,rfl⟩
   go_wp2_with fail
   refine wp_region_call (fun w'=>w'.cell? ⟨rid T,3,none⟩=some (Ip (some ⟨l2.cc,0,none⟩))∧w'.cell? ⟨l2.cc,0,none⟩=some (Is (some ⟨l2.cb,l2.co,none⟩) T.2.2.length l2.ck)∧w'.cell? ⟨w.heap.size,0,none⟩=some (Ii Ij key.1)∧w'.cell? ⟨w.heap.size,1,none⟩=some (Ii Ij key.2))
    15 [0,1,2,3,4,5,6,7,8,9,10,11,12,13,14] _ [16] (by kernel_rfl) (by kernel_rfl) (fun _ _ _ _ _ h=>h) rfl rfl rfl ⟨n3,nc,q0,q1⟩ ?_
   simp only [kbK,zX,zY,zD,zE]
   iterate 15
    refine kbR ?_ rfl ?_ ?_
    rotate_left
    ·intro w' hS
     try obtain ⟨a1,a2,a3,a4⟩:=hS
     go_simp
     try with_reducible rfl
    simp only [zJ,zA,zB,zC]
   refine kbS ?_
   refine wp_hide (fun K hK=>?_)
   go_simp
   refine HKID.out.mono ?_
   rintro e w3 ⟨rfl,hk3,hho3,hc3⟩
   refine hK _ _ ?_
   clear hK K
   refine kbR ?_ rfl ?_ ?_
   rotate_left
   ·intro w' hS
    try obtain ⟨a1⟩:=hS
    go_simp
    try with_reducible rfl
   simp only [zJ,zA,zB,zC]
   refine kbS ?_
   have hc03:=hcc.drew.trans hc3
   have HK3:=zL hk3
   have HHO3:=zL hho3
   clear hk3 hho3 n3 nc kc
  ·go_wp2
   go_ret
   unfold kfV
   show _=Ending.returned (.bool (runL (kcF n) acc (upp ltM key (toL (h+1) T))).2)∧Kept n ob b2 b3 rb w3 (runL (kcF n) acc (upp ltM key (toL (h+1) T))).1∧_∧_
   rw [HDW.out,kfJ HB0.out,HB0.out]
   exact ⟨rfl,HK3.out,HHO3.out,hc03⟩
  ·have hrt:=runL_true _ _ _ HB0.out
   have HRT:=zL hrt
   clear hrt
   go_wp2
   go_loopw [16] (fun i' wr=>∃(k:Nat) (acc':List (It ord)),i'=Ii Ij k∧k≤T.2.1.length∧Kept n ob b2 b3 rb wr acc'∧HintO hv wr∧runL (kcF n) acc (upp ltM key (toL (h+1) T))=runL (kcF n) acc' (post (T.2.1.drop k) ((T.2.2.map (toL h)).drop (k+1)))∧acc'.length+(post (T.2.1.drop k) ((T.2.2.map (toL h)).drop (k+1))).length≤1000000000000∧Chg (fun b _=>HT hv ob rb b) w wr) (fun i' _=>T.2.1.length - (intOf i').toNat)
   case atStart=>exact ⟨i,_,rfl,hil,HK3.out,HHO3.out,by rw [HDW.out,kdT HB0.out],by rw [HRT.out];have h1:=HLEN.out;have h2:=HDL.out;rw [HDW.out] at h2;simp only [zT] at h2 ⊢;omega,hc03⟩
   case round =>
    obtain ⟨k,acc',rfl,hkk,hkp,hho,hrun,hal,hc⟩:=hrel
    obtain ⟨l,hn⟩:=(hF.chg hc (fun b o hb h=>hFb b hb h)).node hT.root
    have n2:wr.cell? ⟨rid T,2,none⟩=some (Is (some ⟨l.ib,l.io,none⟩) T.2.1.length l.ic):=hn.c2
    by_cases hlt:k < T.2.1.length
    rotate_left
    ·have hnlt:¬(k:Int) < (T.2.1.length:Int):=by omega
     rw [post_nil (by omega)] at hrun
     have HR:=zL hrun
     have HKP:=zL hkp
     have HHO:=zL hho
     clear hrun hkp hho
     go_wp2
     go_ret
     unfold kfV
     show _=Ending.returned (.bool (runL (kcF n) acc (upp ltM key (toL (h+1) T))).2)∧Kept n ob b2 b3 rb wr (runL (kcF n) acc (upp ltM key (toL (h+1) T))).1∧_∧_
     rw [HR.out]
     exact ⟨rfl,HKP.out,HHO.out,hc⟩
    ·obtain ⟨x,hx⟩:∃x,T.2.1[k]?=some x:=⟨_,zH (by omega)⟩
     obtain ⟨c,hcj⟩:∃c,T.2.2[k+1]?=some c:=⟨_,zH (by have:=HKL.out;omega)⟩
     have hcm:c∈T.2.2:=zS hcj
     have hkc:=(zG.1 hcj).1
     have htj:(T.2.2.map (toL h))[k+1]?=some (toL h c):=by simp [hcj]
     have ik:=hn.mkey (j:=k) hx
     have iv:=hn.mval (j:=k) hx
     rw [post_drop hx htj] at hrun hal
     have hp:=fun w1 (h:Kept n ob b2 b3 rb w1 acc')=>kgD x h (by omega)
     have HR:=zL hrun
     have HKP:=zL hkp
     have HHO:=zL hho
     have HCJ:=zL hcj
     have HAL:=zL hal
     have i0:(0:Int)≤(k:Int):=by omega
     have i1:(k:Int) < (T.2.1.length:Int):=by omega
     have i2:(k:Int)+1 < (T.2.2.length:Int):=by omega
     have i3:(0:Int)≤(k:Int)+1:=by omega
     have i4:((k:Int)+1).toNat=k+1:=by omega
     have i5:Ij.wrap ((k:Int)+1)=(k:Int)+1:=IntWalk.i64_in _ (by omega)
     clear hrun hkp hx hcj htj hal hho
     cases hb:kcF n (acc'++[x])
     all_goals
      rw [hb] at hp
      have HP:=zL hp
      have HB1:=zL hb
      clear hp hb
      go_wp2_with fail
      refine (HP.out _ HKP.out).mono ?_
      rintro e w4 ⟨rfl,hk4,hc4⟩
      have hho4:=HHO.out.chg hc4 (fun b _ hb=>HHK.out.take hb)
      have hc04:=hc.trans (hc4.mono (B:=fun b _=>HT hv ob rb b) (fun _ _ _ h=>.inl h))
      have HHO4:=zL hho4
      have HK4:=zL hk4
      clear hk4 hho4
     ·go_wp2
      go_ret
      unfold kfV
      show _=Ending.returned (.bool (runL (kcF n) acc (upp ltM key (toL (h+1) T))).2)∧Kept n ob b2 b3 rb w4 (runL (kcF n) acc (upp ltM key (toL (h+1) T))).1∧_∧_
      rw [HR.out,kgR HB1.out]
      exact ⟨rfl,HK4.out,HHO4.out,hc04⟩
     ·obtain ⟨l4,hn4⟩:=(hF.chg hc04 (fun b o hb h=>hFb b hb h)).node hT.root
      have n3:=hn4.c3s hk
      have nc:=hn4.cc hk
      rw [zU] at nc
      have kc:w4.cell? ⟨l4.cb,l4.co+(k+1),none⟩=some (Ip (some ⟨rid c,0,none⟩)):=hn4.kidc hk (j:=k+1) (o:=some (rid c)) (by simp [HCJ.out])
      clear n2 ik iv
      cases hb2:(runL (kcF n) (acc'++[x]) (toL h c)).2
      all_goals
       have hkid:=HSC.out c hcm w4 ⟨l4.cb,l4.co+(k+1),none⟩ (acc'++[x]) hc04 kc HK4.out (by have:=HAL.out;simp only [zT,List.length_cons,List.length_nil] at this ⊢;omega)
       unfold kfC at hkid
       rw [hb2] at hkid
       have HKID:=zL hkid
       have HB2:=zL hb2
       clear hkid hb2
       go_wp2_with (go_at_call 51;refine (kcJ _ (some ⟨l4.cc,0,none⟩) _ ?_).mono ?_;(focus go_simp);rintro e w' ⟨rfl,rfl⟩)
       refine HKID.out.mono ?_
       rintro e w5 ⟨rfl,hk5,hc5⟩
       have hho5:=HHO4.out.chg hc5 (fun b _ hb=>HHK.out.take hb)
       have hc05:=hc04.trans (hc5.mono (B:=fun b _=>HT hv ob rb b) (fun _ _ _ h=>.inl h))
       have HHO5:=zL hho5
       have HK5:=zL hk5
       clear hk5 hho5
      ·go_wp2
       go_ret
       unfold kfV
       show _=Ending.returned (.bool (runL (kcF n) acc (upp ltM key (toL (h+1) T))).2)∧Kept n ob b2 b3 rb w5 (runL (kcF n) acc (upp ltM key (toL (h+1) T))).1∧_∧_
       rw [HR.out,kfB HB1.out,kfJ HB2.out,HB2.out]
       exact ⟨rfl,HK5.out,HHO5.out,hc05⟩
      ·have hrt2:=runL_true _ _ _ HB2.out
       have HRT2:=zL hrt2
       clear hrt2
       go_wp2
       go_roundw
       case rel=>exact ⟨k+1,_,by go_num,by omega,HK5.out,HHO5.out,by rw [HR.out,kfB HB1.out,kdT HB2.out],by rw [HRT2.out];have:=HAL.out;simp only [zT,List.length_cons,List.length_nil] at this ⊢;omega,hc05⟩
       case measure=>simp [intOf];omega
theorem asc_all:(h:Nat)→AscSpec ord h
 | 0=>asc_leaf
 | h+1=>asc_branch (asc_all h)
end
section
open Go.RowKit
variable {ord:List Int}
end
section
open Go.RowKit
def RunEndH (hv:Option Nat) (n:Int) (ob b2 b3 rb:Nat) (acc l:List (Int×Int)) (w:World) (e:Ending) (w':World):Prop :=
 e=Ir (Iu #[])∧Kept n ob b2 b3 rb w' (runL (kcF n) acc l).1∧HintO hv w'∧Chg (fun b _=>HT hv ob rb b) w w'
variable {mn mx:Nat}
theorem height_le {α:Type} (hmn:1≤mn):(h:Nat)→(T:BT α h)→Sh mn mx h T→1≤(its T).length→h≤(toL h T).length
 | 0,_,_,_=>Nat.zero_le _
 | h+1,T,hs,h1=>by
  obtain ⟨c,hc⟩:∃c,T.2.2[0]?=some c:=⟨_,zH (by have:=hs.2.1;omega)⟩
  have hcm:c∈T.2.2:=zS hc
  have h2:=height_le hmn h c (hs.2.2 c hcm).2 (by have:=(hs.2.2 c hcm).1;omega)
  have h3:=kid_lt hs hcm h1
  omega
variable {ord:List Int}
theorem ascendH_any {k0:Kc ord} {w:World} {F:Nat→Prop} {t:Nat} {l:List (It ord)} (key:It ord) (mt:Bool) (hv:Option Nat) {n:Int} {ob b2 b3 rb:Nat} {acc:List (It ord)} (hM:MapIn k0 mn mx w F t l) (hmn:1≤mn) (hK:Kept n ob b2 b3 rb w acc) (hH:HintO hv w) (hHK:HintK hv ob b2 b3 rb) (hFb:∀b,F b→¬HT hv ob rb b) (htb:∀b,MOwn k0 t b→¬HT hv ob rb b) (hlen:acc.length+l.length≤1000000000000) :
  Calls Tp 52 #[Ip (some ⟨t,0,none⟩),.agg #[Ii Ij key.1,Ii Ij key.2],fnG b2 b3,.bool mt,hintV hv] w (RunEndH hv n ob b2 b3 rb acc (upp ltM key l) w):=by
 rcases hM with ⟨rfl,_,hB⟩ | ⟨H,h,T,hI,hB,rfl,h1⟩
 ·have hca:=(zK (fun _ _=>False) w).alloc (Ic #[Ii Ij key.1,Ii Ij key.2] 27)
  have c2:(w.alloc (Ic #[Ii Ij key.1,Ii Ij key.2] 27)).cell? ⟨t,2,none⟩=some (Ip none):=hca.q hB.c2
  have HK:=zL (hK.keep hca)
  have HH:=zL (hH.keep hca)
  clear hK hB hH
  unfold fnG hintV
  go_enter Try.func52,Try.ntmps52
  go_wp2_with fail
  refine (lock_any t mt _).mono ?_
  rintro e w' ⟨rfl,rfl⟩
  go_wp2
  go_end0
  exact ⟨rfl,HK.out,HH.out,hca.mono (fun _ _ _ h=>h.elim)⟩
 ·have HB:=zL hB
  have hhl:=height_le hmn h T hI.sh h1
  have hr:=fun (w1:World) (c:Chg (fun _ _=>False) w w1)=>asc_all h k0 mn mx w1 F H T t ⟨t,2,none⟩ key 0 hv mt n ob b2 b3 rb acc (hI.fam.chg c i3) hI.isT hI.sh hmn h1 hI.srt hI.m1000 (c.q hB.c2) (hB.at_.chg c i3) (hK.keep c) (hH.keep c) hHK hFb htb (by omega) hlen
  rw [show ((0:Nat):Int)=0 from rfl] at hr
  unfold fnG hintV at hr ⊢
  have HR:=zL hr
  clear hr hK hB hH
  go_enter Try.func52,Try.ntmps52
  go_wp2_with fail
  refine kbW (fun w1=>Chg (fun _ _=>False) w w1∧w1.heap[w.heap.size]?=some (Ic #[Ii Ij key.1,Ii Ij key.2] 27 (0,0))) ⟨(zK _ _).alloc _,kbT _ _ rfl⟩ ?_
  rintro w1 ⟨hc1,hb1⟩
  have q0:=kbB hb1 0
  have q1:=kbB hb1 1
  simp only [zF,zD,zE] at q0 q1
  have c2:w1.cell? ⟨t,2,none⟩=some (Ip (some ⟨rid T,0,none⟩)):=hc1.q HB.out.c2
  clear hb1
  refine (lock_any t mt _).mono ?_
  rintro e w' ⟨rfl,rfl⟩
  go_wp2_with fail
  refine wp_region_call (fun w'=>w'.cell? ⟨w.heap.size,0,none⟩=some (Ii Ij key.1)∧w'.cell? ⟨w.heap.size,1,none⟩=some (Ii Ij key.2))
   8 [0,1,2,3,4,5,6,7] _ [] (by kernel_rfl) (by kernel_rfl) (fun _ _ _ _ _ h=>h) rfl rfl rfl ⟨q0,q1⟩ ?_
  simp only [kbK,zX,zY,zD,zE]
  iterate 8
   refine kbR ?_ rfl ?_ ?_
   rotate_left
   ·intro w' hS
    try obtain ⟨a1,a2⟩:=hS
    go_simp
    try with_reducible rfl
   simp only [zJ,zA,zB,zC]
  refine kbS ?_
  refine wp_hide (fun K hK=>?_)
  go_simp
  refine (HR.out _ hc1.drew).mono ?_
  rintro e w2 ⟨rfl,h1,h3,h2⟩
  refine hK _ _ ?_
  clear hK K
  refine kbS ?_
  go_wp2_with fail
  go_end0
  exact ⟨rfl,h1,h3,(hc1.drew.mono (fun _ _ _ h=>h.elim)).trans h2⟩
theorem Ascend_any {k0:Kc ord} {w:World} {F:Nat→Prop} {t:Nat} {l:List (It ord)} (key:It ord)  {n:Int} {ob b2 b3 rb:Nat} {acc:List (It ord)} (hM:MapIn k0 mn mx w F t l) (hmn:1≤mn) (hK:Kept n ob b2 b3 rb w acc) (hH:HintO none w) (hHK:HintK none ob b2 b3 rb) (hFb:∀b,F b→¬HT none ob rb b) (htb:∀b,MOwn k0 t b→¬HT none ob rb b) (hlen:acc.length+l.length≤1000000000000) :
  Calls Tp 29 #[Ip (some ⟨t,0,none⟩),.agg #[Ii Ij key.1,Ii Ij key.2],fnG b2 b3] w (RunEndH none n ob b2 b3 rb acc (upp ltM key l) w):=by
 have hr:=fun (w1:World) (c:Chg (fun _ _=>False) w w1)=>ascendH_any key false none (hM.chg c) hmn (hK.keep c) (hH.keep c) hHK hFb htb hlen
 unfold fnG hintV at hr
 unfold fnG
 have HR:=zL hr
 clear hr hK hH
 go_enter Try.func29,Try.ntmps29
 go_wp2_with fail
 refine (HR.out _ ((zK _ _).alloc _)).mono ?_
 rintro e w1 ⟨rfl,h1,h3,h2⟩
 go_wp2_with fail
 go_end0
 exact ⟨rfl,h1,h3,(((zK (fun _ _=>False) w).alloc (Ic #[Ii Ij key.1,Ii Ij key.2] 27)).mono (fun _ _ _ h=>h.elim)).trans h2⟩
abbrev hintO0:Obj:=Ic #[.bool false,.bool false,.bool false,.bool false,.bool false,.bool false,.bool false,.bool false,.int .u8 0,.int .u8 0,.int .u8 0,.int .u8 0,.int .u8 0,.int .u8 0,.int .u8 0,.int .u8 0] 93
theorem hintC0:HintC #[.bool false,.bool false,.bool false,.bool false,.bool false,.bool false,.bool false,.bool false,.int .u8 0,.int .u8 0,.int .u8 0,.int .u8 0,.int .u8 0,.int .u8 0,.int .u8 0,.int .u8 0] where
 sz:=rfl
 used:=fun o ho=>⟨false,by match o,ho with | 0,_=>rfl | 1,_=>rfl | 2,_=>rfl | 3,_=>rfl | 4,_=>rfl | 5,_=>rfl | 6,_=>rfl | 7,_=>rfl⟩
 path:=fun o ho=>⟨0,by omega,by omega,by match o,ho with | 0,_=>rfl | 1,_=>rfl | 2,_=>rfl | 3,_=>rfl | 4,_=>rfl | 5,_=>rfl | 6,_=>rfl | 7,_=>rfl⟩
theorem GAscend_any (sv:Value) (d:Int) (nl:Bool) (p:Option Addr) (cap:Nat) (l:List (It ord)) (x:It ord) (n:Int) (w:World) (hs:SlE intE w sv ord) (hol:ord.length≤2147483647) (hd:FitD d) (hl:ItemsAt w p l) (hlen:l.length≤2147483647) :
  Calls Tp 13 #[.agg #[sv,Ii Ij d,.bool nl],.slice p l.length cap,.agg #[Ii Ij x.1,Ii Ij x.2],Ii Ij n] w (OwnPostI (firstN n (upp (ltM (ord:=ord)) x (kgP l))) w):=by
 have HGR:=zL (fun w1 (c:Chg (fun _ _=>False) w w1)=>grow_any (ord:=ord) sv d nl p cap l w1 hd (hs.chg c) hol (hl.chg c) hlen)
 unfold GrowPost at HGR
 have hgl:=kgB l l.length
 rw [List.take_length] at hgl
 have HGL:=zL hgl
 have hdim:=hd.dims.1
 obtain ⟨sa,sc,rfl⟩:∃a c,sv=.slice a ord.length c:=hs.form
 clear hgl hl hs
 go_enter Try.func13,Try.ntmps13
 go_wp2_with fail
 refine kbD (fun w1=>Chg (fun _ _=>False) w w1∧w1.heap[w.heap.size]?=some (Ic #[.slice sa ord.length sc,Ii Ij d,.bool nl] 24 (0,0))∧w1.heap[w.heap.size+1]?=some (Ic #[Ii Ij x.1,Ii Ij x.2] 27 (0,0))∧w1.heap[w.heap.size+2]?=some (Ic #[Is none 0 0] 25 (0,0))) ⟨(((zK _ _).alloc _).alloc _).alloc _,?_,?_,?_⟩ ?_
 ·rw [kcZ _ _ (by simp;try omega),kcZ _ _ (by simp;try omega)];exact kbT _ _ rfl
 ·rw [kcZ _ _ (by simp;try omega)];exact kbT _ _ (by simp)
 ·exact kbT _ _ (by simp)
 rintro w1 ⟨hc1,hb0,hb1,hbo⟩
 have m0:=kbB hb0 0
 have m1:=kbB hb0 1
 have m2:=kbB hb0 2
 have q0:=kbB hb1 0
 have q1:=kbB hb1 1
 simp only [zF,zD,zE] at m0 m1 m2 q0 q1
 have HBO:=zL hbo
 have hlt1:=kbF hbo
 have hsz1:=hc1.size
 clear hb0 hb1 hbo
 refine kbM (fun w'=>w'.cell? ⟨w.heap.size,0,none⟩=some (.slice sa ord.length sc)∧w'.cell? ⟨w.heap.size,1,none⟩=some (Ii Ij d)∧w'.cell? ⟨w.heap.size,2,none⟩=some (.bool nl)∧w'.cell? ⟨w.heap.size+1,0,none⟩=some (Ii Ij x.1)∧w'.cell? ⟨w.heap.size+1,1,none⟩=some (Ii Ij x.2)) (.soft 0 (.soft 1 (.soft 3 (.soft 4 (.hard 2 (.hard 5 (.hard 6 .nil))))))) (by kernel_rfl) (by kernel_rfl) (fun _ _ _ _ _ h=>h) ⟨m0,m1,m2,q0,q1⟩ ?_
 repeat (first | (refine kbH (by rfl) ?_ ?_ ?_ ?_;rotate_left;(· simp [zI,yielded];done);(· intro w' hS;try obtain ⟨a1,a2,a3,a4,a5⟩:=hS;go_simp;try with_reducible rfl);simp only [zJ,zA,zB,zC]) | (refine kbJ (by rfl) ?_ ?_;(· simp [zI,yielded];done);simp only [zJ,zA,zB,zC]))
 refine kbY (by rfl) (by simp [zI,yielded]) (fun K hK=>?_)
 go_simp
 refine (HGR.out _ hc1.drew).mono ?_
 rintro e w2 ⟨k0,t,F,rfl,hM,hc2',hF2,ho2⟩
 have hc2:Chg (fun _ _=>False) w1 w2:=(zK _ _).drew.trans hc2'
 have hszd:w1.drew.heap.size=w1.heap.size:=rfl
 have hb2:w2.heap[w.heap.size+2]?=some (Ic #[Is none 0 0] 25 (0,0)):=by rw [hc2.block (kbF HBO.out) (fun _ h=>h)];exact HBO.out
 have HKT:=zL (taker_kept (n:=n) hb2)
 clear hb2
 refine hK _ _ ⟨hc2.q m0,hc2.q m1,hc2.q m2,hc2.q q0,hc2.q q1⟩ ?_
 clear hK K
 repeat (first | (refine kbH (by rfl) ?_ ?_ ?_ ?_;rotate_left;(· simp [zI,yielded];done);(· intro w' hS;try obtain ⟨a1,a2,a3,a4,a5⟩:=hS;go_simp;try with_reducible rfl);simp only [zJ,zA,zB,zC]) | (refine kbJ (by rfl) ?_ ?_;(· simp [zI,yielded];done);simp only [zJ,zA,zB,zC]))
 refine kbY (by rfl) (by simp [zI,yielded]) (fun K hK=>?_)
 go_simp
 refine (taker_any (w.heap.size+2) n w2).mono ?_
 rintro e w3 ⟨rfl,hw3⟩
 have hk:Kept n (w.heap.size+2) w2.heap.size (w2.heap.size+1) w3.heap.size w3 []:=by rw [hw3];exact HKT.out
 have hc3:Chg (fun _ _=>False) w2 w3:=by rw [hw3];exact ((zK _ _).alloc _).alloc _
 clear hw3 HKT
 have hc13:=hc2.trans hc3
 have hsz3:=hc3.size
 have hsz2:=hc2.size
 have hM3:=hM.chg hc3
 have hTb:∀b,F b→¬HT none (w.heap.size+2) w3.heap.size b:=by
  rintro b hb ((h | h) | h)
  ·have:=hF2 b hb;omega
  ·have:=hM3.flt b hb;omega
  ·cases h
 have htb:∀b,MOwn k0 t b→¬HT none (w.heap.size+2) w3.heap.size b:=by
  rintro b hb ((h | h) | h)
  ·have:=ho2 b hb;omega
  ·have:=hM3.own hb;omega
  ·cases h
 have hr:=Ascend_any x hM3 hdim hk (HintO.none _) (fun b e=>by cases e) hTb htb (by have:=HGL.out;simp;omega)
 unfold fnG at hr
 have HR:=zL hr
 clear hr hk
 refine hK _ _ ⟨hc13.q m0,hc13.q m1,hc13.q m2,hc13.q q0,hc13.q q1⟩ ?_
 clear hK K
 repeat (first | (refine kbH (by rfl) ?_ ?_ ?_ ?_;rotate_left;(· simp [zI,yielded];done);(· intro w' hS;try obtain ⟨a1,a2,a3,a4,a5⟩:=hS;go_simp;try with_reducible rfl);simp only [zJ,zA,zB,zC]) | (refine kbJ (by rfl) ?_ ?_;(· simp [zI,yielded];done);simp only [zJ,zA,zB,zC]))
 refine kbY (by rfl) (by simp [zI,yielded]) (fun K hK=>?_)
 go_simp
 refine HR.out.mono ?_
 rintro e w9 ⟨rfl,hk9,_,hc9⟩
 rw [runL_first] at hk9
 obtain ⟨⟨v,g1,g2⟩,_⟩:=hk9
 have kk0:=kbB g1 0
 simp only [zF,zD] at kk0
 clear g1
 have hold:∀b,b < w1.heap.size→b≠w.heap.size+2→¬HT none (w.heap.size+2) w3.heap.size b:=by
  rintro b hb hb2 ((h | h) | h)
  ·exact hb2 h
  ·have h2:=hc13.size;omega
  ·cases h
 have hn0:¬HT none (w.heap.size+2) w3.heap.size w.heap.size:=hold _ (by omega) (by omega)
 have hn1:¬HT none (w.heap.size+2) w3.heap.size (w.heap.size+1):=hold _ (by omega) (by omega)
 refine hK _ _ ⟨hc9.cell hn0 (hc13.q m0),hc9.cell hn0 (hc13.q m1),hc9.cell hn0 (hc13.q m2),hc9.cell hn1 (hc13.q q0),hc9.cell hn1 (hc13.q q1)⟩ ?_
 clear hK K
 repeat (first | (refine kbH (by rfl) ?_ ?_ ?_ ?_;rotate_left;(· simp [zI,yielded];done);(· intro w' hS;try obtain ⟨a1,a2,a3,a4,a5⟩:=hS;go_simp;try with_reducible rfl);simp only [zJ,zA,zB,zC]) | (refine kbJ (by rfl) ?_ ?_;(· simp [zI,yielded];done);simp only [zJ,zA,zB,zC]))
 refine kcT ?_
 go_wp2_with fail
 go_ret
 have hsf:=hc13.size
 exact ⟨v,rfl,g2.mono (hc1.trans hc13).size,(hc1.trans hc13).trans' hc9 i3 (fun b o hb h=>hold b (by omega) (by omega) h)⟩
end
end Go.Proofs.Ytnohimhihombmaa
