/- nodeScan over trees. -/
import Derived.Test.YtnohimhihombmaaA12
namespace Go.Proofs.Ytnohimhihombmaa
set_option linter.unusedSimpArgs false
set_option linter.unusedVariables false
set_option maxRecDepth 100000
set_option maxHeartbeats 40000000
open Value renaming int → Ii, pointer → Ip, slice → Is, tuple → Iu
open IntKind renaming i64 → Ij
open Obj renaming cells → Ic
open Ending renaming returned → Ir
open Option.some renaming inj → Iq
open _root_.Go.Proofs.Try renaming prog → Tp
open List renaming setIfInBounds_toArray → zA, set_cons_zero → zB, set_cons_succ → zC, getElem?_eq_some_iff → zG, getElem?_eq_getElem → zH, length_append → zT
open Region renaming wanted → zI
open Lib renaming hid → zL
section
open Go.RowKit
variable {α:Type} {cont:List α→Bool} {acc:List α}
theorem kfB {x:α} {l:List α} (h:cont (acc++[x])=true):runL cont acc (x::l)=runL cont (acc++[x]) l:=by rw [runL,if_pos h]
theorem kgR {x:α} {l:List α} (h:cont (acc++[x])=false):runL cont acc (x::l)=(acc++[x],false):=by rw [runL,if_neg (by rw [h];simp)]
theorem kdT {l1 l2:List α} (h:(runL cont acc l1).2=true):runL cont acc (l1++l2)=runL cont (runL cont acc l1).1 l2:=by rw [runL_append,if_pos h]
theorem kfJ {l1 l2:List α} (h:(runL cont acc l1).2=false):runL cont acc (l1++l2)=runL cont acc l1:=by rw [runL_append,if_neg (by rw [h];simp)]
def kfC (n:Int) (ob b2 b3 rb:Nat) (acc l:List (Int×Int)) (w:World) (e:Ending) (w':World):Prop :=
 e=Ir (.bool (runL (kcF n) acc l).2)∧Kept n ob b2 b3 rb w' (runL (kcF n) acc l).1∧Chg (fun b _=>TakeB ob rb b) w w'
end
section
open Go.RowKit
end
section
open Go.RowKit
def ScanSpec (ord:List Int) (h:Nat):Prop:=∀(k0:Kc ord) (mn mx:Nat) (w:World) (F:Nat→Prop) (H:HN ord) (T:BT (It ord) h) (t:Nat) (pa:Addr) (mt:Bool) (n:Int) (ob b2 b3 rb:Nat) (acc:List (It ord)),
 Fam (parM k0) w F H→IsT H h T→Sh mn mx h T→w.cell? pa=some (Ip (some ⟨rid T,0,none⟩))→w.cell? ⟨t,0,none⟩=some (.int .u64 k0.iso)→Kept n ob b2 b3 rb w acc→(∀b,F b→¬TakeB ob rb b)→¬TakeB ob rb t→acc.length+(toL h T).length≤1000000000000 →
 Calls Tp 81 #[Ip (some ⟨t,0,none⟩),Ip (some pa),fnG b2 b3,.bool mt] w (kfC n ob b2 b3 rb acc (toL h T) w)
theorem kfG {α:Type} {l:List α} {k:Nat} {x:α} (h:l[k]?=some x):l.drop k=x::l.drop (k+1):=by
 obtain ⟨h1,rfl⟩:=zG.1 h
 exact List.drop_eq_getElem_cons h1
theorem inter_drop {α:Type} {xs:List α} {ts:List (List α)} {k:Nat} {x:α} {t:List α} (hx:xs[k]?=some x) (ht:ts[k]?=some t):kcM (xs.drop k) (ts.drop k)=t++x::kcM (xs.drop (k+1)) (ts.drop (k+1)):=by
 rw [kfG hx,kfG ht,kcM]
theorem scan_leaf (ord:List Int):ScanSpec ord 0:=by
 intro k0 mn mx w F H T t pa mt n ob b2 b3 rb acc hF hT hs hpa ht0 hK hFb htb hlen
 obtain ⟨l0,hn0⟩:=hF.node hT.root
 have n0:=hn0.c0
 have hlen':acc.length+T.2.length≤1000000000000:=hlen
 have HK:=zL hK
 clear hK hlen
 unfold fnG
 go_enter Try.func81,Try.ntmps81
 go_wp2_with fail
 refine (kcD t (rid T) k0 pa mt _ hpa n0 ht0).mono ?_
 rintro e w1 ⟨rfl,m1,hw1⟩
 have hc1:Chg (fun _ _=>False) w w1:=by rw [hw1];exact (Chg.refl _ _).drewN _
 clear hw1 n0 hpa ht0
 have n3:=hc1.q (hn0.c3n rfl)
 go_wp2_with (go_at_call 51;refine (kcJ _ none _ ?_).mono ?_;(focus go_simp);rintro e w' ⟨rfl,rfl⟩)
 go_loopw [10] (fun i wr=>∃(k:Nat) (acc':List (It ord)),i=Ii Ij k∧k≤T.2.length∧Kept n ob b2 b3 rb wr acc'∧runL (kcF n) acc T.2=runL (kcF n) acc' (T.2.drop k)∧acc'.length+(T.2.length - k)≤1000000000000∧Chg (fun b _=>TakeB ob rb b) w wr) (fun i _=>T.2.length - (intOf i).toNat)
 case atStart=>exact ⟨0,acc,rfl,Nat.zero_le _,HK.out.keep hc1,rfl,by omega,hc1.mono (fun _ _ _ h=>h.elim)⟩
 case round =>
  obtain ⟨k,acc',rfl,hk,hkp,hrun,hal,hc⟩:=hrel
  clear n3
  obtain ⟨l,hn⟩:=(hF.chg hc (fun b o hb h=>hFb b hb h)).node hT.root
  have n2:wr.cell? ⟨rid T,2,none⟩=some (Is (some ⟨l.ib,l.io,none⟩) T.2.length l.ic):=hn.c2
  by_cases hlt:k < T.2.length
  rotate_left
  ·have hnlt:¬(k:Int) < (T.2.length:Int):=by omega
   rw [List.drop_eq_nil_of_le (by omega)] at hrun
   have HR:=zL hrun
   have HKP:=zL hkp
   clear hrun hkp
   go_wp2
   go_ret
   unfold kfC
   show _=Ending.returned (.bool (runL (kcF n) acc T.2).2)∧Kept n ob b2 b3 rb wr (runL (kcF n) acc T.2).1∧_
   rw [HR.out]
   exact ⟨rfl,HKP.out,hc⟩
  ·obtain ⟨x,hx⟩:∃x,T.2[k]?=some x:=⟨_,zH (by omega)⟩
   have ik:=hn.mkey (j:=k) hx
   have iv:=hn.mval (j:=k) hx
   rw [kfG hx] at hrun
   have hp:=fun w1 (h:Kept n ob b2 b3 rb w1 acc')=>kgD x h (by omega)
   have HR:=zL hrun
   have HKP:=zL hkp
   have i0:(0:Int)≤(k:Int):=by omega
   have i1:(k:Int) < (T.2.length:Int):=by omega
   clear hrun hkp hx
   cases hb:kcF n (acc'++[x])
   all_goals
    rw [hb] at hp
    have HP:=zL hp
    have HB:=zL hb
    clear hp hb
    go_wp2_with fail
    refine (HP.out _ HKP.out).mono ?_
    rintro e w2 ⟨rfl,hk2,hc2⟩
    have hc02:=hc.trans hc2
   ·go_wp2
    go_ret
    unfold kfC
    show _=Ending.returned (.bool (runL (kcF n) acc T.2).2)∧Kept n ob b2 b3 rb w2 (runL (kcF n) acc T.2).1∧_
    rw [HR.out,kgR HB.out]
    exact ⟨rfl,hk2,hc02⟩
   ·go_wp2
    go_roundw
    case rel=>exact ⟨k+1,acc'++[x],by go_num,by omega,hk2,by rw [HR.out,kfB HB.out],by simp;omega,hc02⟩
    case measure=>simp [intOf];omega
theorem scan_branch {ord:List Int} {h:Nat} (ih:ScanSpec ord h):ScanSpec ord (h+1):=by
 intro k0 mn mx w F H T t pa mt n ob b2 b3 rb acc hF hT hs hpa ht0 hK hFb htb hlen
 obtain ⟨l0,hn0,hblk⟩:=hF.nodeB hT.root
 have n0:=hn0.c0
 have hk:(kbP (h+1) T).kids=some (T.2.2.map fun c=>some (rid c)):=rfl
 have hrb:¬TakeB ob rb (rid T):=hFb _ (hblk _ (.inl rfl))
 have hkl:T.2.2.length=T.2.1.length+1:=hs.2.1
 have hml:(T.2.2.map (toL h)).length=T.2.1.length+1:=by simpa using hkl
 have hlen':acc.length+(kcM T.2.1 (T.2.2.map (toL h))).length≤1000000000000:=hlen
 have hits:T.2.1.length≤1000000000000:=by have:=(its_sub hs).length_le;have h2:(its T).length=T.2.1.length:=rfl;omega
 have HKL:=zL hkl
 have HML:=zL hml
 have HLEN:=zL hlen'
 have HK:=zL hK
 have HT0:=zL ht0
 have hih:=fun (c:BT (It ord) h) (hcm:c∈T.2.2) (w1:World) (pa1:Addr) (acc1:List (It ord)) (hc1:Chg (fun b _=>TakeB ob rb b) w w1) (hp1:w1.cell? pa1=some (Ip (some ⟨rid c,0,none⟩))) (h1:Kept n ob b2 b3 rb w1 acc1) (h2:acc1.length+(toL h c).length≤1000000000000) =>
  ih k0 mn mx w1 F H c t pa1 mt n ob b2 b3 rb acc1 (hF.chg hc1 (fun b o hb h=>hFb b hb h)) (hT.kid hcm) (hs.2.2 c hcm).2 hp1 (hc1.cell (a:=⟨t,0,none⟩) (fun h=>htb h) HT0.out) h1 hFb htb h2
 unfold fnG at hih
 have HIH:=zL hih
 clear hK hlen hkl hml hlen' hih
 unfold fnG
 go_enter Try.func81,Try.ntmps81
 go_wp2_with fail
 refine (kcD t (rid T) k0 pa mt _ hpa n0 ht0).mono ?_
 rintro e w1 ⟨rfl,m1,hw1⟩
 have hc1:Chg (fun _ _=>False) w w1:=by rw [hw1];exact (Chg.refl _ _).drewN _
 clear hw1 n0 hpa ht0
 have n3:=hc1.q (hn0.c3s hk)
 go_wp2_with (go_at_call 51;refine (kcJ _ (some ⟨l0.cc,0,none⟩) _ ?_).mono ?_;(focus go_simp);rintro e w' ⟨rfl,rfl⟩)
 go_loopw [11] (fun i wr=>∃(k:Nat) (acc':List (It ord)),i=Ii Ij k∧k≤T.2.1.length∧Kept n ob b2 b3 rb wr acc'∧runL (kcF n) acc (toL (h+1) T)=runL (kcF n) acc' (kcM (T.2.1.drop k) ((T.2.2.map (toL h)).drop k))∧acc'.length+(kcM (T.2.1.drop k) ((T.2.2.map (toL h)).drop k)).length≤1000000000000∧Chg (fun b _=>TakeB ob rb b) w wr) (fun i _=>T.2.1.length - (intOf i).toNat)
 case atStart=>exact ⟨0,acc,rfl,Nat.zero_le _,HK.out.keep hc1,rfl,HLEN.out,hc1.mono (fun _ _ _ h=>h.elim)⟩
 case round =>
  obtain ⟨k,acc',rfl,hkk,hkp,hrun,hal,hc⟩:=hrel
  clear n3
  obtain ⟨c,hcj⟩:∃c,T.2.2[k]?=some c:=⟨_,zH (by have:=HKL.out;omega)⟩
  have hcm:c∈T.2.2:=List.mem_of_getElem? hcj
  have hkc:=(zG.1 hcj).1
  have htj:(T.2.2.map (toL h))[k]?=some (toL h c):=by simp [hcj]
  obtain ⟨l,hn⟩:=(hF.chg hc (fun b o hb h=>hFb b hb h)).node hT.root
  have n2:wr.cell? ⟨rid T,2,none⟩=some (Is (some ⟨l.ib,l.io,none⟩) T.2.1.length l.ic):=hn.c2
  have n3:=hn.c3s hk
  have nc:=hn.cc hk
  rw [List.length_map] at nc
  have kc:wr.cell? ⟨l.cb,l.co+k,none⟩=some (Ip (some ⟨rid c,0,none⟩)):=hn.kidc hk (j:=k) (o:=some (rid c)) (by simp [hcj])
  have HKP:=zL hkp
  have i0:(0:Int)≤(k:Int):=by omega
  have i2:(k:Int) < (T.2.2.length:Int):=by omega
  by_cases hlt:k < T.2.1.length
  ·obtain ⟨x,hx⟩:∃x,T.2.1[k]?=some x:=⟨_,zH (by omega)⟩
   rw [inter_drop hx htj] at hrun hal
   have HR:=zL hrun
   have HX:=zL hx
   have HAL:=zL hal
   have i1:(k:Int) < (T.2.1.length:Int):=by omega
   clear hrun hkp hx hcj htj hal
   cases hb2:(runL (kcF n) acc' (toL h c)).2
   all_goals
    have hkid:=HIH.out c hcm wr ⟨l.cb,l.co+k,none⟩ acc' hc kc HKP.out (by have:=HAL.out;simp only [zT] at this;omega)
    unfold kfC at hkid
    rw [hb2] at hkid
    have HKID:=zL hkid
    have HB2:=zL hb2
    clear hkid hb2
    go_wp2_with fail
    refine HKID.out.mono ?_
    rintro e w5 ⟨rfl,hk5,hc5⟩
    have hc05:=hc.trans hc5
    have HK5:=zL hk5
    clear hk5 n2 n3 nc kc
   ·go_wp2
    go_ret
    unfold kfC
    show _=Ending.returned (.bool (runL (kcF n) acc (toL (h+1) T)).2)∧Kept n ob b2 b3 rb w5 (runL (kcF n) acc (toL (h+1) T)).1∧_
    rw [HR.out,kfJ HB2.out,HB2.out]
    exact ⟨rfl,HK5.out,hc05⟩
   ·have hrt2:=runL_true _ _ _ HB2.out
    have HRT2:=zL hrt2
    have hk5:=HK5.out
    rw [hrt2] at hk5
    obtain ⟨l5,hn5⟩:=(hF.chg hc05 (fun b o hb h=>hFb b hb h)).node hT.root
    have n2:w5.cell? ⟨rid T,2,none⟩=some (Is (some ⟨l5.ib,l5.io,none⟩) T.2.1.length l5.ic):=hn5.c2
    have ik:=hn5.mkey (j:=k) HX.out
    have iv:=hn5.mval (j:=k) HX.out
    have hp:=fun w1 (h:Kept n ob b2 b3 rb w1 (acc'++toL _ c))=>kgD x h (by have:=HAL.out;simp only [zT] at this ⊢;omega)
    have HK6:=zL hk5
    clear hrt2 hk5
    cases hb:kcF n ((acc'++toL h c)++[x])
    all_goals
     rw [hb] at hp
     have HP:=zL hp
     have HB1:=zL hb
     clear hp hb
     go_wp2_with fail
     refine (HP.out _ HK6.out).mono ?_
     rintro e w4 ⟨rfl,hk4,hc4⟩
     have hc04:=hc05.trans hc4
     have HK4:=zL hk4
     clear hk4
    ·go_wp2
     go_ret
     unfold kfC
     show _=Ending.returned (.bool (runL (kcF n) acc (toL (h+1) T)).2)∧Kept n ob b2 b3 rb w4 (runL (kcF n) acc (toL (h+1) T)).1∧_
     rw [HR.out,kdT HB2.out,HRT2.out,kgR HB1.out]
     exact ⟨rfl,HK4.out,hc04⟩
    ·go_wp2
     go_roundw
     case rel=>exact ⟨k+1,_,by go_num,by omega,HK4.out,by rw [HR.out,kdT HB2.out,HRT2.out,kfB HB1.out],by have:=HAL.out;simp only [zT,List.length_cons,List.length_nil] at this ⊢;omega,hc04⟩
     case measure=>simp [intOf];omega
  ·obtain rfl:k=T.2.1.length:=by omega
   have hdr:kcM (T.2.1.drop T.2.1.length) ((T.2.2.map (toL h)).drop T.2.1.length)=toL h c:=by
    rw [List.drop_length,kfG htj,List.drop_eq_nil_of_le (by have:=HML.out;omega),kgM]
   rw [hdr] at hrun hal
   have HR:=zL hrun
   have hkid:=HIH.out c hcm wr.drew ⟨l.cb,l.co+T.2.1.length,none⟩ acc' hc.drew kc (HKP.out.keep (Chg.refl _ _).drew) hal
   unfold kfC at hkid
   have HKID:=zL hkid
   have HCB:=zL (show ¬TakeB ob rb l.cc from hFb _ (by
    obtain ⟨lx,hx1,hx2⟩:=(hF.chg hc (fun b o hb h=>hFb b hb h)).nodeB hT.root
    have e1:=hn.c3s hk
    rw [hx1.c3s hk] at e1
    have e2:lx.cc=l.cc:=by simpa using e1
    rw [←e2]
    exact hx2 _ (.inr (.inr ⟨by rw [hk];simp,.inl rfl⟩))))
   have s1:Ij.wrap (T.2.1.length:Int)=(T.2.1.length:Int):=IntWalk.i64_in _ (by omega)
   have s2:((T.2.2.length:Int) - 1)=(T.2.1.length:Int):=by have:=HKL.out;omega
   have hnlt:¬((T.2.1.length:Nat):Int) < (T.2.1.length:Int):=by omega
   clear hrun hkp hcj htj hal hdr hkid kc
   cases hb2:(runL (kcF n) acc' (toL h c)).2
   all_goals
    rw [hb2] at HKID
    have HB2:=zL hb2
    clear hb2
    go_wp2_with fail
    refine kbM (fun w'=>w'.cell? ⟨rid T,3,none⟩=some (Ip (some ⟨l.cc,0,none⟩))∧w'.cell? ⟨l.cc,0,none⟩=some (Is (some ⟨l.cb,l.co,none⟩) T.2.2.length l.ck)) (.soft 0 (.soft 1 (.soft 2 (.soft 3 (.soft 4 (.soft 5 (.soft 6 (.soft 7 (.soft 8 (.soft 9 (.soft 10 (.soft 11 (.soft 12 (.soft 13 (.soft 14 (.soft 15 (.soft 16 (.soft 17 (.hard 18 (.soft 19 .nil)))))))))))))))))))) (by kernel_rfl) (by kernel_rfl) (fun _ _ _ _ _ h=>h) ⟨n3,nc⟩ ?_
    repeat (first | (refine kbH (by rfl) ?_ ?_ ?_ ?_;rotate_left;(· simp [zI,yielded];done);(· intro w' hS;try obtain ⟨a1,a2⟩:=hS;go_simp;try with_reducible rfl);simp only [Act.put,zA,zB,zC]) | (refine kbJ (by rfl) ?_ ?_;(· simp [zI,yielded];done);simp only [Act.put,zA,zB,zC]))
    refine kbY (by rfl) (by simp [zI,yielded]) (fun K hK=>?_)
    go_simp
    refine HKID.out.mono ?_
    rintro e w3 ⟨rfl,hk3,hc3⟩
    refine hK _ _ ⟨hc3.cell hrb n3,hc3.cell HCB.out nc⟩ ?_
    clear hK K
    repeat (first | (refine kbH (by rfl) ?_ ?_ ?_ ?_;rotate_left;(· simp [zI,yielded];done);(· intro w' hS;try obtain ⟨a1,a2⟩:=hS;go_simp;try with_reducible rfl);simp only [Act.put,zA,zB,zC]) | (refine kbJ (by rfl) ?_ ?_;(· simp [zI,yielded];done);simp only [Act.put,zA,zB,zC]))
    refine kcT ?_
    have hc03:=hc.drew.trans hc3
    have HK3:=zL hk3
    clear hk3 n3 nc
    go_wp2_with fail
    go_ret
    unfold kfC
    show _=Ending.returned (.bool (runL (kcF n) acc (toL (h+1) T)).2)∧Kept n ob b2 b3 rb w3 (runL (kcF n) acc (toL (h+1) T)).1∧_
    rw [HR.out,HB2.out]
    exact ⟨rfl,HK3.out,hc03⟩
theorem scan_all (ord:List Int):(h:Nat)→ScanSpec ord h
 | 0=>scan_leaf ord
 | h+1=>scan_branch (scan_all ord h)
end
end Go.Proofs.Ytnohimhihombmaa
