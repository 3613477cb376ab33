/- The walk of nodeSet at a branch with room: the full child is parted, then the item goes in anew. -/
import Derived.Test.YtnohimhihombmaaA6
namespace Go.Proofs.Ytnohimhihombmaa
set_option linter.unusedSimpArgs false
set_option linter.unusedVariables false
set_option maxRecDepth 100000
set_option maxHeartbeats 40000000
open List renaming setIfInBounds_toArray → zA, set_cons_zero → zB, set_cons_succ → zC, getElem?_cons_zero → zD, getElem?_cons_succ → zE, getElem?_toArray → zF, getElem?_eq_getElem → zH, length_append → zT, length_map → zU, filterMap_cons → zX, filterMap_nil → zY, drop_succ_cons → za, drop_zero → zb
open Act renaming put → zJ
open Chg renaming refl → zK, setCell → zd, drew → ze, drewN → zf
open Lib renaming hid → zL
open World renaming block_lt_of_cell? → zg
open Nat renaming le_refl → zi, le_add_right → zl
section
open Go.RowKit
variable {ord:List Int} {k:Kc ord}
theorem upList_set2 {β:Type} (ys:List β) (z x:β) (i:Nat) (hi:i < ys.length):((ys++[z]).take (i+1)++ys.drop i).set (i+1) x=ys.take (i+1)++x::ys.drop (i+1):=by
 have h1:((ys++[z]).take (i+1)).length=i+1:=by simp;omega
 rw [List.set_append_right _ _ (by omega),h1,Nat.sub_self,List.take_append_of_le_length (by omega),List.drop_eq_getElem_cons hi,zB]
theorem Run.setKid {α:Type} {p:Par α} {w0 w:World} {n:Nat} {r0 r:NodeR α} {l0 l:Lay} (h:Run p w0 n r0 l0 w r l) {ks:List (Option Nat)} (hk:r.kids=some ks) (i:Nat) (o:Option Nat) (hi:i < ks.length) :
  Run p w0 n r0 l0 (w.setCell ⟨l.cb,l.co+i,none⟩ (kidV o)) { r with kids:=some (ks.set i o) } l:=by
 obtain ⟨_,c,h1,h2,_⟩:=(h.at_.kid _ hk).2
 have hlen:=h.at_.klen hk
 have hp:=h.putKids hk i [o] (by simp;omega)
 rw [show ks.take i++[o]++ks.drop (i+[o].length)=ks.set i o by rw [List.set_eq_take_append_cons_drop,if_pos hi];simp] at hp
 rw [List.map_cons,List.map_nil,←putCells_one h1 (by omega)] at hp
 exact hp
def KidTwo (k:Kc ord) (w:World) (F:Nat→Prop) (Z2:World→(Nat→Option (NodeR (It ord)))→It ord→Bool→Bool→Prop) (e:Ending) (w':World):Prop :=
 ∃w1 H' pr rp sp,w.heap.size≤w1.heap.size∧Z2 w1 H' pr rp sp∧e=.returned (.tuple #[.agg #[.int .i64 pr.1,.int .i64 pr.2],.bool rp,.bool sp])∧Fam (parM k) w' (grow F w w') H'∧Chg (fun b _=>F b) w w'
theorem nodeSet_kid_split (k:Kc ord) (mn mx t n:Nat) (pa:Addr) (dp:Int) (x:It ord) (i:Nat) (r:NodeR (It ord)) (w:World) (F:Nat→Prop) (H:Nat→Option (NodeR (It ord))) (hF:Fam (parM k) w F H) (ht:MapAt k mn mx w t) (htF:∀b,MOwn k t b→¬F b) (hn:H n=some r)
  (hpa:w.cell? pa=some (.pointer (some ⟨n,0,none⟩))) (hs:Srt ltM r.items) (hlen:r.items.length < mx) (hmx:mx≤1000) (hm3:3≤mx) (hy:PosAt ltM r.items x i) (kl:List Nat) (hk:r.kids=some (kl.map some)) (hkll:kl.length≤mx) (c:Nat) (hc:kl[i]?=some c)
  (Z:World→(Nat→Option (NodeR (It ord)))→It ord→Bool→Bool→Prop)
  (hcall:∀w1 pa dp,Chg (fun _ _=>False) w w1→Fam (parM k) w1 F H→MapAt k mn mx w1 t→w1.cell? pa=some (.pointer (some ⟨c,0,none⟩))→Calls Try.prog 84 #[.pointer (some ⟨t,0,none⟩),.pointer (some pa),aggM x,.pointer none,.int .i64 dp] w1 (KidPost k F Z w1))
  (hZ:∀w1 H' pr rp sp,Z w1 H' pr rp sp→w.heap.size≤w1.heap.size→sp=true∧H'=H)
  (rc:NodeR (It ord)) (hrc:H c=some rc) (hcn:c≠n) (kl2:List Nat) (hk2:(rc.kids=none∧kl2=[])∨(rc.kids=some (kl2.map some)∧kl2.length=mx+1)) (hlen2:rc.items.length=mx) (cf:Nat→Int)
  (hkid:∀a∈kl2,a≠c∧∃s,H a=some s∧s.cnt=cf a∧0≤cf a) (hsum:ksum cf kl2≤100000000000000)
  (Z2:World→(Nat→Option (NodeR (It ord)))→It ord→Bool→Bool→Prop)
  (hcall2:∀w1 pa dp F1 m x2,w.heap.size≤m→m < w1.heap.size→rc.items[mx / 2]?=some x2→(∀b,F b→F1 b)→(∀b,b < w.heap.size→F1 b→F b) →
   Fam (parM k) w1 F1 (upd (upd (upd H c ⟨(mx / 2:Nat)+ksum cf (kl2.take (mx / 2+1)),rc.items.take (mx / 2),rc.kids.map (·.take (mx / 2+1))⟩) m ⟨((mx - (mx / 2+1):Nat):Int)+ksum cf (kl2.drop (mx / 2+1)),rc.items.drop (mx / 2+1),rc.kids.map (·.drop (mx / 2+1))⟩) n
    ⟨r.cnt,r.items.take i++x2::r.items.drop i,some ((kl.take (i+1)++m::kl.drop (i+1)).map some)⟩) →
   MapAt k mn mx w1 t→w1.cell? pa=some (.pointer (some ⟨n,0,none⟩))→Calls Try.prog 84 #[.pointer (some ⟨t,0,none⟩),.pointer (some pa),aggM x,.pointer none,.int .i64 dp] w1 (KidPost k F1 Z2 w1)) :
  Calls Try.prog 84 #[.pointer (some ⟨t,0,none⟩),.pointer (some pa),aggM x,.pointer none,.int .i64 dp] w (KidTwo k w F Z2):=by
 obtain ⟨l,hna,hb,ho,cl⟩:=hF.work hn
 have t0:=ht.c0
 have n0:=hna.c0
 have hpk:(parM k).k=k.iso:=rfl
 rw [hpk] at n0
 have nlt:n < w.heap.size:=zg w _ n0
 have tlt:t < w.heap.size:=zg w _ t0
 have plt:=zg w _ hpa
 have hpa1:∀o,(w.alloc o).cell? pa=some (.pointer (some ⟨n,0,none⟩)):=fun o=>by rw [World.cell?_alloc_lt w _ _ plt];exact hpa
 have hpa2:∀o o',((w.alloc o).alloc o').cell? pa=some (.pointer (some ⟨n,0,none⟩)):=fun o o'=>by rw [World.cell?_alloc_lt _ _ _ (by simp;omega)];exact hpa1 o
 have hn1:∀o o',((w.alloc o).alloc o').cell? ⟨n,0,none⟩=some (.int .u64 k.iso):=fun o o'=>((hna.chg (((zK (fun _ _=>False) w).alloc o).alloc o') (fun _ _ _ h=>h)).c0)
 have ht1:∀o o',((w.alloc o).alloc o').cell? ⟨t,0,none⟩=some (.int .u64 k.iso):=fun o o'=>((ht.chg (((zK (fun _ _=>False) w).alloc o).alloc o') (fun _ _ _ h=>h)).c0)
 unfold aggM
 go_enter Try.func84,Try.ntmps84
 go_wp2_with fail
 go_quiet (fail)
 go_wp2_with fail
 clear hn1 ht1
 refine kbW (fun w1=>Chg (fun _ _=>False) w w1∧w1.heap[w.heap.size]?=some (.cells #[.int .i64 x.1,.int .i64 x.2] 27 (0,0))∧w1.heap[w.heap.size+1]?=some (.cells #[.int .i64 0,.int .i64 0] 27 (0,0))∧w1.heap[w.heap.size+2]?=some (.cells #[.pointer (some ⟨n,0,none⟩)] 97 (0,0))) ⟨?_,?_,?_,?_⟩ ?_
 ·repeat (first | refine ze ?_ | refine zf ?_ _ | refine Chg.alloc ?_ _ | exact zK _ _)
 ·try simp only [kbV,kbX]
  repeat (first | exact kbR _ _ rfl | (rw [kcV _ _ (by simp;try omega)];try simp only [kbV,kbX]))
 ·try simp only [kbV,kbX]
  rw [kcV _ _ (by simp;try omega)]
  try simp only [kbV,kbX]
  exact kbR _ _ (by simp)
 ·try simp only [kbV,kbX]
  exact kbR _ _ (by simp)
 rintro w1 ⟨hc1,hb1,hbp,hb2⟩
 have hn1:=hna.chg hc1 (fun _ _ _ h=>h)
 have ht1:=ht.chg hc1 (by simp)
 refine (kfW t x ht1 hn1 hs (by omega)).mono ?_
 rintro e w2 ⟨i',f,rfl,hw2,hf⟩
 have hfi:f=false∧i'=i:=by
  rcases hf with ⟨h1,y',h2⟩ | ⟨h1,h2⟩
  ·exact absurd h2.n2 (by rw [hy.right i' y' (hit_le hy h2) h2.at_];simp)
  ·exact ⟨h1,pos_same h2 hy swoM⟩
 obtain ⟨rfl,rfl⟩:=hfi
 have hc2:Chg (fun _ _=>False) w1 w2:=hw2
 have hn2:=hn1.chg hc2 (fun _ _ _ h=>h)
 have ht2:=ht1.chg hc2 (by simp)
 have hb1':w2.heap[w.heap.size]?=some (.cells #[.int .i64 x.1,.int .i64 x.2] 27 (0,0)):=by rw [hw2.block (kbF hb1) (fun _ h=>h)];exact hb1
 have hb2':w2.heap[w.heap.size+2]?=some (.cells #[.pointer (some ⟨n,0,none⟩)] 97 (0,0)):=by rw [hw2.block (kbF hb2) (fun _ h=>h)];exact hb2
 have hbp':w2.heap[w.heap.size+1]?=some (.cells #[.int .i64 0,.int .i64 0] 27 (0,0)):=by rw [hw2.block (kbF hbp) (fun _ h=>h)];exact hbp
 have HB1:=zL hb1'
 have HBP:=zL hbp'
 have HB2:=zL hb2'
 have q0:=kbB hb1' 0
 have q1:=kbB hb1' 1
 have q2:=kbB hb2' 0
 simp only [zF,zD,zE] at q0 q1 q2
 have n3:=hn2.c3s hk
 have hcc:=hc1.trans hc2
 have hkl:=(List.getElem?_eq_some_iff.1 hc).1
 have g1:=hn2.cc hk
 rw [zU] at g1
 have g2:=hn2.kidc hk (j:=i') (o:=some c) (by simp [hc])
 clear hw2 hb1 hb2 hbp hb1' hb2' hbp' t0 n0 hpa hpa1 hpa2
 go_wp2_with (go_at_call 51;refine (kcQ _ (some ⟨l.cc,0,none⟩) _ ?_).mono ?_;(focus go_simp);rintro e w' ⟨rfl,rfl⟩)
 refine kbD (fun w3=>Chg (fun _ _=>False) w2 w3) (zK _ _) ?_
 rintro w3 hc3
 replace q0:=hc3.q q0
 replace q1:=hc3.q q1
 replace q2:=hc3.q q2
 replace n3:=hc3.q n3
 replace g1:=hc3.q g1
 replace g2:=hc3.q g2
 have hcc3:=hcc.trans hc3
 have j0:(0:Int)≤(i':Int):=by omega
 have j1:(i':Int) < (kl.length:Int):=by omega
 have HB1':Hid (w3.heap[w.heap.size]?=some (.cells #[.int .i64 x.1,.int .i64 x.2] 27 (0,0))):=zL (by rw [hc3.block (kbF HB1.out) (fun _ h=>h)];exact HB1.out)
 have HBP':Hid (w3.heap[w.heap.size+1]?=some (.cells #[.int .i64 0,.int .i64 0] 27 (0,0))):=zL (by rw [hc3.block (kbF HBP.out) (fun _ h=>h)];exact HBP.out)
 have HB2':Hid (w3.heap[w.heap.size+2]?=some (.cells #[.pointer (some ⟨n,0,none⟩)] 97 (0,0))):=zL (by rw [hc3.block (kbF HB2.out) (fun _ h=>h)];exact HB2.out)
 refine kfF (fun w'=>w'.cell? ⟨w.heap.size,0,none⟩=some (.int .i64 x.1)∧w'.cell? ⟨w.heap.size,1,none⟩=some (.int .i64 x.2)∧w'.cell? ⟨w.heap.size+2,0,none⟩=some (.pointer (some ⟨n,0,none⟩))∧w'.cell? ⟨n,3,none⟩=some (.pointer (some ⟨l.cc,0,none⟩))∧w'.cell? ⟨l.cc,0,none⟩=some (.slice (some ⟨l.cb,l.co,none⟩) kl.length l.ck))
  13 [0,1,2,3,4,5,6,7,8,9,10,11,12] _ [(14,true),(15,true),(16,true),(17,true),(18,false),(19,true),(20,true)] (by kernel_rfl) (by kernel_rfl) (fun _ _ _ _ _ h=>h) rfl rfl ⟨q0,q1,q2,n3,g1⟩ ?_
 simp only [kbJ,zX,zY,zD,zE]
 iterate 13
  refine kbN ?_ rfl ?_ ?_
  rotate_left
  ·intro w' hS
   obtain ⟨s0,s1,s2,s3,s4⟩:=hS
   go_simp
   try with_reducible rfl
  simp only [zJ,zA,zB,zC]
 refine kbQ ?_
 refine kgN (fun K hK=>?_)
 go_simp
 go_at_call 84
 have hc13:Chg (fun _ _=>False) w w3.drew:=hcc3.drew
 refine (hcall _ _ _ hc13 (hF.chg hc13 (fun _ _ _ h=>h)) (ht.chg hc13 (by simp)) g2).mono ?_
 rintro e wk ⟨H',pr,rp,sp,rfl,hFk,hck,hz4⟩
 obtain ⟨rfl,rfl⟩:=hZ _ _ _ _ _ hz4 hc13.size
 replace hck:Chg (fun b _=>F b) w3 wk:=((zK _ _).drew).trans hck
 have nF:∀b,w.heap.size≤b→¬F b:=fun b hb h=>Nat.lt_irrefl _ (Nat.lt_of_lt_of_le (hF.lt h) hb)
 have hbpk:wk.heap[w.heap.size+1]?=some (.cells #[.int .i64 0,.int .i64 0] 27 (0,0)):=by rw [hck.block (kbF HBP'.out) (fun _ h=>nF _ (zl _ _) h)];exact HBP'.out
 have p0:=kbB hbpk 0
 have p1:=kbB hbpk 1
 have pf0:=kbC hbpk 0
 have pf1:=kbC hbpk 1
 simp only [zF,zD,zE] at p0 p1
 have HBPK:=zL hbpk
 clear hbpk
 refine hK _ _ ?_
 clear hK K
 iterate 4
  refine kcF (by rfl) ?_ (by simp [Region.wanted,yielded]) ?_ ?_
  rotate_left
  ·intro w' hS
   try obtain ⟨a1⟩:=hS
   go_simp
   try with_reducible rfl
  simp only [zJ,zA,zB,zC]
 refine kcG (by rfl) (by simp [Region.wanted,yielded]) (fun K hK=>?_)
 go_simp
 refine hK _ _ (fun _=>trivial) ?_
 clear hK K
 iterate 2
  refine kcF (by rfl) ?_ (by simp [Region.wanted,yielded]) ?_ ?_
  rotate_left
  ·intro w' hS
   try obtain ⟨a1⟩:=hS
   go_simp
   try with_reducible rfl
  simp only [zJ,zA,zB,zC]
 refine kdD ?_
 refine kbK (fun w4=>Chg (fun b _=>b=w.heap.size+1) wk w4∧w4.heap[w.heap.size+1]?=some (.cells #[.int .i64 pr.1,.int .i64 pr.2] 27 (0,0))) ⟨?_,?_⟩ ?_
 ·repeat (first | refine ze ?_ | refine zd ?_ (.inl rfl) _ | exact zK _ _)
 ·rw [kbS (kbS HBPK.out _)];rfl
 clear p0 p1 pf0 pf1
 rintro w4 ⟨hcz,hbp4⟩
 have p0:=kbB hbp4 0
 have p1:=kbB hbp4 1
 have pf0:=kbC hbp4 0
 have pf1:=kbC hbp4 1
 simp only [zF,zD,zE] at p0 p1
 have hc4:Chg (fun b _=>F b∨b=w.heap.size+1) w3 w4:=hck.trans' hcz (fun _ _ _ h=>.inl h) (fun _ _ _ h=>.inr h)
 have nFq:∀b,w.heap.size≤b→b≠w.heap.size+1→¬(F b∨b=w.heap.size+1):=fun b hb hne h=>by
  rcases h with h | h
  ·exact nF b hb h
  ·exact hne h
 have hszk:=hck.size
 have hszz:=hcz.size
 have hbl3:=kbF HBP'.out
 have hF4:=(hFk.chg hcz (fun b o hb e=>by
  rcases hb with hb | hb
  ·exact nF b (by omega) hb
  ·have h1:=hb.1;have h3:w3.drew.heap.size=w3.heap.size:=rfl;omega)).mono (F':=grow F w3.drew w4) (fun b h=>by
  rcases h with h | h
  ·exact .inl h
  ·exact .inr ⟨h.1,by omega⟩) (fun b h=>by
  rcases h with h | h
  ·have:=hF.lt h;have:=hcc3.size;omega
  ·exact h.2)
 have HBP4:=zL hbp4
 clear hbp4
 have hsz3:=hc13.size
 have hsz4:=hc4.size
 have hw04:Chg (fun b _=>F b) w w4:=(hcc3.trans' (B:=fun b o=>F b∨b=w.heap.size+1) hc4 (fun _ _ _ h=>h.elim) (fun _ _ _ h=>h)).mono (fun b o hb h=>by
  rcases h with h | h
  ·exact h
  ·omega)
 have ht4:=ht.chg hw04 (fun b _ hm h=>htF b hm h)
 have HQ0:=zL q0
 have HQ1:=zL q1
 have HQ2:=zL q2
 clear q0 q1 q2 n3 g1 g2
 have q2:=hc4.cell (nFq (w.heap.size+2) (zl _ _) (by omega)) HQ2.out
 obtain ⟨l4,hna4,hb4,ho4,cl4⟩:=hF4.work hn
 have c4:=hna4.c2
 have e7:=ht4.c7
 have htest:((r.items.length:Int) == (mx:Int))=false:=by simp;omega
 have hib4:=hna4.c3s hk
 have g4:=hna4.cc hk
 rw [zU] at g4
 have g5:=hna4.kidc hk (j:=i') (o:=some c) (by simp [hc])
 have hbs3:w.heap.size+2 < w3.heap.size:=kbF HB2'.out
 obtain ⟨F4,hF4e⟩:∃F4,F4=grow F w3.drew w4:=⟨_,rfl⟩
 have tlt4:t < w.heap.size:=tlt
 have htF4:∀b,MOwn k t b→¬F4 b:=by
  intro b hm
  rw [hF4e]
  rintro (h | h)
  ·exact htF b hm h
  ·have:=h.1;have:=ht.lt hm;have:(w3.drew).heap.size=w3.heap.size:=rfl;omega
 rw [←hF4e] at hF4 hb4 cl4
 have nF4:∀b,w.heap.size≤b→b < w3.heap.size→¬F4 b:=by
  intro b h1 h2
  rw [hF4e]
  rintro (h | h)
  ·exact nF b h1 h
  ·have:=h.1;have:(w3.drew).heap.size=w3.heap.size:=rfl;omega
 have old4:∀b,b < w.heap.size→F4 b→F b:=by
  intro b h1
  rw [hF4e]
  rintro (h | h)
  ·exact h
  ·have:=h.1;have:(w3.drew).heap.size=w3.heap.size:=rfl;omega
 have up4:∀b,F b→F4 b:=by rw [hF4e];exact fun b h=>.inl h
 have hrl:r.items.length≤1000:=by omega
 clear hlen hF4e p0 p1 pf0 pf1
 have HQ24:=zL q2
 go_wp2_with fail
 go_quiet (fail)
 go_wp2_with fail
 refine (nodeSplit_any k mn mx t c rc _ F4 H' (hF4.chg ((zK (fun _ _=>False) w4).drewN _) (fun _ _ _ h=>h)) (ht4.chg ((zK (fun _ _=>False) w4).drewN _) (by simp)) hrc kl2 hk2 hlen2 hmx hm3 cf hkid hsum).mono ?_
 rintro e w5 ⟨m,x2,rfl,hx2,hm,hc5,hF5⟩
 replace hc5:Chg (fun b _=>F4 b) w4 w5:=((zK _ _).drewN _).trans hc5
 replace hF5:Fam (parM k) w5 (grow F4 w4 w5) _:=hF5
 have hm4:w4.heap.size≤m:=hm
 clear hm hib4 g4 g5 c4 e7 htest q2
 have hsz5:=hc5.size
 have q25:=hc5.cell (nF4 _ (zl _ _) hbs3) HQ24.out
 have b05:=hc5.cell (nF4 w.heap.size (zi _) (by have:=hbs3;omega)) (hc4.cell (nFq w.heap.size (zi _) (by omega)) HQ0.out)
 have b15:=hc5.cell (nF4 w.heap.size (zi _) (by have:=hbs3;omega)) (hc4.cell (nFq w.heap.size (zi _) (by omega)) HQ1.out)
 have ht5:=ht4.chg hc5 (fun b _ hm h=>htF4 b hm h)
 obtain ⟨F5,hF5e⟩:∃F5,F5=grow F4 w4 w5:=⟨_,rfl⟩
 obtain ⟨H5,hH5e⟩:∃H5,H5=(upd (upd H' c ⟨(mx / 2:Nat)+ksum cf (kl2.take (mx / 2+1)),rc.items.take (mx / 2),rc.kids.map (·.take (mx / 2+1))⟩) m ⟨((mx - (mx / 2+1):Nat):Int)+ksum cf (kl2.drop (mx / 2+1)),rc.items.drop (mx / 2+1),rc.kids.map (·.drop (mx / 2+1))⟩):=⟨_,rfl⟩
 rw [hlen2,←hF5e,←hH5e] at hF5
 have hn5:H5 n=some r:=by
  rw [hH5e]
  simp only [upd]
  rw [if_neg (by omega),if_neg (fun e=>hcn e.symm)]
  exact hn
 have nF5:∀b,w.heap.size≤b→b < w3.heap.size→¬F5 b:=by
  intro b h1 h2
  rw [hF5e]
  rintro (h | h)
  ·exact nF4 b h1 h2 h
  ·have:=h.1;have:(w3.drew).heap.size=w3.heap.size:=rfl;omega
 have htF5:∀b,MOwn k t b→¬F5 b:=by
  intro b hm
  rw [hF5e]
  rintro (h | h)
  ·exact htF4 b hm h
  ·have:=h.1;have:=ht.lt hm;have:(w3.drew).heap.size=w3.heap.size:=rfl;omega
 have old5:∀b,b < w.heap.size→F5 b→F b:=by
  intro b h1
  rw [hF5e]
  rintro (h | h)
  ·exact old4 b h1 h
  ·have:=h.1;have:(w3.drew).heap.size=w3.heap.size:=rfl;omega
 have up5:∀b,F b→F5 b:=by rw [hF5e];exact fun b h=>.inl (up4 b h)
 have hm5:m < w5.heap.size:=hF5.lt (hF5.mem (n:=m) (by rw [hH5e];exact if_pos rfl))
 have HH5:=zL hH5e
 have hw05:Chg (fun b _=>F b) w w5:=hw04.trans' hc5 (fun _ _ _ h=>h) (fun b o hb h=>old4 b hb h)
 clear hF5e hH5e up4 old4
 go_wp2_with fail
 refine kbD (fun w6=>Chg (fun _ _=>False) w5 w6∧w6.heap[w5.heap.size]?=some (.cells #[.int .i64 x2.1,.int .i64 x2.2] 27 (0,0))) ⟨(zK _ _).alloc _,kbR _ _ rfl⟩ ?_
 rintro w6 ⟨hc6,hbm⟩
 have hsz6:=hc6.size
 have hbm6:=kbF hbm
 have m06:=kbB hbm 0
 have m16:=kbB hbm 1
 simp only [zF,zD,zE] at m06 m16
 have hF6:=hF5.chg hc6 (fun _ _ _ h=>h)
 have ht6:=ht5.chg hc6 (fun _ _ _ h=>h)
 have hp5:w5.heap[w.heap.size+1]?=some (.cells #[.int .i64 pr.1,.int .i64 pr.2] 27 (0,0)):=by rw [hc5.block (kbF HBP4.out) (fun _ h=>nF4 _ (zl _ _) hbl3 h)];exact HBP4.out
 have hp6:w6.heap[w.heap.size+1]?=some (.cells #[.int .i64 pr.1,.int .i64 pr.2] 27 (0,0)):=by rw [hc6.block (kbF hp5) (fun _ h=>h)];exact hp5
 have keepP:∀w' A,Chg A w6 w'→(∀b o,A b o→F5 b)→w'.heap[w.heap.size+1]?=some (.cells #[.int .i64 pr.1,.int .i64 pr.2] 27 (0,0)):=fun w' A c hA=>by rw [c.block (kbF hp6) (fun _ h=>nF5 _ (zl _ _) hbl3 (hA _ _ h))];exact hp6
 have hpl6:=kbF hp6
 have KEEPP:=zL keepP
 clear hp5 hp6 keepP
 obtain ⟨l6,hna6,hb6,ho6,cl6⟩:=hF6.work hn5
 have r6:=Run.start hna6
 have nM:¬F5 w5.heap.size:=fun h=>Nat.lt_irrefl _ (hF5.lt h)
 obtain ⟨KEEP,hKEEP⟩:∃KEEP:World→Prop,(∀w',KEEP w' ↔ (w'.cell? ⟨w.heap.size+2,0,none⟩=some (.pointer (some ⟨n,0,none⟩))∧w'.cell? ⟨w.heap.size,0,none⟩=some (.int .i64 x.1)∧w'.cell? ⟨w.heap.size,1,none⟩=some (.int .i64 x.2) ∧
   w'.cell? ⟨w5.heap.size,0,none⟩=some (.int .i64 x2.1)∧w'.cell? ⟨w5.heap.size,1,none⟩=some (.int .i64 x2.2)∧MapAt k mn mx w' t)):=⟨fun _=>_,fun _=>Iff.rfl⟩
 have k6:KEEP w6:=(hKEEP _).2 ⟨hc6.q q25,hc6.q b05,hc6.q b15,m06,m16,ht6⟩
 have hext:∀b o,Ext (parM k) n r l6 b o→F5 b:=fun b o h=>hb6 b h.blk
 have keep:∀w' A,Chg A w6 w'→(∀b o,A b o→F5 b)→KEEP w':=by
  intro w' A hc hA
  obtain ⟨a1,a2,a3,a4,a5,a6⟩:=(hKEEP _).1 k6
  exact (hKEEP _).2 ⟨hc.cell (fun h=>nF5 _ (zl _ _) hbs3 (hA _ _ h)) a1,hc.cell (fun h=>nF5 w.heap.size (zi _) (by have:=hbs3;omega) (hA _ _ h)) a2,hc.cell (fun h=>nF5 w.heap.size (zi _) (by have:=hbs3;omega) (hA _ _ h)) a3,
   hc.cell (fun h=>nM (hA _ _ h)) a4,hc.cell (fun h=>nM (hA _ _ h)) a5,a6.chg hc (fun b o hm h=>htF5 b hm (hA _ _ h))⟩
 clear q25 b05 b15 m06 m16 hbm
 obtain ⟨q2,q0,q1,mm0,mm1,ht6'⟩:=(hKEEP _).1 k6
 have n3:=hna6.c3s hk
 have g4:=hna6.cc hk
 have gz:=hna6.ccz hk 0
 rw [zU] at g4
 obtain ⟨i0,hi0,hz0,hz1,hz2⟩:=info_parts infoNode
 obtain ⟨d1,d2,d3,d4,d5⟩:=hna6.d2 (by rw [hk];simp)
 have hklen6:=hna6.klen hk
 rw [zU] at hklen6
 have cclt:=kbF (hna6.kid _ hk).1
 have fz2a:∀o,(w6.alloc o).drew.frozen? ⟨l6.cc,0,none⟩=false:=fun o=>by rw [World.frozen?_drew,World.frozen?_alloc_past _ _ _ cclt];exact gz
 have bcb:w.heap.size+2≠l6.cb:=fun h=>nF5 _ (zl _ _) hbs3 (by have h2:=hb6 l6.cb (.inr (.inr ⟨by rw [hk];simp,.inr rfl⟩));rw [←h] at h2;exact h2)
 have nlt6:n < w6.heap.size:=hna6.lt (.inl rfl)
 clear q0 q1 mm0 mm1
 refine kcP (fun w'=>w'.cell? ⟨w.heap.size+2,0,none⟩=some (.pointer (some ⟨n,0,none⟩))∧w'.cell? ⟨n,3,none⟩=some (.pointer (some ⟨l6.cc,0,none⟩))∧w'.cell? ⟨l6.cc,0,none⟩=some (.slice (some ⟨l6.cb,l6.co,none⟩) kl.length l6.ck))
  12 [0,1,2,3,4,5,6,7,8,9] [10,11] (by kernel_rfl) (by kernel_rfl) (fun _ _ _ _ _ h=>h) rfl rfl ⟨q2,n3,g4⟩ ?_
 simp only [kbJ,zX,zY,zD,zE]
 iterate 10
  refine kbN ?_ rfl ?_ ?_
  rotate_left
  ·intro w' hS
   obtain ⟨s1,s2,s3⟩:=hS
   go_simp
   try with_reducible rfl
  simp only [zJ,zA,zB,zC]
 refine kbQ ?_
 refine kbM (fun K hK=>?_)
 go_simp
 refine hK _ _ ⟨?_,?_,?_⟩ ?_
 iterate 3 go_keep
 clear hK K
 refine kbM (fun K hK=>?_)
 refine kbZ _ _ _ (by rfl) 97 i0 _ 1 8 Try.underlying111 hi0 hz0 hz1 hz2 rfl l6.cb l6.co kl.length l6.ck (by rfl) ((kl.map some).map kidV) (by rw [Nat.mul_one];exact (((hna6.kid _ hk).2.alloc _).drew)) (by simp) ⟨w6.heap.size,0,none⟩ 1 _ (by rfl) [.pointer none] (by rfl) (World.news_of_block (cs:=#[.pointer none]) (t:=97) (fr:=(0,0)) (heap_alloc_new w6 _)) (by simp [Value.oneCell']) (by unfold maxLen;omega) (by omega) ?_
 intro b' o1 cap' w4 happ
 refine hK _ _ ⟨happ.chg.cell (fun h=>absurd h.1 bcb) (by rw [World.cell?_drew,World.cell?_alloc_past _ _ _ (by omega)];exact q2),happ.chg.cell (fun h=>absurd h.1 (Ne.symm d2)) (by rw [World.cell?_drew,World.cell?_alloc_past _ _ _ (by omega)];exact n3),happ.chg.cell (fun h=>absurd h.1 (Ne.symm d5)) (by rw [World.cell?_drew,World.cell?_alloc_past _ _ _ (by omega)];exact g4)⟩ ?_
 clear hK K
 simp only [kcZ,za,zb,zJ,zA,zB,zC]
 have g24:w4.cell? ⟨l6.cc,0,none⟩=some (.slice (some ⟨l6.cb,l6.co,none⟩) kl.length l6.ck):=happ.chg.cell (fun h=>absurd h.1 (Ne.symm d5)) (by rw [World.cell?_drew,World.cell?_alloc_past _ _ _ (by omega)];exact g4)
 have z2:w4.frozen? ⟨l6.cc,0,none⟩=false:=by rw [happ.chg.frozen (by simp;omega)];exact fz2a _
 go_wp2_with fail
 have r3':=r6.still (((zK (fun _ _=>False) w6).alloc (.cells #[.pointer none] 97)).drew)
 have happ':Appd (parM k).TP 1 ((w6.alloc (.cells #[.pointer none] 97)).drew) l6.cb l6.co (kl.map some).length l6.ck ((kl.map some).map kidV) (([none]:List (Option Nat)).map kidV) ([none]:List (Option Nat)).length b' o1 cap' w4:=by
  rw [zU];exact happ
 have r7:=r3'.appendKids hk [none] happ' (zK _ _)
 have hroom:=happ.room
 clear happ happ' g24 z2 r3' n3 g4 gz fz2a hi0 hz0 hz1 hz2
 refine kbD (fun w7=>∃l7,Run (parM k) w6 n r l6 w7 { r with kids:=some (kl.map some++[none]) } l7∧kl.length+1≤l7.ck) ⟨_,by rw [zU] at r7;exact r7,hroom⟩ ?_
 clear r7 hroom
 rintro w7 ⟨l7,r7,hroom⟩
 have keepR:∀w' r' l',Run (parM k) w6 n r l6 w' r' l'→KEEP w':=fun w' r' l' hr=>keep w' _ hr.chg hext
 obtain ⟨q2,-,-,-,-,-⟩:=(hKEEP _).1 (keepR _ _ _ r7)
 have n3:=r7.at_.c3s rfl
 have g4:=r7.at_.cc rfl
 simp only [zT,zU,List.length_cons,List.length_nil,Nat.zero_add] at g4
 have hle:i'≤kl.length:=by omega
 have hle2:(i':Int)≤(kl.length:Int)+1:=by omega
 have s0:(0:Int)≤(i':Int):=by omega
 have s2:(0:Int)≤(i':Int)+1:=by omega
 have s3:((i':Int)+1).toNat=i'+1:=by omega
 have hck2:¬l7.ck=i':=by omega
 have hck3:¬l7.ck=i'+1:=by omega
 have s1:IntKind.i64.wrap ((i':Int)+1)=(i':Int)+1:=IntWalk.i64_in _ (by omega)
 go_still_tail 17,(by kernel_rfl)
 refine wpList_shiftKids (p:=parM k) (r:={ r with kids:=some (kl.map some++[none]) }) (by rfl) _ _ _ _ (by rfl) 97 (by kernel_rfl) kgD (r7.still ((zK _ _).drew)) (kl.map some) none rfl i' (l7.co+(i'+1)) _ _ _ _ (by simp;omega) (fun _=>rfl) (.inr rfl) (by rfl) _ (by rfl) (by rfl) (by simp) (by simp) ?_
 intro w8 hc8 r8
 clear s1 hck2 hck3 g4 n3 q2
 obtain ⟨q2,-,-,-,-,-⟩:=(hKEEP _).1 (keepR _ _ _ r8)
 have n3:=r8.at_.c3s rfl
 have g4:=r8.at_.cc rfl
 have hl8:((kl.map some++[none]).take (i'+1)++(kl.map some).drop i').length=kl.length+1:=by rw [kfP _ _ _ (by simp;omega)];simp
 rw [hl8] at g4
 obtain ⟨o8,ho8⟩:∃o,((kl.map some++[none]).take (i'+1)++(kl.map some).drop i')[i'+1]?=some o:=⟨_,zH (by rw [hl8];omega)⟩
 have g5:=r8.at_.kidc rfl ho8
 have gz:=r8.at_.kidz rfl (l7.co+(i'+1))
 have j3:(i':Int)+1 < (kl.length:Int)+1:=by omega
 have s1:IntKind.i64.wrap ((i':Int)+1)=(i':Int)+1:=IntWalk.i64_in _ (by omega)
 have r9:=r8.setKid rfl (i'+1) (some m) (by show i'+1 < _;rw [hl8];omega)
 rw [upList_set2 _ _ _ _ (by simp;omega),show (kl.map some).take (i'+1)++some m::(kl.map some).drop (i'+1)=(kl.take (i'+1)++m::kl.drop (i'+1)).map some by simp] at r9
 go_wp2_with fail
 refine kbD (fun w9=>Run (parM k) w6 n r l6 w9 { r with kids:=some ((kl.take (i'+1)++m::kl.drop (i'+1)).map some) } l7) r9 ?_
 clear r9 r8 q2 n3 g4 g5 gz s1 hc8 ho8
 intro w9 r9
 have k9:=keepR _ _ _ r9
 obtain ⟨q2,q0,q1,mm0,mm1,ht9⟩:=(hKEEP _).1 k9
 have hna9:=r9.at_
 have n2:=hna9.c2
 have e4:=ht9.c4
 have e5:=ht9.c5
 have hlen9:r.items.length≤l7.ic:=hna9.len
 obtain ⟨i0,hi0,hz0,hz1,hz2⟩:=info_parts kfN
 have fz2:=hna9.fz 2
 have nlt9:n < w9.heap.size:=hna9.lt (.inl rfl)
 have hsz9:=r9.chg.size
 have fz2a:∀o,(w9.alloc o).drew.frozen? ⟨n,2,none⟩=false:=fun o=>by rw [World.frozen?_drew,World.frozen?_alloc_past _ _ _ nlt9];exact fz2
 have apart:∀b,b < w6.heap.size→¬F5 b→b≠l7.ib:=by
  rintro b h1 h2 rfl
  rcases r9.blk l7.ib (.inr (.inl rfl)) with h | h
  ·exact h2 (hb6 _ h)
  ·omega
 have tlt5:t < w6.heap.size:=by omega
 have htib:=apart t tlt5 (htF5 t MOwn.self)
 have bib:=apart (w.heap.size+2) (by omega) (nF5 _ (zl _ _) hbs3)
 have hnib:n≠l7.ib:=Ne.symm hna9.d1
 clear q0 q1 mm0 mm1
 refine kcP (fun w'=>w'.cell? ⟨w.heap.size+2,0,none⟩=some (.pointer (some ⟨n,0,none⟩))∧w'.cell? ⟨n,2,none⟩=some (.slice (some ⟨l7.ib,l7.io,none⟩) r.items.length l7.ic)∧w'.cell? ⟨t,7,none⟩=some (.int .i64 0)∧w'.cell? ⟨t,8,none⟩=some (.int .i64 0))
  11 [0,1,2,3,4,5,6,7,8] [9,10] (by kernel_rfl) (by kernel_rfl) (fun _ _ _ _ _ h=>h) rfl rfl ⟨q2,n2,e4,e5⟩ ?_
 simp only [kbJ,zX,zY,zD,zE]
 iterate 9
  refine kbN ?_ rfl ?_ ?_
  rotate_left
  ·intro w' hS
   obtain ⟨s1,s2,s3,s4⟩:=hS
   go_simp
   try with_reducible rfl
  simp only [zJ,zA,zB,zC]
 refine kbQ ?_
 refine kbM (fun K hK=>?_)
 go_simp
 refine hK _ _ ⟨?_,?_,?_,?_⟩ ?_
 iterate 4 go_keep
 clear hK K
 refine kbM (fun K hK=>?_)
 refine kbZ _ _ _ (by rfl) 27 i0 _ 2 16 Try.underlying25 hi0 hz0 hz1 hz2 rfl l7.ib l7.io r.items.length l7.ic (by rfl) (flat (parM k) r.items) ((hna9.row.alloc _).drew) (kcT _ _) ⟨w9.heap.size,0,none⟩ 1 _ (by rfl) [.int .i64 0,.int .i64 0] (by rfl) (World.news_of_block (cs:=#[.int .i64 0,.int .i64 0]) (t:=27) (fr:=(0,0)) (heap_alloc_new w9 _)) (by simp [Value.oneCell']) (by unfold maxLen;omega) (by omega) ?_
 intro b' o1 cap' w4 happ
 refine hK _ _ ⟨happ.chg.cell (fun h=>absurd h.1 bib) (by rw [World.cell?_drew,World.cell?_alloc_past _ _ _ (by omega)];exact q2),happ.chg.cell (fun h=>absurd h.1 hnib) (by rw [World.cell?_drew,World.cell?_alloc_past _ _ _ (by omega)];exact n2),happ.chg.cell (fun h=>absurd h.1 htib) (by rw [World.cell?_drew,World.cell?_alloc_past _ _ _ (by omega)];exact e4),happ.chg.cell (fun h=>absurd h.1 htib) (by rw [World.cell?_drew,World.cell?_alloc_past _ _ _ (by omega)];exact e5)⟩ ?_
 clear hK K
 simp only [kcZ,za,zb,zJ,zA,zB,zC]
 have g2:w4.cell? ⟨n,2,none⟩=some (.slice (some ⟨l7.ib,l7.io,none⟩) r.items.length l7.ic):=happ.chg.cell (fun h=>absurd h.1 hnib) (by rw [World.cell?_drew,World.cell?_alloc_past _ _ _ (by omega)];exact n2)
 have z2:w4.frozen? ⟨n,2,none⟩=false:=by rw [happ.chg.frozen (by simp;omega)];exact fz2a _
 go_wp2_with fail
 have r3':=r9.still (((zK (fun _ _=>False) w9).alloc (.cells #[.int .i64 0,.int .i64 0] 27)).drew)
 have ra:=r3'.append [((0,0):It ord)] happ (zK _ _)
 have hroom2:=happ.room
 clear happ g2 z2 q2 n2 e4 e5 fz2 fz2a r3' hz0 hz1 hz2 hi0 bib htib hnib apart
 refine kbD (fun wa=>∃la,Run (parM k) w6 n r l6 wa { r with items:=r.items++[((0,0):It ord)],kids:=some ((kl.take (i'+1)++m::kl.drop (i'+1)).map some) } la∧r.items.length+1≤la.ic) ⟨_,ra,hroom2⟩ ?_
 clear ra hroom2
 rintro wa ⟨la,ra,hrooma⟩
 obtain ⟨q2,-,-,-,-,-⟩:=(hKEEP _).1 (keepR _ _ _ ra)
 have n5:=ra.at_.c2
 simp only [zT,List.length_cons,List.length_nil,Nat.zero_add] at n5
 have hlei:=hy.le
 have s0:(0:Int)≤(i':Int):=by omega
 have s2:(0:Int)≤(i':Int)+1:=by omega
 have s3:((i':Int)+1).toNat=i'+1:=by omega
 have hck2:¬la.ic=i':=by omega
 have hle3:(i':Int)≤(r.items.length:Int)+1:=by omega
 obtain ⟨od,hif,hod,hod2⟩:∃od,(if la.ic=i'+1 then some (⟨la.ib,la.io,none⟩:Addr) else some ⟨la.ib,la.io+(i'+1) * 2,none⟩)=some ⟨la.ib,od,none⟩∧(i' < r.items.length→od=la.io+(i'+1) * 2)∧(od=la.io∨od=la.io+(i'+1) * 2):=by
  by_cases h:la.ic=i'+1
  ·exact ⟨la.io,by rw [if_pos h],fun h2=>by omega,.inl rfl⟩
  ·exact ⟨_,by rw [if_neg h],fun _=>rfl,.inr rfl⟩
 have s1:IntKind.i64.wrap ((i':Int)+1)=(i':Int)+1:=IntWalk.i64_in _ (by omega)
 go_still_tail 13,(by kernel_rfl)
 refine wpList_shift (p:=parM k) (r:={ r with items:=r.items++[((0,0):It ord)],kids:=some ((kl.take (i'+1)++m::kl.drop (i'+1)).map some) }) (by rfl) _ _ _ _ (by rfl) 27 (by kernel_rfl) kdB (ra.still ((zK _ _).drew)) r.items (0,0) rfl i' od _ _ _ _ hlei (by simpa [parM] using hod) (by simpa [parM] using hod2) (by rfl) _ (by rfl) (by first | rfl | simp [parM]) (by omega) (by omega) ?_
 intro wb hcb rb
 have hlb:((r.items++[((0,0):It ord)]).take (i'+1)++r.items.drop i').length=r.items.length+1:=kfP _ _ _ hlei
 clear s1 s2 s3 hif hod hod2 q2 n5 hcb hck2
 go_wp2_with fail
 refine kbD (fun wc=>Run (parM k) w6 n r l6 wc { r with items:=((r.items++[((0,0):It ord)]).take (i'+1)++r.items.drop i'),kids:=some ((kl.take (i'+1)++m::kl.drop (i'+1)).map some) } la) rb ?_
 clear rb
 intro wc rcc
 obtain ⟨q2,q0,q1,mm0,mm1,htc⟩:=(hKEEP _).1 (keepR _ _ _ rcc)
 have nc:=rcc.at_.c2
 simp only [hlb] at nc
 have z0:=rcc.at_.ifz (la.io+i' * 2)
 have z1:=rcc.at_.ifz (la.io+i' * 2+1)
 have j4:(i':Int) < (r.items.length:Int)+1:=by omega
 obtain ⟨y6,hy6⟩:∃y,((r.items++[((0,0):It ord)]).take (i'+1)++r.items.drop i')[i']?=some y:=⟨_,zH (by rw [hlb];omega)⟩
 have iv:=rcc.at_.mval hy6
 have ik:=rcc.at_.mkey hy6
 go_still_tail 7,(by kernel_rfl)
 have rd:=rcc.setItemM i' x2 (Nat.lt_of_lt_of_eq (show i' < r.items.length+1 by omega) hlb.symm)
 have apart:∀b,b < w6.heap.size→¬F5 b→b≠la.ib:=by
  rintro b h1 h2 rfl
  rcases rcc.blk la.ib (.inr (.inl rfl)) with h | h
  ·exact h2 (hb6 _ h)
  ·omega
 have p1:=apart w.heap.size (by omega) (nF5 _ (zi _) (by omega))
 have p1':=Ne.symm p1
 clear apart
 clear q2 nc
 go_wp2_with fail
 have re:=rd.still ((zK _ _).drew)
 rw [upList_set _ _ _ _ hlei] at re
 have hKe:=(hKEEP _).1 (keepR _ _ _ re)
 obtain ⟨hFe,hce⟩:=cl6 _ _ _ re
 rw [HH5.out] at hFe
 have hze:=hce.size
 have hpe:=KEEPP.out _ _ hce (fun _ _ h=>h)
 have hnG:¬grow F5 w6 ((wc.setCell ⟨la.ib,la.io+i' * 2,none⟩ (.int .i64 x2.1)).setCell ⟨la.ib,la.io+i' * 2+1,none⟩ (.int .i64 x2.2)).drew (w.heap.size+1):=by
  rintro (h | h)
  ·exact nF5 _ (zl _ _) hbl3 h
  ·have:=h.1;omega
 have hupF:∀b,F b→grow F5 w6 ((wc.setCell ⟨la.ib,la.io+i' * 2,none⟩ (.int .i64 x2.1)).setCell ⟨la.ib,la.io+i' * 2+1,none⟩ (.int .i64 x2.2)).drew b:=fun b hb=>.inl (up5 b hb)
 have hoF:∀b,b < w.heap.size→grow F5 w6 ((wc.setCell ⟨la.ib,la.io+i' * 2,none⟩ (.int .i64 x2.1)).setCell ⟨la.ib,la.io+i' * 2+1,none⟩ (.int .i64 x2.2)).drew b→F b:=by
  rintro b hb (h | h)
  ·exact old5 b hb h
  ·have:=h.1;omega
 refine (hcall2 _ _ _ _ m x2 (by omega) (by omega) hx2 hupF hoF hFe hKe.2.2.2.2.2 hKe.1).mono ?_
 have hwe:Chg (fun b _=>F b) w ((wc.setCell ⟨la.ib,la.io+i' * 2,none⟩ (.int .i64 x2.1)).setCell ⟨la.ib,la.io+i' * 2+1,none⟩ (.int .i64 x2.2)).drew :=
  (hw05.trans' hc6 (fun _ _ _ h=>h) (fun _ _ _ h=>h.elim)).trans' hce (fun _ _ _ h=>h) (fun b o hb h=>old5 b hb h)
 clear hKe hFe re rd
 revert hwe hoF hze hce hupF hpe hnG
 generalize ((wc.setCell ⟨la.ib,la.io+i' * 2,none⟩ (.int .i64 x2.1)).setCell ⟨la.ib,la.io+i' * 2+1,none⟩ (.int .i64 x2.2)).drew=we
 intro hce hze hpe hnG hupF hoF hwe
 rintro e wf ⟨H'',pr2,rp2,sp2,rfl,hFf,hcf,hzf⟩
 have hszf:=hcf.size
 have hpw:wf.heap[w.heap.size+1]?=some (.cells #[.int .i64 pr.1,.int .i64 pr.2] 27 (0,0)):=by rw [hcf.block (kbF hpe) (fun _ h=>hnG h)];exact hpe
 have p0:=kbB hpw 0
 have p1:=kbB hpw 1
 have pf0:=kbC hpw 0
 have pf1:=kbC hpw 1
 simp only [zF,zD,zE] at p0 p1
 have hpwl:=kbF hpe
 clear hpw
 go_wp2_with fail
 refine bodyPost_ret (v:=.tuple #[.agg #[.int .i64 pr2.1,.int .i64 pr2.2],.bool rp2,.bool sp2]) (by simp [results,Try.results84,go_sem,p0,p1]) rfl ?_
 have fin:∀w',Chg (fun b _=>b=w.heap.size+1) wf w'→KidTwo k w F Z2 (.returned (.tuple #[.agg #[.int .i64 pr2.1,.int .i64 pr2.2],.bool rp2,.bool sp2])) w':=by
  intro w' c
  have hsw:=c.size
  have f6:=hFf.chg c (fun b o hb e=>by
   have e2:b=w.heap.size+1:=e
   subst e2
   rcases hb with hb | hb
   ·exact hnG hb
   ·have:=hb.1;omega)
  refine ⟨we,H'',pr2,rp2,sp2,by omega,hzf,rfl,f6.mono (fun b hb=>?_) (fun b hb=>?_),?_⟩
  ·rcases Nat.lt_or_ge b w.heap.size with h | h
   ·rcases hb with hb | hb
    ·exact .inl (hoF b h hb)
    ·have:=hb.1;omega
   ·exact .inr ⟨h,f6.lt hb⟩
  ·rcases hb with hb | hb
   ·exact f6.lt (.inl (hupF b hb))
   ·exact hb.2
  ·exact (hwe.trans' hcf (B:=fun b _=>F b) (fun _ _ _ h=>h) (fun b o hb h=>hoF b hb h)).trans' c (fun _ _ _ h=>h) (fun b o hb e=>by omega)
 refine fin _ ?_
 repeat (first | refine ze ?_ | refine zf ?_ _ | refine zd ?_ (.inl rfl) _ | exact zK _ _)
end
end Go.Proofs.Ytnohimhihombmaa
