/- The walk of nodeSet at a branch: the child is full. -/
import Derived.Test.YtnohimhihombmaaA2
import Derived.Test.YtnohimhihombmaaA5
namespace Go.Proofs.Ytnohimhihombmaa
set_option linter.unusedSimpArgs false
set_option linter.unusedVariables false
set_option maxRecDepth 100000
set_option maxHeartbeats 40000000
open List renaming setIfInBounds_toArray → zA, set_cons_zero → zB, set_cons_succ → zC, getElem?_cons_zero → zD, getElem?_cons_succ → zE, getElem?_toArray → zF, getElem?_eq_some_iff → zG, length_map → zU, filterMap_cons → zX, filterMap_nil → zY
open Region renaming wanted → zI
open Chg renaming refl → zK, setCell → zd, drew → ze, drewN → zf
open Lib renaming hid → zL
open World renaming block_lt_of_cell? → zg
open Nat renaming le_add_right → zl
section
open Go.RowKit
variable {ord:List Int} {k:Kc ord}
def KidPost (k:Kc ord) (F:Nat→Prop) (Z:World→(Nat→Option (NodeR (It ord)))→It ord→Bool→Bool→Prop) (w1:World) (e:Ending) (w':World):Prop :=
 ∃H' pr rp sp,e=.returned (.tuple #[.agg #[.int .i64 pr.1,.int .i64 pr.2],.bool rp,.bool sp])∧Fam (parM k) w' (grow F w1 w') H'∧Chg (fun b _=>F b) w1 w'∧Z w1 H' pr rp sp
def KidOk (k:Kc ord) (w:World) (F:Nat→Prop) (n:Nat) (r:NodeR (It ord)) (Z:World→(Nat→Option (NodeR (It ord)))→It ord→Bool→Bool→Prop) (e:Ending) (w':World):Prop :=
 ∃w1 H' pr rp,Chg (fun _ _=>False) w w1∧Z w1 H' pr rp false∧e=.returned (.tuple #[.agg #[.int .i64 pr.1,.int .i64 pr.2],.bool rp,.bool false]) ∧
  Fam (parM k) w' (grow F w w') (if rp then H' else upd H' n { r with cnt:=r.cnt+1 })∧Chg (fun b _=>F b) w w'
theorem nodeSet_kid_ok (k:Kc ord) (mn mx t n:Nat) (pa:Addr) (dp:Int) (x:It ord) (i:Nat) (r:NodeR (It ord)) (w:World) (F:Nat→Prop) (H:Nat→Option (NodeR (It ord))) (hF:Fam (parM k) w F H) (ht:MapAt k mn mx w t) (htF:∀b,MOwn k t b→¬F b) (hn:H n=some r)
  (hpa:w.cell? pa=some (.pointer (some ⟨n,0,none⟩))) (hs:Srt ltM r.items) (hlen:r.items.length≤mx) (hmx:mx≤1000) (hy:PosAt ltM r.items x i) (kl:List Nat) (hk:r.kids=some (kl.map some)) (c:Nat) (hc:kl[i]?=some c) (hcnt:0≤r.cnt) (hcnt2:r.cnt≤100000000000000)
  (Z:World→(Nat→Option (NodeR (It ord)))→It ord→Bool→Bool→Prop)
  (hcall:∀w1 pa dp,Chg (fun _ _=>False) w w1→Fam (parM k) w1 F H→MapAt k mn mx w1 t→w1.cell? pa=some (.pointer (some ⟨c,0,none⟩))→Calls Try.prog 84 #[.pointer (some ⟨t,0,none⟩),.pointer (some pa),aggM x,.pointer none,.int .i64 dp] w1 (KidPost k F Z w1))
  (hZ:∀w1 H' pr rp sp,Z w1 H' pr rp sp→w.heap.size≤w1.heap.size→sp=false∧H' n=some r) :
  Calls Try.prog 84 #[.pointer (some ⟨t,0,none⟩),.pointer (some pa),aggM x,.pointer none,.int .i64 dp] w (KidOk k w F n r Z):=by
 obtain ⟨l,hna,hb,ho,cl⟩:=hF.work hn
 have t0:=ht.c0
 have n0:=hna.c0
 have hpk:(parM k).k=k.iso:=rfl
 rw [hpk] at n0
 have nlt:n < w.heap.size:=zg w _ n0
 have tlt:t < w.heap.size:=zg w _ t0
 have plt:=zg w _ hpa
 have hpa1:∀o,(w.alloc o).cell? pa=some (.pointer (some ⟨n,0,none⟩)):=fun o=>by rw [World.cell?_alloc_lt w _ _ plt];exact hpa
 have hpa2:∀o o',((w.alloc o).alloc o').cell? pa=some (.pointer (some ⟨n,0,none⟩)):=fun o o'=>by rw [World.cell?_alloc_lt _ _ _ (by simp;omega)];exact hpa1 o
 have hn1:∀o o',((w.alloc o).alloc o').cell? ⟨n,0,none⟩=some (.int .u64 k.iso):=fun o o'=>((hna.chg (((zK (fun _ _=>False) w).alloc o).alloc o') (fun _ _ _ h=>h)).c0)
 have ht1:∀o o',((w.alloc o).alloc o').cell? ⟨t,0,none⟩=some (.int .u64 k.iso):=fun o o'=>((ht.chg (((zK (fun _ _=>False) w).alloc o).alloc o') (fun _ _ _ h=>h)).c0)
 unfold aggM
 go_enter Try.func84,Try.ntmps84
 go_wp2_with fail
 go_quiet (fail)
 go_wp2_with fail
 clear hn1 ht1
 refine kbW (fun w1=>Chg (fun _ _=>False) w w1∧w1.heap[w.heap.size]?=some (.cells #[.int .i64 x.1,.int .i64 x.2] 27 (0,0))∧w1.heap[w.heap.size+1]?=some (.cells #[.int .i64 0,.int .i64 0] 27 (0,0))∧w1.heap[w.heap.size+2]?=some (.cells #[.pointer (some ⟨n,0,none⟩)] 97 (0,0))) ⟨?_,?_,?_,?_⟩ ?_
 ·repeat (first | refine ze ?_ | refine zf ?_ _ | refine Chg.alloc ?_ _ | exact zK _ _)
 ·try simp only [kbV,kbX]
  repeat (first | exact kbR _ _ rfl | (rw [kcV _ _ (by simp;try omega)];try simp only [kbV,kbX]))
 ·try simp only [kbV,kbX]
  rw [kcV _ _ (by simp;try omega)]
  try simp only [kbV,kbX]
  exact kbR _ _ (by simp)
 ·try simp only [kbV,kbX]
  exact kbR _ _ (by simp)
 rintro w1 ⟨hc1,hb1,hbp,hb2⟩
 have hn1:=hna.chg hc1 (fun _ _ _ h=>h)
 have ht1:=ht.chg hc1 (by simp)
 refine (kfW t x ht1 hn1 hs (by omega)).mono ?_
 rintro e w2 ⟨i',f,rfl,hw2,hf⟩
 have hfi:f=false∧i'=i:=by
  rcases hf with ⟨h1,y',h2⟩ | ⟨h1,h2⟩
  ·exact absurd h2.n2 (by rw [hy.right i' y' (hit_le hy h2) h2.at_];simp)
  ·exact ⟨h1,pos_same h2 hy swoM⟩
 obtain ⟨rfl,rfl⟩:=hfi
 have hc2:Chg (fun _ _=>False) w1 w2:=hw2
 have hn2:=hn1.chg hc2 (fun _ _ _ h=>h)
 have ht2:=ht1.chg hc2 (by simp)
 have hb1':w2.heap[w.heap.size]?=some (.cells #[.int .i64 x.1,.int .i64 x.2] 27 (0,0)):=by rw [hw2.block (kbF hb1) (fun _ h=>h)];exact hb1
 have hb2':w2.heap[w.heap.size+2]?=some (.cells #[.pointer (some ⟨n,0,none⟩)] 97 (0,0)):=by rw [hw2.block (kbF hb2) (fun _ h=>h)];exact hb2
 have hbp':w2.heap[w.heap.size+1]?=some (.cells #[.int .i64 0,.int .i64 0] 27 (0,0)):=by rw [hw2.block (kbF hbp) (fun _ h=>h)];exact hbp
 have HB1:=zL hb1'
 have HBP:=zL hbp'
 have HB2:=zL hb2'
 have q0:=kbB hb1' 0
 have q1:=kbB hb1' 1
 have q2:=kbB hb2' 0
 simp only [zF,zD,zE] at q0 q1 q2
 have n3:=hn2.c3s hk
 have hcc:=hc1.trans hc2
 have hkl:=(zG.1 hc).1
 have g1:=hn2.cc hk
 rw [zU] at g1
 have g2:=hn2.kidc hk (j:=i') (o:=some c) (by simp [hc])
 clear hw2 hb1 hb2 hbp hb1' hb2' hbp' t0 n0 hpa hpa1 hpa2
 go_wp2_with (go_at_call 51;refine (kcQ _ (some ⟨l.cc,0,none⟩) _ ?_).mono ?_;(focus go_simp);rintro e w' ⟨rfl,rfl⟩)
 refine kbD (fun w3=>Chg (fun _ _=>False) w2 w3) (zK _ _) ?_
 rintro w3 hc3
 replace q0:=hc3.q q0
 replace q1:=hc3.q q1
 replace q2:=hc3.q q2
 replace n3:=hc3.q n3
 replace g1:=hc3.q g1
 replace g2:=hc3.q g2
 have hcc3:=hcc.trans hc3
 have j0:(0:Int)≤(i':Int):=by omega
 have j1:(i':Int) < (kl.length:Int):=by omega
 have HB1':Hid (w3.heap[w.heap.size]?=some (.cells #[.int .i64 x.1,.int .i64 x.2] 27 (0,0))):=zL (by rw [hc3.block (kbF HB1.out) (fun _ h=>h)];exact HB1.out)
 have HBP':Hid (w3.heap[w.heap.size+1]?=some (.cells #[.int .i64 0,.int .i64 0] 27 (0,0))):=zL (by rw [hc3.block (kbF HBP.out) (fun _ h=>h)];exact HBP.out)
 have HB2':Hid (w3.heap[w.heap.size+2]?=some (.cells #[.pointer (some ⟨n,0,none⟩)] 97 (0,0))):=zL (by rw [hc3.block (kbF HB2.out) (fun _ h=>h)];exact HB2.out)
 refine kfF (fun w'=>w'.cell? ⟨w.heap.size,0,none⟩=some (.int .i64 x.1)∧w'.cell? ⟨w.heap.size,1,none⟩=some (.int .i64 x.2)∧w'.cell? ⟨w.heap.size+2,0,none⟩=some (.pointer (some ⟨n,0,none⟩))∧w'.cell? ⟨n,3,none⟩=some (.pointer (some ⟨l.cc,0,none⟩))∧w'.cell? ⟨l.cc,0,none⟩=some (.slice (some ⟨l.cb,l.co,none⟩) kl.length l.ck))
  13 [0,1,2,3,4,5,6,7,8,9,10,11,12] _ [(14,true),(15,true),(16,true),(17,true),(18,false),(19,true),(20,true)] (by kernel_rfl) (by kernel_rfl) (fun _ _ _ _ _ h=>h) rfl rfl ⟨q0,q1,q2,n3,g1⟩ ?_
 simp only [kbJ,zX,zY,zD,zE]
 iterate 13
  refine kbN ?_ rfl ?_ ?_
  rotate_left
  ·intro w' hS
   obtain ⟨s0,s1,s2,s3,s4⟩:=hS
   go_simp
   try with_reducible rfl
  simp only [Act.put,zA,zB,zC]
 refine kbQ ?_
 refine kgN (fun K hK=>?_)
 go_simp
 go_at_call 84
 have hc13:Chg (fun _ _=>False) w w3.drew:=hcc3.drew
 refine (hcall _ _ _ hc13 (hF.chg hc13 (fun _ _ _ h=>h)) (ht.chg hc13 (by simp)) g2).mono ?_
 rintro e w4 ⟨H',pr,rp,sp,rfl,hF4,hc4,hz4⟩
 obtain ⟨rfl,hn4⟩:=hZ _ _ _ _ _ hz4 hc13.size
 replace hc4:Chg (fun b _=>F b) w3 w4:=((zK _ _).drew).trans hc4
 have nF:∀b,w.heap.size≤b→¬F b:=fun b hb h=>Nat.lt_irrefl _ (Nat.lt_of_lt_of_le (hF.lt h) hb)
 have hbp4:w4.heap[w.heap.size+1]?=some (.cells #[.int .i64 0,.int .i64 0] 27 (0,0)):=by rw [hc4.block (kbF HBP'.out) (fun _ h=>nF _ (zl _ _) h)];exact HBP'.out
 have p0:=kbB hbp4 0
 have p1:=kbB hbp4 1
 have pf0:=kbC hbp4 0
 have pf1:=kbC hbp4 1
 simp only [zF,zD,zE] at p0 p1
 have HBP4:=zL hbp4
 clear hbp4
 refine hK _ _ ?_
 clear hK K
 iterate 4
  refine kcF (by rfl) ?_ (by simp [zI,yielded]) ?_ ?_
  rotate_left
  ·intro w' hS
   try obtain ⟨a1⟩:=hS
   go_simp
   try with_reducible rfl
  simp only [Act.put,zA,zB,zC]
 refine kcG (by rfl) (by simp [zI,yielded]) (fun K hK=>?_)
 go_simp
 refine hK _ _ (fun _=>trivial) ?_
 clear hK K
 iterate 2
  refine kcF (by rfl) ?_ (by simp [zI,yielded]) ?_ ?_
  rotate_left
  ·intro w' hS
   try obtain ⟨a1⟩:=hS
   go_simp
   try with_reducible rfl
  simp only [Act.put,zA,zB,zC]
 refine kdD ?_
 refine kbK (fun w5=>Chg (fun b _=>b=w.heap.size+1) w4 w5∧w5.heap[w.heap.size+1]?=some (.cells #[.int .i64 pr.1,.int .i64 pr.2] 27 (0,0))) ⟨?_,?_⟩ ?_
 ·repeat (first | refine ze ?_ | refine zd ?_ (.inl rfl) _ | exact zK _ _)
 ·rw [kbS (kbS HBP4.out _)];rfl
 clear p0 p1 pf0 pf1
 rintro w5 ⟨hc5,hbp5⟩
 have p0:=kbB hbp5 0
 have p1:=kbB hbp5 1
 have pf0:=kbC hbp5 0
 have pf1:=kbC hbp5 1
 simp only [zF,zD,zE] at p0 p1
 have hc45:Chg (fun b _=>F b∨b=w.heap.size+1) w3 w5:=hc4.trans' hc5 (fun _ _ _ h=>.inl h) (fun _ _ _ h=>.inr h)
 have q5:=hc45.cell (fun h=>by rcases h with h | h;exact nF _ (zl _ _) h;simp at h) q2
 have hF5:=hF4.chg hc5 (fun b o hb e=>by
  rcases hb with hb | hb
  ·exact nF b (by omega) hb
  ·have h1:=hb.1;have h2:=kbF HBP'.out;have h3:w3.drew.heap.size=w3.heap.size:=rfl;omega)
 obtain ⟨l4,hna4,hb4,ho4,cl4⟩:=hF5.work hn4
 have c4:=hna4.c1
 have fz4:=hna4.fz 1
 have hsz3:=hc13.size
 have hsz4:=hc4.size
 have hsz5:=hc5.size
 have hw05:Chg (fun b _=>F b) w w5:=(hcc3.trans' (B:=fun b o=>F b∨b=w.heap.size+1) hc45 (fun _ _ _ h=>h.elim) (fun _ _ _ h=>h)).mono (fun b o hb h=>by
  rcases h with h | h
  ·exact h
  ·omega)
 have s1:IntKind.i64.wrap (r.cnt+1)=r.cnt+1:=IntWalk.i64_in _ (by omega)
 have u1:¬w.heap.size+1=n:=by omega
 have u1':¬n=w.heap.size+1:=by omega
 have hg5:∀b,grow F w3.drew w4 b→grow F w3.drew w5 b:=fun b h=>by
  rcases h with h | h
  ·exact .inl h
  ·exact .inr ⟨h.1,by omega⟩
 clear q0 q1 q2 n3 g1 g2
 cases rp
 ·go_wp2_with fail
  refine bodyPost_ret (v:=.tuple #[.agg #[.int .i64 pr.1,.int .i64 pr.2],.bool false,.bool false]) (by simp [results,Try.results84,go_sem,p0,p1,u1,u1']) rfl ?_
  have hpf:∀w',Chg (fun b _=>b=w.heap.size+1) (w5.setCell ⟨n,1,none⟩ (.int .i64 (r.cnt+1))) w'→Fam (parM k) w' (grow F w w') (upd H' n { r with cnt:=r.cnt+1 })∧Chg (fun b _=>F b) w w':=by
   intro w' c
   obtain ⟨f5,g5⟩:=cl4 _ _ _ ((Run.start hna4).setCnt (r.cnt+1))
   have hsw:=c.size
   simp at hsw
   have f6:=f5.chg c (fun b o hb e=>by
    rcases hb with (hb | hb) | hb
    ·exact nF b (by omega) hb
    ·have h1:=hb.1;have h2:=kbF HBP'.out;have h3:w3.drew.heap.size=w3.heap.size:=rfl;omega
    ·have h1:=hb.1;have h2:=kbF HBP'.out;omega)
   refine ⟨f6.mono (fun b hb=>?_) (fun b hb=>?_),?_⟩
   ·rcases hb with (hb | hb) | hb
    ·exact .inl hb
    ·have h1:=hb.1;have h3:w3.drew.heap.size=w3.heap.size:=rfl;have h4:=hcc3.size;exact .inr ⟨by omega,by omega⟩
    ·have h1:=hb.1;have h2:=hb.2;simp at h2;exact .inr ⟨by omega,by omega⟩
   ·rcases hb with hb | hb
    ·exact f6.lt (.inl (.inl hb))
    ·exact hb.2
   ·refine (hw05.trans' g5 (B:=fun b _=>F b∨b=w.heap.size+1) (fun _ _ _ h=>.inl h) (fun b o hb h=>?_)).trans' c (fun b o hb h=>?_) (fun b o hb e=>by omega)
    ·rcases h with h | h
     ·exact .inl h
     ·have h1:=h.1;have h3:w3.drew.heap.size=w3.heap.size:=rfl;have h4:=hcc3.size;omega
    ·rcases h with h | h
     ·exact h
     ·omega
  have fin:∀w',Chg (fun b _=>b=w.heap.size+1) (w5.setCell ⟨n,1,none⟩ (.int .i64 (r.cnt+1))) w'→KidOk k w F n r Z (.returned (.tuple #[.agg #[.int .i64 pr.1,.int .i64 pr.2],.bool false,.bool false])) w':=fun w' c=>by
   obtain ⟨f7,g7⟩:=hpf w' c
   exact ⟨_,H',pr,false,hc13,hz4,rfl,f7,g7⟩
  refine fin _ ?_
  repeat (first | refine ze ?_ | refine zf ?_ _ | refine zd ?_ (.inl rfl) _ | exact zK _ _)
 ·go_wp2_with fail
  refine bodyPost_ret (v:=.tuple #[.agg #[.int .i64 pr.1,.int .i64 pr.2],.bool true,.bool false]) (by simp [results,Try.results84,go_sem,p0,p1]) rfl ?_
  have hpf:∀w',Chg (fun b _=>b=w.heap.size+1) w5 w'→Fam (parM k) w' (grow F w w') H'∧Chg (fun b _=>F b) w w':=by
   intro w' c
   have hsw:=c.size
   have f6:=hF5.chg c (fun b o hb e=>by
    rcases hb with hb | hb
    ·exact nF b (by omega) hb
    ·have h1:=hb.1;have h2:=kbF HBP'.out;have h3:w3.drew.heap.size=w3.heap.size:=rfl;omega)
   refine ⟨f6.mono (fun b hb=>?_) (fun b hb=>?_),hw05.trans' (B:=fun b _=>F b) c (fun _ _ _ h=>h) (fun b o hb e=>by omega)⟩
   ·rcases hb with hb | hb
    ·exact .inl hb
    ·have h1:=hb.1;have h3:w3.drew.heap.size=w3.heap.size:=rfl;have h4:=hcc3.size;exact .inr ⟨by omega,by omega⟩
   ·rcases hb with hb | hb
    ·exact f6.lt (.inl hb)
    ·exact hb.2
  have fin:∀w',Chg (fun b _=>b=w.heap.size+1) (w5) w'→KidOk k w F n r Z (.returned (.tuple #[.agg #[.int .i64 pr.1,.int .i64 pr.2],.bool true,.bool false])) w':=fun w' c=>by
   obtain ⟨f7,g7⟩:=hpf w' c
   exact ⟨_,H',pr,true,hc13,hz4,rfl,f7,g7⟩
  refine fin _ ?_
  repeat (first | refine ze ?_ | refine zf ?_ _ | refine zd ?_ (.inl rfl) _ | exact zK _ _)
end
section
open Go.RowKit
variable {ord:List Int} {k:Kc ord}
def SetNo (k:Kc ord) (w:World) (F:Nat→Prop) (H:Nat→Option (NodeR (It ord))) (e:Ending) (w':World):Prop :=
 e=.returned (.tuple #[.agg #[.int .i64 0,.int .i64 0],.bool false,.bool true])∧Fam (parM k) w' (grow F w w') H∧Chg (fun b _=>F b) w w'
theorem nodeSet_kid_full (k:Kc ord) (mn mx t n:Nat) (pa:Addr) (dp:Int) (x:It ord) (i:Nat) (r:NodeR (It ord)) (w:World) (F:Nat→Prop) (H:Nat→Option (NodeR (It ord))) (hF:Fam (parM k) w F H) (ht:MapAt k mn mx w t) (htF:∀b,MOwn k t b→¬F b) (hn:H n=some r)
  (hpa:w.cell? pa=some (.pointer (some ⟨n,0,none⟩))) (hs:Srt ltM r.items) (hlen:r.items.length=mx) (hmx:mx≤1000) (hy:PosAt ltM r.items x i) (kl:List Nat) (hk:r.kids=some (kl.map some)) (c:Nat) (hc:kl[i]?=some c)
  (Z:World→(Nat→Option (NodeR (It ord)))→It ord→Bool→Bool→Prop)
  (hcall:∀w1 pa dp,Chg (fun _ _=>False) w w1→Fam (parM k) w1 F H→MapAt k mn mx w1 t→w1.cell? pa=some (.pointer (some ⟨c,0,none⟩))→Calls Try.prog 84 #[.pointer (some ⟨t,0,none⟩),.pointer (some pa),aggM x,.pointer none,.int .i64 dp] w1 (KidPost k F Z w1))
  (hZ:∀w1 H' pr rp sp,Z w1 H' pr rp sp→w.heap.size≤w1.heap.size→sp=true∧H'=H) :
  Calls Try.prog 84 #[.pointer (some ⟨t,0,none⟩),.pointer (some pa),aggM x,.pointer none,.int .i64 dp] w (SetNo k w F H):=by
 obtain ⟨l,hna,hb,ho,cl⟩:=hF.work hn
 have t0:=ht.c0
 have n0:=hna.c0
 have hpk:(parM k).k=k.iso:=rfl
 rw [hpk] at n0
 have nlt:n < w.heap.size:=zg w _ n0
 have tlt:t < w.heap.size:=zg w _ t0
 have plt:=zg w _ hpa
 have hpa1:∀o,(w.alloc o).cell? pa=some (.pointer (some ⟨n,0,none⟩)):=fun o=>by rw [World.cell?_alloc_lt w _ _ plt];exact hpa
 have hpa2:∀o o',((w.alloc o).alloc o').cell? pa=some (.pointer (some ⟨n,0,none⟩)):=fun o o'=>by rw [World.cell?_alloc_lt _ _ _ (by simp;omega)];exact hpa1 o
 have hn1:∀o o',((w.alloc o).alloc o').cell? ⟨n,0,none⟩=some (.int .u64 k.iso):=fun o o'=>((hna.chg (((zK (fun _ _=>False) w).alloc o).alloc o') (fun _ _ _ h=>h)).c0)
 have ht1:∀o o',((w.alloc o).alloc o').cell? ⟨t,0,none⟩=some (.int .u64 k.iso):=fun o o'=>((ht.chg (((zK (fun _ _=>False) w).alloc o).alloc o') (fun _ _ _ h=>h)).c0)
 unfold aggM
 go_enter Try.func84,Try.ntmps84
 go_wp2_with fail
 go_quiet (fail)
 go_wp2_with fail
 clear hn1 ht1
 refine kbW (fun w1=>Chg (fun _ _=>False) w w1∧w1.heap[w.heap.size]?=some (.cells #[.int .i64 x.1,.int .i64 x.2] 27 (0,0))∧w1.heap[w.heap.size+1]?=some (.cells #[.int .i64 0,.int .i64 0] 27 (0,0))∧w1.heap[w.heap.size+2]?=some (.cells #[.pointer (some ⟨n,0,none⟩)] 97 (0,0))) ⟨?_,?_,?_,?_⟩ ?_
 ·repeat (first | refine ze ?_ | refine zf ?_ _ | refine Chg.alloc ?_ _ | exact zK _ _)
 ·try simp only [kbV,kbX]
  repeat (first | exact kbR _ _ rfl | (rw [kcV _ _ (by simp;try omega)];try simp only [kbV,kbX]))
 ·try simp only [kbV,kbX]
  rw [kcV _ _ (by simp;try omega)]
  try simp only [kbV,kbX]
  exact kbR _ _ (by simp)
 ·try simp only [kbV,kbX]
  exact kbR _ _ (by simp)
 rintro w1 ⟨hc1,hb1,hbp,hb2⟩
 have hn1:=hna.chg hc1 (fun _ _ _ h=>h)
 have ht1:=ht.chg hc1 (by simp)
 refine (kfW t x ht1 hn1 hs (by omega)).mono ?_
 rintro e w2 ⟨i',f,rfl,hw2,hf⟩
 have hfi:f=false∧i'=i:=by
  rcases hf with ⟨h1,y',h2⟩ | ⟨h1,h2⟩
  ·exact absurd h2.n2 (by rw [hy.right i' y' (hit_le hy h2) h2.at_];simp)
  ·exact ⟨h1,pos_same h2 hy swoM⟩
 obtain ⟨rfl,rfl⟩:=hfi
 have hc2:Chg (fun _ _=>False) w1 w2:=hw2
 have hn2:=hn1.chg hc2 (fun _ _ _ h=>h)
 have ht2:=ht1.chg hc2 (by simp)
 have hb1':w2.heap[w.heap.size]?=some (.cells #[.int .i64 x.1,.int .i64 x.2] 27 (0,0)):=by rw [hw2.block (kbF hb1) (fun _ h=>h)];exact hb1
 have hb2':w2.heap[w.heap.size+2]?=some (.cells #[.pointer (some ⟨n,0,none⟩)] 97 (0,0)):=by rw [hw2.block (kbF hb2) (fun _ h=>h)];exact hb2
 have hbp':w2.heap[w.heap.size+1]?=some (.cells #[.int .i64 0,.int .i64 0] 27 (0,0)):=by rw [hw2.block (kbF hbp) (fun _ h=>h)];exact hbp
 have HB1:=zL hb1'
 have HBP:=zL hbp'
 have HB2:=zL hb2'
 have q0:=kbB hb1' 0
 have q1:=kbB hb1' 1
 have q2:=kbB hb2' 0
 simp only [zF,zD,zE] at q0 q1 q2
 have n3:=hn2.c3s hk
 have hcc:=hc1.trans hc2
 have hkl:=(zG.1 hc).1
 have g1:=hn2.cc hk
 rw [zU] at g1
 have g2:=hn2.kidc hk (j:=i') (o:=some c) (by simp [hc])
 clear hw2 hb1 hb2 hbp hb1' hb2' hbp' t0 n0 hpa hpa1 hpa2
 go_wp2_with (go_at_call 51;refine (kcQ _ (some ⟨l.cc,0,none⟩) _ ?_).mono ?_;(focus go_simp);rintro e w' ⟨rfl,rfl⟩)
 refine kbD (fun w3=>Chg (fun _ _=>False) w2 w3) (zK _ _) ?_
 rintro w3 hc3
 replace q0:=hc3.q q0
 replace q1:=hc3.q q1
 replace q2:=hc3.q q2
 replace n3:=hc3.q n3
 replace g1:=hc3.q g1
 replace g2:=hc3.q g2
 have hcc3:=hcc.trans hc3
 have j0:(0:Int)≤(i':Int):=by omega
 have j1:(i':Int) < (kl.length:Int):=by omega
 have HB1':Hid (w3.heap[w.heap.size]?=some (.cells #[.int .i64 x.1,.int .i64 x.2] 27 (0,0))):=zL (by rw [hc3.block (kbF HB1.out) (fun _ h=>h)];exact HB1.out)
 have HBP':Hid (w3.heap[w.heap.size+1]?=some (.cells #[.int .i64 0,.int .i64 0] 27 (0,0))):=zL (by rw [hc3.block (kbF HBP.out) (fun _ h=>h)];exact HBP.out)
 have HB2':Hid (w3.heap[w.heap.size+2]?=some (.cells #[.pointer (some ⟨n,0,none⟩)] 97 (0,0))):=zL (by rw [hc3.block (kbF HB2.out) (fun _ h=>h)];exact HB2.out)
 refine kfF (fun w'=>w'.cell? ⟨w.heap.size,0,none⟩=some (.int .i64 x.1)∧w'.cell? ⟨w.heap.size,1,none⟩=some (.int .i64 x.2)∧w'.cell? ⟨w.heap.size+2,0,none⟩=some (.pointer (some ⟨n,0,none⟩))∧w'.cell? ⟨n,3,none⟩=some (.pointer (some ⟨l.cc,0,none⟩))∧w'.cell? ⟨l.cc,0,none⟩=some (.slice (some ⟨l.cb,l.co,none⟩) kl.length l.ck))
  13 [0,1,2,3,4,5,6,7,8,9,10,11,12] _ [(14,true),(15,true),(16,true),(17,true),(18,false),(19,true),(20,true)] (by kernel_rfl) (by kernel_rfl) (fun _ _ _ _ _ h=>h) rfl rfl ⟨q0,q1,q2,n3,g1⟩ ?_
 simp only [kbJ,zX,zY,zD,zE]
 iterate 13
  refine kbN ?_ rfl ?_ ?_
  rotate_left
  ·intro w' hS
   obtain ⟨s0,s1,s2,s3,s4⟩:=hS
   go_simp
   try with_reducible rfl
  simp only [Act.put,zA,zB,zC]
 refine kbQ ?_
 refine kgN (fun K hK=>?_)
 go_simp
 go_at_call 84
 have hc13:Chg (fun _ _=>False) w w3.drew:=hcc3.drew
 refine (hcall _ _ _ hc13 (hF.chg hc13 (fun _ _ _ h=>h)) (ht.chg hc13 (by simp)) g2).mono ?_
 rintro e wk ⟨H',pr,rp,sp,rfl,hFk,hck,hz4⟩
 obtain ⟨rfl,rfl⟩:=hZ _ _ _ _ _ hz4 hc13.size
 replace hck:Chg (fun b _=>F b) w3 wk:=((zK _ _).drew).trans hck
 have nF:∀b,w.heap.size≤b→¬F b:=fun b hb h=>Nat.lt_irrefl _ (Nat.lt_of_lt_of_le (hF.lt h) hb)
 have hbpk:wk.heap[w.heap.size+1]?=some (.cells #[.int .i64 0,.int .i64 0] 27 (0,0)):=by rw [hck.block (kbF HBP'.out) (fun _ h=>nF _ (zl _ _) h)];exact HBP'.out
 have p0:=kbB hbpk 0
 have p1:=kbB hbpk 1
 have pf0:=kbC hbpk 0
 have pf1:=kbC hbpk 1
 simp only [zF,zD,zE] at p0 p1
 have HBPK:=zL hbpk
 clear hbpk
 refine hK _ _ ?_
 clear hK K
 iterate 4
  refine kcF (by rfl) ?_ (by simp [zI,yielded]) ?_ ?_
  rotate_left
  ·intro w' hS
   try obtain ⟨a1⟩:=hS
   go_simp
   try with_reducible rfl
  simp only [Act.put,zA,zB,zC]
 refine kcG (by rfl) (by simp [zI,yielded]) (fun K hK=>?_)
 go_simp
 refine hK _ _ (fun _=>trivial) ?_
 clear hK K
 iterate 2
  refine kcF (by rfl) ?_ (by simp [zI,yielded]) ?_ ?_
  rotate_left
  ·intro w' hS
   try obtain ⟨a1⟩:=hS
   go_simp
   try with_reducible rfl
  simp only [Act.put,zA,zB,zC]
 refine kdD ?_
 refine kbK (fun w4=>Chg (fun b _=>b=w.heap.size+1) wk w4∧w4.heap[w.heap.size+1]?=some (.cells #[.int .i64 pr.1,.int .i64 pr.2] 27 (0,0))) ⟨?_,?_⟩ ?_
 ·repeat (first | refine ze ?_ | refine zd ?_ (.inl rfl) _ | exact zK _ _)
 ·rw [kbS (kbS HBPK.out _)];rfl
 clear p0 p1 pf0 pf1
 rintro w4 ⟨hcz,hbp4⟩
 have p0:=kbB hbp4 0
 have p1:=kbB hbp4 1
 have pf0:=kbC hbp4 0
 have pf1:=kbC hbp4 1
 simp only [zF,zD,zE] at p0 p1
 have hc4:Chg (fun b _=>F b∨b=w.heap.size+1) w3 w4:=hck.trans' hcz (fun _ _ _ h=>.inl h) (fun _ _ _ h=>.inr h)
 have nFq:∀b,w.heap.size≤b→b≠w.heap.size+1→¬(F b∨b=w.heap.size+1):=fun b hb hne h=>by
  rcases h with h | h
  ·exact nF b hb h
  ·exact hne h
 have hszk:=hck.size
 have hszz:=hcz.size
 have hbl3:=kbF HBP'.out
 have hF4:=(hFk.chg hcz (fun b o hb e=>by
  rcases hb with hb | hb
  ·exact nF b (by omega) hb
  ·have h1:=hb.1;have h3:w3.drew.heap.size=w3.heap.size:=rfl;omega)).mono (F':=grow F w3.drew w4) (fun b h=>by
  rcases h with h | h
  ·exact .inl h
  ·exact .inr ⟨h.1,by omega⟩) (fun b h=>by
  rcases h with h | h
  ·have:=hF.lt h;have:=hcc3.size;omega
  ·exact h.2)
 have HBP4:=zL hbp4
 clear hbp4
 have hsz3:=hc13.size
 have hsz4:=hc4.size
 have hw04:Chg (fun b _=>F b) w w4:=(hcc3.trans' (B:=fun b o=>F b∨b=w.heap.size+1) hc4 (fun _ _ _ h=>h.elim) (fun _ _ _ h=>h)).mono (fun b o hb h=>by
  rcases h with h | h
  ·exact h
  ·omega)
 have ht4:=ht.chg hw04 (fun b _ hm h=>htF b hm h)
 have HQ0:=zL q0
 have HQ1:=zL q1
 have HQ2:=zL q2
 clear q0 q1 q2 n3 g1 g2
 have q2:=hc4.cell (nFq (w.heap.size+2) (zl _ _) (by omega)) HQ2.out
 obtain ⟨l4,hna4,hb4,ho4,cl4⟩:=hF4.work hn
 have c4:=hna4.c2
 have e4:=ht4.c4
 have e5:=ht4.c5
 
 have e7:=ht4.c7
 have htest:((r.items.length:Int) == (mx:Int))=true:=by simp;omega
 clear hlen
 go_wp2_with fail
 go_quiet (fail)
 go_wp2_with fail
 refine bodyPost_ret (v:=.tuple #[.agg #[.int .i64 0,.int .i64 0],.bool false,.bool true]) (by simp [results,Try.results84,go_sem,p0,p1]) rfl ?_
 have hpf:∀w',Chg (fun b _=>b=w.heap.size+1) w4 w'→SetNo k w F H' (.returned (.tuple #[.agg #[.int .i64 0,.int .i64 0],.bool false,.bool true])) w':=by
  intro w' c
  have hsw:=c.size
  have f6:=hF4.chg c (fun b o hb e=>by
   rcases hb with hb | hb
   ·exact nF b (by omega) hb
   ·have h1:=hb.1;have h3:w3.drew.heap.size=w3.heap.size:=rfl;omega)
  refine ⟨rfl,f6.mono (fun b hb=>?_) (fun b hb=>?_),hw04.trans' (B:=fun b _=>F b) c (fun _ _ _ h=>h) (fun b o hb e=>by omega)⟩
  ·rcases hb with hb | hb
   ·exact .inl hb
   ·have h1:=hb.1;have h3:w3.drew.heap.size=w3.heap.size:=rfl;have h4:=hcc3.size;exact .inr ⟨by omega,by omega⟩
  ·rcases hb with hb | hb
   ·exact f6.lt (.inl hb)
   ·exact hb.2
 refine hpf _ ?_
 repeat (first | refine ze ?_ | refine zf ?_ _ | refine zd ?_ (.inl rfl) _ | exact zK _ _)
end
end Go.Proofs.Ytnohimhihombmaa
