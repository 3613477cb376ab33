/- The walk of nodeSet at a leaf with room. -/
import Derived.Deep.AppendLies
import Derived.Test.YtnohimhihombmaaA1
import Derived.Test.YtnohimhihombmaaA2
import Derived.Test.YtnohimhihombmaaA3
import Derived.Test.YtnohimhihombmaaA4
namespace Go.Proofs.Ytnohimhihombmaa
set_option linter.unusedSimpArgs false
set_option linter.unusedVariables false
set_option maxRecDepth 100000
set_option maxHeartbeats 40000000
open List renaming getElem?_cons_zero → zD, getElem?_cons_succ → zE, getElem?_toArray → zF, getElem?_eq_getElem → zH
open Chg renaming refl → zK, setCell → zd, drew → ze, drewN → zf
open Lib renaming hid → zL
open World renaming block_lt_of_cell? → zg
section
open Go.RowKit
variable {ord:List Int} {k:Kc ord}
theorem hit_same {lt:It ord→It ord→Bool} {xs:List (It ord)} {x y y':It ord} {i i':Nat} (h:HitAt lt xs x i' y') (h':HitAt lt xs x i y):i'=i:=by
 rcases Nat.lt_trichotomy i' i with c | c | c
 ·exact absurd (h'.left i' y' c h.at_) (by rw [h.n1];simp)
 ·exact c
 ·exact absurd (h.left i y c h'.at_) (by rw [h'.n1];simp)
theorem hit_le {lt:It ord→It ord→Bool} {xs:List (It ord)} {x y:It ord} {i i':Nat} (h:PosAt lt xs x i') (h':HitAt lt xs x i y):i'≤i:=by
 rcases Nat.lt_or_ge i i' with c | c
 ·exact absurd (h.left i y c h'.at_) (by rw [h'.n1];simp)
 ·exact c
theorem pos_same {lt:It ord→It ord→Bool} {xs:List (It ord)} {x:It ord} {i i':Nat} (h:PosAt lt xs x i') (h':PosAt lt xs x i) (s:Swo lt):i'=i:=by
 have key:∀a b,PosAt lt xs x a→PosAt lt xs x b→¬a < b:=by
  intro a b ha hb c
  have hlt:a < xs.length:=Nat.lt_of_lt_of_le c hb.le
  have h1:=ha.right a _ (Nat.le_refl _) (zH hlt)
  have h2:=hb.left a _ c (zH hlt)
  rw [s.asymm _ _ h1] at h2;cases h2
 have:=key i i' h' h
 have:=key i' i h h'
 omega
def SetHit (k:Kc ord) (w:World) (F:Nat→Prop) (H:Nat→Option (NodeR (It ord))) (n:Nat) (r:NodeR (It ord)) (x:It ord) (i:Nat) (y:It ord) (e:Ending) (w':World):Prop :=
 e=.returned (.tuple #[.agg #[.int .i64 y.1,.int .i64 y.2],.bool true,.bool false])∧Fam (parM k) w' (grow F w w') (upd H n { r with items:=r.items.set i x })∧Chg (fun b _=>F b) w w'
theorem Run.setItemM {k:Kc ord} {w0 w:World} {n:Nat} {r0 r:NodeR (It ord)} {l0 l:Lay} (h:Run (parM k) w0 n r0 l0 w r l) (i:Nat) (x:It ord) (hi:i < r.items.length) :
  Run (parM k) w0 n r0 l0 ((w.setCell ⟨l.ib,l.io+i * 2,none⟩ (.int .i64 x.1)).setCell ⟨l.ib,l.io+i * 2+1,none⟩ (.int .i64 x.2)) { r with items:=r.items.set i x } l:=by
 obtain ⟨_,c,h1,h2,_⟩:=h.at_.row
 have hlen:=h.at_.len
 have hes:l.ic * (parM k).es=l.ic * 2:=by simp [parM]
 have hp:=h.putItems i [x] (by simp;omega)
 have e1:r.items.take i++[x]++r.items.drop (i+[x].length)=r.items.set i x:=by
  rw [List.set_eq_take_append_cons_drop,if_pos hi];simp
 rw [e1] at hp
 rw [putCells_two h1 (by omega)]
 exact hp
theorem nodeSet_hit (k:Kc ord) (mn mx t n:Nat) (pa:Addr) (dp:Int) (x y:It ord) (i:Nat) (r:NodeR (It ord)) (w:World) (F:Nat→Prop) (H:Nat→Option (NodeR (It ord))) (hF:Fam (parM k) w F H) (ht:MapAt k mn mx w t) (hn:H n=some r)
  (hpa:w.cell? pa=some (.pointer (some ⟨n,0,none⟩))) (hs:Srt ltM r.items) (hlen:r.items.length≤1000) (hy:HitAt ltM r.items x i y) :
  Calls Try.prog 84 #[.pointer (some ⟨t,0,none⟩),.pointer (some pa),aggM x,.pointer none,.int .i64 dp] w (SetHit k w F H n r x i y):=by
 obtain ⟨l,hna,hb,ho,cl⟩:=hF.work hn
 have t0:=ht.c0
 have n0:=hna.c0
 have hpk:(parM k).k=k.iso:=rfl
 rw [hpk] at n0
 have nlt:n < w.heap.size:=zg w _ n0
 have tlt:t < w.heap.size:=zg w _ t0
 have plt:=zg w _ hpa
 have hpa1:∀o,(w.alloc o).cell? pa=some (.pointer (some ⟨n,0,none⟩)):=fun o=>by rw [World.cell?_alloc_lt w _ _ plt];exact hpa
 have hpa2:∀o o',((w.alloc o).alloc o').cell? pa=some (.pointer (some ⟨n,0,none⟩)):=fun o o'=>by rw [World.cell?_alloc_lt _ _ _ (by simp;omega)];exact hpa1 o
 have hn1:∀o o',((w.alloc o).alloc o').cell? ⟨n,0,none⟩=some (.int .u64 k.iso):=fun o o'=>((hna.chg (((zK (fun _ _=>False) w).alloc o).alloc o') (fun _ _ _ h=>h)).c0)
 have ht1:∀o o',((w.alloc o).alloc o').cell? ⟨t,0,none⟩=some (.int .u64 k.iso):=fun o o'=>((ht.chg (((zK (fun _ _=>False) w).alloc o).alloc o') (fun _ _ _ h=>h)).c0)
 unfold aggM
 go_enter Try.func84,Try.ntmps84
 go_wp2_with fail
 go_quiet (fail)
 go_wp2_with fail
 clear hn1 ht1
 refine kbW (fun w1=>Chg (fun _ _=>False) w w1∧w1.heap[w.heap.size]?=some (.cells #[.int .i64 x.1,.int .i64 x.2] 27 (0,0))∧w1.heap[w.heap.size+1]?=some (.cells #[.int .i64 0,.int .i64 0] 27 (0,0))∧w1.heap[w.heap.size+2]?=some (.cells #[.pointer (some ⟨n,0,none⟩)] 97 (0,0))) ⟨?_,?_,?_,?_⟩ ?_
 ·repeat (first | refine ze ?_ | refine zf ?_ _ | refine Chg.alloc ?_ _ | exact zK _ _)
 ·try simp only [kbV,kbX]
  repeat (first | exact kbR _ _ rfl | (rw [kcV _ _ (by simp;try omega)];try simp only [kbV,kbX]))
 ·try simp only [kbV,kbX]
  rw [kcV _ _ (by simp;try omega)]
  try simp only [kbV,kbX]
  exact kbR _ _ (by simp)
 ·try simp only [kbV,kbX]
  exact kbR _ _ (by simp)
 rintro w1 ⟨hc1,hb1,hbp,hb2⟩
 have hn1:=hna.chg hc1 (fun _ _ _ h=>h)
 have ht1:=ht.chg hc1 (by simp)
 refine (kfW t x ht1 hn1 hs (by omega)).mono ?_
 rintro e w2 ⟨i',f,rfl,hw2,hf⟩
 have hfi:f=true∧i'=i:=by
  rcases hf with ⟨h1,y',h2⟩ | ⟨h1,h2⟩
  ·exact ⟨h1,hit_same h2 hy⟩
  ·exact absurd hy.n2 (by rw [h2.right i y (hit_le h2 hy) hy.at_];simp)
 obtain ⟨rfl,rfl⟩:=hfi
 have hc2:Chg (fun _ _=>False) w1 w2:=hw2
 have hn2:=hn1.chg hc2 (fun _ _ _ h=>h)
 have r0:Run (parM k) w n r l w2 r l:=((Run.start hna).still hc1).still hc2
 have hb1':w2.heap[w.heap.size]?=some (.cells #[.int .i64 x.1,.int .i64 x.2] 27 (0,0)):=by rw [hw2.block (kbF hb1) (fun _ h=>h)];exact hb1
 have hb2':w2.heap[w.heap.size+2]?=some (.cells #[.pointer (some ⟨n,0,none⟩)] 97 (0,0)):=by rw [hw2.block (kbF hb2) (fun _ h=>h)];exact hb2
 have hbp':w2.heap[w.heap.size+1]?=some (.cells #[.int .i64 0,.int .i64 0] 27 (0,0)):=by rw [hw2.block (kbF hbp) (fun _ h=>h)];exact hbp
 have HB1:=zL hb1'
 have HB2:=zL hb2'
 have HBP:=zL hbp'
 have p0:=kbB hbp' 0
 have p1:=kbB hbp' 1
 have pf0:=kbC hbp' 0
 have pf1:=kbC hbp' 1
 have q0:=kbB hb1' 0
 have q1:=kbB hb1' 1
 have q2:=kbB hb2' 0
 simp only [zF,zD,zE] at q0 q1 q2 p0 p1
 have n2:=hn2.c2
 have iv:=hn2.mval hy.at_
 have ik:=hn2.mkey hy.at_
 
 have z0:=hn2.ifz (l.io+i' * 2)
 have z1:=hn2.ifz (l.io+i' * 2+1)
 have hilt:i' < r.items.length:=(List.getElem?_eq_some_iff.1 hy.at_).1
 have j0:(0:Int)≤(i':Int):=by omega
 have j1:(i':Int) < (r.items.length:Int):=by omega
 have hnew:∀b o,b=w.heap.size+1→w.heap.size≤b∧¬Ext (parM k) n r l b o:=fun b o e=>⟨by omega,fun h=>by have:=hna.lt h.blk;omega⟩
 clear hw2 hb1 hb2 hbp hb1' hb2' hbp' t0 n0 hpa hpa1 hpa2
 go_wp2_with fail
 refine kbD (fun w3=>Chg (fun b _=>b=w.heap.size+1) w2 w3∧w3.heap[w.heap.size+1]?=some (.cells #[.int .i64 y.1,.int .i64 y.2] 27 (0,0))) ⟨?_,?_⟩ ?_
 ·repeat (first | refine ze ?_ | refine zd ?_ (.inl rfl) _ | exact zK _ _)
 ·rw [kbS (kbS HBP.out _)];rfl
 rintro w3 ⟨hc3,hb3⟩
 have hi3:∀{b:Nat} {o:Obj},b≠w.heap.size+1→w2.heap[b]?=some o→w3.heap[b]?=some o:=fun h g=>by rw [hc3.block (kbF g) (fun _ e=>h e)];exact g
 have hb13:=hi3 (by omega) HB1.out
 have hb23:=hi3 (by omega) HB2.out
 clear q0 q1 q2 p0 p1 pf0 pf1 n2 iv ik z0 z1
 have hn3:=hn2.chg hc3 (fun b o h e=>(hnew b o e).2 h)
 have q0:=kbB hb13 0
 have q1:=kbB hb13 1
 have q2:=kbB hb23 0
 have p0:=kbB hb3 0
 have p1:=kbB hb3 1
 have pf0:=kbC hb3 0
 have pf1:=kbC hb3 1
 simp only [zF,zD,zE] at q0 q1 q2 p0 p1
 have n2:=hn3.c2
 have iv:=hn3.mval hy.at_
 have ik:=hn3.mkey hy.at_
 have z0:=hn3.ifz (l.io+i' * 2)
 have z1:=hn3.ifz (l.io+i' * 2+1)
 have hne:¬w.heap.size+1=l.ib:=by have:=hna.lt (b:=l.ib) (.inr (.inl rfl));omega
 have hne':¬l.ib=w.heap.size+1:=fun h=>hne h.symm
 clear hb13 hb23
 have r3:Run (parM k) w n r l w3 r l:=r0.aside hc3 hnew
 go_still_tail 7,(by kernel_rfl)
 go_wp2_with fail
 refine bodyPost_ret (v:=.tuple #[.agg #[.int .i64 y.1,.int .i64 y.2],.bool true,.bool false]) (by simp [results,Try.results84,go_sem,p0,p1,hne,hne']) rfl ?_
 refine ⟨rfl,?_⟩
 refine cl _ _ _ (Run.aside (A:=fun b _=>b=w.heap.size+1) (r3.setItemM i' x hilt) ?_ hnew)
 repeat (first | refine ze ?_ | refine zd ?_ (.inl rfl) _ | exact zK _ _)
def SetFull (k:Kc ord) (w:World) (F:Nat→Prop) (H:Nat→Option (NodeR (It ord))) (e:Ending) (w':World):Prop :=
 e=.returned (.tuple #[.agg #[.int .i64 0,.int .i64 0],.bool false,.bool true])∧Fam (parM k) w' (grow F w w') H∧Chg (fun _ _=>False) w w'
theorem Fam.idle {p:Par (It ord)} {w w':World} {F:Nat→Prop} {H:Nat→Option (NodeR (It ord))} (h:Fam p w F H) (c:Chg (fun _ _=>False) w w'):Fam p w' (grow F w w') H:=by
 refine (h.chg c fun _ _ _ h=>h).mono (fun b hb=>.inl hb) ?_
 rintro b (hb | hb)
 ·exact Nat.lt_of_lt_of_le (h.lt hb) c.size
 ·exact hb.2
theorem nodeSet_leaf_full (k:Kc ord) (mn mx t n:Nat) (pa:Addr) (dp:Int) (x:It ord) (i:Nat) (r:NodeR (It ord)) (w:World) (F:Nat→Prop) (H:Nat→Option (NodeR (It ord))) (hF:Fam (parM k) w F H) (ht:MapAt k mn mx w t) (hn:H n=some r)
  (hpa:w.cell? pa=some (.pointer (some ⟨n,0,none⟩))) (hs:Srt ltM r.items) (hlen:r.items.length=mx) (hmx:mx≤1000) (hy:PosAt ltM r.items x i) (hk:r.kids=none) :
  Calls Try.prog 84 #[.pointer (some ⟨t,0,none⟩),.pointer (some pa),aggM x,.pointer none,.int .i64 dp] w (SetFull k w F H):=by
 obtain ⟨l,hna,hb,ho,cl⟩:=hF.work hn
 have t0:=ht.c0
 have n0:=hna.c0
 have hpk:(parM k).k=k.iso:=rfl
 rw [hpk] at n0
 have nlt:n < w.heap.size:=zg w _ n0
 have tlt:t < w.heap.size:=zg w _ t0
 have plt:=zg w _ hpa
 have hpa1:∀o,(w.alloc o).cell? pa=some (.pointer (some ⟨n,0,none⟩)):=fun o=>by rw [World.cell?_alloc_lt w _ _ plt];exact hpa
 have hpa2:∀o o',((w.alloc o).alloc o').cell? pa=some (.pointer (some ⟨n,0,none⟩)):=fun o o'=>by rw [World.cell?_alloc_lt _ _ _ (by simp;omega)];exact hpa1 o
 have hn1:∀o o',((w.alloc o).alloc o').cell? ⟨n,0,none⟩=some (.int .u64 k.iso):=fun o o'=>((hna.chg (((zK (fun _ _=>False) w).alloc o).alloc o') (fun _ _ _ h=>h)).c0)
 have ht1:∀o o',((w.alloc o).alloc o').cell? ⟨t,0,none⟩=some (.int .u64 k.iso):=fun o o'=>((ht.chg (((zK (fun _ _=>False) w).alloc o).alloc o') (fun _ _ _ h=>h)).c0)
 unfold aggM
 go_enter Try.func84,Try.ntmps84
 go_wp2_with fail
 go_quiet (fail)
 go_wp2_with fail
 clear hn1 ht1
 refine kbW (fun w1=>Chg (fun _ _=>False) w w1∧w1.heap[w.heap.size]?=some (.cells #[.int .i64 x.1,.int .i64 x.2] 27 (0,0))∧w1.heap[w.heap.size+1]?=some (.cells #[.int .i64 0,.int .i64 0] 27 (0,0))∧w1.heap[w.heap.size+2]?=some (.cells #[.pointer (some ⟨n,0,none⟩)] 97 (0,0))) ⟨?_,?_,?_,?_⟩ ?_
 ·repeat (first | refine ze ?_ | refine zf ?_ _ | refine Chg.alloc ?_ _ | exact zK _ _)
 ·try simp only [kbV,kbX]
  repeat (first | exact kbR _ _ rfl | (rw [kcV _ _ (by simp;try omega)];try simp only [kbV,kbX]))
 ·try simp only [kbV,kbX]
  rw [kcV _ _ (by simp;try omega)]
  try simp only [kbV,kbX]
  exact kbR _ _ (by simp)
 ·try simp only [kbV,kbX]
  exact kbR _ _ (by simp)
 rintro w1 ⟨hc1,hb1,hbp,hb2⟩
 have hn1:=hna.chg hc1 (fun _ _ _ h=>h)
 have ht1:=ht.chg hc1 (by simp)
 refine (kfW t x ht1 hn1 hs (by omega)).mono ?_
 rintro e w2 ⟨i',f,rfl,hw2,hf⟩
 have hfi:f=false:=by
  rcases hf with ⟨h1,y',h2⟩ | ⟨h1,h2⟩
  ·exact absurd h2.n2 (by rw [hy.right i' y' (hit_le hy h2) h2.at_];simp)
  ·exact h1
 obtain rfl:=hfi
 have hc2:Chg (fun _ _=>False) w1 w2:=hw2
 have hn2:=hn1.chg hc2 (fun _ _ _ h=>h)
 have ht2:=ht1.chg hc2 (by simp)
 have hb2':w2.heap[w.heap.size+2]?=some (.cells #[.pointer (some ⟨n,0,none⟩)] 97 (0,0)):=by rw [hw2.block (kbF hb2) (fun _ h=>h)];exact hb2
 have hbp':w2.heap[w.heap.size+1]?=some (.cells #[.int .i64 0,.int .i64 0] 27 (0,0)):=by rw [hw2.block (kbF hbp) (fun _ h=>h)];exact hbp
 have p0:=kbB hbp' 0
 have p1:=kbB hbp' 1
 have pf0:=kbC hbp' 0
 have pf1:=kbC hbp' 1
 have q2:=kbB hb2' 0
 simp only [zF,zD,zE] at q2 p0 p1
 have n2:=hn2.c2
 rw [hlen] at n2
 have n3:=hn2.c3n hk
 have e4:=ht2.c4
 have e5:=ht2.c5
 
 have e7:=ht2.c7
 have hcc:=hc1.trans hc2
 clear hw2 hb1 hb2 hbp hb2' hbp' t0 n0 hpa hpa1 hpa2
 go_wp2_with (go_at_call 51;refine (kcQ _ none _ ?_).mono ?_;(focus go_simp);rintro e w' ⟨rfl,rfl⟩)
 go_quiet (fail)
 go_wp2_with fail
 refine bodyPost_ret (v:=.tuple #[.agg #[.int .i64 0,.int .i64 0],.bool false,.bool true]) (by simp [results,Try.results84,go_sem,p0,p1]) rfl ?_
 have hce:∀w',Chg (fun b _=>b=w.heap.size+1) w2 w'→Fam (parM k) w' (grow F w w') H∧Chg (fun _ _=>False) w w':=fun w' c=>by
  have h:=hcc.trans' (B:=fun _ _=>False) c (fun _ _ _ h=>h) (fun b o hb e=>by omega)
  exact ⟨hF.idle h,h⟩
 refine ⟨rfl,hce _ ?_⟩
 repeat (first | refine ze ?_ | refine zf ?_ _ | refine zd ?_ (.inl rfl) _ | exact zK _ _)
end
section
open Go.RowKit
variable {ord:List Int} {k:Kc ord}
theorem kfN:(Try.prog.info? 27).map (fun i=>(i.zero,i.size,i.bytes))=some (some (.agg #[.int .i64 0,.int .i64 0]),2,16):=by kernel_rfl
theorem kdB:(Try.prog.info? 27).map (·.size)=some 2:=by kernel_rfl
theorem infoNode:(Try.prog.info? 97).map (fun i=>(i.zero,i.size,i.bytes))=some (some (.pointer none),1,8):=by kernel_rfl
theorem kgD:(Try.prog.info? 97).map (·.size)=some 1:=by kernel_rfl
def SetNew (k:Kc ord) (w:World) (F:Nat→Prop) (H:Nat→Option (NodeR (It ord))) (n:Nat) (r:NodeR (It ord)) (x:It ord) (i:Nat) (e:Ending) (w':World):Prop :=
 e=.returned (.tuple #[.agg #[.int .i64 0,.int .i64 0],.bool false,.bool false])∧Fam (parM k) w' (grow F w w') (upd H n { r with cnt:=r.cnt+1,items:=r.items.take i++x::r.items.drop i })∧Chg (fun b _=>F b) w w'
theorem nodeSet_leaf_room (k:Kc ord) (mn mx t n:Nat) (pa:Addr) (dp:Int) (x:It ord) (i:Nat) (r:NodeR (It ord)) (w:World) (F:Nat→Prop) (H:Nat→Option (NodeR (It ord))) (hF:Fam (parM k) w F H) (ht:MapAt k mn mx w t) (htF:∀b,MOwn k t b→¬F b) (hn:H n=some r)
  (hpa:w.cell? pa=some (.pointer (some ⟨n,0,none⟩))) (hs:Srt ltM r.items) (hlen:r.items.length < mx) (hmx:mx≤1000) (hy:PosAt ltM r.items x i) (hk:r.kids=none) (hcnt:0≤r.cnt) (hcnt2:r.cnt≤100000000000000) :
  Calls Try.prog 84 #[.pointer (some ⟨t,0,none⟩),.pointer (some pa),aggM x,.pointer none,.int .i64 dp] w (SetNew k w F H n r x i):=by
 obtain ⟨l,hna,hb,ho,cl⟩:=hF.work hn
 have t0:=ht.c0
 have n0:=hna.c0
 have hpk:(parM k).k=k.iso:=rfl
 rw [hpk] at n0
 have nlt:n < w.heap.size:=zg w _ n0
 have tlt:t < w.heap.size:=zg w _ t0
 have plt:=zg w _ hpa
 have hpa1:∀o,(w.alloc o).cell? pa=some (.pointer (some ⟨n,0,none⟩)):=fun o=>by rw [World.cell?_alloc_lt w _ _ plt];exact hpa
 have hpa2:∀o o',((w.alloc o).alloc o').cell? pa=some (.pointer (some ⟨n,0,none⟩)):=fun o o'=>by rw [World.cell?_alloc_lt _ _ _ (by simp;omega)];exact hpa1 o
 have hn1:∀o o',((w.alloc o).alloc o').cell? ⟨n,0,none⟩=some (.int .u64 k.iso):=fun o o'=>((hna.chg (((zK (fun _ _=>False) w).alloc o).alloc o') (fun _ _ _ h=>h)).c0)
 have ht1:∀o o',((w.alloc o).alloc o').cell? ⟨t,0,none⟩=some (.int .u64 k.iso):=fun o o'=>((ht.chg (((zK (fun _ _=>False) w).alloc o).alloc o') (fun _ _ _ h=>h)).c0)
 unfold aggM
 go_enter Try.func84,Try.ntmps84
 go_wp2_with fail
 go_quiet (fail)
 go_wp2_with fail
 clear hn1 ht1
 refine kbW (fun w1=>Chg (fun _ _=>False) w w1∧w1.heap[w.heap.size]?=some (.cells #[.int .i64 x.1,.int .i64 x.2] 27 (0,0))∧w1.heap[w.heap.size+1]?=some (.cells #[.int .i64 0,.int .i64 0] 27 (0,0))∧w1.heap[w.heap.size+2]?=some (.cells #[.pointer (some ⟨n,0,none⟩)] 97 (0,0))) ⟨?_,?_,?_,?_⟩ ?_
 ·repeat (first | refine ze ?_ | refine zf ?_ _ | refine Chg.alloc ?_ _ | exact zK _ _)
 ·try simp only [kbV,kbX]
  repeat (first | exact kbR _ _ rfl | (rw [kcV _ _ (by simp;try omega)];try simp only [kbV,kbX]))
 ·try simp only [kbV,kbX]
  rw [kcV _ _ (by simp;try omega)]
  try simp only [kbV,kbX]
  exact kbR _ _ (by simp)
 ·try simp only [kbV,kbX]
  exact kbR _ _ (by simp)
 rintro w1 ⟨hc1,hb1,hbp,hb2⟩
 have hn1:=hna.chg hc1 (fun _ _ _ h=>h)
 have ht1:=ht.chg hc1 (by simp)
 refine (kfW t x ht1 hn1 hs (by omega)).mono ?_
 rintro e w2 ⟨i',f,rfl,hw2,hf⟩
 have hfi:f=false∧i'=i:=by
  rcases hf with ⟨h1,y',h2⟩ | ⟨h1,h2⟩
  ·exact absurd h2.n2 (by rw [hy.right i' y' (hit_le hy h2) h2.at_];simp)
  ·exact ⟨h1,pos_same h2 hy swoM⟩
 obtain ⟨rfl,rfl⟩:=hfi
 have hc2:Chg (fun _ _=>False) w1 w2:=hw2
 have hn2:=hn1.chg hc2 (fun _ _ _ h=>h)
 have ht2:=ht1.chg hc2 (by simp)
 have r2:Run (parM k) w n r l w2 r l:=((Run.start hna).still hc1).still hc2
 have hb1':w2.heap[w.heap.size]?=some (.cells #[.int .i64 x.1,.int .i64 x.2] 27 (0,0)):=by rw [hw2.block (kbF hb1) (fun _ h=>h)];exact hb1
 have hb2':w2.heap[w.heap.size+2]?=some (.cells #[.pointer (some ⟨n,0,none⟩)] 97 (0,0)):=by rw [hw2.block (kbF hb2) (fun _ h=>h)];exact hb2
 have hbp':w2.heap[w.heap.size+1]?=some (.cells #[.int .i64 0,.int .i64 0] 27 (0,0)):=by rw [hw2.block (kbF hbp) (fun _ h=>h)];exact hbp
 have HB1:=zL hb1'
 have HBP:=zL hbp'
 have HB2:=zL hb2'
 have q2:=kbB hb2' 0
 simp only [zF,zD] at q2
 have n2:=hn2.c2
 have n3:=hn2.c3n hk
 have e4:=ht2.c4
 have e5:=ht2.c5
 have e7:=ht2.c7
 have hcc:=hc1.trans hc2
 have htest:((r.items.length:Int) == (mx:Int))=false:=by simp;omega
 have htib:t≠l.ib:=fun h=>htF t MOwn.self (h▸hb _ (.inr (.inl rfl)))
 have hilt:=hna.lt (b:=l.ib) (.inr (.inl rfl))
 have hnib:n≠l.ib:=Ne.symm hna.d1
 clear hw2 hb1 hb2 hbp hb1' hb2' hbp' t0 n0 hpa hpa1 hpa2
 go_wp2_with (go_at_call 51;refine (kcQ _ none _ ?_).mono ?_;(focus go_simp);rintro e w' ⟨rfl,rfl⟩)
 go_quiet (fail)
 go_wp2_with fail
 refine kbD (fun w3=>Chg (fun _ _=>False) w2 w3) ((zK _ _).drewN _) ?_
 rintro w3 hc3
 replace q2:=hc3.q q2
 replace n2:=hc3.q n2
 replace e4:=hc3.q e4
 replace e5:=hc3.q e5
 have hn3:=hn2.chg hc3 (fun _ _ _ h=>h)
 have r3:=r2.still hc3
 have hz:=hcc.size
 have hz3:=hc3.size
 have hbs:w.heap.size+2 < w2.heap.size:=kbF HB2.out
 have hlen3:=hn3.len
 obtain ⟨i0,hi0,hz0,hz1,hz2⟩:=info_parts kfN
 have fz2:=hn3.fz 2
 have nlt3:n < w3.heap.size:=by omega
 have fz2a:∀o,(w3.alloc o).drew.frozen? ⟨n,2,none⟩=false:=fun o=>by rw [World.frozen?_drew,World.frozen?_alloc_past _ _ _ nlt3];exact fz2
 clear n3 e7 htest
 refine kcP (fun w'=>w'.cell? ⟨w.heap.size+2,0,none⟩=some (.pointer (some ⟨n,0,none⟩))∧w'.cell? ⟨n,2,none⟩=some (.slice (some ⟨l.ib,l.io,none⟩) r.items.length l.ic)∧w'.cell? ⟨t,7,none⟩=some (.int .i64 0)∧w'.cell? ⟨t,8,none⟩=some (.int .i64 0))
  11 [0,1,2,3,4,5,6,7,8] [9,10] (by kernel_rfl) (by kernel_rfl) (fun _ _ _ _ _ h=>h) rfl rfl ⟨q2,n2,e4,e5⟩ ?_
 simp only [kbJ,List.filterMap_cons,List.filterMap_nil,zD,zE]
 iterate 9
  refine kbN ?_ rfl ?_ ?_
  rotate_left
  ·intro w' hS
   obtain ⟨s1,s2,s3,s4⟩:=hS
   go_simp
   try with_reducible rfl
  simp only [Act.put,List.setIfInBounds_toArray,List.set_cons_zero,List.set_cons_succ]
 refine kbQ ?_
 refine kbM (fun K hK=>?_)
 go_simp
 refine hK _ _ ⟨?_,?_,?_,?_⟩ ?_
 iterate 4 go_keep
 clear hK K
 refine kbM (fun K hK=>?_)
 refine kbZ _ _ _ (by rfl) 27 i0 _ 2 16 Try.underlying25 hi0 hz0 hz1 hz2 rfl l.ib l.io r.items.length l.ic (by rfl) (flat (parM k) r.items) ((hn3.row.alloc _).drew) (kcT _ _) ⟨w3.heap.size,0,none⟩ 1 _ (by rfl) [.int .i64 0,.int .i64 0] (by rfl) (World.news_of_block (cs:=#[.int .i64 0,.int .i64 0]) (t:=27) (fr:=(0,0)) (heap_alloc_new w3 _)) (by simp [Value.oneCell']) (by unfold maxLen;omega) (by omega) ?_
 intro b' o1 cap' w4 happ
 refine hK _ _ ⟨happ.chg.cell (fun h=>absurd h.1 (by show ¬(w.heap.size+2=l.ib);omega)) (by rw [World.cell?_drew,World.cell?_alloc_past _ _ _ (by omega)];exact q2),happ.chg.cell (fun h=>absurd h.1 hnib) (by rw [World.cell?_drew,World.cell?_alloc_past _ _ _ (by omega)];exact n2),happ.chg.cell (fun h=>absurd h.1 htib) (by rw [World.cell?_drew,World.cell?_alloc_past _ _ _ (by omega)];exact e4),happ.chg.cell (fun h=>absurd h.1 htib) (by rw [World.cell?_drew,World.cell?_alloc_past _ _ _ (by omega)];exact e5)⟩ ?_
 clear hK K
 simp only [kcZ,List.drop_succ_cons,List.drop_zero,Act.put,List.setIfInBounds_toArray,List.set_cons_zero,List.set_cons_succ]
 have g2:w4.cell? ⟨n,2,none⟩=some (.slice (some ⟨l.ib,l.io,none⟩) r.items.length l.ic):=happ.chg.cell (fun h=>absurd h.1 hnib) (by rw [World.cell?_drew,World.cell?_alloc_past _ _ _ (by omega)];exact n2)
 have z2:w4.frozen? ⟨n,2,none⟩=false:=by rw [happ.chg.frozen (by simp;omega)];exact fz2a _
 go_wp2_with fail
 have r3':=r3.still (((zK (fun _ _=>False) w3).alloc (.cells #[.int .i64 0,.int .i64 0] 27)).drew)
 have r5:=r3'.append [((0,0):It ord)] happ (zK _ _)
 have q5:(w4.setCell ⟨n,2,none⟩ (.slice (some ⟨b',o1,none⟩) ((r.items.length+1:Nat)) cap')).cell? ⟨w.heap.size+2,0,none⟩=some (.pointer (some ⟨n,0,none⟩)):=by
  rw [World.cell?_setCell_other _ _ _ _ (by simp)]
  exact happ.chg.cell (fun h=>absurd h.1 (by show ¬(w.heap.size+2=l.ib);omega)) (by rw [World.cell?_drew,World.cell?_alloc_past _ _ _ (by omega)];exact q2)
 have hb5:Hid ((w4.setCell ⟨n,2,none⟩ (.slice (some ⟨b',o1,none⟩) ((r.items.length+1:Nat)) cap')).heap[w.heap.size]?=some (.cells #[.int .i64 x.1,.int .i64 x.2] 27 (0,0))) :=
  zL (by
   rw [hs_ne _ (by omega),happ.chg.block (by simp;omega) (fun o h=>by have:=h.1;omega),kbV,kcV _ _ (by omega),hc3.block (by omega) (fun _ h=>h)]
   exact HB1.out)
 have hp5:Hid ((w4.setCell ⟨n,2,none⟩ (.slice (some ⟨b',o1,none⟩) ((r.items.length+1:Nat)) cap')).heap[w.heap.size+1]?=some (.cells #[.int .i64 0,.int .i64 0] 27 (0,0))) :=
  zL (by
   rw [hs_ne _ (by omega),happ.chg.block (by simp;omega) (fun o h=>by have:=h.1;omega),kbV,kcV _ _ (by omega),hc3.block (by omega) (fun _ h=>h)]
   exact HBP.out)
 have hroom:=happ.room
 clear g2 z2 q2 n2 e4 e5 fz2 fz2a r3' hz0 hz1 hz2 hi0
 have hpl:b'=l.ib∨w2.heap.size≤b':=by
  rcases happ.place with h | h
  ·exact .inl h.1
  ·have h2:=h.1
   simp at h2
   exact .inr (by omega)
 clear happ
 obtain ⟨l5,hl5⟩:∃l5,l5={ l with ib:=b',io:=o1,ic:=cap' }:=⟨_,rfl⟩
 refine kbD (fun w5=>∃l5,Run (parM k) w n r l w5 { r with items:=r.items++[((0,0):It ord)] } l5∧w5.cell? ⟨w.heap.size+2,0,none⟩=some (.pointer (some ⟨n,0,none⟩)) ∧
  Hid (w5.heap[w.heap.size]?=some (.cells #[.int .i64 x.1,.int .i64 x.2] 27 (0,0)))∧Hid (w5.heap[w.heap.size+1]?=some (.cells #[.int .i64 0,.int .i64 0] 27 (0,0)))∧r.items.length+1≤l5.ic∧(l5.ib=l.ib∨w2.heap.size≤l5.ib)) ⟨_,r5,q5,hb5,hp5,hroom,hpl⟩ ?_
 clear q5 hb5 hp5 r5 hl5 hroom hpl l5
 rintro w5 ⟨l5,r5,q5,hb5,hp5,hroom,hpl⟩
 have n5:=r5.at_.c2
 simp only [List.length_append,List.length_cons,List.length_nil,Nat.zero_add] at n5
 have hle:=hy.le
 have s0:(0:Int)≤(i':Int):=by omega
 have s2:(0:Int)≤(i':Int)+1:=by omega
 have s3:((i':Int)+1).toNat=i'+1:=by omega
 have hck2:¬l5.ic=i':=by omega
 have hle2:(i':Int)≤(r.items.length:Int)+1:=by omega
 obtain ⟨od,hif,hod,hod2⟩:∃od,(if l5.ic=i'+1 then some (⟨l5.ib,l5.io,none⟩:Addr) else some ⟨l5.ib,l5.io+(i'+1) * 2,none⟩)=some ⟨l5.ib,od,none⟩∧(i' < r.items.length→od=l5.io+(i'+1) * 2)∧(od=l5.io∨od=l5.io+(i'+1) * 2):=by
  by_cases h:l5.ic=i'+1
  ·exact ⟨l5.io,by rw [if_pos h],fun h2=>by omega,.inl rfl⟩
  ·exact ⟨_,by rw [if_neg h],fun _=>rfl,.inr rfl⟩
 have s1:IntKind.i64.wrap ((i':Int)+1)=(i':Int)+1:=IntWalk.i64_in _ (by omega)
 go_still_tail 13,(by kernel_rfl)
 refine wpList_shift (p:=parM k) (r:={ r with items:=r.items++[((0,0):It ord)] }) (by rfl) _ _ _ _ (by rfl) 27 (by kernel_rfl) kdB (r5.still ((zK _ _).drew)) r.items (0,0) rfl i' od _ _ _ _ hle (by simpa [parM] using hod) (by simpa [parM] using hod2) (by rfl) _ (by rfl) (by first | rfl | simp [parM]) (by omega) (by omega) ?_
 intro w6 hc6 r6
 replace hc6:Chg (fun b _=>b=l5.ib) w5 w6:=(((zK _ _).drew).trans hc6)
 have q6:=hc6.cell (fun h=>absurd h (by show ¬(w.heap.size+2=l5.ib);omega)) q5
 have hb6:Hid (w6.heap[w.heap.size]?=some (.cells #[.int .i64 x.1,.int .i64 x.2] 27 (0,0))):=zL (by
  rw [hc6.block (kbF hb5.out) (fun o h=>by omega)];exact hb5.out)
 have hp6:Hid (w6.heap[w.heap.size+1]?=some (.cells #[.int .i64 0,.int .i64 0] 27 (0,0))):=zL (by
  rw [hc6.block (kbF hp5.out) (fun o h=>by omega)];exact hp5.out)
 have n6:=r6.at_.c2
 have hl6:((r.items++[((0,0):It ord)]).take (i'+1)++r.items.drop i').length=r.items.length+1:=kfP _ _ _ hle
 simp only [hl6] at n6
 clear q5 hb5 hp5 n5 s1 s2 s3 hif hod hod2
 go_wp2_with fail
 refine kbD (fun w7=>Chg (fun _ _=>False) w6 w7) (zK _ _) ?_
 rintro w7 hc7
 replace q6:=hc7.q q6
 have hp7:w7.heap[w.heap.size+1]?=some (.cells #[.int .i64 0,.int .i64 0] 27 (0,0)):=by rw [hc7.block (kbF hp6.out) (fun _ h=>h)];exact hp6.out
 have pp0:=kbB hp7 0
 have pp1:=kbB hp7 1
 have pf0:=kbC hp7 0
 have pf1:=kbC hp7 1
 simp only [zF,zD,zE] at pp0 pp1
 clear hp7
 have b0:=kbB hb6.out 0
 have b1:=kbB hb6.out 1
 simp only [zF,zD,zE] at b0 b1
 replace b0:=hc7.q b0
 replace b1:=hc7.q b1
 replace n6:=hc7.q n6
 have z0:=((r6.still hc7).at_).ifz (l5.io+i' * 2)
 have z1:=((r6.still hc7).at_).ifz (l5.io+i' * 2+1)
 have j1:(i':Int) < (r.items.length:Int)+1:=by omega
 obtain ⟨y6,hy6⟩:∃y,((r.items++[((0,0):It ord)]).take (i'+1)++r.items.drop i')[i']?=some y:=⟨_,zH (by rw [hl6];omega)⟩
 have iv:=((r6.still hc7).at_).mval hy6
 have ik:=((r6.still hc7).at_).mkey hy6
 go_still_tail 7,(by kernel_rfl)
 have hr7:=r6.still hc7
 have hr7a:=hr7.at_
 have c7:=hr7a.c1
 have fz7:=hr7a.fz 1
 have tF:t≠n:=fun h=>htF t MOwn.self (h▸hb _ (.inl rfl))
 have e8:=(ht.chg hr7.chg (fun b o hm h=>htF b hm (hb _ h.blk))).c4
 have e9:=(ht.chg hr7.chg (fun b o hm h=>htF b hm (hb _ h.blk))).c5
 have u0:¬w.heap.size+1=l5.ib:=by omega
 have u0':¬l5.ib=w.heap.size+1:=by omega
 have u1:¬w.heap.size+1=n:=by omega
 have u1':¬n=w.heap.size+1:=by omega
 have p0:¬w.heap.size+2=l5.ib:=by omega
 have p0':¬l5.ib=w.heap.size+2:=by omega
 have p1:¬n=l5.ib:=Ne.symm hr7a.d1
 have p1':¬l5.ib=n:=hr7a.d1
 have p2:¬t=l5.ib:=by
  rcases hpl with h | h
  ·rw [h];exact htib
  ·omega
 have p2':¬l5.ib=t:=fun h=>p2 h.symm
 have p3:¬t=n:=tF
 have p3':¬n=t:=fun h=>tF h.symm
 have s1:IntKind.i64.wrap (r.cnt+1)=r.cnt+1:=IntWalk.i64_in _ (by omega)
 clear n6
 go_wp2_with fail
 refine bodyPost_ret (v:=.tuple #[.agg #[.int .i64 0,.int .i64 0],.bool false,.bool false]) (by simp [results,Try.results84,go_sem,pp0,pp1,u0,u0',u1,u1']) rfl ?_
 refine ⟨rfl,?_⟩
 have r8:=hr7.setItemM i' x (Nat.lt_of_lt_of_eq (show i' < r.items.length+1 by omega) hl6.symm)
 have r9:=r8.setCnt (r.cnt+1)
 simp only [upList_set _ _ _ _ hle] at r9
 refine cl _ _ _ (Run.aside (A:=fun b _=>b=w.heap.size+1) r9 ?_ (fun b o e=>⟨by omega,fun h=>by
  rcases h with h | ⟨h,_⟩ | ⟨h,_⟩
  ·omega
  ·have h2:b=l5.ib:=h
   omega
  ·exact h hk⟩))
 repeat (first | refine ze ?_ | refine zf ?_ _ | refine zd ?_ (.inl rfl) _ | exact zK _ _)
end
end Go.Proofs.Ytnohimhihombmaa
