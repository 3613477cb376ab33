/- The walk of nodeSet at a branch with room: the full child is parted, then the item goes in anew. -/
import Derived.Deep.AppendLies
import Derived.Test.YtnohimhihombmaaA1
import Derived.Test.YtnohimhihombmaaA2
import Derived.Test.YtnohimhihombmaaA3
namespace Go.Proofs.Ytnohimhihombmaa
set_option linter.unusedSimpArgs false
set_option linter.unusedVariables false
set_option maxRecDepth 100000
set_option maxHeartbeats 40000000
open Value renaming int → Ii, pointer → Ip, slice → Is, tuple → Iu
open IntKind renaming i64 → Ij
open Obj renaming cells → Ic
open Ending renaming returned → Ir
open Option.some renaming inj → Iq
open _root_.Go.Proofs.Try renaming prog → Tp
open List renaming setIfInBounds_toArray → zA, set_cons_zero → zB, set_cons_succ → zC, getElem?_cons_zero → zD, getElem?_cons_succ → zE, getElem?_toArray → zF, getElem?_eq_some_iff → zG, getElem?_eq_getElem → zH, length_append → zT, length_map → zU, length_take → zV, filterMap_cons → zX, filterMap_nil → zY, drop_succ_cons → za, drop_zero → zb, getElem?_append_left → zn
open Region renaming wanted → zI
open Act renaming put → zJ
open Chg renaming refl → zK, setCell → zd, drew → ze, drewN → zf
open Lib renaming hid → zL
open World renaming block_lt_of_cell? → zg
open IntWalk renaming i64_in → zh
open Nat renaming le_refl → zi, lt_of_lt_of_le → zk, le_add_right → zl
section
open Go.RowKit
variable {ord:List Int} {k:Kc ord}
theorem nodeSplit_branch (k:Kc ord) (mn mx t n:Nat) (r:NodeR (It ord)) (l:Lay) (w:World) (ht:MapAt k mn mx w t) (hn:NodeAt (parM k) w n r l) (kl:List Nat) (hk:r.kids=some (kl.map some)) (hlen:r.items.length=mx) (hmx:mx≤1000) (hm3:3≤mx)
  (hkl:kl.length=mx+1) (cf:Nat→Int) (hkid:∀c∈kl,w.cell? ⟨c,1,none⟩=some (Ii Ij (cf c))∧0≤cf c∧∀o,¬Ext (parM k) n r l c o) (hsum:ksum cf kl≤100000000000000) :
  Calls Tp 85 #[Ip (some ⟨t,0,none⟩),Ip (some ⟨n,0,none⟩)] w (SplitPost k w n r l (mx / 2) cf kl):=by
 obtain ⟨i,hi⟩:∃i:Nat,mx / 2=i:=⟨_,rfl⟩
 rw [hi]
 have hI:(mx:Int) / 2=(i:Int):=by omega
 have hilt:i < mx:=by omega
 have hi1:1≤i:=by omega
 clear hi
 obtain ⟨x,hx⟩:∃x,r.items[i]?=some x:=⟨_,zH (by omega)⟩
 have t0:=ht.c0
 have t6:=ht.c7
 have n2:=hn.c2
 have n3:=hn.c3s hk
 have iv:=hn.mval hx
 have ik:=hn.mkey hx
 have hcap:=hn.len
 have hkcap:=hn.klen hk
 rw [hlen] at n2
 rw [zU,hkl] at hkcap
 have ibl:=hn.row.lt
 have nlt:n < w.heap.size:=zg w _ n2
 have tlt:t < w.heap.size:=zg w _ t0
 have cclt:=kbF (hn.kid _ hk).1
 have cblt:=(hn.kid _ hk).2.lt
 have nlt1:n < w.heap.size+1+1:=by omega
 have tlt1:t < w.heap.size+1+1:=by omega
 have cclt1:l.cc < w.heap.size+1+1:=by omega
 have hnew:∀b o,w.heap.size≤b→¬Ext (parM k) n r l b o:=fun b o hb h=>Nat.lt_irrefl _ (zk (hn.lt h.blk) hb)
 have HNEW:=zL hnew
 clear hnew
 have HK:=zL hkid
 clear hkid
 have HK2:=zL hk
 clear hk
 go_enter Try.func85,Try.ntmps85
 go_wp2_with (first | (go_at_call 51;refine (kcJ _ (some ⟨l.cc,0,none⟩) _ ?_).mono ?_;(focus go_simp);rintro e w' ⟨rfl,rfl⟩) | (go_at_call 83;refine (newNode_branch _ k _ ?_).mono ?_;(focus go_simp);rintro e w' ⟨rfl,rfl⟩))
 refine kbD (fun w1=>Chg (fun _ _=>False) w w1∧w1.heap[w.heap.size]?=some (Ic #[Ii Ij x.1,Ii Ij x.2] 27 (0,0)) ∧
  w1.heap[w.heap.size+1]?=some (Ic #[.int .u64 k.iso,Ii Ij 0,Is (some ⟨l.ib,l.io+(i+1) * 2,none⟩) (mx - (i+1)) (l.ic - (i+1)),Ip (some ⟨w.heap.size+2,0,none⟩)] 109 (0,0)) ∧
  w1.heap[w.heap.size+2]?=some (Ic #[Is none 0 0] 111 (0,0)))
  ⟨?_,?_,?_,?_⟩ ?_
 ·exact (((zK _ w).alloc _).alloc _).alloc _
 ·rw [kcZ _ _ (by simp;try omega),kcZ _ _ (by simp;try omega)];exact kbT _ _ rfl
 ·rw [kcZ _ _ (by simp)];exact kbT _ _ (by simp)
 ·exact kbT _ _ (by simp)
 rintro w1 ⟨hc1,hb1,hb2,hb3⟩
 have r3:=kbB hb2 3
 have cc0:=kbB hb3 0
 have fcc:=kbC hb3 0
 simp only [zF,zD,zE] at r3 cc0
 have HB1:=zL hb1
 have HB2:=zL hb2
 have HB3:=zL hb3
 clear hb1 hb2 hb3
 have ht1:=ht.chg hc1 (by simp)
 have hn1:=hn.chg hc1 (by simp)
 have n31:=hn1.c3s HK2.out
 have nc1:=hn1.cc HK2.out
 rw [zU,hkl] at nc1
 have j0:(0:Int)≤(i:Int):=by omega
 have j1:(i:Int) < (mx:Int):=by omega
 have j2:((i:Int)+1)≤((mx+1:Nat):Int):=by omega
 clear t0 t6 n2 n3 iv ik hm3
 have hle:i≤mx:=by omega
 have hck:¬l.ck=i+1:=by omega
 have s2:(0:Int)≤(i:Int)+1:=by omega
 have s3:((i:Int)+1).toNat=i+1:=by omega
 have s1:Ij.wrap ((i:Int)+1)=(i:Int)+1:=zh _ (by omega)
 go_still_tail 13,(by kernel_rfl)
 clear s1 s2 s3
 go_wp2_with fail
 refine kbW (fun w2=>Chg (fun b _=>b=w.heap.size+2) w1 w2∧w2.heap[w.heap.size+2]?=some (Ic #[Is (some ⟨l.cb,l.co+(i+1),none⟩) (mx - i) (l.ck - (i+1))] 111 (0,0))) ⟨?_,?_⟩ ?_
 ·repeat (first | refine ze ?_ | refine zd ?_ (.inl rfl) _ | exact zK _ _)
 ·rw [kbZ,kbV HB3.out];rfl
 rintro w2 ⟨hc2,hb3⟩
 have hsz1:w.heap.size+2 < w1.heap.size:=kbF HB3.out
 have hc12:Chg (fun b _=>b=w.heap.size+2) w w2:=hc1.trans' hc2 (fun _ _ _ h=>h.elim) i3
 have hn2:=hn1.chg hc2 (fun b o h1 h2=>HNEW.out b o (by omega) h1)
 have hb2:w2.heap[w.heap.size+1]?=some (Ic #[.int .u64 k.iso,Ii Ij 0,Is (some ⟨l.ib,l.io+(i+1) * 2,none⟩) (mx - (i+1)) (l.ic - (i+1)),Ip (some ⟨w.heap.size+2,0,none⟩)] 109 (0,0)):=by
  rw [hc2.block (by omega) (by intro o;omega)];exact HB2.out
 refine (kdN (w.heap.size+1) l.ib (l.io+(i+1) * 2) (mx - (i+1)) (l.ic - (i+1)) (w.heap.size+2) l.cb (l.co+(i+1)) (mx - i) (l.ck - (i+1)) 0 (fun j=>(kl.drop (i+1)).getD j 0) (fun j=>cf ((kl.drop (i+1)).getD j 0)) w2
  (kbB hb2 1) (kbC hb2 1) (kbB hb2 2) (kbB hb2 3) (kbB hb3 0) (by omega) (by omega) ?_ (by omega) ?_).mono ?_
 ·intro j hj
  have hjl:i+1+j < kl.length:=by omega
  have hg:(kl.drop (i+1)).getD j 0=kl[i+1+j]:=by simp [List.getD,hjl]
  rw [hg]
  obtain ⟨g1,g2,g3⟩:=HK.out kl[i+1+j] (List.getElem_mem hjl)
  have hlt:kl[i+1+j] < w.heap.size:=zg w _ g1
  refine ⟨?_,by omega,hc12.cell (by simp;omega) g1,g2⟩
  have:=hn2.kidc HK2.out (j:=i+1+j) (o:=some kl[i+1+j]) (by simp [hjl])
  rw [Nat.add_assoc];exact this
 ·have h1:=sumTo_ksum cf (kl.drop (i+1))
  rw [List.length_drop,show kl.length - (i+1)=mx - i by omega] at h1
  rw [h1]
  obtain ⟨s1,s2,s3⟩:=ksum_split cf kl (fun c hc=>(HK.out c hc).2.1) (i+1)
  omega
 rintro e w3 ⟨rfl,m,hw3⟩
 have hsz2:=hc2.size
 have hc3:Chg (fun b o=>b=w.heap.size+1∧o=1) w2 w3:=by
  rw [hw3];exact ((zK _ _).setCell (.inl ⟨rfl,rfl⟩) _).drewN _
 have HD1:Hid (w3.heap[w.heap.size+1]?=some (Ic #[.int .u64 k.iso,Ii Ij (((mx - (i+1):Nat):Int)+kfK (fun j=>cf ((kl.drop (i+1)).getD j 0)) (mx - i)),Is (some ⟨l.ib,l.io+(i+1) * 2,none⟩) (mx - (i+1)) (l.ic - (i+1)),Ip (some ⟨w.heap.size+2,0,none⟩)] 109 (0,0))) :=
  zL (by rw [hw3,kcB,kbV hb2];rfl)
 have HB3':Hid (w3.heap[w.heap.size+2]?=some (Ic #[Is (some ⟨l.cb,l.co+(i+1),none⟩) (mx - i) (l.ck - (i+1))] 111 (0,0))) :=
  zL (by rw [hc3.block (by omega) (by intro o;omega)];exact hb3)
 have HB1':Hid (w3.heap[w.heap.size]?=some (Ic #[Ii Ij x.1,Ii Ij x.2] 27 (0,0))) :=
  zL (by rw [hc3.block (by omega) (by intro o;omega),hc2.block (by omega) (by intro o;omega)];exact HB1.out)
 clear hw3 hb2 hb3
 have hn3:=hn2.chg hc3 (fun b o h1 h2=>HNEW.out b o (by omega) h1)
 have hc13:Chg (fun b _=>b=w.heap.size+1∨b=w.heap.size+2) w1 w3:=hc2.trans' hc3 (fun _ _ _ h=>.inr h) (fun _ _ _ h=>.inl h.1)
 have ht3:=ht1.chg hc13 (by intro b o hm;have:=ht.lt hm;omega)
 have n23:=hn3.c2
 rw [hlen] at n23
 have iv3:=hn3.mval hx
 have ik3:=hn3.mkey hx
 have e4:=ht3.c4
 have e5:=ht3.c5
 have fz0:=hn3.ifz (l.io+i * 2)
 have fz1:=hn3.ifz (l.io+i * 2+1)
 have fzn:=hn3.fz 2
 have n33:=hn3.c3s HK2.out
 have hibn:=hn3.d1
 obtain ⟨d1,d2,d3,d4,d5⟩:=hn3.d2 (by rw [HK2.out];simp)
 clear n31 nc1 r3 cc0 fcc hle hck j2
 go_wp2_with fail
 go_still_tail 10,(by kernel_rfl)
 go_wp2_with (first | (go_at_call 51;refine (kcJ _ (some ⟨l.cc,0,none⟩) _ ?_).mono ?_;(focus go_simp);rintro e w' ⟨rfl,rfl⟩))
 refine kbD (fun w4=>Chg (fun b o=>b=n∨(b=l.ib∧l.io+i * 2≤o∧o < l.io+(i+1) * 2)) w3 w4 ∧
   w4.heap[n]?=some (Ic #[.int .u64 k.iso,Ii Ij r.cnt,Is (some ⟨l.ib,l.io,none⟩) i i,Ip (some ⟨l.cc,0,none⟩)] 109 (0,0))) ⟨?_,?_⟩ ?_
 ·repeat (first | refine ze ?_ | refine zd ?_ (.inl ?_) _ | exact zK _ _)
  all_goals (simp;try omega)
 ·have hd:=hn3.hd
  unfold kgT at hd
  rw [HK2.out,hlen] at hd
  rw [kbZ,kbV (c:=#[.int .u64 k.iso,Ii Ij r.cnt,Is (some ⟨l.ib,l.io,none⟩) mx l.ic,Ip (some ⟨l.cc,0,none⟩)]) (T:=109) (fr:=(0,0))]
  ·rfl
  ·repeat rw [hs_ne _ (Ne.symm hibn)]
   exact hd
 rintro w4 ⟨hc4,hd4⟩
 have n34:=kbB hd4 3
 have cc4:w4.heap[l.cc]?=w3.heap[l.cc]?:=hc4.block (hn3.lt (.inr (.inr ⟨by rw [HK2.out];simp,.inl rfl⟩))) (by intro o;simp [d1,d3])
 rw [(hn3.kid _ HK2.out).1] at cc4
 have nc4:=kbB cc4 0
 have fc4:=kbC cc4 0
 simp only [zF,zD,zE,zU,hkl] at n34 nc4
 have HD4:=zL hd4
 have HC4:=zL cc4
 clear hd4 cc4 n23 iv3 ik3 e4 e5 fz0 fz1 fzn n33
 have hle:i≤mx:=by omega
 have hle2:i+1≤l.ck:=by omega
 have hle3:(i:Int)+1≤(l.ck:Int):=by omega
 have s2:(0:Int)≤(i:Int)+1:=by omega
 have s3:((i:Int)+1).toNat=i+1:=by omega
 have s1:Ij.wrap ((i:Int)+1)=(i:Int)+1:=zh _ (by omega)
 go_still_tail 15,(by kernel_rfl)
 clear s1 s2 s3
 go_wp2_with fail
 refine kbW (fun w5=>Chg (fun b _=>b=l.cc) w4 w5∧w5.heap[l.cc]?=some (Ic #[Is (some ⟨l.cb,l.co,none⟩) (i+1) (i+1)] 111 (0,0))) ⟨?_,?_⟩ ?_
 ·repeat (first | refine ze ?_ | refine zd ?_ (.inl rfl) _ | exact zK _ _)
 ·rw [kbZ,kbV HC4.out];rfl
 rintro w5 ⟨hc5,hb5⟩
 have hd5:w5.heap[n]?=some (Ic #[.int .u64 k.iso,Ii Ij r.cnt,Is (some ⟨l.ib,l.io,none⟩) i i,Ip (some ⟨l.cc,0,none⟩)] 109 (0,0)):=by
  rw [hc5.block (kbF HD4.out) (by intro o;exact Ne.symm d1)];exact HD4.out
 have hc35:Chg (fun b o=>b=n∨(b=l.ib∧l.io+i * 2≤o∧o < l.io+(i+1) * 2)∨b=l.cc) w3 w5 :=
  hc4.trans' hc5 (fun _ _ _ h=>by rcases h with h | h;exact .inl h;exact .inr (.inl h)) (fun _ _ _ h=>.inr (.inr h))
 have hext5:∀b o,(b=n∨(b=l.ib∧l.io+i * 2≤o∧o < l.io+(i+1) * 2)∨b=l.cc)→Ext (parM k) n r l b o:=by
  rintro b o (h | ⟨h1,h2,h3⟩ | h)
  ·exact .inl h
  ·exact .inr (.inl ⟨h1,by omega,by simpa [parM] using (show o < l.io+l.ic * 2 by omega)⟩)
  ·exact .inr (.inr ⟨by rw [HK2.out];simp,.inl h⟩)
 have hrow5:=hn3.kidPart HK2.out hc35 0 (i+1) (i+1) (by simp;omega) (by omega) (by omega) (by
  intro o h1 h2 h3
  rcases h3 with h3 | ⟨h3,_⟩ | h3
  ·exact d2 h3
  ·exact d4 h3
  ·exact d5 h3)
 refine (kdN n l.ib l.io i i l.cc l.cb l.co (i+1) (i+1) r.cnt (fun j=>(kl.take (i+1)).getD j 0) (fun j=>cf ((kl.take (i+1)).getD j 0)) w5
  (kbB hd5 1) (kbC hd5 1) (kbB hd5 2) (kbB hd5 3) (kbB hb5 0) d1 d2 ?_ (by omega) ?_).mono ?_
 ·intro j hj
  have hjl:j < kl.length:=by omega
  have hg:(kl.take (i+1)).getD j 0=kl[j]:=by simp [List.getD,hjl,hj]
  rw [hg]
  obtain ⟨g1,g2,g3⟩:=HK.out kl[j] (List.getElem_mem hjl)
  have hlt:kl[j] < w.heap.size:=zg w _ g1
  refine ⟨?_,fun e=>g3 0 (.inl e),?_,g2⟩
  ·have:=hrow5.cell (j:=j) (v:=kidV (some kl[j])) (by simp [hjl,hj])
   simpa [kidV] using this
  ·refine hc35.cell (fun h=>g3 1 (hext5 _ _ h)) (hc13.cell (by simp;omega) (hc1.cell (by simp) g1))
 ·have h1:=sumTo_ksum cf (kl.take (i+1))
  rw [zV,show min (i+1) kl.length=i+1 by omega] at h1
  rw [h1]
  obtain ⟨s1,s2,s3⟩:=ksum_split cf kl (fun c hc=>(HK.out c hc).2.1) (i+1)
  omega
 rintro e w6 ⟨rfl,m',hw6⟩
 have hc6:Chg (fun b o=>b=n∧o=1) w5 w6:=by
  rw [hw6];exact ((zK _ _).setCell (.inl ⟨rfl,rfl⟩) _).drewN _
 have HD6:Hid (w6.heap[n]?=some (Ic #[.int .u64 k.iso,Ii Ij ((i:Int)+kfK (fun j=>cf ((kl.take (i+1)).getD j 0)) (i+1)),Is (some ⟨l.ib,l.io,none⟩) i i,Ip (some ⟨l.cc,0,none⟩)] 109 (0,0))) :=
  zL (by rw [hw6,kcB,kbV hd5];rfl)
 clear hw6
 have HC6:Hid (w6.heap[l.cc]?=some (Ic #[Is (some ⟨l.cb,l.co,none⟩) (i+1) (i+1)] 111 (0,0))) :=
  zL (by rw [hc6.block (kbF hb5) (by intro o h;exact d1 h.1)];exact hb5)
 have hc36:Chg (fun b o=>b=n∨(b=l.ib∧l.io+i * 2≤o∧o < l.io+(i+1) * 2)∨b=l.cc) w3 w6 :=
  hc35.trans' hc6 i3 (fun _ _ _ h=>.inl h.1)
 have hsz3:=hc3.size
 have old36:∀b,w.heap.size≤b→b < w3.heap.size→w6.heap[b]?=w3.heap[b]?:=fun b hb hb2=>hc36.block hb2 (fun o h=>HNEW.out b o hb (hext5 _ _ h))
 have hb6:w6.heap[w.heap.size]?=some (Ic #[Ii Ij x.1,Ii Ij x.2] 27 (0,0)):=by
  rw [old36 _ (by omega) (by omega)];exact HB1'.out
 have q0:=kbB hb6 0
 have q1:=kbB hb6 1
 have q2:=kbC hb6 0
 have q3:=kbC hb6 1
 simp only [zF,zD,zE] at q0 q1
 clear hb6 hd5 hb5 n34 nc4 fc4 hle hle2 hle3
 go_wp2_with fail
 go_region
 go_wp2
 refine bodyPost_ret (v:=Iu #[Ip (some ⟨w.heap.size+1,0,none⟩),.agg #[Ii Ij x.1,Ii Ij x.2]]) (by simp [results,Try.results85,go_sem,q0,q1]) rfl ?_
 generalize hw7:World.drew _=w7
 have hc7:Chg (fun b _=>b=w.heap.size) w6 w7:=by
  rw [←hw7]
  repeat (first | refine ze ?_ | refine zd ?_ (.inl rfl) _ | exact zK _ _)
 have hsz6:=hc36.size
 have hc37:Chg (fun b o=>(b=n∨(b=l.ib∧l.io+i * 2≤o∧o < l.io+(i+1) * 2)∨b=l.cc)∨b=w.heap.size) w3 w7 :=
  hc36.trans' hc7 (fun _ _ _ h=>.inl h) (fun _ _ _ h=>.inr h)
 have hk1:=sumTo_ksum cf (kl.take (i+1))
 rw [zV,show min (i+1) kl.length=i+1 by omega] at hk1
 have hk2:=sumTo_ksum cf (kl.drop (i+1))
 rw [List.length_drop,show kl.length - (i+1)=mx - i by omega] at hk2
 have nlt3:n < w.heap.size:=nlt
 have hblk:=hn3.d2 (by rw [HK2.out];simp)
 refine ⟨w.heap.size+1,x,⟨l.ib,l.io,i,l.cc,l.cb,l.co,i+1⟩,⟨l.ib,l.io+(i+1) * 2,l.ic - (i+1),w.heap.size+2,l.cb,l.co+(i+1),l.ck - (i+1)⟩,rfl,hx,by omega,?_,?_,?_,rfl,rfl,rfl,rfl,rfl,rfl,fun _=>⟨rfl,rfl,rfl,rfl,by simp,rfl,rfl,rfl⟩⟩
 ·refine (hc1.trans' hc13 (B:=fun b _=>w.heap.size≤b) (fun _ _ _ h=>h.elim) (fun b o _ h=>by omega)).trans' hc37 (fun b o h1 h2=>by omega) ?_
  rintro b o hb (h | h)
  ·exact hext5 b o h
  ·omega
 ·refine ⟨?_,?_,?_,hibn,?_⟩
  ·rw [hc7.block (by omega) (by intro o;omega),HD6.out,hk1,HK2.out]
   simp [kgT,parM,hlen];omega
  ·have:=hn3.rowPart hc37 0 i i (by omega) (by omega) (by omega) (by
    intro o h1 h2 h3
    simp [parM] at h1 h2
    rcases h3 with (h3 | ⟨_,h3,_⟩ | h3) | h3
    ·exact hibn h3
    ·omega
    ·exact hblk.2.2.1 h3.symm
    ·omega)
   simpa [parM] using this
  ·intro ks hks
   rw [HK2.out] at hks
   obtain rfl:(kl.map some).take (i+1)=ks:=by simpa using hks
   refine ⟨?_,?_⟩
   ·show w7.heap[l.cc]?=_
    rw [hc7.block (by omega) (by intro o;omega),HC6.out]
    simp [parM,hkl];omega
   ·have:=hn3.kidPart HK2.out hc37 0 (i+1) (i+1) (by simp;omega) (by omega) (by omega) (by
     intro o h1 h2 h3
     rcases h3 with (h3 | ⟨h3,_⟩ | h3) | h3
     ·exact d2 h3
     ·exact d4 h3
     ·exact d5 h3
     ·omega)
    simpa using this
  ·intro _;exact hblk
 ·refine ⟨?_,?_,?_,?_,?_⟩
  ·rw [hc7.block (by omega) (by intro o;omega),old36 _ (by omega) (by omega),HD1.out,hk2,HK2.out]
   simp [kgT,parM,hlen]
  ·have:=hn3.rowPart hc37 (i+1) (r.items.length - (i+1)) (l.ic - (i+1)) (by omega) (by omega) (by omega) (by
    intro o h1 h2 h3
    simp [parM] at h1 h2
    rcases h3 with (h3 | ⟨_,_,h3⟩ | h3) | h3
    ·exact hibn h3
    ·omega
    ·exact hblk.2.2.1 h3.symm
    ·omega)
   rw [List.take_of_length_le (by simp)] at this
   simpa [parM] using this
  ·intro ks hks
   rw [HK2.out] at hks
   obtain rfl:(kl.map some).drop (i+1)=ks:=by simpa using hks
   refine ⟨?_,?_⟩
   ·show w7.heap[w.heap.size+2]?=_
    rw [hc7.block (by omega) (by intro o;omega),old36 _ (by omega) (by omega),HB3'.out]
    simp [parM,hkl]
   ·have:=hn3.kidPart HK2.out hc37 (i+1) (mx - i) (l.ck - (i+1)) (by simp;omega) (by omega) (by omega) (by
     intro o h1 h2 h3
     rcases h3 with (h3 | ⟨h3,_⟩ | h3) | h3
     ·exact d2 h3
     ·exact d4 h3
     ·exact d5 h3
     ·omega)
    rw [List.take_of_length_le (by simp;omega)] at this
    exact this
  ·show l.ib≠w.heap.size+1
   omega
  ·intro _
   show w.heap.size+2≠w.heap.size+1∧l.cb≠w.heap.size+1∧w.heap.size+2≠l.ib∧l.cb≠l.ib∧l.cb≠w.heap.size+2
   exact ⟨by omega,by omega,by omega,hblk.2.2.2.1,by omega⟩
end
section
open Go.RowKit
variable {ord:List Int} {k:Kc ord}
def SplitFam (k:Kc ord) (w:World) (F:Nat→Prop) (H:HN ord) (n:Nat) (r:NodeR (It ord)) (i:Nat) (cf:Nat→Int) (kl:List Nat) (e:Ending) (w':World):Prop :=
 ∃m x,e=Ir (Iu #[Ip (some ⟨m,0,none⟩),.agg #[Ii Ij x.1,Ii Ij x.2]])∧r.items[i]?=some x∧w.heap.size≤m∧Chg (fun b _=>F b) w w' ∧
  Fam (parM k) w' (grow F w w') (upd (upd H n ⟨i+ksum cf (kl.take (i+1)),r.items.take i,r.kids.map (·.take (i+1))⟩) m ⟨((r.items.length - (i+1):Nat):Int)+ksum cf (kl.drop (i+1)),r.items.drop (i+1),r.kids.map (·.drop (i+1))⟩)
theorem split_close {k:Kc ord} {w:World} {F:Nat→Prop} {H:HN ord} {n:Nat} {r:NodeR (It ord)} {i:Nat} {cf:Nat→Int} {kl:List Nat} {l:Lay} (hil:i+1≤r.items.length)
  (hil2:∀ks,r.kids=some ks→i+1≤ks.length) (hn:NodeAt (parM k) w n r l) (hF:∀b,Blk n r l b→F b)
  (cl:∀w' r1 l1 m r2 l2,Chg (Ext (parM k) n r l) w w'→NodeAt (parM k) w' n r1 l1→NodeAt (parM k) w' m r2 l2→w.heap.size≤m →
   (∀b o,Ext (parM k) n r1 l1 b o→Ext (parM k) n r l b o∨w.heap.size≤b)→(∀b o,Ext (parM k) m r2 l2 b o→Ext (parM k) n r l b o∨w.heap.size≤b)→(∀b o,Ext (parM k) n r1 l1 b o→¬Ext (parM k) m r2 l2 b o) →
   (∀b,Blk n r1 l1 b→Blk n r l b∨w.heap.size≤b)→(∀b,Blk m r2 l2 b→Blk n r l b∨w.heap.size≤b)→Fam (parM k) w' (grow F w w') (upd (upd H n r1) m r2))
  {e:Ending} {w':World} (h:SplitPost k w n r l i cf kl e w'):SplitFam k w F H n r i cf kl e w':=by
 obtain ⟨m,x,l1,l2,he,hx,hm,hc,h1,h2,a1,a2,a3,b1,b2,b3,hk⟩:=h
 have hcap:=hn.len
 have hnlt:=hn.lt (.inl rfl)
 have hilt:l.ib < w.heap.size:=hn.lt (.inr (.inl rfl))
 have kn:∀f:List (Option Nat)→List (Option Nat),r.kids.map f≠none→r.kids≠none:=by intro f h e;rw [e] at h;exact h rfl
 have es:(parM k).es=2:=rfl
 refine ⟨m,x,he,hx,hm,hc.mono fun b o _ hb=>hF b hb.blk,?_⟩
 have q1:i * 2≤l.ic * 2:=by omega
 refine cl w' _ l1 m _ l2 hc h1 h2 hm ?_ ?_ ?_ ?_ ?_
 ·rintro b o (h | ⟨e1,e2,e3⟩ | ⟨e0,e1⟩)
  ·exact .inl (.inl h)
  ·rw [a2] at e2;rw [a2,a3,es] at e3;rw [a1] at e1
   exact .inl (.inr (.inl ⟨e1,e2,by rw [es];omega⟩))
  ·obtain ⟨c1,c2,c3,c4,c5⟩:=hk (kn _ e0)
   refine .inl (.inr (.inr ⟨kn _ e0,?_⟩))
   rcases e1 with e1 | ⟨e1,e2,e3⟩
   ·exact .inl (e1.trans c1)
   ·rw [c3] at e2;rw [c3,c4] at e3
    refine .inr ⟨e1.trans c2,e2,?_⟩
    cases hks:r.kids with
    | none=>exact absurd hks (kn _ e0)
    | some ks=>have:=hn.klen hks;have:=hil2 ks hks;omega
 ·rintro b o (h | ⟨e1,e2,e3⟩ | ⟨e0,e1⟩)
  ·exact .inr (by omega)
  ·rw [b2] at e2;rw [b2,b3,es] at e3;rw [b1] at e1
   exact .inl (.inr (.inl ⟨e1,by omega,by rw [es];omega⟩))
  ·obtain ⟨c1,c2,c3,c4,c5,c6,c7,c8⟩:=hk (kn _ e0)
   rcases e1 with e1 | ⟨e1,e2,e3⟩
   ·exact .inr (by omega)
   ·rw [c7] at e2;rw [c7,c8] at e3
    refine .inl (.inr (.inr ⟨kn _ e0,.inr ⟨e1.trans c6,by omega,?_⟩⟩))
    omega
 ·have dd:=fun h=>hn.d2 h
  have d1:=hn.d1
  rintro b o (h | ⟨e1,e2,e3⟩ | ⟨e0,e1⟩) (g | ⟨g1,g2,g3⟩ | ⟨g0,g1⟩)
  ·omega
  ·rw [b1] at g1;exact d1 (g1.symm.trans h)
  ·obtain ⟨c1,c2,c3,c4,c5,c6,c7,c8⟩:=hk (kn _ g0)
   obtain ⟨d2,d3,_⟩:=dd (kn _ g0)
   rcases g1 with g1 | ⟨g1,_,_⟩
   ·omega
   ·rw [c6] at g1;exact d3 (g1.symm.trans h)
  ·rw [a1] at e1;omega
  ·rw [a2,a3,es] at e3;rw [b2] at g2;omega
  ·obtain ⟨c1,c2,c3,c4,c5,c6,c7,c8⟩:=hk (kn _ g0)
   obtain ⟨d2,d3,d4,d5,d6⟩:=dd (kn _ g0)
   rw [a1] at e1
   rcases g1 with g1 | ⟨g1,_,_⟩
   ·omega
   ·rw [c6] at g1;exact d5 (g1.symm.trans e1)
  ·obtain ⟨c1,c2,c3,c4,c5,c6,c7,c8⟩:=hk (kn _ e0)
   have:=hn.lt (b:=l.cc) (.inr (.inr ⟨kn _ e0,.inl rfl⟩))
   have:=hn.lt (b:=l.cb) (.inr (.inr ⟨kn _ e0,.inr rfl⟩))
   rcases e1 with e1 | ⟨e1,_,_⟩
   ·rw [c1] at e1;omega
   ·rw [c2] at e1;omega
  ·obtain ⟨c1,c2,c3,c4,c5,c6,c7,c8⟩:=hk (kn _ e0)
   obtain ⟨d2,d3,d4,d5,d6⟩:=dd (kn _ e0)
   rw [b1] at g1
   rcases e1 with e1 | ⟨e1,_,_⟩
   ·rw [c1] at e1;exact d4 (e1.symm.trans g1)
   ·rw [c2] at e1;exact d5 (e1.symm.trans g1)
  ·obtain ⟨c1,c2,c3,c4,c5,c6,c7,c8⟩:=hk (kn _ e0)
   obtain ⟨d2,d3,d4,d5,d6⟩:=dd (kn _ e0)
   have:=hn.lt (b:=l.cc) (.inr (.inr ⟨kn _ e0,.inl rfl⟩))
   have:=hn.lt (b:=l.cb) (.inr (.inr ⟨kn _ e0,.inr rfl⟩))
   rcases e1 with e1 | ⟨e1,e2,e3⟩<;>rcases g1 with g1 | ⟨g1,g2,g3⟩
   ·rw [c1] at e1;omega
   ·rw [c1] at e1;rw [c6] at g1;exact d6 (g1.symm.trans e1)
   ·rw [c2] at e1;omega
   ·rw [c3,c4] at e3;rw [c7] at g2;omega
 ·rintro b (h | h | ⟨e0,e1⟩)
  ·exact .inl (.inl h)
  ·exact .inl (.inr (.inl (h.trans a1)))
  ·obtain ⟨c1,c2,c3,c4,c5⟩:=hk (kn _ e0)
   rcases e1 with e1 | e1
   ·exact .inl (.inr (.inr ⟨kn _ e0,.inl (e1.trans c1)⟩))
   ·exact .inl (.inr (.inr ⟨kn _ e0,.inr (e1.trans c2)⟩))
 ·rintro b (h | h | ⟨e0,e1⟩)
  ·exact .inr (by omega)
  ·exact .inl (.inr (.inl (h.trans b1)))
  ·obtain ⟨c1,c2,c3,c4,c5,c6,c7,c8⟩:=hk (kn _ e0)
   rcases e1 with e1 | e1
   ·exact .inr (by omega)
   ·exact .inl (.inr (.inr ⟨kn _ e0,.inr (e1.trans c6)⟩))
theorem nodeSplit_any (k:Kc ord) (mn mx t n:Nat) (r:NodeR (It ord)) (w:World) (F:Nat→Prop) (H:HN ord) (hF:Fam (parM k) w F H) (ht:MapAt k mn mx w t) (hn:H n=some r) (kl:List Nat)
  (hk:(r.kids=none∧kl=[])∨(r.kids=some (kl.map some)∧kl.length=mx+1)) (hlen:r.items.length=mx) (hmx:mx≤1000) (hm3:3≤mx) (cf:Nat→Int)
  (hkid:∀c∈kl,c≠n∧∃s,H c=some s∧s.cnt=cf c∧0≤cf c) (hsum:ksum cf kl≤100000000000000) :
  Calls Tp 85 #[Ip (some ⟨t,0,none⟩),Ip (some ⟨n,0,none⟩)] w (SplitFam k w F H n r (mx / 2) cf kl):=by
 obtain ⟨l,hna,hb,ho,cl⟩:=hF.split hn
 rcases hk with ⟨hk,rfl⟩ | ⟨hk,hkl⟩
 ·exact (nodeSplit_leaf k mn mx t n r l w ht hna hk hlen hmx hm3 cf).mono fun e w' h=>split_close (by omega) (by rw [hk];simp) hna hb cl h
 ·refine (nodeSplit_branch k mn mx t n r l w ht hna kl hk hlen hmx hm3 hkl cf ?_ hsum).mono fun e w' h=>split_close (by omega) (by rw [hk];intro ks h;obtain rfl:=Iq h;simp;omega) hna hb cl h
  intro c hc
  obtain ⟨h1,s,h2,h3,h4⟩:=hkid c hc
  obtain ⟨⟨l',h5⟩,h6⟩:=ho c s h1 h2
  exact ⟨by rw [h5.c1,h3],h4,h6⟩
end
section
open Go.RowKit
variable {ord:List Int} {k:Kc ord}
variable {lt:It ord→It ord→Bool} {xs:List (It ord)} {i i':Nat}
theorem hit_same {x y y':It ord} (h:HitAt lt xs x i' y') (h':HitAt lt xs x i y):i'=i:=by
 rcases Nat.lt_trichotomy i' i with c | c | c
 ·exact absurd (h'.left i' y' c h.at_) (by rw [h.n1];simp)
 ·exact c
 ·exact absurd (h.left i y c h'.at_) (by rw [h'.n1];simp)
theorem hit_le {x y:It ord} (h:PosAt lt xs x i') (h':HitAt lt xs x i y):i'≤i:=by
 rcases Nat.lt_or_ge i i' with c | c
 ·exact absurd (h.left i y c h'.at_) (by rw [h'.n1];simp)
 ·exact c
theorem pos_same {x:It ord} (h:PosAt lt xs x i') (h':PosAt lt xs x i) (s:Swo lt):i'=i:=by
 have key:∀a b,PosAt lt xs x a→PosAt lt xs x b→¬a < b:=by
  intro a b ha hb c
  have hlt:a < xs.length:=zk c hb.le
  have h1:=ha.right a _ (zi _) (zH hlt)
  have h2:=hb.left a _ c (zH hlt)
  rw [s.asymm _ _ h1] at h2;cases h2
 have:=key i i' h' h
 have:=key i' i h h'
 omega
def SetHit (k:Kc ord) (w:World) (F:Nat→Prop) (H:HN ord) (n:Nat) (r:NodeR (It ord)) (x:It ord) (i:Nat) (y:It ord) (e:Ending) (w':World):Prop :=
 e=Ir (Iu #[.agg #[Ii Ij y.1,Ii Ij y.2],.bool true,.bool false])∧Fam (parM k) w' (grow F w w') (upd H n { r with items:=r.items.set i x })∧Chg (fun b _=>F b) w w'
theorem Run.setItemM {k:Kc ord} {w0 w:World} {n:Nat} {r0 r:NodeR (It ord)} {l0 l:Lay} (h:Run (parM k) w0 n r0 l0 w r l) (i:Nat) (x:It ord) (hi:i < r.items.length) :
  Run (parM k) w0 n r0 l0 ((w.setCell ⟨l.ib,l.io+i * 2,none⟩ (Ii Ij x.1)).setCell ⟨l.ib,l.io+i * 2+1,none⟩ (Ii Ij x.2)) { r with items:=r.items.set i x } l:=by
 obtain ⟨_,c,h1,h2,_⟩:=h.at_.row
 have hlen:=h.at_.len
 have hes:l.ic * (parM k).es=l.ic * 2:=by simp [parM]
 have hp:=h.putItems i [x] (by simp;omega)
 have e1:r.items.take i++[x]++r.items.drop (i+[x].length)=r.items.set i x:=by
  rw [List.set_eq_take_append_cons_drop,if_pos hi];simp
 rw [e1] at hp
 rw [putCells_two h1 (by omega)]
 exact hp
theorem nodeSet_hit (k:Kc ord) (mn mx t n:Nat) (pa:Addr) (dp:Int) (x y:It ord) (i:Nat) (r:NodeR (It ord)) (w:World) (F:Nat→Prop) (H:HN ord) (hF:Fam (parM k) w F H) (ht:MapAt k mn mx w t) (hn:H n=some r)
  (hpa:w.cell? pa=some (Ip (some ⟨n,0,none⟩))) (hs:Srt ltM r.items) (hlen:r.items.length≤1000) (hy:HitAt ltM r.items x i y) :
  Calls Tp 84 #[Ip (some ⟨t,0,none⟩),Ip (some pa),aggM x,Ip none,Ii Ij dp] w (SetHit k w F H n r x i y):=by
 obtain ⟨l,hna,hb,ho,cl⟩:=hF.work hn
 have t0:=ht.c0
 have n0:=hna.c0
 have hpk:(parM k).k=k.iso:=rfl
 rw [hpk] at n0
 have nlt:n < w.heap.size:=zg w _ n0
 have tlt:t < w.heap.size:=zg w _ t0
 have plt:=zg w _ hpa
 have hpa1:∀o,(w.alloc o).cell? pa=some (Ip (some ⟨n,0,none⟩)):=fun o=>by rw [World.cell?_alloc_lt w _ _ plt];exact hpa
 have hpa2:∀o o',((w.alloc o).alloc o').cell? pa=some (Ip (some ⟨n,0,none⟩)):=fun o o'=>by rw [World.cell?_alloc_lt _ _ _ (by simp;omega)];exact hpa1 o
 have hn1:∀o o',((w.alloc o).alloc o').cell? ⟨n,0,none⟩=some (.int .u64 k.iso):=fun o o'=>((hna.chg (((zK (fun _ _=>False) w).alloc o).alloc o') i3).c0)
 have ht1:∀o o',((w.alloc o).alloc o').cell? ⟨t,0,none⟩=some (.int .u64 k.iso):=fun o o'=>((ht.chg (((zK (fun _ _=>False) w).alloc o).alloc o') i3).c0)
 unfold aggM
 go_enter Try.func84,Try.ntmps84
 go_wp2_with fail
 go_quiet (fail)
 go_wp2_with fail
 clear hn1 ht1
 refine kbW (fun w1=>Chg (fun _ _=>False) w w1∧w1.heap[w.heap.size]?=some (Ic #[Ii Ij x.1,Ii Ij x.2] 27 (0,0))∧w1.heap[w.heap.size+1]?=some (Ic #[Ii Ij 0,Ii Ij 0] 27 (0,0))∧w1.heap[w.heap.size+2]?=some (Ic #[Ip (some ⟨n,0,none⟩)] 97 (0,0))) ⟨?_,?_,?_,?_⟩ ?_
 ·repeat (first | refine ze ?_ | refine zf ?_ _ | refine Chg.alloc ?_ _ | exact zK _ _)
 ·try simp only [kbZ,kcB]
  repeat (first | exact kbT _ _ rfl | (rw [kcZ _ _ (by simp;try omega)];try simp only [kbZ,kcB]))
 ·try simp only [kbZ,kcB]
  rw [kcZ _ _ (by simp;try omega)]
  try simp only [kbZ,kcB]
  exact kbT _ _ (by simp)
 ·try simp only [kbZ,kcB]
  exact kbT _ _ (by simp)
 rintro w1 ⟨hc1,hb1,hbp,hb2⟩
 have hn1:=hna.chg hc1 i3
 have ht1:=ht.chg hc1 (by simp)
 refine (kgC t x ht1 hn1 hs (by omega)).mono ?_
 rintro e w2 ⟨i',f,rfl,hw2,hf⟩
 have hfi:f=true∧i'=i:=by
  rcases hf with ⟨h1,y',h2⟩ | ⟨h1,h2⟩
  ·exact ⟨h1,hit_same h2 hy⟩
  ·exact absurd hy.n2 (by rw [h2.right i y (hit_le h2 hy) hy.at_];simp)
 obtain ⟨rfl,rfl⟩:=hfi
 have hc2:Chg (fun _ _=>False) w1 w2:=hw2
 have hn2:=hn1.chg hc2 i3
 have r0:Run (parM k) w n r l w2 r l:=((Run.start hna).still hc1).still hc2
 have hb1':w2.heap[w.heap.size]?=some (Ic #[Ii Ij x.1,Ii Ij x.2] 27 (0,0)):=by rw [hw2.block (kbF hb1) (fun _ h=>h)];exact hb1
 have hb2':w2.heap[w.heap.size+2]?=some (Ic #[Ip (some ⟨n,0,none⟩)] 97 (0,0)):=by rw [hw2.block (kbF hb2) (fun _ h=>h)];exact hb2
 have hbp':w2.heap[w.heap.size+1]?=some (Ic #[Ii Ij 0,Ii Ij 0] 27 (0,0)):=by rw [hw2.block (kbF hbp) (fun _ h=>h)];exact hbp
 have HB1:=zL hb1'
 have HB2:=zL hb2'
 have HBP:=zL hbp'
 have p0:=kbB hbp' 0
 have p1:=kbB hbp' 1
 have pf0:=kbC hbp' 0
 have pf1:=kbC hbp' 1
 have q0:=kbB hb1' 0
 have q1:=kbB hb1' 1
 have q2:=kbB hb2' 0
 simp only [zF,zD,zE] at q0 q1 q2 p0 p1
 have n2:=hn2.c2
 have iv:=hn2.mval hy.at_
 have ik:=hn2.mkey hy.at_
 
 have z0:=hn2.ifz (l.io+i' * 2)
 have z1:=hn2.ifz (l.io+i' * 2+1)
 have hilt:i' < r.items.length:=(zG.1 hy.at_).1
 have j0:(0:Int)≤(i':Int):=by omega
 have j1:(i':Int) < (r.items.length:Int):=by omega
 have hnew:∀b o,b=w.heap.size+1→w.heap.size≤b∧¬Ext (parM k) n r l b o:=fun b o e=>⟨by omega,fun h=>by have:=hna.lt h.blk;omega⟩
 clear hw2 hb1 hb2 hbp hb1' hb2' hbp' t0 n0 hpa hpa1 hpa2
 go_wp2_with fail
 refine kbD (fun w3=>Chg (fun b _=>b=w.heap.size+1) w2 w3∧w3.heap[w.heap.size+1]?=some (Ic #[Ii Ij y.1,Ii Ij y.2] 27 (0,0))) ⟨?_,?_⟩ ?_
 ·repeat (first | refine ze ?_ | refine zd ?_ (.inl rfl) _ | exact zK _ _)
 ·rw [kbV (kbV HBP.out _)];rfl
 rintro w3 ⟨hc3,hb3⟩
 have hi3:∀{b:Nat} {o:Obj},b≠w.heap.size+1→w2.heap[b]?=some o→w3.heap[b]?=some o:=fun h g=>by rw [hc3.block (kbF g) (fun _ e=>h e)];exact g
 have hb13:=hi3 (by omega) HB1.out
 have hb23:=hi3 (by omega) HB2.out
 clear q0 q1 q2 p0 p1 pf0 pf1 n2 iv ik z0 z1
 have hn3:=hn2.chg hc3 (fun b o h e=>(hnew b o e).2 h)
 have q0:=kbB hb13 0
 have q1:=kbB hb13 1
 have q2:=kbB hb23 0
 have p0:=kbB hb3 0
 have p1:=kbB hb3 1
 have pf0:=kbC hb3 0
 have pf1:=kbC hb3 1
 simp only [zF,zD,zE] at q0 q1 q2 p0 p1
 have n2:=hn3.c2
 have iv:=hn3.mval hy.at_
 have ik:=hn3.mkey hy.at_
 have z0:=hn3.ifz (l.io+i' * 2)
 have z1:=hn3.ifz (l.io+i' * 2+1)
 have hne:¬w.heap.size+1=l.ib:=by have:=hna.lt (b:=l.ib) (.inr (.inl rfl));omega
 have hne':¬l.ib=w.heap.size+1:=fun h=>hne h.symm
 clear hb13 hb23
 have r3:Run (parM k) w n r l w3 r l:=r0.aside hc3 hnew
 go_still_tail 7,(by kernel_rfl)
 go_wp2_with fail
 refine bodyPost_ret (v:=Iu #[.agg #[Ii Ij y.1,Ii Ij y.2],.bool true,.bool false]) (by simp [results,Try.results84,go_sem,p0,p1,hne,hne']) rfl ?_
 refine ⟨rfl,?_⟩
 refine cl _ _ _ (Run.aside (A:=fun b _=>b=w.heap.size+1) (r3.setItemM i' x hilt) ?_ hnew)
 repeat (first | refine ze ?_ | refine zd ?_ (.inl rfl) _ | exact zK _ _)
def SetFull (k:Kc ord) (w:World) (F:Nat→Prop) (H:HN ord) (e:Ending) (w':World):Prop :=
 e=Ir (Iu #[.agg #[Ii Ij 0,Ii Ij 0],.bool false,.bool true])∧Fam (parM k) w' (grow F w w') H∧Chg (fun _ _=>False) w w'
theorem Fam.idle {p:Par (It ord)} {w w':World} {F:Nat→Prop} {H:HN ord} (h:Fam p w F H) (c:Chg (fun _ _=>False) w w'):Fam p w' (grow F w w') H:=by
 refine (h.chg c fun _ _ _ h=>h).mono (fun b hb=>.inl hb) ?_
 rintro b (hb | hb)
 ·exact zk (h.lt hb) c.size
 ·exact hb.2
theorem nodeSet_leaf_full (k:Kc ord) (mn mx t n:Nat) (pa:Addr) (dp:Int) (x:It ord) (i:Nat) (r:NodeR (It ord)) (w:World) (F:Nat→Prop) (H:HN ord) (hF:Fam (parM k) w F H) (ht:MapAt k mn mx w t) (hn:H n=some r)
  (hpa:w.cell? pa=some (Ip (some ⟨n,0,none⟩))) (hs:Srt ltM r.items) (hlen:r.items.length=mx) (hmx:mx≤1000) (hy:PosAt ltM r.items x i) (hk:r.kids=none) :
  Calls Tp 84 #[Ip (some ⟨t,0,none⟩),Ip (some pa),aggM x,Ip none,Ii Ij dp] w (SetFull k w F H):=by
 obtain ⟨l,hna,hb,ho,cl⟩:=hF.work hn
 have t0:=ht.c0
 have n0:=hna.c0
 have hpk:(parM k).k=k.iso:=rfl
 rw [hpk] at n0
 have nlt:n < w.heap.size:=zg w _ n0
 have tlt:t < w.heap.size:=zg w _ t0
 have plt:=zg w _ hpa
 have hpa1:∀o,(w.alloc o).cell? pa=some (Ip (some ⟨n,0,none⟩)):=fun o=>by rw [World.cell?_alloc_lt w _ _ plt];exact hpa
 have hpa2:∀o o',((w.alloc o).alloc o').cell? pa=some (Ip (some ⟨n,0,none⟩)):=fun o o'=>by rw [World.cell?_alloc_lt _ _ _ (by simp;omega)];exact hpa1 o
 have hn1:∀o o',((w.alloc o).alloc o').cell? ⟨n,0,none⟩=some (.int .u64 k.iso):=fun o o'=>((hna.chg (((zK (fun _ _=>False) w).alloc o).alloc o') i3).c0)
 have ht1:∀o o',((w.alloc o).alloc o').cell? ⟨t,0,none⟩=some (.int .u64 k.iso):=fun o o'=>((ht.chg (((zK (fun _ _=>False) w).alloc o).alloc o') i3).c0)
 unfold aggM
 go_enter Try.func84,Try.ntmps84
 go_wp2_with fail
 go_quiet (fail)
 go_wp2_with fail
 clear hn1 ht1
 refine kbW (fun w1=>Chg (fun _ _=>False) w w1∧w1.heap[w.heap.size]?=some (Ic #[Ii Ij x.1,Ii Ij x.2] 27 (0,0))∧w1.heap[w.heap.size+1]?=some (Ic #[Ii Ij 0,Ii Ij 0] 27 (0,0))∧w1.heap[w.heap.size+2]?=some (Ic #[Ip (some ⟨n,0,none⟩)] 97 (0,0))) ⟨?_,?_,?_,?_⟩ ?_
 ·repeat (first | refine ze ?_ | refine zf ?_ _ | refine Chg.alloc ?_ _ | exact zK _ _)
 ·try simp only [kbZ,kcB]
  repeat (first | exact kbT _ _ rfl | (rw [kcZ _ _ (by simp;try omega)];try simp only [kbZ,kcB]))
 ·try simp only [kbZ,kcB]
  rw [kcZ _ _ (by simp;try omega)]
  try simp only [kbZ,kcB]
  exact kbT _ _ (by simp)
 ·try simp only [kbZ,kcB]
  exact kbT _ _ (by simp)
 rintro w1 ⟨hc1,hb1,hbp,hb2⟩
 have hn1:=hna.chg hc1 i3
 have ht1:=ht.chg hc1 (by simp)
 refine (kgC t x ht1 hn1 hs (by omega)).mono ?_
 rintro e w2 ⟨i',f,rfl,hw2,hf⟩
 have hfi:f=false:=by
  rcases hf with ⟨h1,y',h2⟩ | ⟨h1,h2⟩
  ·exact absurd h2.n2 (by rw [hy.right i' y' (hit_le hy h2) h2.at_];simp)
  ·exact h1
 obtain rfl:=hfi
 have hc2:Chg (fun _ _=>False) w1 w2:=hw2
 have hn2:=hn1.chg hc2 i3
 have ht2:=ht1.chg hc2 (by simp)
 have hb2':w2.heap[w.heap.size+2]?=some (Ic #[Ip (some ⟨n,0,none⟩)] 97 (0,0)):=by rw [hw2.block (kbF hb2) (fun _ h=>h)];exact hb2
 have hbp':w2.heap[w.heap.size+1]?=some (Ic #[Ii Ij 0,Ii Ij 0] 27 (0,0)):=by rw [hw2.block (kbF hbp) (fun _ h=>h)];exact hbp
 have p0:=kbB hbp' 0
 have p1:=kbB hbp' 1
 have pf0:=kbC hbp' 0
 have pf1:=kbC hbp' 1
 have q2:=kbB hb2' 0
 simp only [zF,zD,zE] at q2 p0 p1
 have n2:=hn2.c2
 rw [hlen] at n2
 have n3:=hn2.c3n hk
 have e4:=ht2.c4
 have e5:=ht2.c5
 
 have e7:=ht2.c7
 have hcc:=hc1.trans hc2
 clear hw2 hb1 hb2 hbp hb2' hbp' t0 n0 hpa hpa1 hpa2
 go_wp2_with (go_at_call 51;refine (kcJ _ none _ ?_).mono ?_;(focus go_simp);rintro e w' ⟨rfl,rfl⟩)
 go_quiet (fail)
 go_wp2_with fail
 refine bodyPost_ret (v:=Iu #[.agg #[Ii Ij 0,Ii Ij 0],.bool false,.bool true]) (by simp [results,Try.results84,go_sem,p0,p1]) rfl ?_
 have hce:∀w',Chg (fun b _=>b=w.heap.size+1) w2 w'→Fam (parM k) w' (grow F w w') H∧Chg (fun _ _=>False) w w':=fun w' c=>by
  have h:=hcc.trans' (B:=fun _ _=>False) c i3 (fun b o hb e=>by omega)
  exact ⟨hF.idle h,h⟩
 refine ⟨rfl,hce _ ?_⟩
 repeat (first | refine ze ?_ | refine zf ?_ _ | refine zd ?_ (.inl rfl) _ | exact zK _ _)
end
section
open Go.RowKit
theorem upList {β:Type} (ys:List β) (z:β) (i:Nat) (hi:i≤ys.length) (rest:List β):(ys++[z]).take (i+1)++ys.drop i++(ys++[z]).drop (i+1+(ys.drop i).length)=(ys++[z]).take (i+1)++ys.drop i:=by
 have h:(ys++[z]).drop (i+1+(ys.drop i).length)=[]:=List.drop_eq_nil_of_le (by simp;omega)
 rw [h,List.append_nil]
theorem upList_set {β:Type} (ys:List β) (z x:β) (i:Nat) (hi:i≤ys.length):((ys++[z]).take (i+1)++ys.drop i).set i x=ys.take i++x::ys.drop i:=by
 have h1:((ys++[z]).take (i+1)).length=i+1:=by simp;omega
 rw [List.set_append_left _ _ (by omega),List.set_eq_take_append_cons_drop,if_pos (by omega),List.drop_eq_nil_of_le (by omega),List.take_take,Nat.min_eq_left (by omega)]
 rw [List.take_append_of_le_length hi]
 simp
theorem kfT {β:Type} (ys:List β) (z:β) (i:Nat) (hi:i≤ys.length):((ys++[z]).take (i+1)++ys.drop i).length=ys.length+1:=by
 simp;omega
variable {α:Type} {P:Program} {p:Par α} {w0 w:World} {n:Nat} {r0 r:NodeR α} {l0 l:Lay}
theorem wpList_shift {ops:Array Oper} {rest:List Oper} {o':Oper} {a:Act} {Q:Exit→Act→World→Prop} (hgd:o'.guard=none) (d s:Operand) (dT sT:TypeId)
  (ho:o'.op=.call { callee:=.builtin .copy,args:=#[d,s],argTypes:=#[dT,sT] }) (elem:TypeId) (hu:P.underlying dT=some (.slice elem)) (hsz:(P.info? elem).map (·.size)=some p.es)
  (h1:Run p w0 n r0 l0 w r l) (ys:List α) (z:α) (hr:r.items=ys++[z]) (i od dl dc sl sc:Nat) (hi:i≤ys.length) (hod:i < ys.length→od=l.io+(i+1) * p.es) (hod2:od=l.io∨od=l.io+(i+1) * p.es)
  (hd:a.eval d=Is (some ⟨l.ib,od,none⟩) dl dc) (so:Nat) (hs:a.eval s=Is (some ⟨l.ib,so,none⟩) sl sc) (hso:so=l.io+i * p.es) (hdl:dl=ys.length - i) (hsl:sl=ys.length+1 - i)
  (h:∀w',Chg (fun b _=>b=l.ib) w w'→Run p w0 n r0 l0 w' { r with items:=(ys++[z]).take (i+1)++ys.drop i } l→wpList P ops Q rest (a.put o'.dst (goInt (Nat.min sl dl))) w'):wpList P ops Q (o'::rest) a w:=by
 obtain ⟨q0,c,q1,q2,q3⟩:=h1.at_.row
 have hlen:=h1.at_.len
 have hl1:r.items.length=ys.length+1:=by rw [hr];simp
 have m1:(ys.length+1) * p.es≤l.ic * p.es:=Nat.mul_le_mul_right _ (by omega)
 have m2:(i+1) * p.es≤(ys.length+1) * p.es:=Nat.mul_le_mul_right _ (by omega)
 have m3:(i+1) * p.es+(ys.length - i) * p.es=(ys.length+1) * p.es:=by rw [←Nat.add_mul];congr 1;omega
 have hcl:(flat p (ys.drop i)).length=(ys.length - i) * p.es:=by rw [kcW];simp
 have hmin:Nat.min sl dl=ys.length - i:=by rw [hsl,hdl];exact Nat.min_eq_right (by omega)
 refine kfP hgd d s dT sT ho elem p.es hu hsz l.ib od dl dc hd _ sl sc hs (flat p (ys.drop i)) (by rw [hmin,hcl]) ?_ c p.TI q1 ?_ (flat_one p _) ?_
 ·intro j v hj
  rw [kdS,hso]
  have e:(flat p r.items)[i * p.es+j]?=some v:=by
   rw [←List.getElem?_drop,flat_drop,hr,List.drop_append_of_le_length hi,flat_append,zn (zG.1 hj).1]
   exact hj
  have:=h1.at_.row.cell e
  rw [Nat.add_assoc]
  exact this
 ·rw [hcl]
  rcases Nat.lt_or_ge i ys.length with hlt | hge
  ·rw [hod hlt];omega
  ·rw [show ys.length - i=0 by omega,Nat.zero_mul]
   rcases hod2 with e | e<;>omega
 ·refine h _ ?_ ?_
  ·refine kdW (zK _ _) q1 ?_ (.inl fun _ _ _=>rfl)
   rw [hcl]
   rcases Nat.lt_or_ge i ys.length with hlt | hge
   ·rw [hod hlt];omega
   ·rw [show ys.length - i=0 by omega,Nat.zero_mul]
    rcases hod2 with e | e<;>omega
  ·rcases Nat.lt_or_ge i ys.length with hlt | hge
   ·have:=h1.putItems (i+1) (ys.drop i) (by rw [List.length_drop];omega)
    rw [hr,upList ys z i hi []] at this
    rw [hod hlt]
    exact this
   ·have e1:ys.drop i=[]:=List.drop_eq_nil_of_le hge
    have e2:(ys++[z]).take (i+1)=ys++[z]:=List.take_of_length_le (by simp;omega)
    rw [e1,e2,List.append_nil,←hr]
    refine h1.still (kdW (zK _ _) q1 ?_ (.inl fun o h1 h2=>?_))
    ·simp only [flat_nil,List.length_nil]
     rcases hod2 with e | e<;>omega
    ·simp only [flat_nil,List.length_nil] at h2
     omega
theorem wpList_shiftKids {ops:Array Oper} {rest:List Oper} {o':Oper} {a:Act} {Q:Exit→Act→World→Prop} (hgd:o'.guard=none) (d s:Operand) (dT sT:TypeId)
  (ho:o'.op=.call { callee:=.builtin .copy,args:=#[d,s],argTypes:=#[dT,sT] }) (elem:TypeId) (hu:P.underlying dT=some (.slice elem)) (hsz:(P.info? elem).map (·.size)=some 1)
  (h1:Run p w0 n r0 l0 w r l) (ys:List (Option Nat)) (z:Option Nat) (hr:r.kids=some (ys++[z])) (i od dl dc sl sc:Nat) (hi:i≤ys.length) (hod:i < ys.length→od=l.co+(i+1)) (hod2:od=l.co∨od=l.co+(i+1))
  (hd:a.eval d=Is (some ⟨l.cb,od,none⟩) dl dc) (so:Nat) (hs:a.eval s=Is (some ⟨l.cb,so,none⟩) sl sc) (hso:so=l.co+i) (hdl:dl=ys.length - i) (hsl:sl=ys.length+1 - i)
  (h:∀w',Chg (fun b _=>b=l.cb) w w'→Run p w0 n r0 l0 w' { r with kids:=some ((ys++[z]).take (i+1)++ys.drop i) } l→wpList P ops Q rest (a.put o'.dst (goInt (Nat.min sl dl))) w'):wpList P ops Q (o'::rest) a w:=by
 obtain ⟨k1,k2⟩:=h1.at_.kid _ hr
 obtain ⟨q0,c,q1,q2,q3⟩:=k2
 have hlen:=h1.at_.klen hr
 have hl1:(ys++[z]).length=ys.length+1:=by simp
 have hcl:((ys.drop i).map kidV).length=ys.length - i:=by simp
 have hmin:Nat.min sl dl=ys.length - i:=by rw [hsl,hdl];exact Nat.min_eq_right (by omega)
 refine kfP hgd d s dT sT ho elem 1 hu hsz l.cb od dl dc hd _ sl sc hs ((ys.drop i).map kidV) (by rw [hmin,hcl,Nat.mul_one]) ?_ c p.TP q1 ?_ ?_ ?_
 ·intro j v hj
  rw [kdS,hso]
  have e:((ys++[z]).map kidV)[i+j]?=some v:=by
   rw [←List.getElem?_drop,←List.map_drop,List.drop_append_of_le_length hi,List.map_append,zn (zG.1 hj).1]
   exact hj
  have:=(h1.at_.kid _ hr).2.cell e
  rw [Nat.add_assoc]
  exact this
 ·rw [hcl]
  rcases Nat.lt_or_ge i ys.length with hlt | hge
  ·rw [hod hlt];omega
  ·rcases hod2 with e | e<;>omega
 ·intro u hu
  obtain ⟨x,_,rfl⟩:=List.mem_map.1 hu
  cases x<;>rfl
 ·refine h _ ?_ ?_
  ·refine kdW (zK _ _) q1 ?_ (.inl fun _ _ _=>rfl)
   rw [hcl]
   rcases Nat.lt_or_ge i ys.length with hlt | hge
   ·rw [hod hlt];omega
   ·rcases hod2 with e | e<;>omega
  ·rcases Nat.lt_or_ge i ys.length with hlt | hge
   ·have:=h1.putKids hr (i+1) (ys.drop i) (by rw [List.length_drop];simp;omega)
    rw [upList ys z i hi []] at this
    rw [hod hlt]
    exact this
   ·have e1:ys.drop i=[]:=List.drop_eq_nil_of_le hge
    have e2:(ys++[z]).take (i+1)=ys++[z]:=List.take_of_length_le (by simp;omega)
    rw [e1,e2,List.append_nil,←hr]
    refine h1.still (kdW (zK _ _) q1 ?_ (.inl fun o h1 h2=>?_))
    ·simp only [List.map_nil,List.length_nil]
     rcases hod2 with e | e<;>omega
    ·simp only [List.map_nil,List.length_nil] at h2
     omega
end
section
open Go.RowKit
variable {ord:List Int} {k:Kc ord}
theorem kfS:(Try.prog.info? 27).map (fun i=>(i.zero,i.size,i.bytes))=some (some (.agg #[Ii Ij 0,Ii Ij 0]),2,16):=by kernel_rfl
theorem kdD:(Try.prog.info? 27).map (·.size)=some 2:=by kernel_rfl
theorem infoNode:(Try.prog.info? 97).map (fun i=>(i.zero,i.size,i.bytes))=some (some (Ip none),1,8):=by kernel_rfl
theorem kgH:(Try.prog.info? 97).map (·.size)=some 1:=by kernel_rfl
def SetNew (k:Kc ord) (w:World) (F:Nat→Prop) (H:HN ord) (n:Nat) (r:NodeR (It ord)) (x:It ord) (i:Nat) (e:Ending) (w':World):Prop :=
 e=Ir (Iu #[.agg #[Ii Ij 0,Ii Ij 0],.bool false,.bool false])∧Fam (parM k) w' (grow F w w') (upd H n { r with cnt:=r.cnt+1,items:=r.items.take i++x::r.items.drop i })∧Chg (fun b _=>F b) w w'
theorem nodeSet_leaf_room (k:Kc ord) (mn mx t n:Nat) (pa:Addr) (dp:Int) (x:It ord) (i:Nat) (r:NodeR (It ord)) (w:World) (F:Nat→Prop) (H:HN ord) (hF:Fam (parM k) w F H) (ht:MapAt k mn mx w t) (htF:∀b,MOwn k t b→¬F b) (hn:H n=some r)
  (hpa:w.cell? pa=some (Ip (some ⟨n,0,none⟩))) (hs:Srt ltM r.items) (hlen:r.items.length < mx) (hmx:mx≤1000) (hy:PosAt ltM r.items x i) (hk:r.kids=none) (hcnt:0≤r.cnt) (hcnt2:r.cnt≤100000000000000) :
  Calls Tp 84 #[Ip (some ⟨t,0,none⟩),Ip (some pa),aggM x,Ip none,Ii Ij dp] w (SetNew k w F H n r x i):=by
 obtain ⟨l,hna,hb,ho,cl⟩:=hF.work hn
 have t0:=ht.c0
 have n0:=hna.c0
 have hpk:(parM k).k=k.iso:=rfl
 rw [hpk] at n0
 have nlt:n < w.heap.size:=zg w _ n0
 have tlt:t < w.heap.size:=zg w _ t0
 have plt:=zg w _ hpa
 have hpa1:∀o,(w.alloc o).cell? pa=some (Ip (some ⟨n,0,none⟩)):=fun o=>by rw [World.cell?_alloc_lt w _ _ plt];exact hpa
 have hpa2:∀o o',((w.alloc o).alloc o').cell? pa=some (Ip (some ⟨n,0,none⟩)):=fun o o'=>by rw [World.cell?_alloc_lt _ _ _ (by simp;omega)];exact hpa1 o
 have hn1:∀o o',((w.alloc o).alloc o').cell? ⟨n,0,none⟩=some (.int .u64 k.iso):=fun o o'=>((hna.chg (((zK (fun _ _=>False) w).alloc o).alloc o') i3).c0)
 have ht1:∀o o',((w.alloc o).alloc o').cell? ⟨t,0,none⟩=some (.int .u64 k.iso):=fun o o'=>((ht.chg (((zK (fun _ _=>False) w).alloc o).alloc o') i3).c0)
 unfold aggM
 go_enter Try.func84,Try.ntmps84
 go_wp2_with fail
 go_quiet (fail)
 go_wp2_with fail
 clear hn1 ht1
 refine kbW (fun w1=>Chg (fun _ _=>False) w w1∧w1.heap[w.heap.size]?=some (Ic #[Ii Ij x.1,Ii Ij x.2] 27 (0,0))∧w1.heap[w.heap.size+1]?=some (Ic #[Ii Ij 0,Ii Ij 0] 27 (0,0))∧w1.heap[w.heap.size+2]?=some (Ic #[Ip (some ⟨n,0,none⟩)] 97 (0,0))) ⟨?_,?_,?_,?_⟩ ?_
 ·repeat (first | refine ze ?_ | refine zf ?_ _ | refine Chg.alloc ?_ _ | exact zK _ _)
 ·try simp only [kbZ,kcB]
  repeat (first | exact kbT _ _ rfl | (rw [kcZ _ _ (by simp;try omega)];try simp only [kbZ,kcB]))
 ·try simp only [kbZ,kcB]
  rw [kcZ _ _ (by simp;try omega)]
  try simp only [kbZ,kcB]
  exact kbT _ _ (by simp)
 ·try simp only [kbZ,kcB]
  exact kbT _ _ (by simp)
 rintro w1 ⟨hc1,hb1,hbp,hb2⟩
 have hn1:=hna.chg hc1 i3
 have ht1:=ht.chg hc1 (by simp)
 refine (kgC t x ht1 hn1 hs (by omega)).mono ?_
 rintro e w2 ⟨i',f,rfl,hw2,hf⟩
 have hfi:f=false∧i'=i:=by
  rcases hf with ⟨h1,y',h2⟩ | ⟨h1,h2⟩
  ·exact absurd h2.n2 (by rw [hy.right i' y' (hit_le hy h2) h2.at_];simp)
  ·exact ⟨h1,pos_same h2 hy swoM⟩
 obtain ⟨rfl,rfl⟩:=hfi
 have hc2:Chg (fun _ _=>False) w1 w2:=hw2
 have hn2:=hn1.chg hc2 i3
 have ht2:=ht1.chg hc2 (by simp)
 have r2:Run (parM k) w n r l w2 r l:=((Run.start hna).still hc1).still hc2
 have hb1':w2.heap[w.heap.size]?=some (Ic #[Ii Ij x.1,Ii Ij x.2] 27 (0,0)):=by rw [hw2.block (kbF hb1) (fun _ h=>h)];exact hb1
 have hb2':w2.heap[w.heap.size+2]?=some (Ic #[Ip (some ⟨n,0,none⟩)] 97 (0,0)):=by rw [hw2.block (kbF hb2) (fun _ h=>h)];exact hb2
 have hbp':w2.heap[w.heap.size+1]?=some (Ic #[Ii Ij 0,Ii Ij 0] 27 (0,0)):=by rw [hw2.block (kbF hbp) (fun _ h=>h)];exact hbp
 have HB1:=zL hb1'
 have HBP:=zL hbp'
 have HB2:=zL hb2'
 have q2:=kbB hb2' 0
 simp only [zF,zD] at q2
 have n2:=hn2.c2
 have n3:=hn2.c3n hk
 have e4:=ht2.c4
 have e5:=ht2.c5
 have e7:=ht2.c7
 have hcc:=hc1.trans hc2
 have htest:((r.items.length:Int) == (mx:Int))=false:=by simp;omega
 have htib:t≠l.ib:=fun h=>htF t MOwn.self (h▸hb _ (.inr (.inl rfl)))
 have hilt:=hna.lt (b:=l.ib) (.inr (.inl rfl))
 have hnib:n≠l.ib:=Ne.symm hna.d1
 clear hw2 hb1 hb2 hbp hb1' hb2' hbp' t0 n0 hpa hpa1 hpa2
 go_wp2_with (go_at_call 51;refine (kcJ _ none _ ?_).mono ?_;(focus go_simp);rintro e w' ⟨rfl,rfl⟩)
 go_quiet (fail)
 go_wp2_with fail
 refine kbD (fun w3=>Chg (fun _ _=>False) w2 w3) ((zK _ _).drewN _) ?_
 rintro w3 hc3
 replace q2:=hc3.q q2
 replace n2:=hc3.q n2
 replace e4:=hc3.q e4
 replace e5:=hc3.q e5
 have hn3:=hn2.chg hc3 i3
 have r3:=r2.still hc3
 have hz:=hcc.size
 have hz3:=hc3.size
 have hbs:w.heap.size+2 < w2.heap.size:=kbF HB2.out
 have hlen3:=hn3.len
 obtain ⟨i0,hi0,hz0,hz1,hz2⟩:=info_parts kfS
 have fz2:=hn3.fz 2
 have nlt3:n < w3.heap.size:=by omega
 have fz2a:∀o,(w3.alloc o).drew.frozen? ⟨n,2,none⟩=false:=fun o=>by rw [World.frozen?_drew,World.frozen?_alloc_past _ _ _ nlt3];exact fz2
 clear n3 e7 htest
 refine kcS (fun w'=>w'.cell? ⟨w.heap.size+2,0,none⟩=some (Ip (some ⟨n,0,none⟩))∧w'.cell? ⟨n,2,none⟩=some (Is (some ⟨l.ib,l.io,none⟩) r.items.length l.ic)∧w'.cell? ⟨t,7,none⟩=some (Ii Ij 0)∧w'.cell? ⟨t,8,none⟩=some (Ii Ij 0))
  11 [0,1,2,3,4,5,6,7,8] [9,10] (by kernel_rfl) (by kernel_rfl) (fun _ _ _ _ _ h=>h) rfl rfl ⟨q2,n2,e4,e5⟩ ?_
 simp only [kbK,zX,zY,zD,zE]
 iterate 9
  refine kbR ?_ rfl ?_ ?_
  rotate_left
  ·intro w' hS
   obtain ⟨s1,s2,s3,s4⟩:=hS
   go_simp
   try with_reducible rfl
  simp only [zJ,zA,zB,zC]
 refine kbS ?_
 refine kbN (fun K hK=>?_)
 go_simp
 refine hK _ _ ⟨?_,?_,?_,?_⟩ ?_
 iterate 4 go_keep
 clear hK K
 refine kbN (fun K hK=>?_)
 refine kcC _ _ _ (by rfl) 27 i0 _ 2 16 Try.underlying25 hi0 hz0 hz1 hz2 rfl l.ib l.io r.items.length l.ic (by rfl) (flat (parM k) r.items) ((hn3.row.alloc _).drew) (kcW _ _) ⟨w3.heap.size,0,none⟩ 1 _ (by rfl) [Ii Ij 0,Ii Ij 0] (by rfl) (World.news_of_block (cs:=#[Ii Ij 0,Ii Ij 0]) (t:=27) (fr:=(0,0)) (heap_alloc_new w3 _)) (by simp [Value.oneCell']) (by unfold maxLen;omega) (by omega) ?_
 intro b' o1 cap' w4 happ
 refine hK _ _ ⟨happ.chg.cell (fun h=>absurd h.1 (by show ¬(w.heap.size+2=l.ib);omega)) (by rw [World.cell?_drew,World.cell?_alloc_past _ _ _ (by omega)];exact q2),happ.chg.cell (fun h=>absurd h.1 hnib) (by rw [World.cell?_drew,World.cell?_alloc_past _ _ _ (by omega)];exact n2),happ.chg.cell (fun h=>absurd h.1 htib) (by rw [World.cell?_drew,World.cell?_alloc_past _ _ _ (by omega)];exact e4),happ.chg.cell (fun h=>absurd h.1 htib) (by rw [World.cell?_drew,World.cell?_alloc_past _ _ _ (by omega)];exact e5)⟩ ?_
 clear hK K
 simp only [kdC,za,zb,zJ,zA,zB,zC]
 have g2:w4.cell? ⟨n,2,none⟩=some (Is (some ⟨l.ib,l.io,none⟩) r.items.length l.ic):=happ.chg.cell (fun h=>absurd h.1 hnib) (by rw [World.cell?_drew,World.cell?_alloc_past _ _ _ (by omega)];exact n2)
 have z2:w4.frozen? ⟨n,2,none⟩=false:=by rw [happ.chg.frozen (by simp;omega)];exact fz2a _
 go_wp2_with fail
 have r3':=r3.still (((zK (fun _ _=>False) w3).alloc (Ic #[Ii Ij 0,Ii Ij 0] 27)).drew)
 have r5:=r3'.append [((0,0):It ord)] happ (zK _ _)
 have q5:(w4.setCell ⟨n,2,none⟩ (Is (some ⟨b',o1,none⟩) ((r.items.length+1:Nat)) cap')).cell? ⟨w.heap.size+2,0,none⟩=some (Ip (some ⟨n,0,none⟩)):=by
  rw [World.cell?_setCell_other _ _ _ _ (by simp)]
  exact happ.chg.cell (fun h=>absurd h.1 (by show ¬(w.heap.size+2=l.ib);omega)) (by rw [World.cell?_drew,World.cell?_alloc_past _ _ _ (by omega)];exact q2)
 have hb5:Hid ((w4.setCell ⟨n,2,none⟩ (Is (some ⟨b',o1,none⟩) ((r.items.length+1:Nat)) cap')).heap[w.heap.size]?=some (Ic #[Ii Ij x.1,Ii Ij x.2] 27 (0,0))) :=
  zL (by
   rw [hs_ne _ (by omega),happ.chg.block (by simp;omega) (fun o h=>by have:=h.1;omega),kbZ,kcZ _ _ (by omega),hc3.block (by omega) (fun _ h=>h)]
   exact HB1.out)
 have hp5:Hid ((w4.setCell ⟨n,2,none⟩ (Is (some ⟨b',o1,none⟩) ((r.items.length+1:Nat)) cap')).heap[w.heap.size+1]?=some (Ic #[Ii Ij 0,Ii Ij 0] 27 (0,0))) :=
  zL (by
   rw [hs_ne _ (by omega),happ.chg.block (by simp;omega) (fun o h=>by have:=h.1;omega),kbZ,kcZ _ _ (by omega),hc3.block (by omega) (fun _ h=>h)]
   exact HBP.out)
 have hroom:=happ.room
 clear g2 z2 q2 n2 e4 e5 fz2 fz2a r3' hz0 hz1 hz2 hi0
 have hpl:b'=l.ib∨w2.heap.size≤b':=by
  rcases happ.place with h | h
  ·exact .inl h.1
  ·have h2:=h.1
   simp at h2
   exact .inr (by omega)
 clear happ
 obtain ⟨l5,hl5⟩:∃l5,l5={ l with ib:=b',io:=o1,ic:=cap' }:=⟨_,rfl⟩
 refine kbD (fun w5=>∃l5,Run (parM k) w n r l w5 { r with items:=r.items++[((0,0):It ord)] } l5∧w5.cell? ⟨w.heap.size+2,0,none⟩=some (Ip (some ⟨n,0,none⟩)) ∧
  Hid (w5.heap[w.heap.size]?=some (Ic #[Ii Ij x.1,Ii Ij x.2] 27 (0,0)))∧Hid (w5.heap[w.heap.size+1]?=some (Ic #[Ii Ij 0,Ii Ij 0] 27 (0,0)))∧r.items.length+1≤l5.ic∧(l5.ib=l.ib∨w2.heap.size≤l5.ib)) ⟨_,r5,q5,hb5,hp5,hroom,hpl⟩ ?_
 clear q5 hb5 hp5 r5 hl5 hroom hpl l5
 rintro w5 ⟨l5,r5,q5,hb5,hp5,hroom,hpl⟩
 have n5:=r5.at_.c2
 simp only [zT,List.length_cons,List.length_nil,Nat.zero_add] at n5
 have hle:=hy.le
 have s0:(0:Int)≤(i':Int):=by omega
 have s2:(0:Int)≤(i':Int)+1:=by omega
 have s3:((i':Int)+1).toNat=i'+1:=by omega
 have hck2:¬l5.ic=i':=by omega
 have hle2:(i':Int)≤(r.items.length:Int)+1:=by omega
 obtain ⟨od,hif,hod,hod2⟩:∃od,(if l5.ic=i'+1 then some (⟨l5.ib,l5.io,none⟩:Addr) else some ⟨l5.ib,l5.io+(i'+1) * 2,none⟩)=some ⟨l5.ib,od,none⟩∧(i' < r.items.length→od=l5.io+(i'+1) * 2)∧(od=l5.io∨od=l5.io+(i'+1) * 2):=by
  by_cases h:l5.ic=i'+1
  ·exact ⟨l5.io,by rw [if_pos h],fun h2=>by omega,.inl rfl⟩
  ·exact ⟨_,by rw [if_neg h],fun _=>rfl,.inr rfl⟩
 have s1:Ij.wrap ((i':Int)+1)=(i':Int)+1:=zh _ (by omega)
 go_still_tail 13,(by kernel_rfl)
 refine wpList_shift (p:=parM k) (r:={ r with items:=r.items++[((0,0):It ord)] }) (by rfl) _ _ _ _ (by rfl) 27 (by kernel_rfl) kdD (r5.still ((zK _ _).drew)) r.items (0,0) rfl i' od _ _ _ _ hle (by simpa [parM] using hod) (by simpa [parM] using hod2) (by rfl) _ (by rfl) (by first | rfl | simp [parM]) (by omega) (by omega) ?_
 intro w6 hc6 r6
 replace hc6:Chg (fun b _=>b=l5.ib) w5 w6:=(((zK _ _).drew).trans hc6)
 have q6:=hc6.cell (fun h=>absurd h (by show ¬(w.heap.size+2=l5.ib);omega)) q5
 have hb6:Hid (w6.heap[w.heap.size]?=some (Ic #[Ii Ij x.1,Ii Ij x.2] 27 (0,0))):=zL (by
  rw [hc6.block (kbF hb5.out) (fun o h=>by omega)];exact hb5.out)
 have hp6:Hid (w6.heap[w.heap.size+1]?=some (Ic #[Ii Ij 0,Ii Ij 0] 27 (0,0))):=zL (by
  rw [hc6.block (kbF hp5.out) (fun o h=>by omega)];exact hp5.out)
 have n6:=r6.at_.c2
 have hl6:((r.items++[((0,0):It ord)]).take (i'+1)++r.items.drop i').length=r.items.length+1:=kfT _ _ _ hle
 simp only [hl6] at n6
 clear q5 hb5 hp5 n5 s1 s2 s3 hif hod hod2
 go_wp2_with fail
 refine kbD (fun w7=>Chg (fun _ _=>False) w6 w7) (zK _ _) ?_
 rintro w7 hc7
 replace q6:=hc7.q q6
 have hp7:w7.heap[w.heap.size+1]?=some (Ic #[Ii Ij 0,Ii Ij 0] 27 (0,0)):=by rw [hc7.block (kbF hp6.out) (fun _ h=>h)];exact hp6.out
 have pp0:=kbB hp7 0
 have pp1:=kbB hp7 1
 have pf0:=kbC hp7 0
 have pf1:=kbC hp7 1
 simp only [zF,zD,zE] at pp0 pp1
 clear hp7
 have b0:=kbB hb6.out 0
 have b1:=kbB hb6.out 1
 simp only [zF,zD,zE] at b0 b1
 replace b0:=hc7.q b0
 replace b1:=hc7.q b1
 replace n6:=hc7.q n6
 have z0:=((r6.still hc7).at_).ifz (l5.io+i' * 2)
 have z1:=((r6.still hc7).at_).ifz (l5.io+i' * 2+1)
 have j1:(i':Int) < (r.items.length:Int)+1:=by omega
 obtain ⟨y6,hy6⟩:∃y,((r.items++[((0,0):It ord)]).take (i'+1)++r.items.drop i')[i']?=some y:=⟨_,zH (by rw [hl6];omega)⟩
 have iv:=((r6.still hc7).at_).mval hy6
 have ik:=((r6.still hc7).at_).mkey hy6
 go_still_tail 7,(by kernel_rfl)
 have hr7:=r6.still hc7
 have hr7a:=hr7.at_
 have c7:=hr7a.c1
 have fz7:=hr7a.fz 1
 have tF:t≠n:=fun h=>htF t MOwn.self (h▸hb _ (.inl rfl))
 have e8:=(ht.chg hr7.chg (fun b o hm h=>htF b hm (hb _ h.blk))).c4
 have e9:=(ht.chg hr7.chg (fun b o hm h=>htF b hm (hb _ h.blk))).c5
 have u0:¬w.heap.size+1=l5.ib:=by omega
 have u0':¬l5.ib=w.heap.size+1:=by omega
 have u1:¬w.heap.size+1=n:=by omega
 have u1':¬n=w.heap.size+1:=by omega
 have p0:¬w.heap.size+2=l5.ib:=by omega
 have p0':¬l5.ib=w.heap.size+2:=by omega
 have p1:¬n=l5.ib:=Ne.symm hr7a.d1
 have p1':¬l5.ib=n:=hr7a.d1
 have p2:¬t=l5.ib:=by
  rcases hpl with h | h
  ·rw [h];exact htib
  ·omega
 have p2':¬l5.ib=t:=fun h=>p2 h.symm
 have p3:¬t=n:=tF
 have p3':¬n=t:=fun h=>tF h.symm
 have s1:Ij.wrap (r.cnt+1)=r.cnt+1:=zh _ (by omega)
 clear n6
 go_wp2_with fail
 refine bodyPost_ret (v:=Iu #[.agg #[Ii Ij 0,Ii Ij 0],.bool false,.bool false]) (by simp [results,Try.results84,go_sem,pp0,pp1,u0,u0',u1,u1']) rfl ?_
 refine ⟨rfl,?_⟩
 have r8:=hr7.setItemM i' x (Nat.lt_of_lt_of_eq (show i' < r.items.length+1 by omega) hl6.symm)
 have r9:=r8.setCnt (r.cnt+1)
 simp only [upList_set _ _ _ _ hle] at r9
 refine cl _ _ _ (Run.aside (A:=fun b _=>b=w.heap.size+1) r9 ?_ (fun b o e=>⟨by omega,fun h=>by
  rcases h with h | ⟨h,_⟩ | ⟨h,_⟩
  ·omega
  ·have h2:b=l5.ib:=h
   omega
  ·exact h hk⟩))
 repeat (first | refine ze ?_ | refine zf ?_ _ | refine zd ?_ (.inl rfl) _ | exact zK _ _)
end
section
open Go.RowKit
variable {ord:List Int} {k:Kc ord}
def KidPost (k:Kc ord) (F:Nat→Prop) (Z:World→(HN ord)→It ord→Bool→Bool→Prop) (w1:World) (e:Ending) (w':World):Prop :=
 ∃H' pr rp sp,e=Ir (Iu #[.agg #[Ii Ij pr.1,Ii Ij pr.2],.bool rp,.bool sp])∧Fam (parM k) w' (grow F w1 w') H'∧Chg (fun b _=>F b) w1 w'∧Z w1 H' pr rp sp
def KidOk (k:Kc ord) (w:World) (F:Nat→Prop) (n:Nat) (r:NodeR (It ord)) (Z:World→(HN ord)→It ord→Bool→Bool→Prop) (e:Ending) (w':World):Prop :=
 ∃w1 H' pr rp,Chg (fun _ _=>False) w w1∧Z w1 H' pr rp false∧e=Ir (Iu #[.agg #[Ii Ij pr.1,Ii Ij pr.2],.bool rp,.bool false]) ∧
  Fam (parM k) w' (grow F w w') (if rp then H' else upd H' n { r with cnt:=r.cnt+1 })∧Chg (fun b _=>F b) w w'
theorem nodeSet_kid_ok (k:Kc ord) (mn mx t n:Nat) (pa:Addr) (dp:Int) (x:It ord) (i:Nat) (r:NodeR (It ord)) (w:World) (F:Nat→Prop) (H:HN ord) (hF:Fam (parM k) w F H) (ht:MapAt k mn mx w t) (htF:∀b,MOwn k t b→¬F b) (hn:H n=some r)
  (hpa:w.cell? pa=some (Ip (some ⟨n,0,none⟩))) (hs:Srt ltM r.items) (hlen:r.items.length≤mx) (hmx:mx≤1000) (hy:PosAt ltM r.items x i) (kl:List Nat) (hk:r.kids=some (kl.map some)) (c:Nat) (hc:kl[i]?=some c) (hcnt:0≤r.cnt) (hcnt2:r.cnt≤100000000000000)
  (Z:World→(HN ord)→It ord→Bool→Bool→Prop)
  (hcall:∀w1 pa dp,Chg (fun _ _=>False) w w1→Fam (parM k) w1 F H→MapAt k mn mx w1 t→w1.cell? pa=some (Ip (some ⟨c,0,none⟩))→Calls Tp 84 #[Ip (some ⟨t,0,none⟩),Ip (some pa),aggM x,Ip none,Ii Ij dp] w1 (KidPost k F Z w1))
  (hZ:∀w1 H' pr rp sp,Z w1 H' pr rp sp→w.heap.size≤w1.heap.size→sp=false∧H' n=some r) :
  Calls Tp 84 #[Ip (some ⟨t,0,none⟩),Ip (some pa),aggM x,Ip none,Ii Ij dp] w (KidOk k w F n r Z):=by
 obtain ⟨l,hna,hb,ho,cl⟩:=hF.work hn
 have t0:=ht.c0
 have n0:=hna.c0
 have hpk:(parM k).k=k.iso:=rfl
 rw [hpk] at n0
 have nlt:n < w.heap.size:=zg w _ n0
 have tlt:t < w.heap.size:=zg w _ t0
 have plt:=zg w _ hpa
 have hpa1:∀o,(w.alloc o).cell? pa=some (Ip (some ⟨n,0,none⟩)):=fun o=>by rw [World.cell?_alloc_lt w _ _ plt];exact hpa
 have hpa2:∀o o',((w.alloc o).alloc o').cell? pa=some (Ip (some ⟨n,0,none⟩)):=fun o o'=>by rw [World.cell?_alloc_lt _ _ _ (by simp;omega)];exact hpa1 o
 have hn1:∀o o',((w.alloc o).alloc o').cell? ⟨n,0,none⟩=some (.int .u64 k.iso):=fun o o'=>((hna.chg (((zK (fun _ _=>False) w).alloc o).alloc o') i3).c0)
 have ht1:∀o o',((w.alloc o).alloc o').cell? ⟨t,0,none⟩=some (.int .u64 k.iso):=fun o o'=>((ht.chg (((zK (fun _ _=>False) w).alloc o).alloc o') i3).c0)
 unfold aggM
 go_enter Try.func84,Try.ntmps84
 go_wp2_with fail
 go_quiet (fail)
 go_wp2_with fail
 clear hn1 ht1
 refine kbW (fun w1=>Chg (fun _ _=>False) w w1∧w1.heap[w.heap.size]?=some (Ic #[Ii Ij x.1,Ii Ij x.2] 27 (0,0))∧w1.heap[w.heap.size+1]?=some (Ic #[Ii Ij 0,Ii Ij 0] 27 (0,0))∧w1.heap[w.heap.size+2]?=some (Ic #[Ip (some ⟨n,0,none⟩)] 97 (0,0))) ⟨?_,?_,?_,?_⟩ ?_
 ·repeat (first | refine ze ?_ | refine zf ?_ _ | refine Chg.alloc ?_ _ | exact zK _ _)
 ·try simp only [kbZ,kcB]
  repeat (first | exact kbT _ _ rfl | (rw [kcZ _ _ (by simp;try omega)];try simp only [kbZ,kcB]))
 ·try simp only [kbZ,kcB]
  rw [kcZ _ _ (by simp;try omega)]
  try simp only [kbZ,kcB]
  exact kbT _ _ (by simp)
 ·try simp only [kbZ,kcB]
  exact kbT _ _ (by simp)
 rintro w1 ⟨hc1,hb1,hbp,hb2⟩
 have hn1:=hna.chg hc1 i3
 have ht1:=ht.chg hc1 (by simp)
 refine (kgC t x ht1 hn1 hs (by omega)).mono ?_
 rintro e w2 ⟨i',f,rfl,hw2,hf⟩
 have hfi:f=false∧i'=i:=by
  rcases hf with ⟨h1,y',h2⟩ | ⟨h1,h2⟩
  ·exact absurd h2.n2 (by rw [hy.right i' y' (hit_le hy h2) h2.at_];simp)
  ·exact ⟨h1,pos_same h2 hy swoM⟩
 obtain ⟨rfl,rfl⟩:=hfi
 have hc2:Chg (fun _ _=>False) w1 w2:=hw2
 have hn2:=hn1.chg hc2 i3
 have ht2:=ht1.chg hc2 (by simp)
 have hb1':w2.heap[w.heap.size]?=some (Ic #[Ii Ij x.1,Ii Ij x.2] 27 (0,0)):=by rw [hw2.block (kbF hb1) (fun _ h=>h)];exact hb1
 have hb2':w2.heap[w.heap.size+2]?=some (Ic #[Ip (some ⟨n,0,none⟩)] 97 (0,0)):=by rw [hw2.block (kbF hb2) (fun _ h=>h)];exact hb2
 have hbp':w2.heap[w.heap.size+1]?=some (Ic #[Ii Ij 0,Ii Ij 0] 27 (0,0)):=by rw [hw2.block (kbF hbp) (fun _ h=>h)];exact hbp
 have HB1:=zL hb1'
 have HBP:=zL hbp'
 have HB2:=zL hb2'
 have q0:=kbB hb1' 0
 have q1:=kbB hb1' 1
 have q2:=kbB hb2' 0
 simp only [zF,zD,zE] at q0 q1 q2
 have n3:=hn2.c3s hk
 have hcc:=hc1.trans hc2
 have hkl:=(zG.1 hc).1
 have g1:=hn2.cc hk
 rw [zU] at g1
 have g2:=hn2.kidc hk (j:=i') (o:=some c) (by simp [hc])
 clear hw2 hb1 hb2 hbp hb1' hb2' hbp' t0 n0 hpa hpa1 hpa2
 go_wp2_with (go_at_call 51;refine (kcJ _ (some ⟨l.cc,0,none⟩) _ ?_).mono ?_;(focus go_simp);rintro e w' ⟨rfl,rfl⟩)
 refine kbD (fun w3=>Chg (fun _ _=>False) w2 w3) (zK _ _) ?_
 rintro w3 hc3
 replace q0:=hc3.q q0
 replace q1:=hc3.q q1
 replace q2:=hc3.q q2
 replace n3:=hc3.q n3
 replace g1:=hc3.q g1
 replace g2:=hc3.q g2
 have hcc3:=hcc.trans hc3
 have j0:(0:Int)≤(i':Int):=by omega
 have j1:(i':Int) < (kl.length:Int):=by omega
 have HB1':Hid (w3.heap[w.heap.size]?=some (Ic #[Ii Ij x.1,Ii Ij x.2] 27 (0,0))):=zL (by rw [hc3.block (kbF HB1.out) (fun _ h=>h)];exact HB1.out)
 have HBP':Hid (w3.heap[w.heap.size+1]?=some (Ic #[Ii Ij 0,Ii Ij 0] 27 (0,0))):=zL (by rw [hc3.block (kbF HBP.out) (fun _ h=>h)];exact HBP.out)
 have HB2':Hid (w3.heap[w.heap.size+2]?=some (Ic #[Ip (some ⟨n,0,none⟩)] 97 (0,0))):=zL (by rw [hc3.block (kbF HB2.out) (fun _ h=>h)];exact HB2.out)
 refine kfN (fun w'=>w'.cell? ⟨w.heap.size,0,none⟩=some (Ii Ij x.1)∧w'.cell? ⟨w.heap.size,1,none⟩=some (Ii Ij x.2)∧w'.cell? ⟨w.heap.size+2,0,none⟩=some (Ip (some ⟨n,0,none⟩))∧w'.cell? ⟨n,3,none⟩=some (Ip (some ⟨l.cc,0,none⟩))∧w'.cell? ⟨l.cc,0,none⟩=some (Is (some ⟨l.cb,l.co,none⟩) kl.length l.ck))
  13 [0,1,2,3,4,5,6,7,8,9,10,11,12] _ [(14,true),(15,true),(16,true),(17,true),(18,false),(19,true),(20,true)] (by kernel_rfl) (by kernel_rfl) (fun _ _ _ _ _ h=>h) rfl rfl ⟨q0,q1,q2,n3,g1⟩ ?_
 simp only [kbK,zX,zY,zD,zE]
 iterate 13
  refine kbR ?_ rfl ?_ ?_
  rotate_left
  ·intro w' hS
   obtain ⟨s0,s1,s2,s3,s4⟩:=hS
   go_simp
   try with_reducible rfl
  simp only [zJ,zA,zB,zC]
 refine kbS ?_
 refine wp_hide (fun K hK=>?_)
 go_simp
 go_at_call 84
 have hc13:Chg (fun _ _=>False) w w3.drew:=hcc3.drew
 refine (hcall _ _ _ hc13 (hF.chg hc13 i3) (ht.chg hc13 (by simp)) g2).mono ?_
 rintro e w4 ⟨H',pr,rp,sp,rfl,hF4,hc4,hz4⟩
 obtain ⟨rfl,hn4⟩:=hZ _ _ _ _ _ hz4 hc13.size
 replace hc4:Chg (fun b _=>F b) w3 w4:=((zK _ _).drew).trans hc4
 have nF:∀b,w.heap.size≤b→¬F b:=fun b hb h=>Nat.lt_irrefl _ (zk (hF.lt h) hb)
 have hbp4:w4.heap[w.heap.size+1]?=some (Ic #[Ii Ij 0,Ii Ij 0] 27 (0,0)):=by rw [hc4.block (kbF HBP'.out) (fun _ h=>nF _ (zl _ _) h)];exact HBP'.out
 have p0:=kbB hbp4 0
 have p1:=kbB hbp4 1
 have pf0:=kbC hbp4 0
 have pf1:=kbC hbp4 1
 simp only [zF,zD,zE] at p0 p1
 have HBP4:=zL hbp4
 clear hbp4
 refine hK _ _ ?_
 clear hK K
 iterate 4
  refine kcN (by rfl) ?_ (by simp [zI,yielded]) ?_ ?_
  rotate_left
  ·intro w' hS
   try obtain ⟨a1⟩:=hS
   go_simp
   try with_reducible rfl
  simp only [zJ,zA,zB,zC]
 refine kcR (by rfl) (by simp [zI,yielded]) (fun K hK=>?_)
 go_simp
 refine hK _ _ (fun _=>trivial) ?_
 clear hK K
 iterate 2
  refine kcN (by rfl) ?_ (by simp [zI,yielded]) ?_ ?_
  rotate_left
  ·intro w' hS
   try obtain ⟨a1⟩:=hS
   go_simp
   try with_reducible rfl
  simp only [zJ,zA,zB,zC]
 refine kdQ ?_
 refine kbQ (fun w5=>Chg (fun b _=>b=w.heap.size+1) w4 w5∧w5.heap[w.heap.size+1]?=some (Ic #[Ii Ij pr.1,Ii Ij pr.2] 27 (0,0))) ⟨?_,?_⟩ ?_
 ·repeat (first | refine ze ?_ | refine zd ?_ (.inl rfl) _ | exact zK _ _)
 ·rw [kbV (kbV HBP4.out _)];rfl
 clear p0 p1 pf0 pf1
 rintro w5 ⟨hc5,hbp5⟩
 have p0:=kbB hbp5 0
 have p1:=kbB hbp5 1
 have pf0:=kbC hbp5 0
 have pf1:=kbC hbp5 1
 simp only [zF,zD,zE] at p0 p1
 have hc45:Chg (fun b _=>F b∨b=w.heap.size+1) w3 w5:=hc4.trans' hc5 (fun _ _ _ h=>.inl h) (fun _ _ _ h=>.inr h)
 have q5:=hc45.cell (fun h=>by rcases h with h | h;exact nF _ (zl _ _) h;simp at h) q2
 have hF5:=hF4.chg hc5 (fun b o hb e=>by
  rcases hb with hb | hb
  ·exact nF b (by omega) hb
  ·have h1:=hb.1;have h2:=kbF HBP'.out;have h3:w3.drew.heap.size=w3.heap.size:=rfl;omega)
 obtain ⟨l4,hna4,hb4,ho4,cl4⟩:=hF5.work hn4
 have c4:=hna4.c1
 have fz4:=hna4.fz 1
 have hsz3:=hc13.size
 have hsz4:=hc4.size
 have hsz5:=hc5.size
 have hw05:Chg (fun b _=>F b) w w5:=(hcc3.trans' (B:=fun b o=>F b∨b=w.heap.size+1) hc45 (fun _ _ _ h=>h.elim) i3).mono (fun b o hb h=>by
  rcases h with h | h
  ·exact h
  ·omega)
 have s1:Ij.wrap (r.cnt+1)=r.cnt+1:=zh _ (by omega)
 have u1:¬w.heap.size+1=n:=by omega
 have u1':¬n=w.heap.size+1:=by omega
 have hg5:∀b,grow F w3.drew w4 b→grow F w3.drew w5 b:=fun b h=>by
  rcases h with h | h
  ·exact .inl h
  ·exact .inr ⟨h.1,by omega⟩
 clear q0 q1 q2 n3 g1 g2
 cases rp
 ·go_wp2_with fail
  refine bodyPost_ret (v:=Iu #[.agg #[Ii Ij pr.1,Ii Ij pr.2],.bool false,.bool false]) (by simp [results,Try.results84,go_sem,p0,p1,u1,u1']) rfl ?_
  have hpf:∀w',Chg (fun b _=>b=w.heap.size+1) (w5.setCell ⟨n,1,none⟩ (Ii Ij (r.cnt+1))) w'→Fam (parM k) w' (grow F w w') (upd H' n { r with cnt:=r.cnt+1 })∧Chg (fun b _=>F b) w w':=by
   intro w' c
   obtain ⟨f5,g5⟩:=cl4 _ _ _ ((Run.start hna4).setCnt (r.cnt+1))
   have hsw:=c.size
   simp at hsw
   have f6:=f5.chg c (fun b o hb e=>by
    rcases hb with (hb | hb) | hb
    ·exact nF b (by omega) hb
    ·have h1:=hb.1;have h2:=kbF HBP'.out;have h3:w3.drew.heap.size=w3.heap.size:=rfl;omega
    ·have h1:=hb.1;have h2:=kbF HBP'.out;omega)
   refine ⟨f6.mono (fun b hb=>?_) (fun b hb=>?_),?_⟩
   ·rcases hb with (hb | hb) | hb
    ·exact .inl hb
    ·have h1:=hb.1;have h3:w3.drew.heap.size=w3.heap.size:=rfl;have h4:=hcc3.size;exact .inr ⟨by omega,by omega⟩
    ·have h1:=hb.1;have h2:=hb.2;simp at h2;exact .inr ⟨by omega,by omega⟩
   ·rcases hb with hb | hb
    ·exact f6.lt (.inl (.inl hb))
    ·exact hb.2
   ·refine (hw05.trans' g5 (B:=fun b _=>F b∨b=w.heap.size+1) (fun _ _ _ h=>.inl h) (fun b o hb h=>?_)).trans' c (fun b o hb h=>?_) (fun b o hb e=>by omega)
    ·rcases h with h | h
     ·exact .inl h
     ·have h1:=h.1;have h3:w3.drew.heap.size=w3.heap.size:=rfl;have h4:=hcc3.size;omega
    ·rcases h with h | h
     ·exact h
     ·omega
  have fin:∀w',Chg (fun b _=>b=w.heap.size+1) (w5.setCell ⟨n,1,none⟩ (Ii Ij (r.cnt+1))) w'→KidOk k w F n r Z (Ir (Iu #[.agg #[Ii Ij pr.1,Ii Ij pr.2],.bool false,.bool false])) w':=fun w' c=>by
   obtain ⟨f7,g7⟩:=hpf w' c
   exact ⟨_,H',pr,false,hc13,hz4,rfl,f7,g7⟩
  refine fin _ ?_
  repeat (first | refine ze ?_ | refine zf ?_ _ | refine zd ?_ (.inl rfl) _ | exact zK _ _)
 ·go_wp2_with fail
  refine bodyPost_ret (v:=Iu #[.agg #[Ii Ij pr.1,Ii Ij pr.2],.bool true,.bool false]) (by simp [results,Try.results84,go_sem,p0,p1]) rfl ?_
  have hpf:∀w',Chg (fun b _=>b=w.heap.size+1) w5 w'→Fam (parM k) w' (grow F w w') H'∧Chg (fun b _=>F b) w w':=by
   intro w' c
   have hsw:=c.size
   have f6:=hF5.chg c (fun b o hb e=>by
    rcases hb with hb | hb
    ·exact nF b (by omega) hb
    ·have h1:=hb.1;have h2:=kbF HBP'.out;have h3:w3.drew.heap.size=w3.heap.size:=rfl;omega)
   refine ⟨f6.mono (fun b hb=>?_) (fun b hb=>?_),hw05.trans' (B:=fun b _=>F b) c i3 (fun b o hb e=>by omega)⟩
   ·rcases hb with hb | hb
    ·exact .inl hb
    ·have h1:=hb.1;have h3:w3.drew.heap.size=w3.heap.size:=rfl;have h4:=hcc3.size;exact .inr ⟨by omega,by omega⟩
   ·rcases hb with hb | hb
    ·exact f6.lt (.inl hb)
    ·exact hb.2
  have fin:∀w',Chg (fun b _=>b=w.heap.size+1) (w5) w'→KidOk k w F n r Z (Ir (Iu #[.agg #[Ii Ij pr.1,Ii Ij pr.2],.bool true,.bool false])) w':=fun w' c=>by
   obtain ⟨f7,g7⟩:=hpf w' c
   exact ⟨_,H',pr,true,hc13,hz4,rfl,f7,g7⟩
  refine fin _ ?_
  repeat (first | refine ze ?_ | refine zf ?_ _ | refine zd ?_ (.inl rfl) _ | exact zK _ _)
end
section
open Go.RowKit
variable {ord:List Int} {k:Kc ord}
def SetNo (k:Kc ord) (w:World) (F:Nat→Prop) (H:HN ord) (e:Ending) (w':World):Prop :=
 e=Ir (Iu #[.agg #[Ii Ij 0,Ii Ij 0],.bool false,.bool true])∧Fam (parM k) w' (grow F w w') H∧Chg (fun b _=>F b) w w'
theorem nodeSet_kid_full (k:Kc ord) (mn mx t n:Nat) (pa:Addr) (dp:Int) (x:It ord) (i:Nat) (r:NodeR (It ord)) (w:World) (F:Nat→Prop) (H:HN ord) (hF:Fam (parM k) w F H) (ht:MapAt k mn mx w t) (htF:∀b,MOwn k t b→¬F b) (hn:H n=some r)
  (hpa:w.cell? pa=some (Ip (some ⟨n,0,none⟩))) (hs:Srt ltM r.items) (hlen:r.items.length=mx) (hmx:mx≤1000) (hy:PosAt ltM r.items x i) (kl:List Nat) (hk:r.kids=some (kl.map some)) (c:Nat) (hc:kl[i]?=some c)
  (Z:World→(HN ord)→It ord→Bool→Bool→Prop)
  (hcall:∀w1 pa dp,Chg (fun _ _=>False) w w1→Fam (parM k) w1 F H→MapAt k mn mx w1 t→w1.cell? pa=some (Ip (some ⟨c,0,none⟩))→Calls Tp 84 #[Ip (some ⟨t,0,none⟩),Ip (some pa),aggM x,Ip none,Ii Ij dp] w1 (KidPost k F Z w1))
  (hZ:∀w1 H' pr rp sp,Z w1 H' pr rp sp→w.heap.size≤w1.heap.size→sp=true∧H'=H) :
  Calls Tp 84 #[Ip (some ⟨t,0,none⟩),Ip (some pa),aggM x,Ip none,Ii Ij dp] w (SetNo k w F H):=by
 obtain ⟨l,hna,hb,ho,cl⟩:=hF.work hn
 have t0:=ht.c0
 have n0:=hna.c0
 have hpk:(parM k).k=k.iso:=rfl
 rw [hpk] at n0
 have nlt:n < w.heap.size:=zg w _ n0
 have tlt:t < w.heap.size:=zg w _ t0
 have plt:=zg w _ hpa
 have hpa1:∀o,(w.alloc o).cell? pa=some (Ip (some ⟨n,0,none⟩)):=fun o=>by rw [World.cell?_alloc_lt w _ _ plt];exact hpa
 have hpa2:∀o o',((w.alloc o).alloc o').cell? pa=some (Ip (some ⟨n,0,none⟩)):=fun o o'=>by rw [World.cell?_alloc_lt _ _ _ (by simp;omega)];exact hpa1 o
 have hn1:∀o o',((w.alloc o).alloc o').cell? ⟨n,0,none⟩=some (.int .u64 k.iso):=fun o o'=>((hna.chg (((zK (fun _ _=>False) w).alloc o).alloc o') i3).c0)
 have ht1:∀o o',((w.alloc o).alloc o').cell? ⟨t,0,none⟩=some (.int .u64 k.iso):=fun o o'=>((ht.chg (((zK (fun _ _=>False) w).alloc o).alloc o') i3).c0)
 unfold aggM
 go_enter Try.func84,Try.ntmps84
 go_wp2_with fail
 go_quiet (fail)
 go_wp2_with fail
 clear hn1 ht1
 refine kbW (fun w1=>Chg (fun _ _=>False) w w1∧w1.heap[w.heap.size]?=some (Ic #[Ii Ij x.1,Ii Ij x.2] 27 (0,0))∧w1.heap[w.heap.size+1]?=some (Ic #[Ii Ij 0,Ii Ij 0] 27 (0,0))∧w1.heap[w.heap.size+2]?=some (Ic #[Ip (some ⟨n,0,none⟩)] 97 (0,0))) ⟨?_,?_,?_,?_⟩ ?_
 ·repeat (first | refine ze ?_ | refine zf ?_ _ | refine Chg.alloc ?_ _ | exact zK _ _)
 ·try simp only [kbZ,kcB]
  repeat (first | exact kbT _ _ rfl | (rw [kcZ _ _ (by simp;try omega)];try simp only [kbZ,kcB]))
 ·try simp only [kbZ,kcB]
  rw [kcZ _ _ (by simp;try omega)]
  try simp only [kbZ,kcB]
  exact kbT _ _ (by simp)
 ·try simp only [kbZ,kcB]
  exact kbT _ _ (by simp)
 rintro w1 ⟨hc1,hb1,hbp,hb2⟩
 have hn1:=hna.chg hc1 i3
 have ht1:=ht.chg hc1 (by simp)
 refine (kgC t x ht1 hn1 hs (by omega)).mono ?_
 rintro e w2 ⟨i',f,rfl,hw2,hf⟩
 have hfi:f=false∧i'=i:=by
  rcases hf with ⟨h1,y',h2⟩ | ⟨h1,h2⟩
  ·exact absurd h2.n2 (by rw [hy.right i' y' (hit_le hy h2) h2.at_];simp)
  ·exact ⟨h1,pos_same h2 hy swoM⟩
 obtain ⟨rfl,rfl⟩:=hfi
 have hc2:Chg (fun _ _=>False) w1 w2:=hw2
 have hn2:=hn1.chg hc2 i3
 have ht2:=ht1.chg hc2 (by simp)
 have hb1':w2.heap[w.heap.size]?=some (Ic #[Ii Ij x.1,Ii Ij x.2] 27 (0,0)):=by rw [hw2.block (kbF hb1) (fun _ h=>h)];exact hb1
 have hb2':w2.heap[w.heap.size+2]?=some (Ic #[Ip (some ⟨n,0,none⟩)] 97 (0,0)):=by rw [hw2.block (kbF hb2) (fun _ h=>h)];exact hb2
 have hbp':w2.heap[w.heap.size+1]?=some (Ic #[Ii Ij 0,Ii Ij 0] 27 (0,0)):=by rw [hw2.block (kbF hbp) (fun _ h=>h)];exact hbp
 have HB1:=zL hb1'
 have HBP:=zL hbp'
 have HB2:=zL hb2'
 have q0:=kbB hb1' 0
 have q1:=kbB hb1' 1
 have q2:=kbB hb2' 0
 simp only [zF,zD,zE] at q0 q1 q2
 have n3:=hn2.c3s hk
 have hcc:=hc1.trans hc2
 have hkl:=(zG.1 hc).1
 have g1:=hn2.cc hk
 rw [zU] at g1
 have g2:=hn2.kidc hk (j:=i') (o:=some c) (by simp [hc])
 clear hw2 hb1 hb2 hbp hb1' hb2' hbp' t0 n0 hpa hpa1 hpa2
 go_wp2_with (go_at_call 51;refine (kcJ _ (some ⟨l.cc,0,none⟩) _ ?_).mono ?_;(focus go_simp);rintro e w' ⟨rfl,rfl⟩)
 refine kbD (fun w3=>Chg (fun _ _=>False) w2 w3) (zK _ _) ?_
 rintro w3 hc3
 replace q0:=hc3.q q0
 replace q1:=hc3.q q1
 replace q2:=hc3.q q2
 replace n3:=hc3.q n3
 replace g1:=hc3.q g1
 replace g2:=hc3.q g2
 have hcc3:=hcc.trans hc3
 have j0:(0:Int)≤(i':Int):=by omega
 have j1:(i':Int) < (kl.length:Int):=by omega
 have HB1':Hid (w3.heap[w.heap.size]?=some (Ic #[Ii Ij x.1,Ii Ij x.2] 27 (0,0))):=zL (by rw [hc3.block (kbF HB1.out) (fun _ h=>h)];exact HB1.out)
 have HBP':Hid (w3.heap[w.heap.size+1]?=some (Ic #[Ii Ij 0,Ii Ij 0] 27 (0,0))):=zL (by rw [hc3.block (kbF HBP.out) (fun _ h=>h)];exact HBP.out)
 have HB2':Hid (w3.heap[w.heap.size+2]?=some (Ic #[Ip (some ⟨n,0,none⟩)] 97 (0,0))):=zL (by rw [hc3.block (kbF HB2.out) (fun _ h=>h)];exact HB2.out)
 refine kfN (fun w'=>w'.cell? ⟨w.heap.size,0,none⟩=some (Ii Ij x.1)∧w'.cell? ⟨w.heap.size,1,none⟩=some (Ii Ij x.2)∧w'.cell? ⟨w.heap.size+2,0,none⟩=some (Ip (some ⟨n,0,none⟩))∧w'.cell? ⟨n,3,none⟩=some (Ip (some ⟨l.cc,0,none⟩))∧w'.cell? ⟨l.cc,0,none⟩=some (Is (some ⟨l.cb,l.co,none⟩) kl.length l.ck))
  13 [0,1,2,3,4,5,6,7,8,9,10,11,12] _ [(14,true),(15,true),(16,true),(17,true),(18,false),(19,true),(20,true)] (by kernel_rfl) (by kernel_rfl) (fun _ _ _ _ _ h=>h) rfl rfl ⟨q0,q1,q2,n3,g1⟩ ?_
 simp only [kbK,zX,zY,zD,zE]
 iterate 13
  refine kbR ?_ rfl ?_ ?_
  rotate_left
  ·intro w' hS
   obtain ⟨s0,s1,s2,s3,s4⟩:=hS
   go_simp
   try with_reducible rfl
  simp only [zJ,zA,zB,zC]
 refine kbS ?_
 refine wp_hide (fun K hK=>?_)
 go_simp
 go_at_call 84
 have hc13:Chg (fun _ _=>False) w w3.drew:=hcc3.drew
 refine (hcall _ _ _ hc13 (hF.chg hc13 i3) (ht.chg hc13 (by simp)) g2).mono ?_
 rintro e wk ⟨H',pr,rp,sp,rfl,hFk,hck,hz4⟩
 obtain ⟨rfl,rfl⟩:=hZ _ _ _ _ _ hz4 hc13.size
 replace hck:Chg (fun b _=>F b) w3 wk:=((zK _ _).drew).trans hck
 have nF:∀b,w.heap.size≤b→¬F b:=fun b hb h=>Nat.lt_irrefl _ (zk (hF.lt h) hb)
 have hbpk:wk.heap[w.heap.size+1]?=some (Ic #[Ii Ij 0,Ii Ij 0] 27 (0,0)):=by rw [hck.block (kbF HBP'.out) (fun _ h=>nF _ (zl _ _) h)];exact HBP'.out
 have p0:=kbB hbpk 0
 have p1:=kbB hbpk 1
 have pf0:=kbC hbpk 0
 have pf1:=kbC hbpk 1
 simp only [zF,zD,zE] at p0 p1
 have HBPK:=zL hbpk
 clear hbpk
 refine hK _ _ ?_
 clear hK K
 iterate 4
  refine kcN (by rfl) ?_ (by simp [zI,yielded]) ?_ ?_
  rotate_left
  ·intro w' hS
   try obtain ⟨a1⟩:=hS
   go_simp
   try with_reducible rfl
  simp only [zJ,zA,zB,zC]
 refine kcR (by rfl) (by simp [zI,yielded]) (fun K hK=>?_)
 go_simp
 refine hK _ _ (fun _=>trivial) ?_
 clear hK K
 iterate 2
  refine kcN (by rfl) ?_ (by simp [zI,yielded]) ?_ ?_
  rotate_left
  ·intro w' hS
   try obtain ⟨a1⟩:=hS
   go_simp
   try with_reducible rfl
  simp only [zJ,zA,zB,zC]
 refine kdQ ?_
 refine kbQ (fun w4=>Chg (fun b _=>b=w.heap.size+1) wk w4∧w4.heap[w.heap.size+1]?=some (Ic #[Ii Ij pr.1,Ii Ij pr.2] 27 (0,0))) ⟨?_,?_⟩ ?_
 ·repeat (first | refine ze ?_ | refine zd ?_ (.inl rfl) _ | exact zK _ _)
 ·rw [kbV (kbV HBPK.out _)];rfl
 clear p0 p1 pf0 pf1
 rintro w4 ⟨hcz,hbp4⟩
 have p0:=kbB hbp4 0
 have p1:=kbB hbp4 1
 have pf0:=kbC hbp4 0
 have pf1:=kbC hbp4 1
 simp only [zF,zD,zE] at p0 p1
 have hc4:Chg (fun b _=>F b∨b=w.heap.size+1) w3 w4:=hck.trans' hcz (fun _ _ _ h=>.inl h) (fun _ _ _ h=>.inr h)
 have nFq:∀b,w.heap.size≤b→b≠w.heap.size+1→¬(F b∨b=w.heap.size+1):=fun b hb hne h=>by
  rcases h with h | h
  ·exact nF b hb h
  ·exact hne h
 have hszk:=hck.size
 have hszz:=hcz.size
 have hbl3:=kbF HBP'.out
 have hF4:=(hFk.chg hcz (fun b o hb e=>by
  rcases hb with hb | hb
  ·exact nF b (by omega) hb
  ·have h1:=hb.1;have h3:w3.drew.heap.size=w3.heap.size:=rfl;omega)).mono (F':=grow F w3.drew w4) (fun b h=>by
  rcases h with h | h
  ·exact .inl h
  ·exact .inr ⟨h.1,by omega⟩) (fun b h=>by
  rcases h with h | h
  ·have:=hF.lt h;have:=hcc3.size;omega
  ·exact h.2)
 have HBP4:=zL hbp4
 clear hbp4
 have hsz3:=hc13.size
 have hsz4:=hc4.size
 have hw04:Chg (fun b _=>F b) w w4:=(hcc3.trans' (B:=fun b o=>F b∨b=w.heap.size+1) hc4 (fun _ _ _ h=>h.elim) i3).mono (fun b o hb h=>by
  rcases h with h | h
  ·exact h
  ·omega)
 have ht4:=ht.chg hw04 (fun b _ hm h=>htF b hm h)
 have HQ0:=zL q0
 have HQ1:=zL q1
 have HQ2:=zL q2
 clear q0 q1 q2 n3 g1 g2
 have q2:=hc4.cell (nFq (w.heap.size+2) (zl _ _) (by omega)) HQ2.out
 obtain ⟨l4,hna4,hb4,ho4,cl4⟩:=hF4.work hn
 have c4:=hna4.c2
 have e4:=ht4.c4
 have e5:=ht4.c5
 
 have e7:=ht4.c7
 have htest:((r.items.length:Int) == (mx:Int))=true:=by simp;omega
 clear hlen
 go_wp2_with fail
 go_quiet (fail)
 go_wp2_with fail
 refine bodyPost_ret (v:=Iu #[.agg #[Ii Ij 0,Ii Ij 0],.bool false,.bool true]) (by simp [results,Try.results84,go_sem,p0,p1]) rfl ?_
 have hpf:∀w',Chg (fun b _=>b=w.heap.size+1) w4 w'→SetNo k w F H' (Ir (Iu #[.agg #[Ii Ij 0,Ii Ij 0],.bool false,.bool true])) w':=by
  intro w' c
  have hsw:=c.size
  have f6:=hF4.chg c (fun b o hb e=>by
   rcases hb with hb | hb
   ·exact nF b (by omega) hb
   ·have h1:=hb.1;have h3:w3.drew.heap.size=w3.heap.size:=rfl;omega)
  refine ⟨rfl,f6.mono (fun b hb=>?_) (fun b hb=>?_),hw04.trans' (B:=fun b _=>F b) c i3 (fun b o hb e=>by omega)⟩
  ·rcases hb with hb | hb
   ·exact .inl hb
   ·have h1:=hb.1;have h3:w3.drew.heap.size=w3.heap.size:=rfl;have h4:=hcc3.size;exact .inr ⟨by omega,by omega⟩
  ·rcases hb with hb | hb
   ·exact f6.lt (.inl hb)
   ·exact hb.2
 refine hpf _ ?_
 repeat (first | refine ze ?_ | refine zf ?_ _ | refine zd ?_ (.inl rfl) _ | exact zK _ _)
end
section
open Go.RowKit
variable {ord:List Int} {k:Kc ord}
theorem upList_set2 {β:Type} (ys:List β) (z x:β) (i:Nat) (hi:i < ys.length):((ys++[z]).take (i+1)++ys.drop i).set (i+1) x=ys.take (i+1)++x::ys.drop (i+1):=by
 have h1:((ys++[z]).take (i+1)).length=i+1:=by simp;omega
 rw [List.set_append_right _ _ (by omega),h1,Nat.sub_self,List.take_append_of_le_length (by omega),List.drop_eq_getElem_cons hi,zB]
theorem Run.setKid {α:Type} {p:Par α} {w0 w:World} {n:Nat} {r0 r:NodeR α} {l0 l:Lay} (h:Run p w0 n r0 l0 w r l) {ks:List (Option Nat)} (hk:r.kids=some ks) (i:Nat) (o:Option Nat) (hi:i < ks.length) :
  Run p w0 n r0 l0 (w.setCell ⟨l.cb,l.co+i,none⟩ (kidV o)) { r with kids:=some (ks.set i o) } l:=by
 obtain ⟨_,c,h1,h2,_⟩:=(h.at_.kid _ hk).2
 have hlen:=h.at_.klen hk
 have hp:=h.putKids hk i [o] (by simp;omega)
 rw [show ks.take i++[o]++ks.drop (i+[o].length)=ks.set i o by rw [List.set_eq_take_append_cons_drop,if_pos hi];simp] at hp
 rw [List.map_cons,List.map_nil,←putCells_one h1 (by omega)] at hp
 exact hp
def KidTwo (k:Kc ord) (w:World) (F:Nat→Prop) (Z2:World→(HN ord)→It ord→Bool→Bool→Prop) (e:Ending) (w':World):Prop :=
 ∃w1 H' pr rp sp,w.heap.size≤w1.heap.size∧Z2 w1 H' pr rp sp∧e=Ir (Iu #[.agg #[Ii Ij pr.1,Ii Ij pr.2],.bool rp,.bool sp])∧Fam (parM k) w' (grow F w w') H'∧Chg (fun b _=>F b) w w'
theorem nodeSet_kid_split (k:Kc ord) (mn mx t n:Nat) (pa:Addr) (dp:Int) (x:It ord) (i:Nat) (r:NodeR (It ord)) (w:World) (F:Nat→Prop) (H:HN ord) (hF:Fam (parM k) w F H) (ht:MapAt k mn mx w t) (htF:∀b,MOwn k t b→¬F b) (hn:H n=some r)
  (hpa:w.cell? pa=some (Ip (some ⟨n,0,none⟩))) (hs:Srt ltM r.items) (hlen:r.items.length < mx) (hmx:mx≤1000) (hm3:3≤mx) (hy:PosAt ltM r.items x i) (kl:List Nat) (hk:r.kids=some (kl.map some)) (hkll:kl.length≤mx) (c:Nat) (hc:kl[i]?=some c)
  (Z:World→(HN ord)→It ord→Bool→Bool→Prop)
  (hcall:∀w1 pa dp,Chg (fun _ _=>False) w w1→Fam (parM k) w1 F H→MapAt k mn mx w1 t→w1.cell? pa=some (Ip (some ⟨c,0,none⟩))→Calls Tp 84 #[Ip (some ⟨t,0,none⟩),Ip (some pa),aggM x,Ip none,Ii Ij dp] w1 (KidPost k F Z w1))
  (hZ:∀w1 H' pr rp sp,Z w1 H' pr rp sp→w.heap.size≤w1.heap.size→sp=true∧H'=H)
  (rc:NodeR (It ord)) (hrc:H c=some rc) (hcn:c≠n) (kl2:List Nat) (hk2:(rc.kids=none∧kl2=[])∨(rc.kids=some (kl2.map some)∧kl2.length=mx+1)) (hlen2:rc.items.length=mx) (cf:Nat→Int)
  (hkid:∀a∈kl2,a≠c∧∃s,H a=some s∧s.cnt=cf a∧0≤cf a) (hsum:ksum cf kl2≤100000000000000)
  (Z2:World→(HN ord)→It ord→Bool→Bool→Prop)
  (hcall2:∀w1 pa dp F1 m x2,w.heap.size≤m→m < w1.heap.size→rc.items[mx / 2]?=some x2→(∀b,F b→F1 b)→(∀b,b < w.heap.size→F1 b→F b) →
   Fam (parM k) w1 F1 (upd (upd (upd H c ⟨(mx / 2:Nat)+ksum cf (kl2.take (mx / 2+1)),rc.items.take (mx / 2),rc.kids.map (·.take (mx / 2+1))⟩) m ⟨((mx - (mx / 2+1):Nat):Int)+ksum cf (kl2.drop (mx / 2+1)),rc.items.drop (mx / 2+1),rc.kids.map (·.drop (mx / 2+1))⟩) n
    ⟨r.cnt,r.items.take i++x2::r.items.drop i,some ((kl.take (i+1)++m::kl.drop (i+1)).map some)⟩) →
   MapAt k mn mx w1 t→w1.cell? pa=some (Ip (some ⟨n,0,none⟩))→Calls Tp 84 #[Ip (some ⟨t,0,none⟩),Ip (some pa),aggM x,Ip none,Ii Ij dp] w1 (KidPost k F1 Z2 w1)) :
  Calls Tp 84 #[Ip (some ⟨t,0,none⟩),Ip (some pa),aggM x,Ip none,Ii Ij dp] w (KidTwo k w F Z2):=by
 obtain ⟨l,hna,hb,ho,cl⟩:=hF.work hn
 have t0:=ht.c0
 have n0:=hna.c0
 have hpk:(parM k).k=k.iso:=rfl
 rw [hpk] at n0
 have nlt:n < w.heap.size:=zg w _ n0
 have tlt:t < w.heap.size:=zg w _ t0
 have plt:=zg w _ hpa
 have hpa1:∀o,(w.alloc o).cell? pa=some (Ip (some ⟨n,0,none⟩)):=fun o=>by rw [World.cell?_alloc_lt w _ _ plt];exact hpa
 have hpa2:∀o o',((w.alloc o).alloc o').cell? pa=some (Ip (some ⟨n,0,none⟩)):=fun o o'=>by rw [World.cell?_alloc_lt _ _ _ (by simp;omega)];exact hpa1 o
 have hn1:∀o o',((w.alloc o).alloc o').cell? ⟨n,0,none⟩=some (.int .u64 k.iso):=fun o o'=>((hna.chg (((zK (fun _ _=>False) w).alloc o).alloc o') i3).c0)
 have ht1:∀o o',((w.alloc o).alloc o').cell? ⟨t,0,none⟩=some (.int .u64 k.iso):=fun o o'=>((ht.chg (((zK (fun _ _=>False) w).alloc o).alloc o') i3).c0)
 unfold aggM
 go_enter Try.func84,Try.ntmps84
 go_wp2_with fail
 go_quiet (fail)
 go_wp2_with fail
 clear hn1 ht1
 refine kbW (fun w1=>Chg (fun _ _=>False) w w1∧w1.heap[w.heap.size]?=some (Ic #[Ii Ij x.1,Ii Ij x.2] 27 (0,0))∧w1.heap[w.heap.size+1]?=some (Ic #[Ii Ij 0,Ii Ij 0] 27 (0,0))∧w1.heap[w.heap.size+2]?=some (Ic #[Ip (some ⟨n,0,none⟩)] 97 (0,0))) ⟨?_,?_,?_,?_⟩ ?_
 ·repeat (first | refine ze ?_ | refine zf ?_ _ | refine Chg.alloc ?_ _ | exact zK _ _)
 ·try simp only [kbZ,kcB]
  repeat (first | exact kbT _ _ rfl | (rw [kcZ _ _ (by simp;try omega)];try simp only [kbZ,kcB]))
 ·try simp only [kbZ,kcB]
  rw [kcZ _ _ (by simp;try omega)]
  try simp only [kbZ,kcB]
  exact kbT _ _ (by simp)
 ·try simp only [kbZ,kcB]
  exact kbT _ _ (by simp)
 rintro w1 ⟨hc1,hb1,hbp,hb2⟩
 have hn1:=hna.chg hc1 i3
 have ht1:=ht.chg hc1 (by simp)
 refine (kgC t x ht1 hn1 hs (by omega)).mono ?_
 rintro e w2 ⟨i',f,rfl,hw2,hf⟩
 have hfi:f=false∧i'=i:=by
  rcases hf with ⟨h1,y',h2⟩ | ⟨h1,h2⟩
  ·exact absurd h2.n2 (by rw [hy.right i' y' (hit_le hy h2) h2.at_];simp)
  ·exact ⟨h1,pos_same h2 hy swoM⟩
 obtain ⟨rfl,rfl⟩:=hfi
 have hc2:Chg (fun _ _=>False) w1 w2:=hw2
 have hn2:=hn1.chg hc2 i3
 have ht2:=ht1.chg hc2 (by simp)
 have hb1':w2.heap[w.heap.size]?=some (Ic #[Ii Ij x.1,Ii Ij x.2] 27 (0,0)):=by rw [hw2.block (kbF hb1) (fun _ h=>h)];exact hb1
 have hb2':w2.heap[w.heap.size+2]?=some (Ic #[Ip (some ⟨n,0,none⟩)] 97 (0,0)):=by rw [hw2.block (kbF hb2) (fun _ h=>h)];exact hb2
 have hbp':w2.heap[w.heap.size+1]?=some (Ic #[Ii Ij 0,Ii Ij 0] 27 (0,0)):=by rw [hw2.block (kbF hbp) (fun _ h=>h)];exact hbp
 have HB1:=zL hb1'
 have HBP:=zL hbp'
 have HB2:=zL hb2'
 have q0:=kbB hb1' 0
 have q1:=kbB hb1' 1
 have q2:=kbB hb2' 0
 simp only [zF,zD,zE] at q0 q1 q2
 have n3:=hn2.c3s hk
 have hcc:=hc1.trans hc2
 have hkl:=(zG.1 hc).1
 have g1:=hn2.cc hk
 rw [zU] at g1
 have g2:=hn2.kidc hk (j:=i') (o:=some c) (by simp [hc])
 clear hw2 hb1 hb2 hbp hb1' hb2' hbp' t0 n0 hpa hpa1 hpa2
 go_wp2_with (go_at_call 51;refine (kcJ _ (some ⟨l.cc,0,none⟩) _ ?_).mono ?_;(focus go_simp);rintro e w' ⟨rfl,rfl⟩)
 refine kbD (fun w3=>Chg (fun _ _=>False) w2 w3) (zK _ _) ?_
 rintro w3 hc3
 replace q0:=hc3.q q0
 replace q1:=hc3.q q1
 replace q2:=hc3.q q2
 replace n3:=hc3.q n3
 replace g1:=hc3.q g1
 replace g2:=hc3.q g2
 have hcc3:=hcc.trans hc3
 have j0:(0:Int)≤(i':Int):=by omega
 have j1:(i':Int) < (kl.length:Int):=by omega
 have HB1':Hid (w3.heap[w.heap.size]?=some (Ic #[Ii Ij x.1,Ii Ij x.2] 27 (0,0))):=zL (by rw [hc3.block (kbF HB1.out) (fun _ h=>h)];exact HB1.out)
 have HBP':Hid (w3.heap[w.heap.size+1]?=some (Ic #[Ii Ij 0,Ii Ij 0] 27 (0,0))):=zL (by rw [hc3.block (kbF HBP.out) (fun _ h=>h)];exact HBP.out)
 have HB2':Hid (w3.heap[w.heap.size+2]?=some (Ic #[Ip (some ⟨n,0,none⟩)] 97 (0,0))):=zL (by rw [hc3.block (kbF HB2.out) (fun _ h=>h)];exact HB2.out)
 refine kfN (fun w'=>w'.cell? ⟨w.heap.size,0,none⟩=some (Ii Ij x.1)∧w'.cell? ⟨w.heap.size,1,none⟩=some (Ii Ij x.2)∧w'.cell? ⟨w.heap.size+2,0,none⟩=some (Ip (some ⟨n,0,none⟩))∧w'.cell? ⟨n,3,none⟩=some (Ip (some ⟨l.cc,0,none⟩))∧w'.cell? ⟨l.cc,0,none⟩=some (Is (some ⟨l.cb,l.co,none⟩) kl.length l.ck))
  13 [0,1,2,3,4,5,6,7,8,9,10,11,12] _ [(14,true),(15,true),(16,true),(17,true),(18,false),(19,true),(20,true)] (by kernel_rfl) (by kernel_rfl) (fun _ _ _ _ _ h=>h) rfl rfl ⟨q0,q1,q2,n3,g1⟩ ?_
 simp only [kbK,zX,zY,zD,zE]
 iterate 13
  refine kbR ?_ rfl ?_ ?_
  rotate_left
  ·intro w' hS
   obtain ⟨s0,s1,s2,s3,s4⟩:=hS
   go_simp
   try with_reducible rfl
  simp only [zJ,zA,zB,zC]
 refine kbS ?_
 refine wp_hide (fun K hK=>?_)
 go_simp
 go_at_call 84
 have hc13:Chg (fun _ _=>False) w w3.drew:=hcc3.drew
 refine (hcall _ _ _ hc13 (hF.chg hc13 i3) (ht.chg hc13 (by simp)) g2).mono ?_
 rintro e wk ⟨H',pr,rp,sp,rfl,hFk,hck,hz4⟩
 obtain ⟨rfl,rfl⟩:=hZ _ _ _ _ _ hz4 hc13.size
 replace hck:Chg (fun b _=>F b) w3 wk:=((zK _ _).drew).trans hck
 have nF:∀b,w.heap.size≤b→¬F b:=fun b hb h=>Nat.lt_irrefl _ (zk (hF.lt h) hb)
 have hbpk:wk.heap[w.heap.size+1]?=some (Ic #[Ii Ij 0,Ii Ij 0] 27 (0,0)):=by rw [hck.block (kbF HBP'.out) (fun _ h=>nF _ (zl _ _) h)];exact HBP'.out
 have p0:=kbB hbpk 0
 have p1:=kbB hbpk 1
 have pf0:=kbC hbpk 0
 have pf1:=kbC hbpk 1
 simp only [zF,zD,zE] at p0 p1
 have HBPK:=zL hbpk
 clear hbpk
 refine hK _ _ ?_
 clear hK K
 iterate 4
  refine kcN (by rfl) ?_ (by simp [zI,yielded]) ?_ ?_
  rotate_left
  ·intro w' hS
   try obtain ⟨a1⟩:=hS
   go_simp
   try with_reducible rfl
  simp only [zJ,zA,zB,zC]
 refine kcR (by rfl) (by simp [zI,yielded]) (fun K hK=>?_)
 go_simp
 refine hK _ _ (fun _=>trivial) ?_
 clear hK K
 iterate 2
  refine kcN (by rfl) ?_ (by simp [zI,yielded]) ?_ ?_
  rotate_left
  ·intro w' hS
   try obtain ⟨a1⟩:=hS
   go_simp
   try with_reducible rfl
  simp only [zJ,zA,zB,zC]
 refine kdQ ?_
 refine kbQ (fun w4=>Chg (fun b _=>b=w.heap.size+1) wk w4∧w4.heap[w.heap.size+1]?=some (Ic #[Ii Ij pr.1,Ii Ij pr.2] 27 (0,0))) ⟨?_,?_⟩ ?_
 ·repeat (first | refine ze ?_ | refine zd ?_ (.inl rfl) _ | exact zK _ _)
 ·rw [kbV (kbV HBPK.out _)];rfl
 clear p0 p1 pf0 pf1
 rintro w4 ⟨hcz,hbp4⟩
 have p0:=kbB hbp4 0
 have p1:=kbB hbp4 1
 have pf0:=kbC hbp4 0
 have pf1:=kbC hbp4 1
 simp only [zF,zD,zE] at p0 p1
 have hc4:Chg (fun b _=>F b∨b=w.heap.size+1) w3 w4:=hck.trans' hcz (fun _ _ _ h=>.inl h) (fun _ _ _ h=>.inr h)
 have nFq:∀b,w.heap.size≤b→b≠w.heap.size+1→¬(F b∨b=w.heap.size+1):=fun b hb hne h=>by
  rcases h with h | h
  ·exact nF b hb h
  ·exact hne h
 have hszk:=hck.size
 have hszz:=hcz.size
 have hbl3:=kbF HBP'.out
 have hF4:=(hFk.chg hcz (fun b o hb e=>by
  rcases hb with hb | hb
  ·exact nF b (by omega) hb
  ·have h1:=hb.1;have h3:w3.drew.heap.size=w3.heap.size:=rfl;omega)).mono (F':=grow F w3.drew w4) (fun b h=>by
  rcases h with h | h
  ·exact .inl h
  ·exact .inr ⟨h.1,by omega⟩) (fun b h=>by
  rcases h with h | h
  ·have:=hF.lt h;have:=hcc3.size;omega
  ·exact h.2)
 have HBP4:=zL hbp4
 clear hbp4
 have hsz3:=hc13.size
 have hsz4:=hc4.size
 have hw04:Chg (fun b _=>F b) w w4:=(hcc3.trans' (B:=fun b o=>F b∨b=w.heap.size+1) hc4 (fun _ _ _ h=>h.elim) i3).mono (fun b o hb h=>by
  rcases h with h | h
  ·exact h
  ·omega)
 have ht4:=ht.chg hw04 (fun b _ hm h=>htF b hm h)
 have HQ0:=zL q0
 have HQ1:=zL q1
 have HQ2:=zL q2
 clear q0 q1 q2 n3 g1 g2
 have q2:=hc4.cell (nFq (w.heap.size+2) (zl _ _) (by omega)) HQ2.out
 obtain ⟨l4,hna4,hb4,ho4,cl4⟩:=hF4.work hn
 have c4:=hna4.c2
 have e7:=ht4.c7
 have htest:((r.items.length:Int) == (mx:Int))=false:=by simp;omega
 have hib4:=hna4.c3s hk
 have g4:=hna4.cc hk
 rw [zU] at g4
 have g5:=hna4.kidc hk (j:=i') (o:=some c) (by simp [hc])
 have hbs3:w.heap.size+2 < w3.heap.size:=kbF HB2'.out
 obtain ⟨F4,hF4e⟩:∃F4,F4=grow F w3.drew w4:=⟨_,rfl⟩
 have tlt4:t < w.heap.size:=tlt
 have htF4:∀b,MOwn k t b→¬F4 b:=by
  intro b hm
  rw [hF4e]
  rintro (h | h)
  ·exact htF b hm h
  ·have:=h.1;have:=ht.lt hm;have:(w3.drew).heap.size=w3.heap.size:=rfl;omega
 rw [←hF4e] at hF4 hb4 cl4
 have nF4:∀b,w.heap.size≤b→b < w3.heap.size→¬F4 b:=by
  intro b h1 h2
  rw [hF4e]
  rintro (h | h)
  ·exact nF b h1 h
  ·have:=h.1;have:(w3.drew).heap.size=w3.heap.size:=rfl;omega
 have old4:∀b,b < w.heap.size→F4 b→F b:=by
  intro b h1
  rw [hF4e]
  rintro (h | h)
  ·exact h
  ·have:=h.1;have:(w3.drew).heap.size=w3.heap.size:=rfl;omega
 have up4:∀b,F b→F4 b:=by rw [hF4e];exact fun b h=>.inl h
 have hrl:r.items.length≤1000:=by omega
 clear hlen hF4e p0 p1 pf0 pf1
 have HQ24:=zL q2
 go_wp2_with fail
 go_quiet (fail)
 go_wp2_with fail
 refine (nodeSplit_any k mn mx t c rc _ F4 H' (hF4.chg ((zK (fun _ _=>False) w4).drewN _) i3) (ht4.chg ((zK (fun _ _=>False) w4).drewN _) (by simp)) hrc kl2 hk2 hlen2 hmx hm3 cf hkid hsum).mono ?_
 rintro e w5 ⟨m,x2,rfl,hx2,hm,hc5,hF5⟩
 replace hc5:Chg (fun b _=>F4 b) w4 w5:=((zK _ _).drewN _).trans hc5
 replace hF5:Fam (parM k) w5 (grow F4 w4 w5) _:=hF5
 have hm4:w4.heap.size≤m:=hm
 clear hm hib4 g4 g5 c4 e7 htest q2
 have hsz5:=hc5.size
 have q25:=hc5.cell (nF4 _ (zl _ _) hbs3) HQ24.out
 have b05:=hc5.cell (nF4 w.heap.size (zi _) (by have:=hbs3;omega)) (hc4.cell (nFq w.heap.size (zi _) (by omega)) HQ0.out)
 have b15:=hc5.cell (nF4 w.heap.size (zi _) (by have:=hbs3;omega)) (hc4.cell (nFq w.heap.size (zi _) (by omega)) HQ1.out)
 have ht5:=ht4.chg hc5 (fun b _ hm h=>htF4 b hm h)
 obtain ⟨F5,hF5e⟩:∃F5,F5=grow F4 w4 w5:=⟨_,rfl⟩
 obtain ⟨H5,hH5e⟩:∃H5,H5=(upd (upd H' c ⟨(mx / 2:Nat)+ksum cf (kl2.take (mx / 2+1)),rc.items.take (mx / 2),rc.kids.map (·.take (mx / 2+1))⟩) m ⟨((mx - (mx / 2+1):Nat):Int)+ksum cf (kl2.drop (mx / 2+1)),rc.items.drop (mx / 2+1),rc.kids.map (·.drop (mx / 2+1))⟩):=⟨_,rfl⟩
 rw [hlen2,←hF5e,←hH5e] at hF5
 have hn5:H5 n=some r:=by
  rw [hH5e]
  simp only [upd]
  rw [if_neg (by omega),if_neg (fun e=>hcn e.symm)]
  exact hn
 have nF5:∀b,w.heap.size≤b→b < w3.heap.size→¬F5 b:=by
  intro b h1 h2
  rw [hF5e]
  rintro (h | h)
  ·exact nF4 b h1 h2 h
  ·have:=h.1;have:(w3.drew).heap.size=w3.heap.size:=rfl;omega
 have htF5:∀b,MOwn k t b→¬F5 b:=by
  intro b hm
  rw [hF5e]
  rintro (h | h)
  ·exact htF4 b hm h
  ·have:=h.1;have:=ht.lt hm;have:(w3.drew).heap.size=w3.heap.size:=rfl;omega
 have old5:∀b,b < w.heap.size→F5 b→F b:=by
  intro b h1
  rw [hF5e]
  rintro (h | h)
  ·exact old4 b h1 h
  ·have:=h.1;have:(w3.drew).heap.size=w3.heap.size:=rfl;omega
 have up5:∀b,F b→F5 b:=by rw [hF5e];exact fun b h=>.inl (up4 b h)
 have hm5:m < w5.heap.size:=hF5.lt (hF5.mem (n:=m) (by rw [hH5e];exact if_pos rfl))
 have HH5:=zL hH5e
 have hw05:Chg (fun b _=>F b) w w5:=hw04.trans' hc5 i3 (fun b o hb h=>old4 b hb h)
 clear hF5e hH5e up4 old4
 go_wp2_with fail
 refine kbD (fun w6=>Chg (fun _ _=>False) w5 w6∧w6.heap[w5.heap.size]?=some (Ic #[Ii Ij x2.1,Ii Ij x2.2] 27 (0,0))) ⟨(zK _ _).alloc _,kbT _ _ rfl⟩ ?_
 rintro w6 ⟨hc6,hbm⟩
 have hsz6:=hc6.size
 have hbm6:=kbF hbm
 have m06:=kbB hbm 0
 have m16:=kbB hbm 1
 simp only [zF,zD,zE] at m06 m16
 have hF6:=hF5.chg hc6 i3
 have ht6:=ht5.chg hc6 i3
 have hp5:w5.heap[w.heap.size+1]?=some (Ic #[Ii Ij pr.1,Ii Ij pr.2] 27 (0,0)):=by rw [hc5.block (kbF HBP4.out) (fun _ h=>nF4 _ (zl _ _) hbl3 h)];exact HBP4.out
 have hp6:w6.heap[w.heap.size+1]?=some (Ic #[Ii Ij pr.1,Ii Ij pr.2] 27 (0,0)):=by rw [hc6.block (kbF hp5) (fun _ h=>h)];exact hp5
 have keepP:∀w' A,Chg A w6 w'→(∀b o,A b o→F5 b)→w'.heap[w.heap.size+1]?=some (Ic #[Ii Ij pr.1,Ii Ij pr.2] 27 (0,0)):=fun w' A c hA=>by rw [c.block (kbF hp6) (fun _ h=>nF5 _ (zl _ _) hbl3 (hA _ _ h))];exact hp6
 have hpl6:=kbF hp6
 have KEEPP:=zL keepP
 clear hp5 hp6 keepP
 obtain ⟨l6,hna6,hb6,ho6,cl6⟩:=hF6.work hn5
 have r6:=Run.start hna6
 have nM:¬F5 w5.heap.size:=fun h=>Nat.lt_irrefl _ (hF5.lt h)
 obtain ⟨KEEP,hKEEP⟩:∃KEEP:World→Prop,(∀w',KEEP w' ↔ (w'.cell? ⟨w.heap.size+2,0,none⟩=some (Ip (some ⟨n,0,none⟩))∧w'.cell? ⟨w.heap.size,0,none⟩=some (Ii Ij x.1)∧w'.cell? ⟨w.heap.size,1,none⟩=some (Ii Ij x.2) ∧
   w'.cell? ⟨w5.heap.size,0,none⟩=some (Ii Ij x2.1)∧w'.cell? ⟨w5.heap.size,1,none⟩=some (Ii Ij x2.2)∧MapAt k mn mx w' t)):=⟨fun _=>_,fun _=>Iff.rfl⟩
 have k6:KEEP w6:=(hKEEP _).2 ⟨hc6.q q25,hc6.q b05,hc6.q b15,m06,m16,ht6⟩
 have hext:∀b o,Ext (parM k) n r l6 b o→F5 b:=fun b o h=>hb6 b h.blk
 have keep:∀w' A,Chg A w6 w'→(∀b o,A b o→F5 b)→KEEP w':=by
  intro w' A hc hA
  obtain ⟨a1,a2,a3,a4,a5,a6⟩:=(hKEEP _).1 k6
  exact (hKEEP _).2 ⟨hc.cell (fun h=>nF5 _ (zl _ _) hbs3 (hA _ _ h)) a1,hc.cell (fun h=>nF5 w.heap.size (zi _) (by have:=hbs3;omega) (hA _ _ h)) a2,hc.cell (fun h=>nF5 w.heap.size (zi _) (by have:=hbs3;omega) (hA _ _ h)) a3,
   hc.cell (fun h=>nM (hA _ _ h)) a4,hc.cell (fun h=>nM (hA _ _ h)) a5,a6.chg hc (fun b o hm h=>htF5 b hm (hA _ _ h))⟩
 clear q25 b05 b15 m06 m16 hbm
 obtain ⟨q2,q0,q1,mm0,mm1,ht6'⟩:=(hKEEP _).1 k6
 have n3:=hna6.c3s hk
 have g4:=hna6.cc hk
 have gz:=hna6.ccz hk 0
 rw [zU] at g4
 obtain ⟨i0,hi0,hz0,hz1,hz2⟩:=info_parts infoNode
 obtain ⟨d1,d2,d3,d4,d5⟩:=hna6.d2 (by rw [hk];simp)
 have hklen6:=hna6.klen hk
 rw [zU] at hklen6
 have cclt:=kbF (hna6.kid _ hk).1
 have fz2a:∀o,(w6.alloc o).drew.frozen? ⟨l6.cc,0,none⟩=false:=fun o=>by rw [World.frozen?_drew,World.frozen?_alloc_past _ _ _ cclt];exact gz
 have bcb:w.heap.size+2≠l6.cb:=fun h=>nF5 _ (zl _ _) hbs3 (by have h2:=hb6 l6.cb (.inr (.inr ⟨by rw [hk];simp,.inr rfl⟩));rw [←h] at h2;exact h2)
 have nlt6:n < w6.heap.size:=hna6.lt (.inl rfl)
 clear q0 q1 mm0 mm1
 refine kcS (fun w'=>w'.cell? ⟨w.heap.size+2,0,none⟩=some (Ip (some ⟨n,0,none⟩))∧w'.cell? ⟨n,3,none⟩=some (Ip (some ⟨l6.cc,0,none⟩))∧w'.cell? ⟨l6.cc,0,none⟩=some (Is (some ⟨l6.cb,l6.co,none⟩) kl.length l6.ck))
  12 [0,1,2,3,4,5,6,7,8,9] [10,11] (by kernel_rfl) (by kernel_rfl) (fun _ _ _ _ _ h=>h) rfl rfl ⟨q2,n3,g4⟩ ?_
 simp only [kbK,zX,zY,zD,zE]
 iterate 10
  refine kbR ?_ rfl ?_ ?_
  rotate_left
  ·intro w' hS
   obtain ⟨s1,s2,s3⟩:=hS
   go_simp
   try with_reducible rfl
  simp only [zJ,zA,zB,zC]
 refine kbS ?_
 refine kbN (fun K hK=>?_)
 go_simp
 refine hK _ _ ⟨?_,?_,?_⟩ ?_
 iterate 3 go_keep
 clear hK K
 refine kbN (fun K hK=>?_)
 refine kcC _ _ _ (by rfl) 97 i0 _ 1 8 Try.underlying111 hi0 hz0 hz1 hz2 rfl l6.cb l6.co kl.length l6.ck (by rfl) ((kl.map some).map kidV) (by rw [Nat.mul_one];exact (((hna6.kid _ hk).2.alloc _).drew)) (by simp) ⟨w6.heap.size,0,none⟩ 1 _ (by rfl) [Ip none] (by rfl) (World.news_of_block (cs:=#[Ip none]) (t:=97) (fr:=(0,0)) (heap_alloc_new w6 _)) (by simp [Value.oneCell']) (by unfold maxLen;omega) (by omega) ?_
 intro b' o1 cap' w4 happ
 refine hK _ _ ⟨happ.chg.cell (fun h=>absurd h.1 bcb) (by rw [World.cell?_drew,World.cell?_alloc_past _ _ _ (by omega)];exact q2),happ.chg.cell (fun h=>absurd h.1 (Ne.symm d2)) (by rw [World.cell?_drew,World.cell?_alloc_past _ _ _ (by omega)];exact n3),happ.chg.cell (fun h=>absurd h.1 (Ne.symm d5)) (by rw [World.cell?_drew,World.cell?_alloc_past _ _ _ (by omega)];exact g4)⟩ ?_
 clear hK K
 simp only [kdC,za,zb,zJ,zA,zB,zC]
 have g24:w4.cell? ⟨l6.cc,0,none⟩=some (Is (some ⟨l6.cb,l6.co,none⟩) kl.length l6.ck):=happ.chg.cell (fun h=>absurd h.1 (Ne.symm d5)) (by rw [World.cell?_drew,World.cell?_alloc_past _ _ _ (by omega)];exact g4)
 have z2:w4.frozen? ⟨l6.cc,0,none⟩=false:=by rw [happ.chg.frozen (by simp;omega)];exact fz2a _
 go_wp2_with fail
 have r3':=r6.still (((zK (fun _ _=>False) w6).alloc (Ic #[Ip none] 97)).drew)
 have happ':Appd (parM k).TP 1 ((w6.alloc (Ic #[Ip none] 97)).drew) l6.cb l6.co (kl.map some).length l6.ck ((kl.map some).map kidV) (([none]:List (Option Nat)).map kidV) ([none]:List (Option Nat)).length b' o1 cap' w4:=by
  rw [zU];exact happ
 have r7:=r3'.appendKids hk [none] happ' (zK _ _)
 have hroom:=happ.room
 clear happ happ' g24 z2 r3' n3 g4 gz fz2a hi0 hz0 hz1 hz2
 refine kbD (fun w7=>∃l7,Run (parM k) w6 n r l6 w7 { r with kids:=some (kl.map some++[none]) } l7∧kl.length+1≤l7.ck) ⟨_,by rw [zU] at r7;exact r7,hroom⟩ ?_
 clear r7 hroom
 rintro w7 ⟨l7,r7,hroom⟩
 have keepR:∀w' r' l',Run (parM k) w6 n r l6 w' r' l'→KEEP w':=fun w' r' l' hr=>keep w' _ hr.chg hext
 obtain ⟨q2,-,-,-,-,-⟩:=(hKEEP _).1 (keepR _ _ _ r7)
 have n3:=r7.at_.c3s rfl
 have g4:=r7.at_.cc rfl
 simp only [zT,zU,List.length_cons,List.length_nil,Nat.zero_add] at g4
 have hle:i'≤kl.length:=by omega
 have hle2:(i':Int)≤(kl.length:Int)+1:=by omega
 have s0:(0:Int)≤(i':Int):=by omega
 have s2:(0:Int)≤(i':Int)+1:=by omega
 have s3:((i':Int)+1).toNat=i'+1:=by omega
 have hck2:¬l7.ck=i':=by omega
 have hck3:¬l7.ck=i'+1:=by omega
 have s1:Ij.wrap ((i':Int)+1)=(i':Int)+1:=zh _ (by omega)
 go_still_tail 17,(by kernel_rfl)
 refine wpList_shiftKids (p:=parM k) (r:={ r with kids:=some (kl.map some++[none]) }) (by rfl) _ _ _ _ (by rfl) 97 (by kernel_rfl) kgH (r7.still ((zK _ _).drew)) (kl.map some) none rfl i' (l7.co+(i'+1)) _ _ _ _ (by simp;omega) (fun _=>rfl) (.inr rfl) (by rfl) _ (by rfl) (by rfl) (by simp) (by simp) ?_
 intro w8 hc8 r8
 clear s1 hck2 hck3 g4 n3 q2
 obtain ⟨q2,-,-,-,-,-⟩:=(hKEEP _).1 (keepR _ _ _ r8)
 have n3:=r8.at_.c3s rfl
 have g4:=r8.at_.cc rfl
 have hl8:((kl.map some++[none]).take (i'+1)++(kl.map some).drop i').length=kl.length+1:=by rw [kfT _ _ _ (by simp;omega)];simp
 rw [hl8] at g4
 obtain ⟨o8,ho8⟩:∃o,((kl.map some++[none]).take (i'+1)++(kl.map some).drop i')[i'+1]?=some o:=⟨_,zH (by rw [hl8];omega)⟩
 have g5:=r8.at_.kidc rfl ho8
 have gz:=r8.at_.kidz rfl (l7.co+(i'+1))
 have j3:(i':Int)+1 < (kl.length:Int)+1:=by omega
 have s1:Ij.wrap ((i':Int)+1)=(i':Int)+1:=zh _ (by omega)
 have r9:=r8.setKid rfl (i'+1) (some m) (by show i'+1 < _;rw [hl8];omega)
 rw [upList_set2 _ _ _ _ (by simp;omega),show (kl.map some).take (i'+1)++some m::(kl.map some).drop (i'+1)=(kl.take (i'+1)++m::kl.drop (i'+1)).map some by simp] at r9
 go_wp2_with fail
 refine kbD (fun w9=>Run (parM k) w6 n r l6 w9 { r with kids:=some ((kl.take (i'+1)++m::kl.drop (i'+1)).map some) } l7) r9 ?_
 clear r9 r8 q2 n3 g4 g5 gz s1 hc8 ho8
 intro w9 r9
 have k9:=keepR _ _ _ r9
 obtain ⟨q2,q0,q1,mm0,mm1,ht9⟩:=(hKEEP _).1 k9
 have hna9:=r9.at_
 have n2:=hna9.c2
 have e4:=ht9.c4
 have e5:=ht9.c5
 have hlen9:r.items.length≤l7.ic:=hna9.len
 obtain ⟨i0,hi0,hz0,hz1,hz2⟩:=info_parts kfS
 have fz2:=hna9.fz 2
 have nlt9:n < w9.heap.size:=hna9.lt (.inl rfl)
 have hsz9:=r9.chg.size
 have fz2a:∀o,(w9.alloc o).drew.frozen? ⟨n,2,none⟩=false:=fun o=>by rw [World.frozen?_drew,World.frozen?_alloc_past _ _ _ nlt9];exact fz2
 have apart:∀b,b < w6.heap.size→¬F5 b→b≠l7.ib:=by
  rintro b h1 h2 rfl
  rcases r9.blk l7.ib (.inr (.inl rfl)) with h | h
  ·exact h2 (hb6 _ h)
  ·omega
 have tlt5:t < w6.heap.size:=by omega
 have htib:=apart t tlt5 (htF5 t MOwn.self)
 have bib:=apart (w.heap.size+2) (by omega) (nF5 _ (zl _ _) hbs3)
 have hnib:n≠l7.ib:=Ne.symm hna9.d1
 clear q0 q1 mm0 mm1
 refine kcS (fun w'=>w'.cell? ⟨w.heap.size+2,0,none⟩=some (Ip (some ⟨n,0,none⟩))∧w'.cell? ⟨n,2,none⟩=some (Is (some ⟨l7.ib,l7.io,none⟩) r.items.length l7.ic)∧w'.cell? ⟨t,7,none⟩=some (Ii Ij 0)∧w'.cell? ⟨t,8,none⟩=some (Ii Ij 0))
  11 [0,1,2,3,4,5,6,7,8] [9,10] (by kernel_rfl) (by kernel_rfl) (fun _ _ _ _ _ h=>h) rfl rfl ⟨q2,n2,e4,e5⟩ ?_
 simp only [kbK,zX,zY,zD,zE]
 iterate 9
  refine kbR ?_ rfl ?_ ?_
  rotate_left
  ·intro w' hS
   obtain ⟨s1,s2,s3,s4⟩:=hS
   go_simp
   try with_reducible rfl
  simp only [zJ,zA,zB,zC]
 refine kbS ?_
 refine kbN (fun K hK=>?_)
 go_simp
 refine hK _ _ ⟨?_,?_,?_,?_⟩ ?_
 iterate 4 go_keep
 clear hK K
 refine kbN (fun K hK=>?_)
 refine kcC _ _ _ (by rfl) 27 i0 _ 2 16 Try.underlying25 hi0 hz0 hz1 hz2 rfl l7.ib l7.io r.items.length l7.ic (by rfl) (flat (parM k) r.items) ((hna9.row.alloc _).drew) (kcW _ _) ⟨w9.heap.size,0,none⟩ 1 _ (by rfl) [Ii Ij 0,Ii Ij 0] (by rfl) (World.news_of_block (cs:=#[Ii Ij 0,Ii Ij 0]) (t:=27) (fr:=(0,0)) (heap_alloc_new w9 _)) (by simp [Value.oneCell']) (by unfold maxLen;omega) (by omega) ?_
 intro b' o1 cap' w4 happ
 refine hK _ _ ⟨happ.chg.cell (fun h=>absurd h.1 bib) (by rw [World.cell?_drew,World.cell?_alloc_past _ _ _ (by omega)];exact q2),happ.chg.cell (fun h=>absurd h.1 hnib) (by rw [World.cell?_drew,World.cell?_alloc_past _ _ _ (by omega)];exact n2),happ.chg.cell (fun h=>absurd h.1 htib) (by rw [World.cell?_drew,World.cell?_alloc_past _ _ _ (by omega)];exact e4),happ.chg.cell (fun h=>absurd h.1 htib) (by rw [World.cell?_drew,World.cell?_alloc_past _ _ _ (by omega)];exact e5)⟩ ?_
 clear hK K
 simp only [kdC,za,zb,zJ,zA,zB,zC]
 have g2:w4.cell? ⟨n,2,none⟩=some (Is (some ⟨l7.ib,l7.io,none⟩) r.items.length l7.ic):=happ.chg.cell (fun h=>absurd h.1 hnib) (by rw [World.cell?_drew,World.cell?_alloc_past _ _ _ (by omega)];exact n2)
 have z2:w4.frozen? ⟨n,2,none⟩=false:=by rw [happ.chg.frozen (by simp;omega)];exact fz2a _
 go_wp2_with fail
 have r3':=r9.still (((zK (fun _ _=>False) w9).alloc (Ic #[Ii Ij 0,Ii Ij 0] 27)).drew)
 have ra:=r3'.append [((0,0):It ord)] happ (zK _ _)
 have hroom2:=happ.room
 clear happ g2 z2 q2 n2 e4 e5 fz2 fz2a r3' hz0 hz1 hz2 hi0 bib htib hnib apart
 refine kbD (fun wa=>∃la,Run (parM k) w6 n r l6 wa { r with items:=r.items++[((0,0):It ord)],kids:=some ((kl.take (i'+1)++m::kl.drop (i'+1)).map some) } la∧r.items.length+1≤la.ic) ⟨_,ra,hroom2⟩ ?_
 clear ra hroom2
 rintro wa ⟨la,ra,hrooma⟩
 obtain ⟨q2,-,-,-,-,-⟩:=(hKEEP _).1 (keepR _ _ _ ra)
 have n5:=ra.at_.c2
 simp only [zT,List.length_cons,List.length_nil,Nat.zero_add] at n5
 have hlei:=hy.le
 have s0:(0:Int)≤(i':Int):=by omega
 have s2:(0:Int)≤(i':Int)+1:=by omega
 have s3:((i':Int)+1).toNat=i'+1:=by omega
 have hck2:¬la.ic=i':=by omega
 have hle3:(i':Int)≤(r.items.length:Int)+1:=by omega
 obtain ⟨od,hif,hod,hod2⟩:∃od,(if la.ic=i'+1 then some (⟨la.ib,la.io,none⟩:Addr) else some ⟨la.ib,la.io+(i'+1) * 2,none⟩)=some ⟨la.ib,od,none⟩∧(i' < r.items.length→od=la.io+(i'+1) * 2)∧(od=la.io∨od=la.io+(i'+1) * 2):=by
  by_cases h:la.ic=i'+1
  ·exact ⟨la.io,by rw [if_pos h],fun h2=>by omega,.inl rfl⟩
  ·exact ⟨_,by rw [if_neg h],fun _=>rfl,.inr rfl⟩
 have s1:Ij.wrap ((i':Int)+1)=(i':Int)+1:=zh _ (by omega)
 go_still_tail 13,(by kernel_rfl)
 refine wpList_shift (p:=parM k) (r:={ r with items:=r.items++[((0,0):It ord)],kids:=some ((kl.take (i'+1)++m::kl.drop (i'+1)).map some) }) (by rfl) _ _ _ _ (by rfl) 27 (by kernel_rfl) kdD (ra.still ((zK _ _).drew)) r.items (0,0) rfl i' od _ _ _ _ hlei (by simpa [parM] using hod) (by simpa [parM] using hod2) (by rfl) _ (by rfl) (by first | rfl | simp [parM]) (by omega) (by omega) ?_
 intro wb hcb rb
 have hlb:((r.items++[((0,0):It ord)]).take (i'+1)++r.items.drop i').length=r.items.length+1:=kfT _ _ _ hlei
 clear s1 s2 s3 hif hod hod2 q2 n5 hcb hck2
 go_wp2_with fail
 refine kbD (fun wc=>Run (parM k) w6 n r l6 wc { r with items:=((r.items++[((0,0):It ord)]).take (i'+1)++r.items.drop i'),kids:=some ((kl.take (i'+1)++m::kl.drop (i'+1)).map some) } la) rb ?_
 clear rb
 intro wc rcc
 obtain ⟨q2,q0,q1,mm0,mm1,htc⟩:=(hKEEP _).1 (keepR _ _ _ rcc)
 have nc:=rcc.at_.c2
 simp only [hlb] at nc
 have z0:=rcc.at_.ifz (la.io+i' * 2)
 have z1:=rcc.at_.ifz (la.io+i' * 2+1)
 have j4:(i':Int) < (r.items.length:Int)+1:=by omega
 obtain ⟨y6,hy6⟩:∃y,((r.items++[((0,0):It ord)]).take (i'+1)++r.items.drop i')[i']?=some y:=⟨_,zH (by rw [hlb];omega)⟩
 have iv:=rcc.at_.mval hy6
 have ik:=rcc.at_.mkey hy6
 go_still_tail 7,(by kernel_rfl)
 have rd:=rcc.setItemM i' x2 (Nat.lt_of_lt_of_eq (show i' < r.items.length+1 by omega) hlb.symm)
 have apart:∀b,b < w6.heap.size→¬F5 b→b≠la.ib:=by
  rintro b h1 h2 rfl
  rcases rcc.blk la.ib (.inr (.inl rfl)) with h | h
  ·exact h2 (hb6 _ h)
  ·omega
 have p1:=apart w.heap.size (by omega) (nF5 _ (zi _) (by omega))
 have p1':=Ne.symm p1
 clear apart
 clear q2 nc
 go_wp2_with fail
 have re:=rd.still ((zK _ _).drew)
 rw [upList_set _ _ _ _ hlei] at re
 have hKe:=(hKEEP _).1 (keepR _ _ _ re)
 obtain ⟨hFe,hce⟩:=cl6 _ _ _ re
 rw [HH5.out] at hFe
 have hze:=hce.size
 have hpe:=KEEPP.out _ _ hce (fun _ _ h=>h)
 have hnG:¬grow F5 w6 ((wc.setCell ⟨la.ib,la.io+i' * 2,none⟩ (Ii Ij x2.1)).setCell ⟨la.ib,la.io+i' * 2+1,none⟩ (Ii Ij x2.2)).drew (w.heap.size+1):=by
  rintro (h | h)
  ·exact nF5 _ (zl _ _) hbl3 h
  ·have:=h.1;omega
 have hupF:∀b,F b→grow F5 w6 ((wc.setCell ⟨la.ib,la.io+i' * 2,none⟩ (Ii Ij x2.1)).setCell ⟨la.ib,la.io+i' * 2+1,none⟩ (Ii Ij x2.2)).drew b:=fun b hb=>.inl (up5 b hb)
 have hoF:∀b,b < w.heap.size→grow F5 w6 ((wc.setCell ⟨la.ib,la.io+i' * 2,none⟩ (Ii Ij x2.1)).setCell ⟨la.ib,la.io+i' * 2+1,none⟩ (Ii Ij x2.2)).drew b→F b:=by
  rintro b hb (h | h)
  ·exact old5 b hb h
  ·have:=h.1;omega
 refine (hcall2 _ _ _ _ m x2 (by omega) (by omega) hx2 hupF hoF hFe hKe.2.2.2.2.2 hKe.1).mono ?_
 have hwe:Chg (fun b _=>F b) w ((wc.setCell ⟨la.ib,la.io+i' * 2,none⟩ (Ii Ij x2.1)).setCell ⟨la.ib,la.io+i' * 2+1,none⟩ (Ii Ij x2.2)).drew :=
  (hw05.trans' hc6 i3 (fun _ _ _ h=>h.elim)).trans' hce i3 (fun b o hb h=>old5 b hb h)
 clear hKe hFe re rd
 revert hwe hoF hze hce hupF hpe hnG
 generalize ((wc.setCell ⟨la.ib,la.io+i' * 2,none⟩ (Ii Ij x2.1)).setCell ⟨la.ib,la.io+i' * 2+1,none⟩ (Ii Ij x2.2)).drew=we
 intro hce hze hpe hnG hupF hoF hwe
 rintro e wf ⟨H'',pr2,rp2,sp2,rfl,hFf,hcf,hzf⟩
 have hszf:=hcf.size
 have hpw:wf.heap[w.heap.size+1]?=some (Ic #[Ii Ij pr.1,Ii Ij pr.2] 27 (0,0)):=by rw [hcf.block (kbF hpe) (fun _ h=>hnG h)];exact hpe
 have p0:=kbB hpw 0
 have p1:=kbB hpw 1
 have pf0:=kbC hpw 0
 have pf1:=kbC hpw 1
 simp only [zF,zD,zE] at p0 p1
 have hpwl:=kbF hpe
 clear hpw
 go_wp2_with fail
 refine bodyPost_ret (v:=Iu #[.agg #[Ii Ij pr2.1,Ii Ij pr2.2],.bool rp2,.bool sp2]) (by simp [results,Try.results84,go_sem,p0,p1]) rfl ?_
 have fin:∀w',Chg (fun b _=>b=w.heap.size+1) wf w'→KidTwo k w F Z2 (Ir (Iu #[.agg #[Ii Ij pr2.1,Ii Ij pr2.2],.bool rp2,.bool sp2])) w':=by
  intro w' c
  have hsw:=c.size
  have f6:=hFf.chg c (fun b o hb e=>by
   have e2:b=w.heap.size+1:=e
   subst e2
   rcases hb with hb | hb
   ·exact hnG hb
   ·have:=hb.1;omega)
  refine ⟨we,H'',pr2,rp2,sp2,by omega,hzf,rfl,f6.mono (fun b hb=>?_) (fun b hb=>?_),?_⟩
  ·rcases Nat.lt_or_ge b w.heap.size with h | h
   ·rcases hb with hb | hb
    ·exact .inl (hoF b h hb)
    ·have:=hb.1;omega
   ·exact .inr ⟨h,f6.lt hb⟩
  ·rcases hb with hb | hb
   ·exact f6.lt (.inl (hupF b hb))
   ·exact hb.2
  ·exact (hwe.trans' hcf (B:=fun b _=>F b) i3 (fun b o hb h=>hoF b hb h)).trans' c i3 (fun b o hb e=>by omega)
 refine fin _ ?_
 repeat (first | refine ze ?_ | refine zf ?_ _ | refine zd ?_ (.inl rfl) _ | exact zK _ _)
end
end Go.Proofs.Ytnohimhihombmaa
