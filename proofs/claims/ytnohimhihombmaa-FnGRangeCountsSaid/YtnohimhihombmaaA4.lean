/- A row moved up by one place: the builtin copy within one row. No program in sight. -/
import Derived.Test.YtnohimhihombmaaA1
import Derived.Test.YtnohimhihombmaaA3
namespace Go.Proofs.Ytnohimhihombmaa
set_option linter.unusedSimpArgs false
set_option linter.unusedVariables false
set_option maxRecDepth 100000
set_option maxHeartbeats 40000000
open List renaming getElem?_cons_zero → zD, getElem?_cons_succ → zE, getElem?_toArray → zF, getElem?_eq_some_iff → zG, length_map → zU, length_take → zV, getElem?_append_left → zn
open Chg renaming refl → zK, setCell → zd, drew → ze
open Lib renaming hid → zL
open World renaming block_lt_of_cell? → zg
section
open Go.RowKit
variable {ord:List Int} {k:Kc ord}
theorem nodeSplit_branch (k:Kc ord) (mn mx t n:Nat) (r:NodeR (It ord)) (l:Lay) (w:World) (ht:MapAt k mn mx w t) (hn:NodeAt (parM k) w n r l) (kl:List Nat) (hk:r.kids=some (kl.map some)) (hlen:r.items.length=mx) (hmx:mx≤1000) (hm3:3≤mx)
  (hkl:kl.length=mx+1) (cf:Nat→Int) (hkid:∀c∈kl,w.cell? ⟨c,1,none⟩=some (.int .i64 (cf c))∧0≤cf c∧∀o,¬Ext (parM k) n r l c o) (hsum:ksum cf kl≤100000000000000) :
  Calls Try.prog 85 #[.pointer (some ⟨t,0,none⟩),.pointer (some ⟨n,0,none⟩)] w (SplitPost k w n r l (mx / 2) cf kl):=by
 obtain ⟨i,hi⟩:∃i:Nat,mx / 2=i:=⟨_,rfl⟩
 rw [hi]
 have hI:(mx:Int) / 2=(i:Int):=by omega
 have hilt:i < mx:=by omega
 have hi1:1≤i:=by omega
 clear hi
 obtain ⟨x,hx⟩:∃x,r.items[i]?=some x:=⟨_,List.getElem?_eq_getElem (by omega)⟩
 have t0:=ht.c0
 have t6:=ht.c7
 have n2:=hn.c2
 have n3:=hn.c3s hk
 have iv:=hn.mval hx
 have ik:=hn.mkey hx
 have hcap:=hn.len
 have hkcap:=hn.klen hk
 rw [hlen] at n2
 rw [zU,hkl] at hkcap
 have ibl:=hn.row.lt
 have nlt:n < w.heap.size:=zg w _ n2
 have tlt:t < w.heap.size:=zg w _ t0
 have cclt:=kbF (hn.kid _ hk).1
 have cblt:=(hn.kid _ hk).2.lt
 have nlt1:n < w.heap.size+1+1:=by omega
 have tlt1:t < w.heap.size+1+1:=by omega
 have cclt1:l.cc < w.heap.size+1+1:=by omega
 have hnew:∀b o,w.heap.size≤b→¬Ext (parM k) n r l b o:=fun b o hb h=>Nat.lt_irrefl _ (Nat.lt_of_lt_of_le (hn.lt h.blk) hb)
 have HNEW:=zL hnew
 clear hnew
 have HK:=zL hkid
 clear hkid
 have HK2:=zL hk
 clear hk
 go_enter Try.func85,Try.ntmps85
 go_wp2_with (first | (go_at_call 51;refine (kcQ _ (some ⟨l.cc,0,none⟩) _ ?_).mono ?_;(focus go_simp);rintro e w' ⟨rfl,rfl⟩) | (go_at_call 83;refine (newNode_branch _ k _ ?_).mono ?_;(focus go_simp);rintro e w' ⟨rfl,rfl⟩))
 refine kbD (fun w1=>Chg (fun _ _=>False) w w1∧w1.heap[w.heap.size]?=some (.cells #[.int .i64 x.1,.int .i64 x.2] 27 (0,0)) ∧
  w1.heap[w.heap.size+1]?=some (.cells #[.int .u64 k.iso,.int .i64 0,.slice (some ⟨l.ib,l.io+(i+1) * 2,none⟩) (mx - (i+1)) (l.ic - (i+1)),.pointer (some ⟨w.heap.size+2,0,none⟩)] 109 (0,0)) ∧
  w1.heap[w.heap.size+2]?=some (.cells #[.slice none 0 0] 111 (0,0)))
  ⟨?_,?_,?_,?_⟩ ?_
 ·exact (((zK _ w).alloc _).alloc _).alloc _
 ·rw [kcV _ _ (by simp;try omega),kcV _ _ (by simp;try omega)];exact kbR _ _ rfl
 ·rw [kcV _ _ (by simp)];exact kbR _ _ (by simp)
 ·exact kbR _ _ (by simp)
 rintro w1 ⟨hc1,hb1,hb2,hb3⟩
 have r3:=kbB hb2 3
 have cc0:=kbB hb3 0
 have fcc:=kbC hb3 0
 simp only [zF,zD,zE] at r3 cc0
 have HB1:=zL hb1
 have HB2:=zL hb2
 have HB3:=zL hb3
 clear hb1 hb2 hb3
 have ht1:=ht.chg hc1 (by simp)
 have hn1:=hn.chg hc1 (by simp)
 have n31:=hn1.c3s HK2.out
 have nc1:=hn1.cc HK2.out
 rw [zU,hkl] at nc1
 have j0:(0:Int)≤(i:Int):=by omega
 have j1:(i:Int) < (mx:Int):=by omega
 have j2:((i:Int)+1)≤((mx+1:Nat):Int):=by omega
 clear t0 t6 n2 n3 iv ik hm3
 have hle:i≤mx:=by omega
 have hck:¬l.ck=i+1:=by omega
 have s2:(0:Int)≤(i:Int)+1:=by omega
 have s3:((i:Int)+1).toNat=i+1:=by omega
 have s1:IntKind.i64.wrap ((i:Int)+1)=(i:Int)+1:=IntWalk.i64_in _ (by omega)
 go_still_tail 13,(by kernel_rfl)
 clear s1 s2 s3
 go_wp2_with fail
 refine kbW (fun w2=>Chg (fun b _=>b=w.heap.size+2) w1 w2∧w2.heap[w.heap.size+2]?=some (.cells #[.slice (some ⟨l.cb,l.co+(i+1),none⟩) (mx - i) (l.ck - (i+1))] 111 (0,0))) ⟨?_,?_⟩ ?_
 ·repeat (first | refine ze ?_ | refine zd ?_ (.inl rfl) _ | exact zK _ _)
 ·rw [kbV,kbS HB3.out];rfl
 rintro w2 ⟨hc2,hb3⟩
 have hsz1:w.heap.size+2 < w1.heap.size:=kbF HB3.out
 have hc12:Chg (fun b _=>b=w.heap.size+2) w w2:=hc1.trans' hc2 (fun _ _ _ h=>h.elim) (fun _ _ _ h=>h)
 have hn2:=hn1.chg hc2 (fun b o h1 h2=>HNEW.out b o (by omega) h1)
 have hb2:w2.heap[w.heap.size+1]?=some (.cells #[.int .u64 k.iso,.int .i64 0,.slice (some ⟨l.ib,l.io+(i+1) * 2,none⟩) (mx - (i+1)) (l.ic - (i+1)),.pointer (some ⟨w.heap.size+2,0,none⟩)] 109 (0,0)):=by
  rw [hc2.block (by omega) (by intro o;omega)];exact HB2.out
 refine (kdM (w.heap.size+1) l.ib (l.io+(i+1) * 2) (mx - (i+1)) (l.ic - (i+1)) (w.heap.size+2) l.cb (l.co+(i+1)) (mx - i) (l.ck - (i+1)) 0 (fun j=>(kl.drop (i+1)).getD j 0) (fun j=>cf ((kl.drop (i+1)).getD j 0)) w2
  (kbB hb2 1) (kbC hb2 1) (kbB hb2 2) (kbB hb2 3) (kbB hb3 0) (by omega) (by omega) ?_ (by omega) ?_).mono ?_
 ·intro j hj
  have hjl:i+1+j < kl.length:=by omega
  have hg:(kl.drop (i+1)).getD j 0=kl[i+1+j]:=by simp [List.getD,hjl]
  rw [hg]
  obtain ⟨g1,g2,g3⟩:=HK.out kl[i+1+j] (List.getElem_mem hjl)
  have hlt:kl[i+1+j] < w.heap.size:=zg w _ g1
  refine ⟨?_,by omega,hc12.cell (by simp;omega) g1,g2⟩
  have:=hn2.kidc HK2.out (j:=i+1+j) (o:=some kl[i+1+j]) (by simp [hjl])
  rw [Nat.add_assoc];exact this
 ·have h1:=sumTo_ksum cf (kl.drop (i+1))
  rw [List.length_drop,show kl.length - (i+1)=mx - i by omega] at h1
  rw [h1]
  obtain ⟨s1,s2,s3⟩:=ksum_split cf kl (fun c hc=>(HK.out c hc).2.1) (i+1)
  omega
 rintro e w3 ⟨rfl,m,hw3⟩
 have hsz2:=hc2.size
 have hc3:Chg (fun b o=>b=w.heap.size+1∧o=1) w2 w3:=by
  rw [hw3];exact ((zK _ _).setCell (.inl ⟨rfl,rfl⟩) _).drewN _
 have HD1:Hid (w3.heap[w.heap.size+1]?=some (.cells #[.int .u64 k.iso,.int .i64 (((mx - (i+1):Nat):Int)+kfC (fun j=>cf ((kl.drop (i+1)).getD j 0)) (mx - i)),.slice (some ⟨l.ib,l.io+(i+1) * 2,none⟩) (mx - (i+1)) (l.ic - (i+1)),.pointer (some ⟨w.heap.size+2,0,none⟩)] 109 (0,0))) :=
  zL (by rw [hw3,kbX,kbS hb2];rfl)
 have HB3':Hid (w3.heap[w.heap.size+2]?=some (.cells #[.slice (some ⟨l.cb,l.co+(i+1),none⟩) (mx - i) (l.ck - (i+1))] 111 (0,0))) :=
  zL (by rw [hc3.block (by omega) (by intro o;omega)];exact hb3)
 have HB1':Hid (w3.heap[w.heap.size]?=some (.cells #[.int .i64 x.1,.int .i64 x.2] 27 (0,0))) :=
  zL (by rw [hc3.block (by omega) (by intro o;omega),hc2.block (by omega) (by intro o;omega)];exact HB1.out)
 clear hw3 hb2 hb3
 have hn3:=hn2.chg hc3 (fun b o h1 h2=>HNEW.out b o (by omega) h1)
 have hc13:Chg (fun b _=>b=w.heap.size+1∨b=w.heap.size+2) w1 w3:=hc2.trans' hc3 (fun _ _ _ h=>.inr h) (fun _ _ _ h=>.inl h.1)
 have ht3:=ht1.chg hc13 (by intro b o hm;have:=ht.lt hm;omega)
 have n23:=hn3.c2
 rw [hlen] at n23
 have iv3:=hn3.mval hx
 have ik3:=hn3.mkey hx
 have e4:=ht3.c4
 have e5:=ht3.c5
 have fz0:=hn3.ifz (l.io+i * 2)
 have fz1:=hn3.ifz (l.io+i * 2+1)
 have fzn:=hn3.fz 2
 have n33:=hn3.c3s HK2.out
 have hibn:=hn3.d1
 obtain ⟨d1,d2,d3,d4,d5⟩:=hn3.d2 (by rw [HK2.out];simp)
 clear n31 nc1 r3 cc0 fcc hle hck j2
 go_wp2_with fail
 go_still_tail 10,(by kernel_rfl)
 go_wp2_with (first | (go_at_call 51;refine (kcQ _ (some ⟨l.cc,0,none⟩) _ ?_).mono ?_;(focus go_simp);rintro e w' ⟨rfl,rfl⟩))
 refine kbD (fun w4=>Chg (fun b o=>b=n∨(b=l.ib∧l.io+i * 2≤o∧o < l.io+(i+1) * 2)) w3 w4 ∧
   w4.heap[n]?=some (.cells #[.int .u64 k.iso,.int .i64 r.cnt,.slice (some ⟨l.ib,l.io,none⟩) i i,.pointer (some ⟨l.cc,0,none⟩)] 109 (0,0))) ⟨?_,?_⟩ ?_
 ·repeat (first | refine ze ?_ | refine zd ?_ (.inl ?_) _ | exact zK _ _)
  all_goals (simp;try omega)
 ·have hd:=hn3.hd
  unfold kgJ at hd
  rw [HK2.out,hlen] at hd
  rw [kbV,kbS (c:=#[.int .u64 k.iso,.int .i64 r.cnt,.slice (some ⟨l.ib,l.io,none⟩) mx l.ic,.pointer (some ⟨l.cc,0,none⟩)]) (T:=109) (fr:=(0,0))]
  ·rfl
  ·repeat rw [hs_ne _ (Ne.symm hibn)]
   exact hd
 rintro w4 ⟨hc4,hd4⟩
 have n34:=kbB hd4 3
 have cc4:w4.heap[l.cc]?=w3.heap[l.cc]?:=hc4.block (hn3.lt (.inr (.inr ⟨by rw [HK2.out];simp,.inl rfl⟩))) (by intro o;simp [d1,d3])
 rw [(hn3.kid _ HK2.out).1] at cc4
 have nc4:=kbB cc4 0
 have fc4:=kbC cc4 0
 simp only [zF,zD,zE,zU,hkl] at n34 nc4
 have HD4:=zL hd4
 have HC4:=zL cc4
 clear hd4 cc4 n23 iv3 ik3 e4 e5 fz0 fz1 fzn n33
 have hle:i≤mx:=by omega
 have hle2:i+1≤l.ck:=by omega
 have hle3:(i:Int)+1≤(l.ck:Int):=by omega
 have s2:(0:Int)≤(i:Int)+1:=by omega
 have s3:((i:Int)+1).toNat=i+1:=by omega
 have s1:IntKind.i64.wrap ((i:Int)+1)=(i:Int)+1:=IntWalk.i64_in _ (by omega)
 go_still_tail 15,(by kernel_rfl)
 clear s1 s2 s3
 go_wp2_with fail
 refine kbW (fun w5=>Chg (fun b _=>b=l.cc) w4 w5∧w5.heap[l.cc]?=some (.cells #[.slice (some ⟨l.cb,l.co,none⟩) (i+1) (i+1)] 111 (0,0))) ⟨?_,?_⟩ ?_
 ·repeat (first | refine ze ?_ | refine zd ?_ (.inl rfl) _ | exact zK _ _)
 ·rw [kbV,kbS HC4.out];rfl
 rintro w5 ⟨hc5,hb5⟩
 have hd5:w5.heap[n]?=some (.cells #[.int .u64 k.iso,.int .i64 r.cnt,.slice (some ⟨l.ib,l.io,none⟩) i i,.pointer (some ⟨l.cc,0,none⟩)] 109 (0,0)):=by
  rw [hc5.block (kbF HD4.out) (by intro o;exact Ne.symm d1)];exact HD4.out
 have hc35:Chg (fun b o=>b=n∨(b=l.ib∧l.io+i * 2≤o∧o < l.io+(i+1) * 2)∨b=l.cc) w3 w5 :=
  hc4.trans' hc5 (fun _ _ _ h=>by rcases h with h | h;exact .inl h;exact .inr (.inl h)) (fun _ _ _ h=>.inr (.inr h))
 have hext5:∀b o,(b=n∨(b=l.ib∧l.io+i * 2≤o∧o < l.io+(i+1) * 2)∨b=l.cc)→Ext (parM k) n r l b o:=by
  rintro b o (h | ⟨h1,h2,h3⟩ | h)
  ·exact .inl h
  ·exact .inr (.inl ⟨h1,by omega,by simpa [parM] using (show o < l.io+l.ic * 2 by omega)⟩)
  ·exact .inr (.inr ⟨by rw [HK2.out];simp,.inl h⟩)
 have hrow5:=hn3.kidPart HK2.out hc35 0 (i+1) (i+1) (by simp;omega) (by omega) (by omega) (by
  intro o h1 h2 h3
  rcases h3 with h3 | ⟨h3,_⟩ | h3
  ·exact d2 h3
  ·exact d4 h3
  ·exact d5 h3)
 refine (kdM n l.ib l.io i i l.cc l.cb l.co (i+1) (i+1) r.cnt (fun j=>(kl.take (i+1)).getD j 0) (fun j=>cf ((kl.take (i+1)).getD j 0)) w5
  (kbB hd5 1) (kbC hd5 1) (kbB hd5 2) (kbB hd5 3) (kbB hb5 0) d1 d2 ?_ (by omega) ?_).mono ?_
 ·intro j hj
  have hjl:j < kl.length:=by omega
  have hg:(kl.take (i+1)).getD j 0=kl[j]:=by simp [List.getD,hjl,hj]
  rw [hg]
  obtain ⟨g1,g2,g3⟩:=HK.out kl[j] (List.getElem_mem hjl)
  have hlt:kl[j] < w.heap.size:=zg w _ g1
  refine ⟨?_,fun e=>g3 0 (.inl e),?_,g2⟩
  ·have:=hrow5.cell (j:=j) (v:=kidV (some kl[j])) (by simp [hjl,hj])
   simpa [kidV] using this
  ·refine hc35.cell (fun h=>g3 1 (hext5 _ _ h)) (hc13.cell (by simp;omega) (hc1.cell (by simp) g1))
 ·have h1:=sumTo_ksum cf (kl.take (i+1))
  rw [zV,show min (i+1) kl.length=i+1 by omega] at h1
  rw [h1]
  obtain ⟨s1,s2,s3⟩:=ksum_split cf kl (fun c hc=>(HK.out c hc).2.1) (i+1)
  omega
 rintro e w6 ⟨rfl,m',hw6⟩
 have hc6:Chg (fun b o=>b=n∧o=1) w5 w6:=by
  rw [hw6];exact ((zK _ _).setCell (.inl ⟨rfl,rfl⟩) _).drewN _
 have HD6:Hid (w6.heap[n]?=some (.cells #[.int .u64 k.iso,.int .i64 ((i:Int)+kfC (fun j=>cf ((kl.take (i+1)).getD j 0)) (i+1)),.slice (some ⟨l.ib,l.io,none⟩) i i,.pointer (some ⟨l.cc,0,none⟩)] 109 (0,0))) :=
  zL (by rw [hw6,kbX,kbS hd5];rfl)
 clear hw6
 have HC6:Hid (w6.heap[l.cc]?=some (.cells #[.slice (some ⟨l.cb,l.co,none⟩) (i+1) (i+1)] 111 (0,0))) :=
  zL (by rw [hc6.block (kbF hb5) (by intro o h;exact d1 h.1)];exact hb5)
 have hc36:Chg (fun b o=>b=n∨(b=l.ib∧l.io+i * 2≤o∧o < l.io+(i+1) * 2)∨b=l.cc) w3 w6 :=
  hc35.trans' hc6 (fun _ _ _ h=>h) (fun _ _ _ h=>.inl h.1)
 have hsz3:=hc3.size
 have old36:∀b,w.heap.size≤b→b < w3.heap.size→w6.heap[b]?=w3.heap[b]?:=fun b hb hb2=>hc36.block hb2 (fun o h=>HNEW.out b o hb (hext5 _ _ h))
 have hb6:w6.heap[w.heap.size]?=some (.cells #[.int .i64 x.1,.int .i64 x.2] 27 (0,0)):=by
  rw [old36 _ (by omega) (by omega)];exact HB1'.out
 have q0:=kbB hb6 0
 have q1:=kbB hb6 1
 have q2:=kbC hb6 0
 have q3:=kbC hb6 1
 simp only [zF,zD,zE] at q0 q1
 clear hb6 hd5 hb5 n34 nc4 fc4 hle hle2 hle3
 go_wp2_with fail
 go_region
 go_wp2
 refine bodyPost_ret (v:=.tuple #[.pointer (some ⟨w.heap.size+1,0,none⟩),.agg #[.int .i64 x.1,.int .i64 x.2]]) (by simp [results,Try.results85,go_sem,q0,q1]) rfl ?_
 generalize hw7:World.drew _=w7
 have hc7:Chg (fun b _=>b=w.heap.size) w6 w7:=by
  rw [←hw7]
  repeat (first | refine ze ?_ | refine zd ?_ (.inl rfl) _ | exact zK _ _)
 have hsz6:=hc36.size
 have hc37:Chg (fun b o=>(b=n∨(b=l.ib∧l.io+i * 2≤o∧o < l.io+(i+1) * 2)∨b=l.cc)∨b=w.heap.size) w3 w7 :=
  hc36.trans' hc7 (fun _ _ _ h=>.inl h) (fun _ _ _ h=>.inr h)
 have hk1:=sumTo_ksum cf (kl.take (i+1))
 rw [zV,show min (i+1) kl.length=i+1 by omega] at hk1
 have hk2:=sumTo_ksum cf (kl.drop (i+1))
 rw [List.length_drop,show kl.length - (i+1)=mx - i by omega] at hk2
 have nlt3:n < w.heap.size:=nlt
 have hblk:=hn3.d2 (by rw [HK2.out];simp)
 refine ⟨w.heap.size+1,x,⟨l.ib,l.io,i,l.cc,l.cb,l.co,i+1⟩,⟨l.ib,l.io+(i+1) * 2,l.ic - (i+1),w.heap.size+2,l.cb,l.co+(i+1),l.ck - (i+1)⟩,rfl,hx,by omega,?_,?_,?_,rfl,rfl,rfl,rfl,rfl,rfl,fun _=>⟨rfl,rfl,rfl,rfl,by simp,rfl,rfl,rfl⟩⟩
 ·refine (hc1.trans' hc13 (B:=fun b _=>w.heap.size≤b) (fun _ _ _ h=>h.elim) (fun b o _ h=>by omega)).trans' hc37 (fun b o h1 h2=>by omega) ?_
  rintro b o hb (h | h)
  ·exact hext5 b o h
  ·omega
 ·refine ⟨?_,?_,?_,hibn,?_⟩
  ·rw [hc7.block (by omega) (by intro o;omega),HD6.out,hk1,HK2.out]
   simp [kgJ,parM,hlen];omega
  ·have:=hn3.rowPart hc37 0 i i (by omega) (by omega) (by omega) (by
    intro o h1 h2 h3
    simp [parM] at h1 h2
    rcases h3 with (h3 | ⟨_,h3,_⟩ | h3) | h3
    ·exact hibn h3
    ·omega
    ·exact hblk.2.2.1 h3.symm
    ·omega)
   simpa [parM] using this
  ·intro ks hks
   rw [HK2.out] at hks
   obtain rfl:(kl.map some).take (i+1)=ks:=by simpa using hks
   refine ⟨?_,?_⟩
   ·show w7.heap[l.cc]?=_
    rw [hc7.block (by omega) (by intro o;omega),HC6.out]
    simp [parM,hkl];omega
   ·have:=hn3.kidPart HK2.out hc37 0 (i+1) (i+1) (by simp;omega) (by omega) (by omega) (by
     intro o h1 h2 h3
     rcases h3 with (h3 | ⟨h3,_⟩ | h3) | h3
     ·exact d2 h3
     ·exact d4 h3
     ·exact d5 h3
     ·omega)
    simpa using this
  ·intro _;exact hblk
 ·refine ⟨?_,?_,?_,?_,?_⟩
  ·rw [hc7.block (by omega) (by intro o;omega),old36 _ (by omega) (by omega),HD1.out,hk2,HK2.out]
   simp [kgJ,parM,hlen]
  ·have:=hn3.rowPart hc37 (i+1) (r.items.length - (i+1)) (l.ic - (i+1)) (by omega) (by omega) (by omega) (by
    intro o h1 h2 h3
    simp [parM] at h1 h2
    rcases h3 with (h3 | ⟨_,_,h3⟩ | h3) | h3
    ·exact hibn h3
    ·omega
    ·exact hblk.2.2.1 h3.symm
    ·omega)
   rw [List.take_of_length_le (by simp)] at this
   simpa [parM] using this
  ·intro ks hks
   rw [HK2.out] at hks
   obtain rfl:(kl.map some).drop (i+1)=ks:=by simpa using hks
   refine ⟨?_,?_⟩
   ·show w7.heap[w.heap.size+2]?=_
    rw [hc7.block (by omega) (by intro o;omega),old36 _ (by omega) (by omega),HB3'.out]
    simp [parM,hkl]
   ·have:=hn3.kidPart HK2.out hc37 (i+1) (mx - i) (l.ck - (i+1)) (by simp;omega) (by omega) (by omega) (by
     intro o h1 h2 h3
     rcases h3 with (h3 | ⟨h3,_⟩ | h3) | h3
     ·exact d2 h3
     ·exact d4 h3
     ·exact d5 h3
     ·omega)
    rw [List.take_of_length_le (by simp;omega)] at this
    exact this
  ·show l.ib≠w.heap.size+1
   omega
  ·intro _
   show w.heap.size+2≠w.heap.size+1∧l.cb≠w.heap.size+1∧w.heap.size+2≠l.ib∧l.cb≠l.ib∧l.cb≠w.heap.size+2
   exact ⟨by omega,by omega,by omega,hblk.2.2.2.1,by omega⟩
end
section
open Go.RowKit
variable {ord:List Int} {k:Kc ord}
def SplitFam (k:Kc ord) (w:World) (F:Nat→Prop) (H:Nat→Option (NodeR (It ord))) (n:Nat) (r:NodeR (It ord)) (i:Nat) (cf:Nat→Int) (kl:List Nat) (e:Ending) (w':World):Prop :=
 ∃m x,e=.returned (.tuple #[.pointer (some ⟨m,0,none⟩),.agg #[.int .i64 x.1,.int .i64 x.2]])∧r.items[i]?=some x∧w.heap.size≤m∧Chg (fun b _=>F b) w w' ∧
  Fam (parM k) w' (grow F w w') (upd (upd H n ⟨i+ksum cf (kl.take (i+1)),r.items.take i,r.kids.map (·.take (i+1))⟩) m ⟨((r.items.length - (i+1):Nat):Int)+ksum cf (kl.drop (i+1)),r.items.drop (i+1),r.kids.map (·.drop (i+1))⟩)
theorem split_close {k:Kc ord} {w:World} {F:Nat→Prop} {H:Nat→Option (NodeR (It ord))} {n:Nat} {r:NodeR (It ord)} {i:Nat} {cf:Nat→Int} {kl:List Nat} {l:Lay} (hil:i+1≤r.items.length)
  (hil2:∀ks,r.kids=some ks→i+1≤ks.length) (hn:NodeAt (parM k) w n r l) (hF:∀b,Blk n r l b→F b)
  (cl:∀w' r1 l1 m r2 l2,Chg (Ext (parM k) n r l) w w'→NodeAt (parM k) w' n r1 l1→NodeAt (parM k) w' m r2 l2→w.heap.size≤m →
   (∀b o,Ext (parM k) n r1 l1 b o→Ext (parM k) n r l b o∨w.heap.size≤b)→(∀b o,Ext (parM k) m r2 l2 b o→Ext (parM k) n r l b o∨w.heap.size≤b)→(∀b o,Ext (parM k) n r1 l1 b o→¬Ext (parM k) m r2 l2 b o) →
   (∀b,Blk n r1 l1 b→Blk n r l b∨w.heap.size≤b)→(∀b,Blk m r2 l2 b→Blk n r l b∨w.heap.size≤b)→Fam (parM k) w' (grow F w w') (upd (upd H n r1) m r2))
  {e:Ending} {w':World} (h:SplitPost k w n r l i cf kl e w'):SplitFam k w F H n r i cf kl e w':=by
 obtain ⟨m,x,l1,l2,he,hx,hm,hc,h1,h2,a1,a2,a3,b1,b2,b3,hk⟩:=h
 have hcap:=hn.len
 have hnlt:=hn.lt (.inl rfl)
 have hilt:l.ib < w.heap.size:=hn.lt (.inr (.inl rfl))
 have kn:∀f:List (Option Nat)→List (Option Nat),r.kids.map f≠none→r.kids≠none:=by intro f h e;rw [e] at h;exact h rfl
 have es:(parM k).es=2:=rfl
 refine ⟨m,x,he,hx,hm,hc.mono fun b o _ hb=>hF b hb.blk,?_⟩
 have q1:i * 2≤l.ic * 2:=by omega
 refine cl w' _ l1 m _ l2 hc h1 h2 hm ?_ ?_ ?_ ?_ ?_
 ·rintro b o (h | ⟨e1,e2,e3⟩ | ⟨e0,e1⟩)
  ·exact .inl (.inl h)
  ·rw [a2] at e2;rw [a2,a3,es] at e3;rw [a1] at e1
   exact .inl (.inr (.inl ⟨e1,e2,by rw [es];omega⟩))
  ·obtain ⟨c1,c2,c3,c4,c5⟩:=hk (kn _ e0)
   refine .inl (.inr (.inr ⟨kn _ e0,?_⟩))
   rcases e1 with e1 | ⟨e1,e2,e3⟩
   ·exact .inl (e1.trans c1)
   ·rw [c3] at e2;rw [c3,c4] at e3
    refine .inr ⟨e1.trans c2,e2,?_⟩
    cases hks:r.kids with
    | none=>exact absurd hks (kn _ e0)
    | some ks=>have:=hn.klen hks;have:=hil2 ks hks;omega
 ·rintro b o (h | ⟨e1,e2,e3⟩ | ⟨e0,e1⟩)
  ·exact .inr (by omega)
  ·rw [b2] at e2;rw [b2,b3,es] at e3;rw [b1] at e1
   exact .inl (.inr (.inl ⟨e1,by omega,by rw [es];omega⟩))
  ·obtain ⟨c1,c2,c3,c4,c5,c6,c7,c8⟩:=hk (kn _ e0)
   rcases e1 with e1 | ⟨e1,e2,e3⟩
   ·exact .inr (by omega)
   ·rw [c7] at e2;rw [c7,c8] at e3
    refine .inl (.inr (.inr ⟨kn _ e0,.inr ⟨e1.trans c6,by omega,?_⟩⟩))
    omega
 ·have dd:=fun h=>hn.d2 h
  have d1:=hn.d1
  rintro b o (h | ⟨e1,e2,e3⟩ | ⟨e0,e1⟩) (g | ⟨g1,g2,g3⟩ | ⟨g0,g1⟩)
  ·omega
  ·rw [b1] at g1;exact d1 (g1.symm.trans h)
  ·obtain ⟨c1,c2,c3,c4,c5,c6,c7,c8⟩:=hk (kn _ g0)
   obtain ⟨d2,d3,_⟩:=dd (kn _ g0)
   rcases g1 with g1 | ⟨g1,_,_⟩
   ·omega
   ·rw [c6] at g1;exact d3 (g1.symm.trans h)
  ·rw [a1] at e1;omega
  ·rw [a2,a3,es] at e3;rw [b2] at g2;omega
  ·obtain ⟨c1,c2,c3,c4,c5,c6,c7,c8⟩:=hk (kn _ g0)
   obtain ⟨d2,d3,d4,d5,d6⟩:=dd (kn _ g0)
   rw [a1] at e1
   rcases g1 with g1 | ⟨g1,_,_⟩
   ·omega
   ·rw [c6] at g1;exact d5 (g1.symm.trans e1)
  ·obtain ⟨c1,c2,c3,c4,c5,c6,c7,c8⟩:=hk (kn _ e0)
   have:=hn.lt (b:=l.cc) (.inr (.inr ⟨kn _ e0,.inl rfl⟩))
   have:=hn.lt (b:=l.cb) (.inr (.inr ⟨kn _ e0,.inr rfl⟩))
   rcases e1 with e1 | ⟨e1,_,_⟩
   ·rw [c1] at e1;omega
   ·rw [c2] at e1;omega
  ·obtain ⟨c1,c2,c3,c4,c5,c6,c7,c8⟩:=hk (kn _ e0)
   obtain ⟨d2,d3,d4,d5,d6⟩:=dd (kn _ e0)
   rw [b1] at g1
   rcases e1 with e1 | ⟨e1,_,_⟩
   ·rw [c1] at e1;exact d4 (e1.symm.trans g1)
   ·rw [c2] at e1;exact d5 (e1.symm.trans g1)
  ·obtain ⟨c1,c2,c3,c4,c5,c6,c7,c8⟩:=hk (kn _ e0)
   obtain ⟨d2,d3,d4,d5,d6⟩:=dd (kn _ e0)
   have:=hn.lt (b:=l.cc) (.inr (.inr ⟨kn _ e0,.inl rfl⟩))
   have:=hn.lt (b:=l.cb) (.inr (.inr ⟨kn _ e0,.inr rfl⟩))
   rcases e1 with e1 | ⟨e1,e2,e3⟩<;>rcases g1 with g1 | ⟨g1,g2,g3⟩
   ·rw [c1] at e1;omega
   ·rw [c1] at e1;rw [c6] at g1;exact d6 (g1.symm.trans e1)
   ·rw [c2] at e1;omega
   ·rw [c3,c4] at e3;rw [c7] at g2;omega
 ·rintro b (h | h | ⟨e0,e1⟩)
  ·exact .inl (.inl h)
  ·exact .inl (.inr (.inl (h.trans a1)))
  ·obtain ⟨c1,c2,c3,c4,c5⟩:=hk (kn _ e0)
   rcases e1 with e1 | e1
   ·exact .inl (.inr (.inr ⟨kn _ e0,.inl (e1.trans c1)⟩))
   ·exact .inl (.inr (.inr ⟨kn _ e0,.inr (e1.trans c2)⟩))
 ·rintro b (h | h | ⟨e0,e1⟩)
  ·exact .inr (by omega)
  ·exact .inl (.inr (.inl (h.trans b1)))
  ·obtain ⟨c1,c2,c3,c4,c5,c6,c7,c8⟩:=hk (kn _ e0)
   rcases e1 with e1 | e1
   ·exact .inr (by omega)
   ·exact .inl (.inr (.inr ⟨kn _ e0,.inr (e1.trans c6)⟩))
theorem nodeSplit_any (k:Kc ord) (mn mx t n:Nat) (r:NodeR (It ord)) (w:World) (F:Nat→Prop) (H:Nat→Option (NodeR (It ord))) (hF:Fam (parM k) w F H) (ht:MapAt k mn mx w t) (hn:H n=some r) (kl:List Nat)
  (hk:(r.kids=none∧kl=[])∨(r.kids=some (kl.map some)∧kl.length=mx+1)) (hlen:r.items.length=mx) (hmx:mx≤1000) (hm3:3≤mx) (cf:Nat→Int)
  (hkid:∀c∈kl,c≠n∧∃s,H c=some s∧s.cnt=cf c∧0≤cf c) (hsum:ksum cf kl≤100000000000000) :
  Calls Try.prog 85 #[.pointer (some ⟨t,0,none⟩),.pointer (some ⟨n,0,none⟩)] w (SplitFam k w F H n r (mx / 2) cf kl):=by
 obtain ⟨l,hna,hb,ho,cl⟩:=hF.split hn
 rcases hk with ⟨hk,rfl⟩ | ⟨hk,hkl⟩
 ·exact (nodeSplit_leaf k mn mx t n r l w ht hna hk hlen hmx hm3 cf).mono fun e w' h=>split_close (by omega) (by rw [hk];simp) hna hb cl h
 ·refine (nodeSplit_branch k mn mx t n r l w ht hna kl hk hlen hmx hm3 hkl cf ?_ hsum).mono fun e w' h=>split_close (by omega) (by rw [hk];intro ks h;obtain rfl:=Option.some.inj h;simp;omega) hna hb cl h
  intro c hc
  obtain ⟨h1,s,h2,h3,h4⟩:=hkid c hc
  obtain ⟨⟨l',h5⟩,h6⟩:=ho c s h1 h2
  exact ⟨by rw [h5.c1,h3],h4,h6⟩
end
section
open Go.RowKit
theorem upList {β:Type} (ys:List β) (z:β) (i:Nat) (hi:i≤ys.length) (rest:List β):(ys++[z]).take (i+1)++ys.drop i++(ys++[z]).drop (i+1+(ys.drop i).length)=(ys++[z]).take (i+1)++ys.drop i:=by
 have h:(ys++[z]).drop (i+1+(ys.drop i).length)=[]:=List.drop_eq_nil_of_le (by simp;omega)
 rw [h,List.append_nil]
theorem upList_set {β:Type} (ys:List β) (z x:β) (i:Nat) (hi:i≤ys.length):((ys++[z]).take (i+1)++ys.drop i).set i x=ys.take i++x::ys.drop i:=by
 have h1:((ys++[z]).take (i+1)).length=i+1:=by simp;omega
 rw [List.set_append_left _ _ (by omega),List.set_eq_take_append_cons_drop,if_pos (by omega),List.drop_eq_nil_of_le (by omega),List.take_take,Nat.min_eq_left (by omega)]
 rw [List.take_append_of_le_length hi]
 simp
theorem kfP {β:Type} (ys:List β) (z:β) (i:Nat) (hi:i≤ys.length):((ys++[z]).take (i+1)++ys.drop i).length=ys.length+1:=by
 simp;omega
variable {α:Type} {P:Program} {p:Par α} {w0 w:World} {n:Nat} {r0 r:NodeR α} {l0 l:Lay}
theorem wpList_shift {ops:Array Oper} {rest:List Oper} {o':Oper} {a:Act} {Q:Exit→Act→World→Prop} (hgd:o'.guard=none) (d s:Operand) (dT sT:TypeId)
  (ho:o'.op=.call { callee:=.builtin .copy,args:=#[d,s],argTypes:=#[dT,sT] }) (elem:TypeId) (hu:P.underlying dT=some (.slice elem)) (hsz:(P.info? elem).map (·.size)=some p.es)
  (h1:Run p w0 n r0 l0 w r l) (ys:List α) (z:α) (hr:r.items=ys++[z]) (i od dl dc sl sc:Nat) (hi:i≤ys.length) (hod:i < ys.length→od=l.io+(i+1) * p.es) (hod2:od=l.io∨od=l.io+(i+1) * p.es)
  (hd:a.eval d=.slice (some ⟨l.ib,od,none⟩) dl dc) (so:Nat) (hs:a.eval s=.slice (some ⟨l.ib,so,none⟩) sl sc) (hso:so=l.io+i * p.es) (hdl:dl=ys.length - i) (hsl:sl=ys.length+1 - i)
  (h:∀w',Chg (fun b _=>b=l.ib) w w'→Run p w0 n r0 l0 w' { r with items:=(ys++[z]).take (i+1)++ys.drop i } l→wpList P ops Q rest (a.put o'.dst (goInt (Nat.min sl dl))) w'):wpList P ops Q (o'::rest) a w:=by
 obtain ⟨q0,c,q1,q2,q3⟩:=h1.at_.row
 have hlen:=h1.at_.len
 have hl1:r.items.length=ys.length+1:=by rw [hr];simp
 have m1:(ys.length+1) * p.es≤l.ic * p.es:=Nat.mul_le_mul_right _ (by omega)
 have m2:(i+1) * p.es≤(ys.length+1) * p.es:=Nat.mul_le_mul_right _ (by omega)
 have m3:(i+1) * p.es+(ys.length - i) * p.es=(ys.length+1) * p.es:=by rw [←Nat.add_mul];congr 1;omega
 have hcl:(flat p (ys.drop i)).length=(ys.length - i) * p.es:=by rw [kcT];simp
 have hmin:Nat.min sl dl=ys.length - i:=by rw [hsl,hdl];exact Nat.min_eq_right (by omega)
 refine kfG hgd d s dT sT ho elem p.es hu hsz l.ib od dl dc hd _ sl sc hs (flat p (ys.drop i)) (by rw [hmin,hcl]) ?_ c p.TI q1 ?_ (flat_one p _) ?_
 ·intro j v hj
  rw [kdS,hso]
  have e:(flat p r.items)[i * p.es+j]?=some v:=by
   rw [←List.getElem?_drop,flat_drop,hr,List.drop_append_of_le_length hi,flat_append,zn (zG.1 hj).1]
   exact hj
  have:=h1.at_.row.cell e
  rw [Nat.add_assoc]
  exact this
 ·rw [hcl]
  rcases Nat.lt_or_ge i ys.length with hlt | hge
  ·rw [hod hlt];omega
  ·rw [show ys.length - i=0 by omega,Nat.zero_mul]
   rcases hod2 with e | e<;>omega
 ·refine h _ ?_ ?_
  ·refine kdQ (zK _ _) q1 ?_ (.inl fun _ _ _=>rfl)
   rw [hcl]
   rcases Nat.lt_or_ge i ys.length with hlt | hge
   ·rw [hod hlt];omega
   ·rw [show ys.length - i=0 by omega,Nat.zero_mul]
    rcases hod2 with e | e<;>omega
  ·rcases Nat.lt_or_ge i ys.length with hlt | hge
   ·have:=h1.putItems (i+1) (ys.drop i) (by rw [List.length_drop];omega)
    rw [hr,upList ys z i hi []] at this
    rw [hod hlt]
    exact this
   ·have e1:ys.drop i=[]:=List.drop_eq_nil_of_le hge
    have e2:(ys++[z]).take (i+1)=ys++[z]:=List.take_of_length_le (by simp;omega)
    rw [e1,e2,List.append_nil,←hr]
    refine h1.still (kdQ (zK _ _) q1 ?_ (.inl fun o h1 h2=>?_))
    ·simp only [flat_nil,List.length_nil]
     rcases hod2 with e | e<;>omega
    ·simp only [flat_nil,List.length_nil] at h2
     omega
theorem wpList_shiftKids {ops:Array Oper} {rest:List Oper} {o':Oper} {a:Act} {Q:Exit→Act→World→Prop} (hgd:o'.guard=none) (d s:Operand) (dT sT:TypeId)
  (ho:o'.op=.call { callee:=.builtin .copy,args:=#[d,s],argTypes:=#[dT,sT] }) (elem:TypeId) (hu:P.underlying dT=some (.slice elem)) (hsz:(P.info? elem).map (·.size)=some 1)
  (h1:Run p w0 n r0 l0 w r l) (ys:List (Option Nat)) (z:Option Nat) (hr:r.kids=some (ys++[z])) (i od dl dc sl sc:Nat) (hi:i≤ys.length) (hod:i < ys.length→od=l.co+(i+1)) (hod2:od=l.co∨od=l.co+(i+1))
  (hd:a.eval d=.slice (some ⟨l.cb,od,none⟩) dl dc) (so:Nat) (hs:a.eval s=.slice (some ⟨l.cb,so,none⟩) sl sc) (hso:so=l.co+i) (hdl:dl=ys.length - i) (hsl:sl=ys.length+1 - i)
  (h:∀w',Chg (fun b _=>b=l.cb) w w'→Run p w0 n r0 l0 w' { r with kids:=some ((ys++[z]).take (i+1)++ys.drop i) } l→wpList P ops Q rest (a.put o'.dst (goInt (Nat.min sl dl))) w'):wpList P ops Q (o'::rest) a w:=by
 obtain ⟨k1,k2⟩:=h1.at_.kid _ hr
 obtain ⟨q0,c,q1,q2,q3⟩:=k2
 have hlen:=h1.at_.klen hr
 have hl1:(ys++[z]).length=ys.length+1:=by simp
 have hcl:((ys.drop i).map kidV).length=ys.length - i:=by simp
 have hmin:Nat.min sl dl=ys.length - i:=by rw [hsl,hdl];exact Nat.min_eq_right (by omega)
 refine kfG hgd d s dT sT ho elem 1 hu hsz l.cb od dl dc hd _ sl sc hs ((ys.drop i).map kidV) (by rw [hmin,hcl,Nat.mul_one]) ?_ c p.TP q1 ?_ ?_ ?_
 ·intro j v hj
  rw [kdS,hso]
  have e:((ys++[z]).map kidV)[i+j]?=some v:=by
   rw [←List.getElem?_drop,←List.map_drop,List.drop_append_of_le_length hi,List.map_append,zn (zG.1 hj).1]
   exact hj
  have:=(h1.at_.kid _ hr).2.cell e
  rw [Nat.add_assoc]
  exact this
 ·rw [hcl]
  rcases Nat.lt_or_ge i ys.length with hlt | hge
  ·rw [hod hlt];omega
  ·rcases hod2 with e | e<;>omega
 ·intro u hu
  obtain ⟨x,_,rfl⟩:=List.mem_map.1 hu
  cases x<;>rfl
 ·refine h _ ?_ ?_
  ·refine kdQ (zK _ _) q1 ?_ (.inl fun _ _ _=>rfl)
   rw [hcl]
   rcases Nat.lt_or_ge i ys.length with hlt | hge
   ·rw [hod hlt];omega
   ·rcases hod2 with e | e<;>omega
  ·rcases Nat.lt_or_ge i ys.length with hlt | hge
   ·have:=h1.putKids hr (i+1) (ys.drop i) (by rw [List.length_drop];simp;omega)
    rw [upList ys z i hi []] at this
    rw [hod hlt]
    exact this
   ·have e1:ys.drop i=[]:=List.drop_eq_nil_of_le hge
    have e2:(ys++[z]).take (i+1)=ys++[z]:=List.take_of_length_le (by simp;omega)
    rw [e1,e2,List.append_nil,←hr]
    refine h1.still (kdQ (zK _ _) q1 ?_ (.inl fun o h1 h2=>?_))
    ·simp only [List.map_nil,List.length_nil]
     rcases hod2 with e | e<;>omega
    ·simp only [List.map_nil,List.length_nil] at h2
     omega
end
end Go.Proofs.Ytnohimhihombmaa
