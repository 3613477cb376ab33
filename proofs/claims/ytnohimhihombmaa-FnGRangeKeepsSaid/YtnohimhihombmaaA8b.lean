/- Set of a map whose root is full. -/
import Derived.Laws.MakeOwn
import Derived.Test.YtnohimhihombmaaA2
import Derived.Test.YtnohimhihombmaaA8
namespace Go.Proofs.Ytnohimhihombmaa
set_option linter.unusedSimpArgs false
set_option linter.unusedVariables false
set_option maxRecDepth 100000
set_option maxHeartbeats 40000000
open Value renaming int → Ii, pointer → Ip, slice → Is, tuple → Iu
open IntKind renaming i64 → Ij
open Obj renaming cells → Ic
open Ending renaming returned → Ir
open Option.some renaming inj → Iq
open _root_.Go.Proofs.Try renaming prog → Tp
open List renaming setIfInBounds_toArray → zA, set_cons_zero → zB, set_cons_succ → zC, getElem?_cons_zero → zD, getElem?_cons_succ → zE, getElem?_toArray → zF, mem_cons → zR, filterMap_cons → zX, filterMap_nil → zY, drop_succ_cons → za, drop_zero → zb
open Region renaming wanted → zI
open Act renaming put → zJ
open Chg renaming refl → zK, setCell → zd, drew → ze, drewN → zf
open Lib renaming hid → zL
open Nat renaming le_add_right → zl
section
open Go.RowKit
variable {ord:List Int} {k:Kc ord}
theorem init_done (t:Nat) (d:Int) (mn:Nat) (w:World) (h5:w.cell? ⟨t,10,none⟩=some (Ii Ij mn)) (hmn:1≤mn) :
  Calls Tp 61 #[Ip (some ⟨t,0,none⟩),Ii Ij d] w fun e w'=>e=Ir (Iu #[])∧∃m,w'=w.drewN m:=by
 have hne:¬(mn:Int)=0:=by omega
 go_enter Try.func61,Try.ntmps61
 go_wp2
 refine bodyPost_ret (v:=Iu #[]) (by simp [results,Try.results61,go_sem]) rfl ?_
 exact ⟨rfl,0,rfl⟩
theorem set_empty {k:Kc ord} {mn mx:Nat} {w:World} {t:Nat} (hB:MapBlk k mn mx w t none 0) (hmn:1≤mn) (hmx:3≤mx) (hmx2:mx≤1000) (hmh:mn≤mx / 2) (hmh2:mn≤mx - (mx / 2+1)) (x:It ord) :
  Calls Tp 78 #[Ip (some ⟨t,0,none⟩),aggM x,Ip none] w (SetTop k mn mx w (fun _=>False) t [] x):=by
 have c2:w.cell? ⟨t,2,none⟩=some (Ip none):=hB.c2
 have tlt:=hB.lt
 have c0:=hB.at_.c0
 have c6:=hB.at_.c6
 have z2:=hB.fz 2
 have tlt1:t < w.heap.size+1:=by omega
 have tlt2:t < w.heap.size+1+1:=by omega
 have tlt3:t < w.heap.size+1+1+1:=by omega
 unfold aggM
 go_enter Try.func78,Try.ntmps78
 go_wp2_with (first | (go_at_call 61;refine (init_done t _ mn _ ?_ hmn).mono ?_;(focus go_simp);rintro e w' ⟨rfl,m,rfl⟩) | (go_at_call 83;refine (newNode_leaf _ k _ ?_).mono ?_;(focus go_simp);rintro e w' ⟨rfl,rfl⟩))
 refine kbD (fun w1=>Chg (fun b _=>b=t) w w1∧MapBlk k mn mx w1 t (some (w.heap.size+2)) 0∧w1.heap[w.heap.size]?=some (Ic #[Ii Ij x.1,Ii Ij x.2] 27 (0,0))∧w1.heap[w.heap.size+1]?=some (Ic #[Ii Ij 0,Ii Ij 0] 27 (0,0)) ∧
  w1.heap[w.heap.size+2]?=some (Ic #[.int .u64 k.iso,Ii Ij 0,Is none 0 0,Ip none] 109 (0,0))) ⟨?_,?_,?_,?_,?_⟩ ?_
 ·repeat (first | refine ze ?_ | refine zf ?_ _ | refine Chg.alloc ?_ _ | refine zd ?_ (.inl rfl) _ | exact zK _ _)
 ·exact (MapBlk.setRoot (root:=none) (hB.chg ((((zK (fun _ _=>False) w).alloc _).alloc _).drewN _) i3) (some (w.heap.size+2))).chg ((zK (fun _ _=>False) _).alloc _) i3
 ·rw [kcZ _ _ (by simp;try omega),hs_ne _ (by omega),kcB,kcZ _ _ (by simp;try omega)];exact kbT _ _ rfl
 ·rw [kcZ _ _ (by simp),hs_ne _ (by omega),kcB];exact kbT _ _ (by simp)
 ·exact kbT _ _ (by simp)
 rintro w1 ⟨hc1,hB1,hb1,hbp,hb2⟩
 have HBP:=zL hbp
 clear hbp
 have q0:=kbB hb1 0
 have q1:=kbB hb1 1
 have z22:=kbC hb2 2
 have z21:=kbC hb2 1
 have q22:=kbB hb2 2
 simp only [zF,zD,zE] at q0 q1 q22
 have d2:w1.cell? ⟨t,2,none⟩=some (Ip (some ⟨w.heap.size+2,0,none⟩)):=hB1.c2
 have hsz1:w.heap.size+2 < w1.heap.size:=kbF hb2
 obtain ⟨i0,hi0,hz0,hz1,hz2⟩:=info_parts kfS
 clear c2 c0 c6 z2
 refine wp_region_two (fun w'=>w'.cell? ⟨t,2,none⟩=some (Ip (some ⟨w.heap.size+2,0,none⟩))∧w'.cell? ⟨w.heap.size,0,none⟩=some (Ii Ij x.1)∧w'.cell? ⟨w.heap.size,1,none⟩=some (Ii Ij x.2))
  8 [0,1,2,3,5] 4 6 [6,7] [4,7] _ _ (by kernel_rfl) (by kernel_rfl) (fun _ _ _ _ _ h=>h) rfl rfl rfl rfl rfl ⟨d2,q0,q1⟩ ?_
 simp only [kbK,zX,zY,zD,zE]
 iterate 5
  refine kbR ?_ rfl ?_ ?_
  rotate_left
  ·intro w' hS
   obtain ⟨s1,s2,s3⟩:=hS
   go_simp
   try with_reducible rfl
  simp only [zJ,zA,zB,zC]
 refine kbS ?_
 refine ⟨?_,?_⟩
 ·skip
  iterate 2
   refine kbN (fun K hK=>?_)
   go_simp
   refine hK _ _ ⟨?_,?_,?_⟩ ?_
   iterate 3 go_keep
   clear hK K
  refine kbN (fun K hK=>?_)
  refine kcC _ _ _ (by rfl) 27 i0 _ 2 16 Try.underlying25 hi0 hz0 hz1 hz2 rfl w1.heap.size 0 0 0 (by rfl) [] (RowAt.of_block (c:=#[]) (by rw [kbZ,kcZ _ _ (by simp)];exact kbT _ _ rfl) _ _ (by simp) (by simp) (by simp)) (by rfl) ⟨w1.heap.size+1,0,none⟩ 1 _ (by rfl) [Ii Ij x.1,Ii Ij x.2] (by rfl) (World.news_of_block (cs:=#[Ii Ij x.1,Ii Ij x.2]) (t:=27) (fr:=(0,0)) (kbT _ _ (by simp))) (by simp [Value.oneCell']) (by unfold maxLen;omega) (by omega) ?_
  intro b' o1 cap' w4 happ
  refine hK _ _ ⟨((((zK (fun _ _=>False) w1).alloc _).alloc _).drew.trans (happ.chg.mono (fun _ o _ h=>by have:=h.2;omega))).q d2,((((zK (fun _ _=>False) w1).alloc _).alloc _).drew.trans (happ.chg.mono (fun _ o _ h=>by have:=h.2;omega))).q q0,((((zK (fun _ _=>False) w1).alloc _).alloc _).drew.trans (happ.chg.mono (fun _ o _ h=>by have:=h.2;omega))).q q1⟩ ?_
  clear hK K
  have hc4:Chg (fun _ _=>False) w1 w4:=(((zK (fun _ _=>False) w1).alloc _).alloc _).drew.trans (happ.chg.mono (fun _ o _ h=>by have:=h.2;omega))
  have hrow:=happ.row
  have hroom:=happ.room
  have hpl:w1.heap.size≤b':=by
   rcases happ.place with h | h
   ·have:=h.1;omega
   ·have h2:=h.1
    simp at h2
    omega
  simp only [kdC,za,zb,zJ,zA,zB,zC]
  have hB4:=hB1.chg hc4 i3
  have hb4:w4.heap[w.heap.size+2]?=some (Ic #[.int .u64 k.iso,Ii Ij 0,Is none 0 0,Ip none] 109 (0,0)):=by rw [hc4.block hsz1 (fun _ h=>h)];exact hb2
  clear d2 q0 q1 z22 z21 q22
  have d2:w4.cell? ⟨t,2,none⟩=some (Ip (some ⟨w.heap.size+2,0,none⟩)):=hB4.c2
  have d3:=hB4.c3
  have d4:=hB4.at_.c4
  have y3:=hB4.fz 3
  have z22:=kbC hb4 2
  have z21:=kbC hb4 1
  have q22:=kbB hb4 2
  have q21:=kbB hb4 1
  simp only [zF,zD,zE] at q22 q21
  have hb4':=zL hb4
  have hbp4:w4.heap[w.heap.size+1]?=some (Ic #[Ii Ij 0,Ii Ij 0] 27 (0,0)):=by rw [hc4.block (kbF HBP.out) (fun _ h=>h)];exact HBP.out
  have p0:=kbB hbp4 0
  have p1:=kbB hbp4 1
  have pf0:=kbC hbp4 0
  have pf1:=kbC hbp4 1
  simp only [zF,zD,zE] at p0 p1
  have d5:=hB4.at_.c5
  have u1:¬w.heap.size+1=t:=by omega
  have u1':¬t=w.heap.size+1:=by omega
  clear happ hb4 hbp4
  go_wp2_with fail
  refine bodyPost_ret (v:=Iu #[.agg #[Ii Ij 0,Ii Ij 0],.bool false]) (by simp [results,Try.results78,go_sem,p0,p1,u1,u1']) rfl ?_
  have fin:∀wf wl,wf=((w4.setCell ⟨w.heap.size+2,2,none⟩ (Is (some ⟨b',o1,none⟩) 1 cap')).setCell ⟨w.heap.size+2,1,none⟩ (Ii Ij 1)).setCell ⟨t,3,none⟩ (Ii Ij 1)→Chg (fun b _=>b=w.heap.size+1) wf wl→SetTop k mn mx w (fun _=>False) t [] x (Ir (Iu #[.agg #[Ii Ij 0,Ii Ij 0],.bool false])) wl:=by
   intro wf wl hwf hcl
   have hB5:MapBlk k mn mx wf t (some (w.heap.size+2)) 1:=by
    rw [hwf]
    exact ((hB4.chg ((zK (fun b _=>b=w.heap.size+2) w4).setCell (.inl rfl) _) (fun b _ hm h=>by have:=hB.at_.lt hm;omega)).chg ((zK (fun b _=>b=w.heap.size+2) _).setCell (.inl rfl) _) (fun b _ hm h=>by have:=hB.at_.lt hm;omega)).setCnt 1
   have hc5:Chg (fun b _=>b=w.heap.size+2∨b=t) w4 wf:=by
    rw [hwf]
    repeat (first | refine ze ?_ | refine zd ?_ (.inl (by simp)) _ | exact zK _ _)
   have hd5:wf.heap[w.heap.size+2]?=some (Ic #[.int .u64 k.iso,Ii Ij 1,Is (some ⟨b',o1,none⟩) 1 cap',Ip none] 109 (0,0)):=by
    rw [hwf,hs_ne _ (by omega),kbV (kbV hb4'.out _)]
    rfl
   have hrow5:RowAt wf 27 b' o1 (cap' * 2) [Ii Ij x.1,Ii Ij x.2]:=hrow.chg hc5 (fun j _ h=>by omega)
   clear hwf
   have hB6:=hB5.chg hcl (fun b _ hm e=>by have:=hB.at_.lt hm;omega)
   have hd6:wl.heap[w.heap.size+2]?=some (Ic #[.int .u64 k.iso,Ii Ij 1,Is (some ⟨b',o1,none⟩) 1 cap',Ip none] 109 (0,0)):=by rw [hcl.block (kbF hd5) (fun _ e=>by omega)];exact hd5
   have hrow6:=hrow5.chg hcl (fun j _ h=>by have h2:b'=w.heap.size+1:=h;omega)
   have hc05:Chg (fun b _=>b=t) w wl:=((hc1.trans' hc4 i3 (fun _ _ _ h=>h.elim)).trans' hc5 (B:=fun b _=>b=t) i3 (fun b o hb h=>by omega)).trans' hcl i3 (fun b o hb h=>by omega)
   have hfam:=(Fam.empty (parM k) w).add hc05 (fun _ _ h=>h.elim) (m:=w.heap.size+2) (s:=⟨1,[x],none⟩) (l:=⟨b',o1,cap',0,0,0,0⟩) ⟨hd6,hrow6,fun _ h=>(by cases h),(by show b'≠w.heap.size+2;omega),fun h=>absurd rfl h⟩ (fun b hb=>by
    rcases hb with h | h | ⟨h,_⟩
    ·omega
    ·have h2:b=b':=h
     omega
    ·exact absurd rfl h)
   refine ⟨.inr ⟨rfl,rfl⟩,_,_,0,((w.heap.size+2,[x]):BT (It ord) 0),⟨hfam,hB6.at_,?_,if_pos rfl,by simp [ids],?_,by simp [toL,Srt],by simp [toL],hmx,hmx2,hmh,hmh2⟩,hB6,rfl,by simp [its],hc05.mono (fun _ _ _ h=>.inr h),?_⟩
   ·intro b hm
    rintro (h | h)
    ·exact h
    ·have:=h.1;have:=hB.at_.lt hm;omega
   ·show [x].length≤mx
    simp;omega
   ·rintro b (h | h)
    ·exact .inl h
    ·exact .inr h.1
  refine fin _ _ rfl ?_
  repeat (first | refine ze ?_ | refine zf ?_ _ | refine zd ?_ (.inl rfl) _ | exact zK _ _)
 ·skip
  iterate 2
   refine kbN (fun K hK=>?_)
   go_simp
   refine hK _ _ ⟨?_,?_,?_⟩ ?_
   iterate 3 go_keep
   clear hK K
  refine kbN (fun K hK=>?_)
  refine kcC _ _ _ (by rfl) 27 i0 _ 2 16 Try.underlying25 hi0 hz0 hz1 hz2 rfl (w1.heap.size+1) 0 0 0 (by rfl) [] (RowAt.of_block (c:=#[]) (by rw [kbZ];exact kbT _ _ (by simp)) _ _ (by simp) (by simp) (by simp)) (by rfl) ⟨w1.heap.size,0,none⟩ 1 _ (by rfl) [Ii Ij x.1,Ii Ij x.2] (by rfl) (World.news_of_block (cs:=#[Ii Ij x.1,Ii Ij x.2]) (t:=27) (fr:=(0,0)) (by rw [kbZ,kcZ _ _ (by simp)];exact kbT _ _ rfl)) (by simp [Value.oneCell']) (by unfold maxLen;omega) (by omega) ?_
  intro b' o1 cap' w4 happ
  refine hK _ _ ⟨((((zK (fun _ _=>False) w1).alloc _).alloc _).drew.trans (happ.chg.mono (fun _ o _ h=>by have:=h.2;omega))).q d2,((((zK (fun _ _=>False) w1).alloc _).alloc _).drew.trans (happ.chg.mono (fun _ o _ h=>by have:=h.2;omega))).q q0,((((zK (fun _ _=>False) w1).alloc _).alloc _).drew.trans (happ.chg.mono (fun _ o _ h=>by have:=h.2;omega))).q q1⟩ ?_
  clear hK K
  have hc4:Chg (fun _ _=>False) w1 w4:=(((zK (fun _ _=>False) w1).alloc _).alloc _).drew.trans (happ.chg.mono (fun _ o _ h=>by have:=h.2;omega))
  have hrow:=happ.row
  have hroom:=happ.room
  have hpl:w1.heap.size≤b':=by
   rcases happ.place with h | h
   ·have:=h.1;omega
   ·have h2:=h.1
    simp at h2
    omega
  simp only [kdC,za,zb,zJ,zA,zB,zC]
  have hB4:=hB1.chg hc4 i3
  have hb4:w4.heap[w.heap.size+2]?=some (Ic #[.int .u64 k.iso,Ii Ij 0,Is none 0 0,Ip none] 109 (0,0)):=by rw [hc4.block hsz1 (fun _ h=>h)];exact hb2
  clear d2 q0 q1 z22 z21 q22
  have d2:w4.cell? ⟨t,2,none⟩=some (Ip (some ⟨w.heap.size+2,0,none⟩)):=hB4.c2
  have d3:=hB4.c3
  have d4:=hB4.at_.c4
  have y3:=hB4.fz 3
  have z22:=kbC hb4 2
  have z21:=kbC hb4 1
  have q22:=kbB hb4 2
  have q21:=kbB hb4 1
  simp only [zF,zD,zE] at q22 q21
  have hb4':=zL hb4
  have hbp4:w4.heap[w.heap.size+1]?=some (Ic #[Ii Ij 0,Ii Ij 0] 27 (0,0)):=by rw [hc4.block (kbF HBP.out) (fun _ h=>h)];exact HBP.out
  have p0:=kbB hbp4 0
  have p1:=kbB hbp4 1
  have pf0:=kbC hbp4 0
  have pf1:=kbC hbp4 1
  simp only [zF,zD,zE] at p0 p1
  have d5:=hB4.at_.c5
  have u1:¬w.heap.size+1=t:=by omega
  have u1':¬t=w.heap.size+1:=by omega
  clear happ hb4 hbp4
  go_wp2_with fail
  refine bodyPost_ret (v:=Iu #[.agg #[Ii Ij 0,Ii Ij 0],.bool false]) (by simp [results,Try.results78,go_sem,p0,p1,u1,u1']) rfl ?_
  have fin:∀wf wl,wf=((w4.setCell ⟨w.heap.size+2,2,none⟩ (Is (some ⟨b',o1,none⟩) 1 cap')).setCell ⟨w.heap.size+2,1,none⟩ (Ii Ij 1)).setCell ⟨t,3,none⟩ (Ii Ij 1)→Chg (fun b _=>b=w.heap.size+1) wf wl→SetTop k mn mx w (fun _=>False) t [] x (Ir (Iu #[.agg #[Ii Ij 0,Ii Ij 0],.bool false])) wl:=by
   intro wf wl hwf hcl
   have hB5:MapBlk k mn mx wf t (some (w.heap.size+2)) 1:=by
    rw [hwf]
    exact ((hB4.chg ((zK (fun b _=>b=w.heap.size+2) w4).setCell (.inl rfl) _) (fun b _ hm h=>by have:=hB.at_.lt hm;omega)).chg ((zK (fun b _=>b=w.heap.size+2) _).setCell (.inl rfl) _) (fun b _ hm h=>by have:=hB.at_.lt hm;omega)).setCnt 1
   have hc5:Chg (fun b _=>b=w.heap.size+2∨b=t) w4 wf:=by
    rw [hwf]
    repeat (first | refine ze ?_ | refine zd ?_ (.inl (by simp)) _ | exact zK _ _)
   have hd5:wf.heap[w.heap.size+2]?=some (Ic #[.int .u64 k.iso,Ii Ij 1,Is (some ⟨b',o1,none⟩) 1 cap',Ip none] 109 (0,0)):=by
    rw [hwf,hs_ne _ (by omega),kbV (kbV hb4'.out _)]
    rfl
   have hrow5:RowAt wf 27 b' o1 (cap' * 2) [Ii Ij x.1,Ii Ij x.2]:=hrow.chg hc5 (fun j _ h=>by omega)
   clear hwf
   have hB6:=hB5.chg hcl (fun b _ hm e=>by have:=hB.at_.lt hm;omega)
   have hd6:wl.heap[w.heap.size+2]?=some (Ic #[.int .u64 k.iso,Ii Ij 1,Is (some ⟨b',o1,none⟩) 1 cap',Ip none] 109 (0,0)):=by rw [hcl.block (kbF hd5) (fun _ e=>by omega)];exact hd5
   have hrow6:=hrow5.chg hcl (fun j _ h=>by have h2:b'=w.heap.size+1:=h;omega)
   have hc05:Chg (fun b _=>b=t) w wl:=((hc1.trans' hc4 i3 (fun _ _ _ h=>h.elim)).trans' hc5 (B:=fun b _=>b=t) i3 (fun b o hb h=>by omega)).trans' hcl i3 (fun b o hb h=>by omega)
   have hfam:=(Fam.empty (parM k) w).add hc05 (fun _ _ h=>h.elim) (m:=w.heap.size+2) (s:=⟨1,[x],none⟩) (l:=⟨b',o1,cap',0,0,0,0⟩) ⟨hd6,hrow6,fun _ h=>(by cases h),(by show b'≠w.heap.size+2;omega),fun h=>absurd rfl h⟩ (fun b hb=>by
    rcases hb with h | h | ⟨h,_⟩
    ·omega
    ·have h2:b=b':=h
     omega
    ·exact absurd rfl h)
   refine ⟨.inr ⟨rfl,rfl⟩,_,_,0,((w.heap.size+2,[x]):BT (It ord) 0),⟨hfam,hB6.at_,?_,if_pos rfl,by simp [ids],?_,by simp [toL,Srt],by simp [toL],hmx,hmx2,hmh,hmh2⟩,hB6,rfl,by simp [its],hc05.mono (fun _ _ _ h=>.inr h),?_⟩
   ·intro b hm
    rintro (h | h)
    ·exact h
    ·have:=h.1;have:=hB.at_.lt hm;omega
   ·show [x].length≤mx
    simp;omega
   ·rintro b (h | h)
    ·exact .inl h
    ·exact .inr h.1
  refine fin _ _ rfl ?_
  repeat (first | refine ze ?_ | refine zf ?_ _ | refine zd ?_ (.inl rfl) _ | exact zK _ _)
end
section
open Go.RowKit
variable {ord:List Int} {k:Kc ord}
theorem full_tree {k:Kc ord} {mn mx:Nat} {w w3 wa:World} {F F3:Nat→Prop} {H:HN ord} {t h m nb:Nat} {T:BT (It ord) h} {x x2:It ord} {l:Lay} (hI:TreeIn k mn mx w F H t h T) (hlenT:(its T).length=mx)
  (hF3:Fam (parM k) w3 F3 (upd (upd H (rid T) (kbP h (cutL T (mx / 2)))) m (kbP h (cutR T m (mx / 2))))) (hx2:(its T)[mx / 2]?=some x2) (hm:w.heap.size≤m) (hw:w.heap.size≤w3.heap.size) (htF3:∀b,MOwn k t b→¬F3 b) (tlt:t < w.heap.size)
  (hc:Chg (fun b _=>b=t∨w3.heap.size≤b) w3 wa) (hB:MapBlk k mn mx wa t (some nb) (toL h T).length) (hnb:w3.heap.size≤nb)
  (hn:NodeAt (parM k) wa nb ⟨(toL h T).length,[x2],some [some (rid T),some m]⟩ l) (hl:∀b,Blk nb (⟨(toL h T).length,[x2],some [some (rid T),some m]⟩:NodeR (It ord)) l b→w3.heap.size≤b) :
  ∃H5,∃T2:BT (It ord) (h+1),TreeIn k mn mx wa (grow F3 w3 wa) H5 t (h+1) T2∧MapBlk k mn mx wa t (some (rid T2)) (toL (h+1) T2).length∧toL (h+1) T2=toL h T∧Avail mx (h+1) T2 x∧1≤(its T2).length:=by
 have hm3:=hI.m3
 have hlt:∀a∈ids h T,a < w.heap.size:=fun a ha=>hI.isT.lt hI.fam ha
 have hrT:=hlt _ (kcV T)
 have hml:m < w3.heap.size:=hF3.lt (hF3.mem (n:=m) (if_pos rfl))
 obtain ⟨g1,g2,g3⟩:=ids_cut (t:=T) (m:=m) (i:=mx / 2) hI.nd hlt hm
 obtain ⟨s1,s2⟩:=sh_cut (i:=mx / 2) m hI.sh (by omega)
 have l1:(its (cutL T (mx / 2))).length=mx / 2:=by rw [its_cutL,List.length_take];omega
 have l2:(its (cutR T m (mx / 2))).length=mx - (mx / 2+1):=by rw [its_cutR,List.length_drop];omega
 have htoL:toL (h+1) ((nb,[x2],[cutL T (mx / 2),cutR T m (mx / 2)]):BT (It ord) (h+1))=toL h T:=by
  rw [toL_cut m hI.sh hx2]
  show kcM [x2] [toL h (cutL T (mx / 2)),toL h (cutR T m (mx / 2))]=_
  simp [kcM]
 have hfam:=hF3.add hc (fun b o hb h=>by
  rcases h with rfl | h
  ·exact htF3 _ MOwn.self hb
  ·have:=hF3.lt hb;omega) hn hl
 have tout:∀b,MOwn k t b→¬grow F3 w3 wa b:=by
  intro b hm
  rintro (h | h)
  ·exact htF3 b hm h
  ·have:=h.1;have:=hI.map.lt hm;omega
 obtain ⟨H5,hH5⟩:∃H5,H5=upd (upd (upd H (rid T) (kbP h (cutL T (mx / 2)))) m (kbP h (cutR T m (mx / 2)))) nb (⟨(toL h T).length,[x2],some [some (rid T),some m]⟩:NodeR (It ord)):=⟨_,rfl⟩
 rw [←hH5] at hfam
 obtain ⟨tc1,tc2⟩:=isT_cut (H5:=H5) (m:=m) (i:=mx / 2) hI.isT hI.nd
  (by rw [hH5,updNe (by omega),updNe (by omega)];exact if_pos rfl) (by rw [hH5,updNe (by omega)];exact if_pos rfl)
  (fun a ha hne=>by have:=hlt a ha;rw [hH5,updNe (by omega),updNe (by omega),updNe hne])
 refine ⟨H5,(nb,[x2],[cutL T (mx / 2),cutR T m (mx / 2)]),⟨hfam,hB.at_,tout,⟨?_,?_⟩,?_,⟨?_,rfl,?_⟩,by rw [htoL];exact hI.srt,by rw [htoL];exact hI.big,hm3,hI.m1000,hI.mh,hI.mh2⟩,by rw [htoL];exact hB,htoL,.room (by show 1 < mx;omega),Nat.le_refl _⟩
 ·show H5 nb=some (⟨((toL (h+1) ((nb,[x2],[cutL T (mx / 2),cutR T m (mx / 2)]):BT (It ord) (h+1))).length:Nat),[x2],some [some (rid (cutL T (mx / 2))),some (rid (cutR T m (mx / 2)))]⟩:NodeR (It ord))
  rw [htoL,rid_cutL,rid_cutR,hH5]
  exact if_pos rfl
 ·intro c hc2
  change c∈[cutL T (mx / 2),cutR T m (mx / 2)] at hc2
  simp only [zR,List.not_mem_nil,or_false] at hc2
  rcases hc2 with rfl | rfl
  ·exact tc1
  ·exact tc2
 ·show (nb::[cutL T (mx / 2),cutR T m (mx / 2)].flatMap (ids h)).Nodup
  simp only [List.flatMap_cons,List.flatMap_nil,List.append_nil]
  refine List.nodup_cons.2 ⟨fun hmem=>?_,g1⟩
  rcases List.mem_append.1 hmem with h1 | h1
  ·have:=hlt _ (g2 _ h1);omega
  ·rcases g3 _ h1 with h2 | h2
   ·have:=hlt _ h2;omega
   ·omega
 ·show 1≤mx
  omega
 ·intro c hc2
  change c∈[cutL T (mx / 2),cutR T m (mx / 2)] at hc2
  simp only [zR,List.not_mem_nil,or_false] at hc2
  rcases hc2 with rfl | rfl
  ·exact ⟨by rw [l1];exact hI.mh,s1⟩
  ·exact ⟨by rw [l2];exact hI.mh2,s2⟩
end
section
open Go.RowKit
variable {ord:List Int} {k:Kc ord}
theorem set_full {k:Kc ord} {mn mx:Nat} {w:World} {F:Nat→Prop} {H:HN ord} {t h:Nat} {T:BT (It ord) h} (hI:TreeIn k mn mx w F H t h T) (hB:MapBlk k mn mx w t (some (rid T)) (toL h T).length)
  (x:It ord) (ha:¬Avail mx h T x) (hbig:(toL h T).length < 100000000000000) :
  Calls Tp 78 #[Ip (some ⟨t,0,none⟩),aggM x,Ip none] w (SetTop k mn mx w F t (toL h T) x):=by
 have c2:w.cell? ⟨t,2,none⟩=some (Ip (some ⟨rid T,0,none⟩)):=hB.c2
 have tlt:=hB.lt
 have hmx:=hI.m1000
 have hlenT:(its T).length=mx:=by
  have h1:=hI.sh.len
  rcases Nat.lt_or_ge (its T).length mx with h2 | h2
  ·exact absurd (Avail.room h2) ha
  ·omega
 have hids:∀a∈ids h T,a < w.heap.size:=fun a ha=>hI.isT.lt hI.fam ha
 unfold aggM
 go_enter Try.func78,Try.ntmps78
 go_wp2_with fail
 refine kbD (fun w1=>Chg (fun _ _=>False) w w1∧w1.heap[w.heap.size]?=some (Ic #[Ii Ij x.1,Ii Ij x.2] 27 (0,0))∧w1.heap[w.heap.size+1]?=some (Ic #[Ii Ij 0,Ii Ij 0] 27 (0,0))) ⟨?_,?_,?_⟩ ?_
 ·repeat (first | exact zK _ _ | refine Chg.alloc ?_ _)
 ·rw [kcZ _ _ (by simp)];exact kbT _ _ rfl
 ·exact kbT _ _ (by simp)
 rintro w1 ⟨hc1,hb1,hbp⟩
 have q0:=kbB hb1 0
 have q1:=kbB hb1 1
 simp only [zF,zD,zE] at q0 q1
 have hB1:=hB.chg hc1 i3
 have nF0:∀b,w.heap.size≤b→¬F b:=fun b hb hf=>Nat.lt_irrefl _ (Nat.lt_of_lt_of_le (hI.fam.lt hf) hb)
 have hltp:=kbF hbp
 refine kbM (fun w'=>w'.cell? ⟨w.heap.size,0,none⟩=some (Ii Ij x.1)∧w'.cell? ⟨w.heap.size,1,none⟩=some (Ii Ij x.2)) (.soft 0 (.soft 1 (.soft 2 (.soft 3 (.soft 4 (.soft 5 (.hard 6 (.soft 7 (.soft 8 (.soft 9 (.soft 10 (.hard 11 (.soft 12 (.soft 13 .nil)))))))))))))) (by kernel_rfl) (by kernel_rfl) (fun _ _ _ _ _ h=>h) ⟨q0,q1⟩ ?_
 repeat (first | (refine kbH (by rfl) ?_ ?_ ?_ ?_;rotate_left;(· simp [zI,yielded];done);(· intro w' hS;try obtain ⟨a1,a2⟩:=hS;go_simp;try with_reducible rfl);simp only [zJ,zA,zB,zC]) | (refine kbJ (by rfl) ?_ ?_;(· simp [zI,yielded];done);simp only [zJ,zA,zB,zC]))
 refine kbY (by rfl) (by simp [zI,yielded]) (fun K hK=>?_)
 go_simp
 go_at_call 84
 have hI2:TreeIn k mn mx w1.drew F H t h T:=⟨hI.fam.chg hc1.drew i3,hI.map.chg hc1.drew i3,hI.out,hI.isT,hI.nd,hI.sh,hI.srt,hI.big,hI.m3,hI.m1000,hI.mh,hI.mh2⟩
 refine (setSpec h k mn mx t ⟨t,2,none⟩ 0 x w1.drew F H T hI2 hB1.c2).mono ?_
 rintro e wk ⟨H',pr,rp,sp,rfl,hFk,hck,hz⟩
 rcases hz with ⟨rfl,rfl,_⟩ | ⟨_,hyes,_⟩
 rotate_left
 ·exact absurd hyes ha
 have hbpk:wk.heap[w.heap.size+1]?=some (Ic #[Ii Ij 0,Ii Ij 0] 27 (0,0)):=by rw [hck.block hltp (fun _ h=>nF0 _ (zl _ _) h)];exact hbp
 have p0:=kbB hbpk 0
 have p1:=kbB hbpk 1
 have pf0:=kbC hbpk 0
 have pf1:=kbC hbpk 1
 simp only [zF,zD,zE] at p0 p1
 have r0:=hck.cell (nF0 _ (Nat.le_refl _)) q0
 have r1:=hck.cell (nF0 _ (Nat.le_refl _)) q1
 refine hK _ _ ⟨r0,r1⟩ ?_
 clear hK K
 repeat (first | (refine kbH (by rfl) ?_ ?_ ?_ ?_;rotate_left;(· simp [zI,yielded];done);(· intro w' hS;try obtain ⟨a1,a2⟩:=hS;go_simp;try with_reducible rfl);simp only [zJ,zA,zB,zC]) | (refine kbJ (by rfl) ?_ ?_;(· simp [zI,yielded];done);simp only [zJ,zA,zB,zC]))
 refine kbY (by rfl) (by simp [zI,yielded]) (fun K hK=>?_)
 go_simp
 have hst:Chg (fun b _=>b=w.heap.size+1) wk ((wk.setCell ⟨w.heap.size+1,0,none⟩ (Ii Ij pr.1)).setCell ⟨w.heap.size+1,1,none⟩ (Ii Ij pr.2)):=((zK _ _).setCell (.inl rfl) _).setCell (.inl rfl) _
 refine hK _ _ ⟨hst.cell (fun h=>by simp at h) r0,hst.cell (fun h=>by simp at h) r1⟩ ?_
 clear hK K
 repeat (first | (refine kbH (by rfl) ?_ ?_ ?_ ?_;rotate_left;(· simp [zI,yielded];done);(· intro w' hS;try obtain ⟨a1,a2⟩:=hS;go_simp;try with_reducible rfl);simp only [zJ,zA,zB,zC]) | (refine kbJ (by rfl) ?_ ?_;(· simp [zI,yielded];done);simp only [zJ,zA,zB,zC]))
 refine kcT ?_
 replace hck:Chg (fun b _=>F b) w1 wk:=((zK _ _).drew).trans hck
 refine kbQ (fun w2=>Chg (fun b _=>F b∨b=w.heap.size+1) w1 w2∧Fam (parM k) w2 (grow F w1.drew w2) H'∧w2.heap[w.heap.size+1]?=some (Ic #[Ii Ij pr.1,Ii Ij pr.2] 27 (0,0))) ⟨hck.trans' hst (fun _ _ _ h=>.inl h) (fun _ _ _ h=>.inr h),?_,?_⟩ ?_
 ·refine (hFk.chg hst (fun b o hb e=>?_)).mono (fun b hb=>?_) (fun b hb=>?_)
  ·have e2:b=w.heap.size+1:=e
   subst e2
   rcases hb with hb | hb
   ·exact nF0 _ (zl _ _) hb
   ·have h2:=hb.1;simp at h2;omega
  ·rcases hb with hb | hb
   ·exact .inl hb
   ·exact .inr ⟨hb.1,by simpa using hb.2⟩
  ·rcases hb with hb | hb
   ·have h1:=hI.fam.lt hb;have h2:=hc1.size;have h3:=hck.size;have h4:=hst.size;omega
   ·exact hb.2
 ·rw [kbV (kbV hbpk _)];rfl
 clear p0 p1 pf0 pf1 r0 r1 hst hbpk hbp hck hFk
 rintro w2 ⟨hc2,hF2,hp2⟩
 have HP2:=zL hp2
 clear hp2
 have hsz1:=hc1.size
 have hsz2:=hc2.size
 have hlt1:w.heap.size < w1.heap.size:=kbF hb1
 obtain ⟨F2,hF2e⟩:∃F2,F2=grow F w1.drew w2:=⟨_,rfl⟩
 rw [←hF2e] at hF2
 have hnew2:∀b,F2 b→F b∨w1.heap.size≤b:=by
  rw [hF2e]
  rintro b (h | h)
  ·exact .inl h
  ·exact .inr h.1
 have old2:∀b,b < w1.heap.size→F2 b→F b:=fun b hb h=>by
  rcases hnew2 b h with h | h
  ·exact h
  ·omega
 clear hF2e
 have tout2:∀b,MOwn k t b→¬F2 b:=fun b hm h=>hI.out b hm (old2 b (by have:=hI.map.lt hm;omega) h)
 have nF2:¬F2 w.heap.size:=fun h=>Nat.lt_irrefl _ (hI.fam.lt (old2 _ hlt1 h))
 have hB2:=hB1.chg hc2 (fun b _ hm h=>by
  rcases h with h | h
  ·exact hI.out b hm h
  ·have:=hI.map.lt hm;omega)
 have hw02:Chg (fun b _=>F b) w w2:=hc1.trans' hc2 (fun _ _ _ h=>h.elim) (fun b o hb h=>by
  rcases h with h | h
  ·exact h
  ·omega)
 have nF:¬F w.heap.size:=fun h=>Nat.lt_irrefl _ (hI.fam.lt h)
 have q02:=hc2.cell (fun h=>by rcases h with h | h;exact nF h;simp at h) q0
 have q12:=hc2.cell (fun h=>by rcases h with h | h;exact nF h;simp at h) q1
 obtain ⟨kf1,kf2,kf3⟩:=kidIds_facts hI.isT hI.nd hI.sh
 have hrc:=fun m=>recOf_cut (i:=mx / 2) m hI.isT hI.sh (by have:=hI.m3;omega)
 have d2:w2.cell? ⟨t,2,none⟩=some (Ip (some ⟨rid T,0,none⟩)):=hB2.c2
 have d0:=hB2.at_.c0
 obtain ⟨lr,hnr,_,_,_⟩:=hF2.work hI.isT.root
 have n0:=hnr.c0
 have hpk:(parM k).k=k.iso:=rfl
 rw [hpk] at n0
 clear q0 q1 c2 hnr
 go_wp2_with fail
 refine (kcD t (rid T) k ⟨t,2,none⟩ true _ d2 n0 d0).mono ?_
 rintro e wy ⟨rfl,my,hwy⟩
 have hcy:Chg (fun _ _=>False) w2 wy:=by rw [hwy];exact (zK _ _).drewN _
 clear hwy
 go_wp2_with fail
 clear d0 n0
 refine kbW (fun wz=>Chg (fun _ _=>False) w2 wz) hcy ?_
 rintro wz hcz
 have hszz:=hcz.size
 refine (nodeSplit_any k mn mx t (rid T) (kbP h T) wz F2 H' (hF2.chg hcz i3) (hB2.at_.chg hcz i3) hI.isT.root (kidIds T) (by rw [hlenT] at kf1;exact kf1) (by rw [kbG];exact hlenT) hmx hI.m3 (cntOf H') kf2 (by omega)).mono ?_
 rintro e w3 ⟨m,x2,rfl,hx2,hm,hc3,hF3⟩
 replace hm:w2.heap.size≤m:=Nat.le_trans hszz hm
 replace hc3:Chg (fun b _=>F2 b) w2 w3:=(hcz.mono (fun _ _ _ h=>h.elim)).trans hc3
 rw [kbG] at hx2
 obtain ⟨rc1,rc2⟩:=hrc m
 rw [kbG,←rc1,←rc2] at hF3
 have hsz3:=hc3.size
 have hrTlt:rid T < w.heap.size:=hids _ (kcV T)
 obtain ⟨lL,hL,_,_,_⟩:=hF3.work (n:=rid T) (r:=kbP h (cutL T (mx / 2))) (by rw [updNe (by omega)];exact if_pos rfl)
 obtain ⟨lR,hR,_,_,_⟩:=hF3.work (n:=m) (r:=kbP h (cutR T m (mx / 2))) (if_pos rfl)
 have kL:=hL.c1
 have kR:=hR.c1
 rw [kcH] at kL kR
 have hml3:m < w3.heap.size:=World.block_lt_of_cell? w3 _ kR
 have hcutlen:(toL h T).length=(toL h (cutL T (mx / 2))).length+1+(toL h (cutR T m (mx / 2))).length:=by
  rw [toL_cut m hI.sh hx2];simp;omega
 have KL:=zL kL
 have KR:=zL kR
 clear kL kR hL hR
 obtain ⟨F3,hF3e⟩:∃F3,F3=grow F2 wz w3:=⟨_,rfl⟩
 rw [←hF3e] at hF3
 have hnew3:∀b,F3 b→F b∨w1.heap.size≤b:=by
  rw [hF3e]
  rintro b (h | h)
  ·exact hnew2 b h
  ·have:=h.1;exact .inr (by omega)
 clear hF3e
 have old3:∀b,b < w1.heap.size→F3 b→F b:=fun b hb h=>by
  rcases hnew3 b h with h | h
  ·exact h
  ·omega
 have nF2p:¬F2 (w.heap.size+1):=fun h=>nF0 _ (zl _ _) (old2 _ hltp h)
 have nF3p:¬F3 (w.heap.size+1):=fun h=>nF0 _ (zl _ _) (old3 _ hltp h)
 have hp3:w3.heap[w.heap.size+1]?=some (Ic #[Ii Ij pr.1,Ii Ij pr.2] 27 (0,0)):=by rw [hc3.block (kbF HP2.out) (fun _ h=>nF2p h)];exact HP2.out
 have HP3:=zL hp3
 have hpl3:=kbF hp3
 clear hp3
 have tout3:∀b,MOwn k t b→¬F3 b:=fun b hm h=>hI.out b hm (old3 b (by have:=hI.map.lt hm;omega) h)
 have hB3:=hB2.chg hc3 (fun b _ hm h=>tout2 b hm h)
 have q03:=hc3.cell (fun h=>nF (old2 _ hlt1 h)) q02
 have q13:=hc3.cell (fun h=>nF (old2 _ hlt1 h)) q12
 have hw03:Chg (fun b _=>F b) w w3:=hw02.trans' hc3 i3 (fun b o hb h=>old2 b (by omega) h)
 have e2:=hB3.c2
 have e0:=hB3.at_.c0
 have z2:=hB3.fz 2
 have tlt3:t < w3.heap.size:=hB3.lt
 have tlt3a:t < w3.heap.size+1:=by omega
 have tlt3b:t < w3.heap.size+1+1:=by omega
 clear d2 q02 q12
 go_wp2_with (go_at_call 83;refine (newNode_branch _ k _ ?_).mono ?_;(focus go_simp);rintro e w' ⟨rfl,rfl⟩)
 refine kbD (fun w4=>Chg (fun b _=>b=t) w3 w4∧MapBlk k mn mx w4 t (some (w3.heap.size+1)) (toL h T).length∧w4.heap[w3.heap.size]?=some (Ic #[Ii Ij x2.1,Ii Ij x2.2] 27 (0,0)) ∧
  w4.heap[w3.heap.size+1]?=some (Ic #[.int .u64 k.iso,Ii Ij 0,Is none 0 0,Ip (some ⟨w3.heap.size+2,0,none⟩)] 109 (0,0))∧w4.heap[w3.heap.size+2]?=some (Ic #[Is none 0 0] 111 (0,0))) ⟨?_,?_,?_,?_,?_⟩ ?_
 ·repeat (first | refine ze ?_ | refine zf ?_ _ | refine Chg.alloc ?_ _ | refine zd ?_ (.inl rfl) _ | exact zK _ _)
 ·exact ((MapBlk.setRoot hB3 (some (w3.heap.size+1))).chg ((((zK (fun _ _=>False) _).alloc _).alloc _).alloc _) i3)
 ·rw [kcZ _ _ (by simp;try omega),kcZ _ _ (by simp;try omega)];exact kbT _ _ (by simp)
 ·rw [kcZ _ _ (by simp;try omega)];exact kbT _ _ (by simp)
 ·exact kbT _ _ (by simp)
 rintro w4 ⟨hc4,hB4,hb4,hb5,hb6⟩
 have d2:w4.cell? ⟨t,2,none⟩=some (Ip (some ⟨w3.heap.size+1,0,none⟩)):=hB4.c2
 have e7:=hB4.at_.c7
 have n3:=kbB hb5 3
 have zc:=kbC hb6 0
 have cc:=kbB hb6 0
 simp only [zF,zD,zE] at n3 cc
 have hsz4:w3.heap.size+2 < w4.heap.size:=kbF hb6
 have zca:∀o,(w4.alloc o).drew.frozen? ⟨w3.heap.size+2,0,none⟩=false:=fun o=>by rw [World.frozen?_drew,World.frozen?_alloc_past _ _ _ hsz4];exact zc
 have cca:∀o,(w4.alloc o).drew.cell? ⟨w3.heap.size+2,0,none⟩=some (Is none 0 0):=fun o=>by rw [World.cell?_drew,World.cell?_alloc_past _ _ _ hsz4];exact cc
 have s2:(0:Int)≤(mx:Int)+1:=by omega
 have s3:((mx:Int)+1).toNat=mx+1:=by omega
 have s4:¬mx+1 > 281474976710656:=by omega
 obtain ⟨i0,hi0,hz0,hz1,hz2⟩:=info_parts infoNode
 have hmk:=fun w'=>run_make (P:=Tp) w' 111 97 i0 _ Try.underlying111 hi0 hz0 .i64 .i64 0 ((mx:Int)+1) (by omega) (by omega) (by rw [hz2];omega) (by omega)
 simp only [s3,hz1] at hmk
 have s1:Ij.wrap ((mx:Int)+1)=(mx:Int)+1:=IntWalk.i64_in _ (by omega)
 refine kcS (fun w'=>w'.cell? ⟨t,2,none⟩=some (Ip (some ⟨w3.heap.size+1,0,none⟩))∧w'.cell? ⟨w3.heap.size+1,3,none⟩=some (Ip (some ⟨w3.heap.size+2,0,none⟩))∧w'.cell? ⟨t,9,none⟩=some (Ii Ij mx))
  13 [0,1,2,3,4,5,6,7,8,9,10,11] [12] (by kernel_rfl) (by kernel_rfl) (fun _ _ _ _ _ h=>h) rfl rfl ⟨d2,n3,e7⟩ ?_
 simp only [kbK,zX,zY,zD,zE]
 iterate 12
  refine kbR ?_ rfl ?_ ?_
  rotate_left
  ·intro w' hS
   obtain ⟨a1,a2,a3⟩:=hS
   go_simp
   try with_reducible rfl
  simp only [zJ,zA,zB,zC]
 refine kbS ?_
 refine kbN (fun K hK=>?_)
 go_simp
 refine hK _ _ ⟨?_,?_,?_⟩ ?_
 iterate 3 go_keep
 clear hK K
 simp only [kdC,za,zb,zJ,zA,zB,zC]
 have zc4:=zca (.cells (madeCells #[Ip none] (mx+1)) 97)
 have cc4:=cca (.cells (madeCells #[Ip none] (mx+1)) 97)
 go_wp2_with fail
 refine kbD (fun w5=>Chg (fun b _=>b=w3.heap.size+2) w4 w5∧∃v,w5.heap[w3.heap.size+2]?=some (Ic #[v] 111 (0,0))) ⟨?_,Is (some ⟨w4.heap.size,0,none⟩) 0 (mx+1),?_⟩ ?_
 ·repeat (first | refine ze ?_ | refine zf ?_ _ | refine Chg.alloc ?_ _ | refine zd ?_ (.inl rfl) _ | exact zK _ _)
 ·rw [kbZ,kcZ _ _ (by simpa using hsz4),kbV hb6];rfl
 rintro w5 ⟨hc5,v5,hb65⟩
 have hsz5:=hc5.size
 have hB5:=hB4.chg hc5 (fun b _ hm h=>by have:=hI.map.lt hm;omega)
 have hb55:w5.heap[w3.heap.size+1]?=some (Ic #[.int .u64 k.iso,Ii Ij 0,Is none 0 0,Ip (some ⟨w3.heap.size+2,0,none⟩)] 109 (0,0)):=by rw [hc5.block (by omega) (fun _ h=>by omega)];exact hb5
 have hb45:w5.heap[w3.heap.size]?=some (Ic #[Ii Ij x2.1,Ii Ij x2.2] 27 (0,0)):=by rw [hc5.block (by omega) (fun _ h=>by omega)];exact hb4
 have hc35:Chg (fun b _=>b=t) w3 w5:=hc4.trans' hc5 i3 (fun b o hb h=>by omega)
 have HB5:=zL hb55
 have HB4:=zL hb45
 clear hmk zca cca n3 d2 e7 zc cc hb4 hb5 hb6 zc4 cc4 hB4 s1 s2 s3 s4 hb55 hb45
 have d2:w5.cell? ⟨t,2,none⟩=some (Ip (some ⟨w3.heap.size+1,0,none⟩)):=hB5.c2
 have n3:=kbB HB5.out 3
 simp only [zF,zD,zE] at n3
 refine wp_region_two (fun w'=>w'.cell? ⟨t,2,none⟩=some (Ip (some ⟨w3.heap.size+1,0,none⟩))∧w'.cell? ⟨w3.heap.size+1,3,none⟩=some (Ip (some ⟨w3.heap.size+2,0,none⟩)))
  12 [0,1,2,3,4,5,6,8,9] 7 10 [10,11] [7,11] _ _ (by kernel_rfl) (by kernel_rfl) (fun _ _ _ _ _ h=>h) rfl rfl rfl rfl rfl ⟨d2,n3⟩ ?_
 simp only [kbK,zX,zY,zD,zE]
 iterate 9
  refine kbR ?_ rfl ?_ ?_
  rotate_left
  ·intro w' hS
   obtain ⟨a1,a2⟩:=hS
   go_simp
   try with_reducible rfl
  simp only [zJ,zA,zB,zC]
 refine kbS ?_
 refine ⟨?_,?_⟩
 ·skip
  iterate 2
   refine kbN (fun K hK=>?_)
   go_simp
   refine hK _ _ ⟨?_,?_⟩ ?_
   iterate 2 go_keep
   clear hK K
  refine kbN (fun K hK=>?_)
  refine kcC _ _ _ (by rfl) 97 i0 _ 1 8 Try.underlying111 hi0 hz0 hz1 hz2 rfl w5.heap.size 0 0 0 (by rfl) [] (RowAt.of_block (c:=#[]) (by rw [kbZ,kcZ _ _ (by simp)];exact kbT _ _ rfl) _ _ (by simp) (by simp) (by simp)) (by rfl) ⟨w5.heap.size+1,0,none⟩ 2 _ (by rfl) [Ip (some ⟨rid T,0,none⟩),Ip (some ⟨m,0,none⟩)] (by rfl) (World.news_of_block (cs:=#[Ip (some ⟨rid T,0,none⟩),Ip (some ⟨m,0,none⟩)]) (t:=97) (fr:=(0,0)) (kbT _ _ (by simp))) (by simp [Value.oneCell']) (by unfold maxLen;omega) (by omega) ?_
  intro b' o1 cap' w4 happ
  refine hK _ _ ⟨((((zK (fun _ _=>False) w5).alloc _).alloc _).drew.trans (happ.chg.mono (fun _ o _ h=>by have:=h.2;omega))).q d2,((((zK (fun _ _=>False) w5).alloc _).alloc _).drew.trans (happ.chg.mono (fun _ o _ h=>by have:=h.2;omega))).q n3⟩ ?_
  clear hK K
  have hc6:Chg (fun _ _=>False) w5 w4:=(((zK (fun _ _=>False) w5).alloc _).alloc _).drew.trans (happ.chg.mono (fun _ o _ h=>by have:=h.2;omega))
  have hrowk:=happ.row
  have hroomk:=happ.room
  have hplk:w5.heap.size≤b':=by
   rcases happ.place with h | h
   ·have:=h.1;omega
   ·have h2:=h.1
    simp at h2
    omega
  simp only [kdC,za,zb,zJ,zA,zB,zC]
  have hb66:w4.heap[w3.heap.size+2]?=some (Ic #[v5] 111 (0,0)):=by rw [hc6.block (kbF hb65) (fun _ h=>h)];exact hb65
  have zc6:=kbC hb66 0
  have cc6:=kbB hb66 0
  simp only [zF,zD,zE] at cc6
  have HB66:=zL hb66
  clear happ hb66 d2 n3
  go_wp2_with fail
  refine kbD (fun w7=>∃cb co ck,Chg (fun b _=>b=w3.heap.size+2) w5 w7∧w7.heap[w3.heap.size+2]?=some (Ic #[Is (some ⟨cb,co,none⟩) 2 ck] 111 (0,0))∧RowAt w7 97 cb co ck [Ip (some ⟨rid T,0,none⟩),Ip (some ⟨m,0,none⟩)]∧w5.heap.size≤cb)
   ⟨b',o1,cap',?_,?_,?_,hplk⟩ ?_
  ·refine hc6.trans' (A':=fun b _=>b=w3.heap.size+2) ?_ (fun _ _ _ h=>h.elim) i3
   repeat (first | refine ze ?_ | refine zd ?_ (.inl rfl) _ | exact zK _ _)
  ·rw [kbV HB66.out];rfl
  ·rw [Nat.mul_one] at hrowk
   exact hrowk.chg ((zK (fun b _=>b=w3.heap.size+2) w4).setCell (.inl rfl) _) (fun j _ h=>by have h2:b'=w3.heap.size+2:=h;omega)
  clear hrowk hroomk hplk zc6 cc6 HB66 hc6
  rintro w7 ⟨cb,co,ck,hc7,hb7,hrow7,hcb⟩
  have hsz7:=hc7.size
  have hB7:=hB5.chg hc7 (fun b _ hm h=>by have:=hI.map.lt hm;omega)
  have hb57:w7.heap[w3.heap.size+1]?=some (Ic #[.int .u64 k.iso,Ii Ij 0,Is none 0 0,Ip (some ⟨w3.heap.size+2,0,none⟩)] 109 (0,0)):=by rw [hc7.block (by omega) (fun _ h=>by omega)];exact HB5.out
  have hb47:w7.heap[w3.heap.size]?=some (Ic #[Ii Ij x2.1,Ii Ij x2.2] 27 (0,0)):=by rw [hc7.block (by omega) (fun _ h=>by omega)];exact HB4.out
  have hc37:Chg (fun b _=>b=t) w3 w7:=hc35.trans' hc7 i3 (fun b o hb h=>by omega)
  have d2:w7.cell? ⟨t,2,none⟩=some (Ip (some ⟨w3.heap.size+1,0,none⟩)):=hB7.c2
  have m0:=kbB hb47 0
  have m1:=kbB hb47 1
  simp only [zF,zD,zE] at m0 m1
  have HB57:=zL hb57
  have HB7:=zL hb7
  obtain ⟨i1,hi0,hz0,hz1,hz2⟩:=info_parts kfS
  clear hb57 hb47 hb7 HB5 HB4
  refine wp_region_two (fun w'=>w'.cell? ⟨t,2,none⟩=some (Ip (some ⟨w3.heap.size+1,0,none⟩))∧w'.cell? ⟨w3.heap.size,0,none⟩=some (Ii Ij x2.1)∧w'.cell? ⟨w3.heap.size,1,none⟩=some (Ii Ij x2.2))
   8 [0,1,2,3,5] 4 6 [6,7] [4,7] _ _ (by kernel_rfl) (by kernel_rfl) (fun _ _ _ _ _ h=>h) rfl rfl rfl rfl rfl ⟨d2,m0,m1⟩ ?_
  simp only [kbK,zX,zY,zD,zE]
  iterate 5
   refine kbR ?_ rfl ?_ ?_
   rotate_left
   ·intro w' hS
    obtain ⟨a1,a2,a3⟩:=hS
    go_simp
    try with_reducible rfl
   simp only [zJ,zA,zB,zC]
  refine kbS ?_
  refine ⟨?_,?_⟩
  ·skip
   iterate 2
    refine kbN (fun K hK=>?_)
    go_simp
    refine hK _ _ ⟨?_,?_,?_⟩ ?_
    iterate 3 go_keep
    clear hK K
   refine kbN (fun K hK=>?_)
   refine kcC _ _ _ (by rfl) 27 i1 _ 2 16 Try.underlying25 hi0 hz0 hz1 hz2 rfl w7.heap.size 0 0 0 (by rfl) [] (RowAt.of_block (c:=#[]) (by rw [kbZ,kcZ _ _ (by simp)];exact kbT _ _ rfl) _ _ (by simp) (by simp) (by simp)) (by rfl) ⟨w7.heap.size+1,0,none⟩ 1 _ (by rfl) [Ii Ij x2.1,Ii Ij x2.2] (by rfl) (World.news_of_block (cs:=#[Ii Ij x2.1,Ii Ij x2.2]) (t:=27) (fr:=(0,0)) (kbT _ _ (by simp))) (by simp [Value.oneCell']) (by unfold maxLen;omega) (by omega) ?_
   intro b' o1 cap' w4 happ
   refine hK _ _ ⟨((((zK (fun _ _=>False) w7).alloc _).alloc _).drew.trans (happ.chg.mono (fun _ o _ h=>by have:=h.2;omega))).q d2,((((zK (fun _ _=>False) w7).alloc _).alloc _).drew.trans (happ.chg.mono (fun _ o _ h=>by have:=h.2;omega))).q m0,((((zK (fun _ _=>False) w7).alloc _).alloc _).drew.trans (happ.chg.mono (fun _ o _ h=>by have:=h.2;omega))).q m1⟩ ?_
   clear hK K
   have hc8:Chg (fun _ _=>False) w7 w4:=(((zK (fun _ _=>False) w7).alloc _).alloc _).drew.trans (happ.chg.mono (fun _ o _ h=>by have:=h.2;omega))
   have hrowi:=happ.row
   have hroomi:=happ.room
   have hpli:w7.heap.size≤b':=by
    rcases happ.place with h | h
    ·have:=h.1;omega
    ·have h2:=h.1
     simp at h2
     omega
   simp only [kdC,za,zb,zJ,zA,zB,zC]
   have hb58:w4.heap[w3.heap.size+1]?=some (Ic #[.int .u64 k.iso,Ii Ij 0,Is none 0 0,Ip (some ⟨w3.heap.size+2,0,none⟩)] 109 (0,0)):=by rw [hc8.block (kbF HB57.out) (fun _ h=>h)];exact HB57.out
   have z58:=kbC hb58 2
   have c58:=kbB hb58 2
   simp only [zF,zD,zE] at c58
   have hB8:=hB7.chg hc8 i3
   clear d2
   have d2:w4.cell? ⟨t,2,none⟩=some (Ip (some ⟨w3.heap.size+1,0,none⟩)):=hB8.c2
   have tnb:¬t=w3.heap.size+1:=by omega
   have tnb':¬w3.heap.size+1=t:=by omega
   have HB58:=zL hb58
   clear happ hb58 m0 m1
   go_wp2_with fail
   refine kbW (fun w9=>∃ib io ic,Chg (fun b _=>b=w3.heap.size+1) w7 w9∧w9.heap[w3.heap.size+1]?=some (Ic #[.int .u64 k.iso,Ii Ij 0,Is (some ⟨ib,io,none⟩) 1 ic,Ip (some ⟨w3.heap.size+2,0,none⟩)] 109 (0,0))∧RowAt w9 27 ib io (ic * 2) [Ii Ij x2.1,Ii Ij x2.2]∧w7.heap.size≤ib)
    ⟨b',o1,cap',?_,?_,?_,hpli⟩ ?_
   ·refine hc8.trans' (A':=fun b _=>b=w3.heap.size+1) ?_ (fun _ _ _ h=>h.elim) i3
    repeat (first | refine ze ?_ | refine zd ?_ (.inl rfl) _ | exact zK _ _)
   ·rw [kbV HB58.out];rfl
   ·exact hrowi.chg ((zK (fun b _=>b=w3.heap.size+1) w4).setCell (.inl rfl) _) (fun j _ h=>by have h2:b'=w3.heap.size+1:=h;omega)
   clear hrowi hroomi hpli z58 c58 HB58 hc8 d2
   rintro w9 ⟨ib,io,ic,hc9,hb9,hrow9,hib⟩
   have hsz9:=hc9.size
   have hc39:Chg (fun b _=>b=t) w3 w9:=hc37.trans' hc9 i3 (fun b o hb h=>by omega)
   have hB9:=hB7.chg hc9 (fun b _ hm h=>by have:=hI.map.lt hm;omega)
   have hb79:w9.heap[w3.heap.size+2]?=some (Ic #[Is (some ⟨cb,co,none⟩) 2 ck] 111 (0,0)):=by rw [hc9.block (kbF HB7.out) (fun _ h=>by omega)];exact HB7.out
   have hrow79:=hrow7.chg hc9 (fun j _ h=>by omega)
   have kL9:=hc39.cell (show ¬rid T=t from fun e=>hI.out t MOwn.self (e▸hI.fam.mem hI.isT.root)) KL.out
   have mt:¬m=t:=by omega
   have kR9:=hc39.cell (show ¬m=t from mt) KR.out
   refine (kdN (w3.heap.size+1) ib io 1 ic (w3.heap.size+2) cb co 2 ck 0 (fun j=>if j=0 then rid T else m) (fun j=>if j=0 then ((toL h (cutL T (mx / 2))).length:Nat) else ((toL h (cutR T m (mx / 2))).length:Nat)) w9
    (by rw [kbB hb9];rfl) (kbC hb9 1) (by rw [kbB hb9];rfl) (by rw [kbB hb9];rfl) (by rw [kbB hb79];rfl) (by omega) (by omega) ?_ (by omega) ?_).mono ?_
   ·intro j hj
    match j,hj with
    | 0,_=>exact ⟨hrow79.cell (j:=0) rfl,by show rid T≠_;omega,kL9,by show (0:Int)≤((toL h (cutL T (mx / 2))).length:Nat);omega⟩
    | 1,_=>exact ⟨hrow79.cell (j:=1) rfl,by show m≠_;omega,kR9,by show (0:Int)≤((toL h (cutR T m (mx / 2))).length:Nat);omega⟩
   ·simp [kfK];omega
   rintro e wa ⟨rfl,mm,hwa⟩
   have hsum:((1:Nat):Int)+kfK (fun j=>if j=0 then (((toL h (cutL T (mx / 2))).length:Nat):Int) else ((toL h (cutR T m (mx / 2))).length:Nat)) 2=((toL h T).length:Nat):=by
    simp [kfK];omega
   rw [hsum] at hwa
   have hca:Chg (fun b _=>b=w3.heap.size+1) w9 wa:=by rw [hwa];exact ((zK _ _).setCell (.inl rfl) _).drewN _
   have hba:wa.heap[w3.heap.size+1]?=some (Ic #[.int .u64 k.iso,Ii Ij (toL h T).length,Is (some ⟨ib,io,none⟩) 1 ic,Ip (some ⟨w3.heap.size+2,0,none⟩)] 109 (0,0)):=by rw [hwa,kcB,kbV hb9];rfl
   clear hwa
   have hsza:=hca.size
   have hBa:=hB9.chg hca (fun b _ hm h=>by have:=hI.map.lt hm;omega)
   have hb7a:wa.heap[w3.heap.size+2]?=some (Ic #[Is (some ⟨cb,co,none⟩) 2 ck] 111 (0,0)):=by rw [hca.block (kbF hb79) (fun _ h=>by omega)];exact hb79
   have hrow7a:=hrow79.chg hca (fun j _ h=>by omega)
   have hrow9a:=hrow9.chg hca (fun j _ h=>by omega)
   have hc3a:Chg (fun b _=>b=t) w3 wa:=hc39.trans' hca i3 (fun b o hb h=>by omega)
   have qa0:=hc3a.cell (show ¬w.heap.size=t by omega) q03
   have qa1:=hc3a.cell (show ¬w.heap.size=t by omega) q13
   obtain ⟨H5,T2,hI5,hB5',hT2,hav,h15⟩:=full_tree (wa:=wa) (l:=⟨ib,io,ic,w3.heap.size+2,cb,co,ck⟩) (x:=x) hI hlenT hF3 hx2 (by omega) (by omega) tout3 tlt (hc3a.mono (fun _ _ _ h=>.inl h)) hBa (Nat.le_succ _)
    ⟨hba,hrow9a,fun ks hks=>(by obtain rfl:=Iq hks;exact ⟨hb7a,hrow7a⟩),(by show ib≠w3.heap.size+1;omega),fun _=>(by show w3.heap.size+2≠w3.heap.size+1∧cb≠w3.heap.size+1∧w3.heap.size+2≠ib∧cb≠ib∧cb≠w3.heap.size+2;have hcbl:=hrow7.lt;exact ⟨by omega,by omega,by omega,by omega,by omega⟩)⟩
    (fun b hb=>by
     rcases hb with h | h | ⟨_,h | h⟩
     ·omega
     ·have h2:b=ib:=h
      omega
     ·have h2:b=w3.heap.size+2:=h
      omega
     ·have h2:b=cb:=h
      omega)
   have hgp:¬grow F3 w3 wa (w.heap.size+1):=by
    rintro (h | h)
    ·exact nF3p h
    ·have:=h.1;omega
   have hpa:wa.heap[w.heap.size+1]?=some (Ic #[Ii Ij pr.1,Ii Ij pr.2] 27 (0,0)):=by rw [hc3a.block hpl3 (fun _ h=>by omega)];exact HP3.out
   have HPA:=zL hpa
   clear hpa
   go_wp2_with fail
   refine (set_avail hI5 hB5' x hav h15 (by rw [hT2];exact hbig)).mono ?_
   rw [hT2]
   rintro e wf ⟨hret,F',H'',h',T',r1,r2,r3,r4,r5,r6⟩
   have hpf:wf.heap[w.heap.size+1]?=some (Ic #[Ii Ij pr.1,Ii Ij pr.2] 27 (0,0)):=by
    rw [r5.block (kbF HPA.out) (fun _ h=>by
     rcases h with h | h
     ·exact hgp h
     ·omega)]
    exact HPA.out
   have nFp:¬F' (w.heap.size+1):=fun h=>by
    rcases r6 _ h with h | h
    ·exact hgp h
    ·omega
   have p0:=kbB hpf 0
   have p1:=kbB hpf 1
   have pf0:=kbC hpf 0
   have pf1:=kbC hpf 1
   simp only [zF,zD,zE] at p0 p1
   clear hpf
   have mlt:∀b,MOwn k t b→b < w.heap.size:=fun b hm=>hI.map.lt hm
   have hres:∀wl,Chg (fun b _=>b=w.heap.size+1) wf wl→SetTop k mn mx w F t (toL h T) x e wl:=by
    intro wl hcl
    have hB9:=r2.chg hcl (fun b _ hm e=>by have:=mlt b hm;omega)
    refine ⟨hret,F',H'',h',T',⟨r1.fam.chg hcl (fun b o hb e=>nFp (e▸hb)),hB9.at_,r1.out,r1.isT,r1.nd,r1.sh,r1.srt,r1.big,r1.m3,r1.m1000,r1.mh,r1.mh2⟩,hB9,r3,r4,?_,?_⟩
    ·refine (((hw03.trans' hc3a (B:=fun b _=>F b∨b=t) (fun _ _ _ h=>.inl h) (fun b o hb h=>.inr h))).trans' r5 (B:=fun b _=>F b∨b=t) i3 ?_).trans' hcl i3 (fun b o hb e=>by omega)
     rintro b o hb (h | h)
     ·rcases h with h | h
      ·exact .inl (old3 b (by omega) h)
      ·omega
     ·exact .inr h
    ·intro b hb
     rcases r6 b hb with h | h
     ·rcases h with h | h
      ·rcases hnew3 b h with h | h
       ·exact .inl h
       ·exact .inr (by omega)
      ·exact .inr (by omega)
     ·exact .inr (by omega)
   have HRES:=zL hres
   clear hres
   have hret2:=hret
   rcases hret2 with ⟨y,_,rfl⟩ | ⟨_,rfl⟩
   ·go_wp2_with fail
    refine bodyPost_ret (v:=Iu #[.agg #[Ii Ij y.1,Ii Ij y.2],.bool true]) (by simp [results,Try.results78,go_sem,p0,p1]) rfl ?_
    refine HRES.out _ ?_
    repeat (first | refine ze ?_ | refine zf ?_ _ | refine zd ?_ (.inl rfl) _ | exact zK _ _)
   ·go_wp2_with fail
    refine bodyPost_ret (v:=Iu #[.agg #[Ii Ij 0,Ii Ij 0],.bool false]) (by simp [results,Try.results78,go_sem,p0,p1]) rfl ?_
    refine HRES.out _ ?_
    repeat (first | refine ze ?_ | refine zf ?_ _ | refine zd ?_ (.inl rfl) _ | exact zK _ _)
  ·skip
   iterate 2
    refine kbN (fun K hK=>?_)
    go_simp
    refine hK _ _ ⟨?_,?_,?_⟩ ?_
    iterate 3 go_keep
    clear hK K
   refine kbN (fun K hK=>?_)
   refine kcC _ _ _ (by rfl) 27 i1 _ 2 16 Try.underlying25 hi0 hz0 hz1 hz2 rfl (w7.heap.size+1) 0 0 0 (by rfl) [] (RowAt.of_block (c:=#[]) (by rw [kbZ];exact kbT _ _ (by simp)) _ _ (by simp) (by simp) (by simp)) (by rfl) ⟨w7.heap.size,0,none⟩ 1 _ (by rfl) [Ii Ij x2.1,Ii Ij x2.2] (by rfl) (World.news_of_block (cs:=#[Ii Ij x2.1,Ii Ij x2.2]) (t:=27) (fr:=(0,0)) (by rw [kbZ,kcZ _ _ (by simp)];exact kbT _ _ rfl)) (by simp [Value.oneCell']) (by unfold maxLen;omega) (by omega) ?_
   intro b' o1 cap' w4 happ
   refine hK _ _ ⟨((((zK (fun _ _=>False) w7).alloc _).alloc _).drew.trans (happ.chg.mono (fun _ o _ h=>by have:=h.2;omega))).q d2,((((zK (fun _ _=>False) w7).alloc _).alloc _).drew.trans (happ.chg.mono (fun _ o _ h=>by have:=h.2;omega))).q m0,((((zK (fun _ _=>False) w7).alloc _).alloc _).drew.trans (happ.chg.mono (fun _ o _ h=>by have:=h.2;omega))).q m1⟩ ?_
   clear hK K
   have hc8:Chg (fun _ _=>False) w7 w4:=(((zK (fun _ _=>False) w7).alloc _).alloc _).drew.trans (happ.chg.mono (fun _ o _ h=>by have:=h.2;omega))
   have hrowi:=happ.row
   have hroomi:=happ.room
   have hpli:w7.heap.size≤b':=by
    rcases happ.place with h | h
    ·have:=h.1;omega
    ·have h2:=h.1
     simp at h2
     omega
   simp only [kdC,za,zb,zJ,zA,zB,zC]
   have hb58:w4.heap[w3.heap.size+1]?=some (Ic #[.int .u64 k.iso,Ii Ij 0,Is none 0 0,Ip (some ⟨w3.heap.size+2,0,none⟩)] 109 (0,0)):=by rw [hc8.block (kbF HB57.out) (fun _ h=>h)];exact HB57.out
   have z58:=kbC hb58 2
   have c58:=kbB hb58 2
   simp only [zF,zD,zE] at c58
   have hB8:=hB7.chg hc8 i3
   clear d2
   have d2:w4.cell? ⟨t,2,none⟩=some (Ip (some ⟨w3.heap.size+1,0,none⟩)):=hB8.c2
   have tnb:¬t=w3.heap.size+1:=by omega
   have tnb':¬w3.heap.size+1=t:=by omega
   have HB58:=zL hb58
   clear happ hb58 m0 m1
   go_wp2_with fail
   refine kbW (fun w9=>∃ib io ic,Chg (fun b _=>b=w3.heap.size+1) w7 w9∧w9.heap[w3.heap.size+1]?=some (Ic #[.int .u64 k.iso,Ii Ij 0,Is (some ⟨ib,io,none⟩) 1 ic,Ip (some ⟨w3.heap.size+2,0,none⟩)] 109 (0,0))∧RowAt w9 27 ib io (ic * 2) [Ii Ij x2.1,Ii Ij x2.2]∧w7.heap.size≤ib)
    ⟨b',o1,cap',?_,?_,?_,hpli⟩ ?_
   ·refine hc8.trans' (A':=fun b _=>b=w3.heap.size+1) ?_ (fun _ _ _ h=>h.elim) i3
    repeat (first | refine ze ?_ | refine zd ?_ (.inl rfl) _ | exact zK _ _)
   ·rw [kbV HB58.out];rfl
   ·exact hrowi.chg ((zK (fun b _=>b=w3.heap.size+1) w4).setCell (.inl rfl) _) (fun j _ h=>by have h2:b'=w3.heap.size+1:=h;omega)
   clear hrowi hroomi hpli z58 c58 HB58 hc8 d2
   rintro w9 ⟨ib,io,ic,hc9,hb9,hrow9,hib⟩
   have hsz9:=hc9.size
   have hc39:Chg (fun b _=>b=t) w3 w9:=hc37.trans' hc9 i3 (fun b o hb h=>by omega)
   have hB9:=hB7.chg hc9 (fun b _ hm h=>by have:=hI.map.lt hm;omega)
   have hb79:w9.heap[w3.heap.size+2]?=some (Ic #[Is (some ⟨cb,co,none⟩) 2 ck] 111 (0,0)):=by rw [hc9.block (kbF HB7.out) (fun _ h=>by omega)];exact HB7.out
   have hrow79:=hrow7.chg hc9 (fun j _ h=>by omega)
   have kL9:=hc39.cell (show ¬rid T=t from fun e=>hI.out t MOwn.self (e▸hI.fam.mem hI.isT.root)) KL.out
   have mt:¬m=t:=by omega
   have kR9:=hc39.cell (show ¬m=t from mt) KR.out
   refine (kdN (w3.heap.size+1) ib io 1 ic (w3.heap.size+2) cb co 2 ck 0 (fun j=>if j=0 then rid T else m) (fun j=>if j=0 then ((toL h (cutL T (mx / 2))).length:Nat) else ((toL h (cutR T m (mx / 2))).length:Nat)) w9
    (by rw [kbB hb9];rfl) (kbC hb9 1) (by rw [kbB hb9];rfl) (by rw [kbB hb9];rfl) (by rw [kbB hb79];rfl) (by omega) (by omega) ?_ (by omega) ?_).mono ?_
   ·intro j hj
    match j,hj with
    | 0,_=>exact ⟨hrow79.cell (j:=0) rfl,by show rid T≠_;omega,kL9,by show (0:Int)≤((toL h (cutL T (mx / 2))).length:Nat);omega⟩
    | 1,_=>exact ⟨hrow79.cell (j:=1) rfl,by show m≠_;omega,kR9,by show (0:Int)≤((toL h (cutR T m (mx / 2))).length:Nat);omega⟩
   ·simp [kfK];omega
   rintro e wa ⟨rfl,mm,hwa⟩
   have hsum:((1:Nat):Int)+kfK (fun j=>if j=0 then (((toL h (cutL T (mx / 2))).length:Nat):Int) else ((toL h (cutR T m (mx / 2))).length:Nat)) 2=((toL h T).length:Nat):=by
    simp [kfK];omega
   rw [hsum] at hwa
   have hca:Chg (fun b _=>b=w3.heap.size+1) w9 wa:=by rw [hwa];exact ((zK _ _).setCell (.inl rfl) _).drewN _
   have hba:wa.heap[w3.heap.size+1]?=some (Ic #[.int .u64 k.iso,Ii Ij (toL h T).length,Is (some ⟨ib,io,none⟩) 1 ic,Ip (some ⟨w3.heap.size+2,0,none⟩)] 109 (0,0)):=by rw [hwa,kcB,kbV hb9];rfl
   clear hwa
   have hsza:=hca.size
   have hBa:=hB9.chg hca (fun b _ hm h=>by have:=hI.map.lt hm;omega)
   have hb7a:wa.heap[w3.heap.size+2]?=some (Ic #[Is (some ⟨cb,co,none⟩) 2 ck] 111 (0,0)):=by rw [hca.block (kbF hb79) (fun _ h=>by omega)];exact hb79
   have hrow7a:=hrow79.chg hca (fun j _ h=>by omega)
   have hrow9a:=hrow9.chg hca (fun j _ h=>by omega)
   have hc3a:Chg (fun b _=>b=t) w3 wa:=hc39.trans' hca i3 (fun b o hb h=>by omega)
   have qa0:=hc3a.cell (show ¬w.heap.size=t by omega) q03
   have qa1:=hc3a.cell (show ¬w.heap.size=t by omega) q13
   obtain ⟨H5,T2,hI5,hB5',hT2,hav,h15⟩:=full_tree (wa:=wa) (l:=⟨ib,io,ic,w3.heap.size+2,cb,co,ck⟩) (x:=x) hI hlenT hF3 hx2 (by omega) (by omega) tout3 tlt (hc3a.mono (fun _ _ _ h=>.inl h)) hBa (Nat.le_succ _)
    ⟨hba,hrow9a,fun ks hks=>(by obtain rfl:=Iq hks;exact ⟨hb7a,hrow7a⟩),(by show ib≠w3.heap.size+1;omega),fun _=>(by show w3.heap.size+2≠w3.heap.size+1∧cb≠w3.heap.size+1∧w3.heap.size+2≠ib∧cb≠ib∧cb≠w3.heap.size+2;have hcbl:=hrow7.lt;exact ⟨by omega,by omega,by omega,by omega,by omega⟩)⟩
    (fun b hb=>by
     rcases hb with h | h | ⟨_,h | h⟩
     ·omega
     ·have h2:b=ib:=h
      omega
     ·have h2:b=w3.heap.size+2:=h
      omega
     ·have h2:b=cb:=h
      omega)
   have hgp:¬grow F3 w3 wa (w.heap.size+1):=by
    rintro (h | h)
    ·exact nF3p h
    ·have:=h.1;omega
   have hpa:wa.heap[w.heap.size+1]?=some (Ic #[Ii Ij pr.1,Ii Ij pr.2] 27 (0,0)):=by rw [hc3a.block hpl3 (fun _ h=>by omega)];exact HP3.out
   have HPA:=zL hpa
   clear hpa
   go_wp2_with fail
   refine (set_avail hI5 hB5' x hav h15 (by rw [hT2];exact hbig)).mono ?_
   rw [hT2]
   rintro e wf ⟨hret,F',H'',h',T',r1,r2,r3,r4,r5,r6⟩
   have hpf:wf.heap[w.heap.size+1]?=some (Ic #[Ii Ij pr.1,Ii Ij pr.2] 27 (0,0)):=by
    rw [r5.block (kbF HPA.out) (fun _ h=>by
     rcases h with h | h
     ·exact hgp h
     ·omega)]
    exact HPA.out
   have nFp:¬F' (w.heap.size+1):=fun h=>by
    rcases r6 _ h with h | h
    ·exact hgp h
    ·omega
   have p0:=kbB hpf 0
   have p1:=kbB hpf 1
   have pf0:=kbC hpf 0
   have pf1:=kbC hpf 1
   simp only [zF,zD,zE] at p0 p1
   clear hpf
   have mlt:∀b,MOwn k t b→b < w.heap.size:=fun b hm=>hI.map.lt hm
   have hres:∀wl,Chg (fun b _=>b=w.heap.size+1) wf wl→SetTop k mn mx w F t (toL h T) x e wl:=by
    intro wl hcl
    have hB9:=r2.chg hcl (fun b _ hm e=>by have:=mlt b hm;omega)
    refine ⟨hret,F',H'',h',T',⟨r1.fam.chg hcl (fun b o hb e=>nFp (e▸hb)),hB9.at_,r1.out,r1.isT,r1.nd,r1.sh,r1.srt,r1.big,r1.m3,r1.m1000,r1.mh,r1.mh2⟩,hB9,r3,r4,?_,?_⟩
    ·refine (((hw03.trans' hc3a (B:=fun b _=>F b∨b=t) (fun _ _ _ h=>.inl h) (fun b o hb h=>.inr h))).trans' r5 (B:=fun b _=>F b∨b=t) i3 ?_).trans' hcl i3 (fun b o hb e=>by omega)
     rintro b o hb (h | h)
     ·rcases h with h | h
      ·exact .inl (old3 b (by omega) h)
      ·omega
     ·exact .inr h
    ·intro b hb
     rcases r6 b hb with h | h
     ·rcases h with h | h
      ·rcases hnew3 b h with h | h
       ·exact .inl h
       ·exact .inr (by omega)
      ·exact .inr (by omega)
     ·exact .inr (by omega)
   have HRES:=zL hres
   clear hres
   have hret2:=hret
   rcases hret2 with ⟨y,_,rfl⟩ | ⟨_,rfl⟩
   ·go_wp2_with fail
    refine bodyPost_ret (v:=Iu #[.agg #[Ii Ij y.1,Ii Ij y.2],.bool true]) (by simp [results,Try.results78,go_sem,p0,p1]) rfl ?_
    refine HRES.out _ ?_
    repeat (first | refine ze ?_ | refine zf ?_ _ | refine zd ?_ (.inl rfl) _ | exact zK _ _)
   ·go_wp2_with fail
    refine bodyPost_ret (v:=Iu #[.agg #[Ii Ij 0,Ii Ij 0],.bool false]) (by simp [results,Try.results78,go_sem,p0,p1]) rfl ?_
    refine HRES.out _ ?_
    repeat (first | refine ze ?_ | refine zf ?_ _ | refine zd ?_ (.inl rfl) _ | exact zK _ _)
 ·skip
  iterate 2
   refine kbN (fun K hK=>?_)
   go_simp
   refine hK _ _ ⟨?_,?_⟩ ?_
   iterate 2 go_keep
   clear hK K
  refine kbN (fun K hK=>?_)
  refine kcC _ _ _ (by rfl) 97 i0 _ 1 8 Try.underlying111 hi0 hz0 hz1 hz2 rfl (w5.heap.size+1) 0 0 0 (by rfl) [] (RowAt.of_block (c:=#[]) (by rw [kbZ];exact kbT _ _ (by simp)) _ _ (by simp) (by simp) (by simp)) (by rfl) ⟨w5.heap.size,0,none⟩ 2 _ (by rfl) [Ip (some ⟨rid T,0,none⟩),Ip (some ⟨m,0,none⟩)] (by rfl) (World.news_of_block (cs:=#[Ip (some ⟨rid T,0,none⟩),Ip (some ⟨m,0,none⟩)]) (t:=97) (fr:=(0,0)) (by rw [kbZ,kcZ _ _ (by simp)];exact kbT _ _ rfl)) (by simp [Value.oneCell']) (by unfold maxLen;omega) (by omega) ?_
  intro b' o1 cap' w4 happ
  refine hK _ _ ⟨((((zK (fun _ _=>False) w5).alloc _).alloc _).drew.trans (happ.chg.mono (fun _ o _ h=>by have:=h.2;omega))).q d2,((((zK (fun _ _=>False) w5).alloc _).alloc _).drew.trans (happ.chg.mono (fun _ o _ h=>by have:=h.2;omega))).q n3⟩ ?_
  clear hK K
  have hc6:Chg (fun _ _=>False) w5 w4:=(((zK (fun _ _=>False) w5).alloc _).alloc _).drew.trans (happ.chg.mono (fun _ o _ h=>by have:=h.2;omega))
  have hrowk:=happ.row
  have hroomk:=happ.room
  have hplk:w5.heap.size≤b':=by
   rcases happ.place with h | h
   ·have:=h.1;omega
   ·have h2:=h.1
    simp at h2
    omega
  simp only [kdC,za,zb,zJ,zA,zB,zC]
  have hb66:w4.heap[w3.heap.size+2]?=some (Ic #[v5] 111 (0,0)):=by rw [hc6.block (kbF hb65) (fun _ h=>h)];exact hb65
  have zc6:=kbC hb66 0
  have cc6:=kbB hb66 0
  simp only [zF,zD,zE] at cc6
  have HB66:=zL hb66
  clear happ hb66 d2 n3
  go_wp2_with fail
  refine kbD (fun w7=>∃cb co ck,Chg (fun b _=>b=w3.heap.size+2) w5 w7∧w7.heap[w3.heap.size+2]?=some (Ic #[Is (some ⟨cb,co,none⟩) 2 ck] 111 (0,0))∧RowAt w7 97 cb co ck [Ip (some ⟨rid T,0,none⟩),Ip (some ⟨m,0,none⟩)]∧w5.heap.size≤cb)
   ⟨b',o1,cap',?_,?_,?_,hplk⟩ ?_
  ·refine hc6.trans' (A':=fun b _=>b=w3.heap.size+2) ?_ (fun _ _ _ h=>h.elim) i3
   repeat (first | refine ze ?_ | refine zd ?_ (.inl rfl) _ | exact zK _ _)
  ·rw [kbV HB66.out];rfl
  ·rw [Nat.mul_one] at hrowk
   exact hrowk.chg ((zK (fun b _=>b=w3.heap.size+2) w4).setCell (.inl rfl) _) (fun j _ h=>by have h2:b'=w3.heap.size+2:=h;omega)
  clear hrowk hroomk hplk zc6 cc6 HB66 hc6
  rintro w7 ⟨cb,co,ck,hc7,hb7,hrow7,hcb⟩
  have hsz7:=hc7.size
  have hB7:=hB5.chg hc7 (fun b _ hm h=>by have:=hI.map.lt hm;omega)
  have hb57:w7.heap[w3.heap.size+1]?=some (Ic #[.int .u64 k.iso,Ii Ij 0,Is none 0 0,Ip (some ⟨w3.heap.size+2,0,none⟩)] 109 (0,0)):=by rw [hc7.block (by omega) (fun _ h=>by omega)];exact HB5.out
  have hb47:w7.heap[w3.heap.size]?=some (Ic #[Ii Ij x2.1,Ii Ij x2.2] 27 (0,0)):=by rw [hc7.block (by omega) (fun _ h=>by omega)];exact HB4.out
  have hc37:Chg (fun b _=>b=t) w3 w7:=hc35.trans' hc7 i3 (fun b o hb h=>by omega)
  have d2:w7.cell? ⟨t,2,none⟩=some (Ip (some ⟨w3.heap.size+1,0,none⟩)):=hB7.c2
  have m0:=kbB hb47 0
  have m1:=kbB hb47 1
  simp only [zF,zD,zE] at m0 m1
  have HB57:=zL hb57
  have HB7:=zL hb7
  obtain ⟨i1,hi0,hz0,hz1,hz2⟩:=info_parts kfS
  clear hb57 hb47 hb7 HB5 HB4
  refine wp_region_two (fun w'=>w'.cell? ⟨t,2,none⟩=some (Ip (some ⟨w3.heap.size+1,0,none⟩))∧w'.cell? ⟨w3.heap.size,0,none⟩=some (Ii Ij x2.1)∧w'.cell? ⟨w3.heap.size,1,none⟩=some (Ii Ij x2.2))
   8 [0,1,2,3,5] 4 6 [6,7] [4,7] _ _ (by kernel_rfl) (by kernel_rfl) (fun _ _ _ _ _ h=>h) rfl rfl rfl rfl rfl ⟨d2,m0,m1⟩ ?_
  simp only [kbK,zX,zY,zD,zE]
  iterate 5
   refine kbR ?_ rfl ?_ ?_
   rotate_left
   ·intro w' hS
    obtain ⟨a1,a2,a3⟩:=hS
    go_simp
    try with_reducible rfl
   simp only [zJ,zA,zB,zC]
  refine kbS ?_
  refine ⟨?_,?_⟩
  ·skip
   iterate 2
    refine kbN (fun K hK=>?_)
    go_simp
    refine hK _ _ ⟨?_,?_,?_⟩ ?_
    iterate 3 go_keep
    clear hK K
   refine kbN (fun K hK=>?_)
   refine kcC _ _ _ (by rfl) 27 i1 _ 2 16 Try.underlying25 hi0 hz0 hz1 hz2 rfl w7.heap.size 0 0 0 (by rfl) [] (RowAt.of_block (c:=#[]) (by rw [kbZ,kcZ _ _ (by simp)];exact kbT _ _ rfl) _ _ (by simp) (by simp) (by simp)) (by rfl) ⟨w7.heap.size+1,0,none⟩ 1 _ (by rfl) [Ii Ij x2.1,Ii Ij x2.2] (by rfl) (World.news_of_block (cs:=#[Ii Ij x2.1,Ii Ij x2.2]) (t:=27) (fr:=(0,0)) (kbT _ _ (by simp))) (by simp [Value.oneCell']) (by unfold maxLen;omega) (by omega) ?_
   intro b' o1 cap' w4 happ
   refine hK _ _ ⟨((((zK (fun _ _=>False) w7).alloc _).alloc _).drew.trans (happ.chg.mono (fun _ o _ h=>by have:=h.2;omega))).q d2,((((zK (fun _ _=>False) w7).alloc _).alloc _).drew.trans (happ.chg.mono (fun _ o _ h=>by have:=h.2;omega))).q m0,((((zK (fun _ _=>False) w7).alloc _).alloc _).drew.trans (happ.chg.mono (fun _ o _ h=>by have:=h.2;omega))).q m1⟩ ?_
   clear hK K
   have hc8:Chg (fun _ _=>False) w7 w4:=(((zK (fun _ _=>False) w7).alloc _).alloc _).drew.trans (happ.chg.mono (fun _ o _ h=>by have:=h.2;omega))
   have hrowi:=happ.row
   have hroomi:=happ.room
   have hpli:w7.heap.size≤b':=by
    rcases happ.place with h | h
    ·have:=h.1;omega
    ·have h2:=h.1
     simp at h2
     omega
   simp only [kdC,za,zb,zJ,zA,zB,zC]
   have hb58:w4.heap[w3.heap.size+1]?=some (Ic #[.int .u64 k.iso,Ii Ij 0,Is none 0 0,Ip (some ⟨w3.heap.size+2,0,none⟩)] 109 (0,0)):=by rw [hc8.block (kbF HB57.out) (fun _ h=>h)];exact HB57.out
   have z58:=kbC hb58 2
   have c58:=kbB hb58 2
   simp only [zF,zD,zE] at c58
   have hB8:=hB7.chg hc8 i3
   clear d2
   have d2:w4.cell? ⟨t,2,none⟩=some (Ip (some ⟨w3.heap.size+1,0,none⟩)):=hB8.c2
   have tnb:¬t=w3.heap.size+1:=by omega
   have tnb':¬w3.heap.size+1=t:=by omega
   have HB58:=zL hb58
   clear happ hb58 m0 m1
   go_wp2_with fail
   refine kbW (fun w9=>∃ib io ic,Chg (fun b _=>b=w3.heap.size+1) w7 w9∧w9.heap[w3.heap.size+1]?=some (Ic #[.int .u64 k.iso,Ii Ij 0,Is (some ⟨ib,io,none⟩) 1 ic,Ip (some ⟨w3.heap.size+2,0,none⟩)] 109 (0,0))∧RowAt w9 27 ib io (ic * 2) [Ii Ij x2.1,Ii Ij x2.2]∧w7.heap.size≤ib)
    ⟨b',o1,cap',?_,?_,?_,hpli⟩ ?_
   ·refine hc8.trans' (A':=fun b _=>b=w3.heap.size+1) ?_ (fun _ _ _ h=>h.elim) i3
    repeat (first | refine ze ?_ | refine zd ?_ (.inl rfl) _ | exact zK _ _)
   ·rw [kbV HB58.out];rfl
   ·exact hrowi.chg ((zK (fun b _=>b=w3.heap.size+1) w4).setCell (.inl rfl) _) (fun j _ h=>by have h2:b'=w3.heap.size+1:=h;omega)
   clear hrowi hroomi hpli z58 c58 HB58 hc8 d2
   rintro w9 ⟨ib,io,ic,hc9,hb9,hrow9,hib⟩
   have hsz9:=hc9.size
   have hc39:Chg (fun b _=>b=t) w3 w9:=hc37.trans' hc9 i3 (fun b o hb h=>by omega)
   have hB9:=hB7.chg hc9 (fun b _ hm h=>by have:=hI.map.lt hm;omega)
   have hb79:w9.heap[w3.heap.size+2]?=some (Ic #[Is (some ⟨cb,co,none⟩) 2 ck] 111 (0,0)):=by rw [hc9.block (kbF HB7.out) (fun _ h=>by omega)];exact HB7.out
   have hrow79:=hrow7.chg hc9 (fun j _ h=>by omega)
   have kL9:=hc39.cell (show ¬rid T=t from fun e=>hI.out t MOwn.self (e▸hI.fam.mem hI.isT.root)) KL.out
   have mt:¬m=t:=by omega
   have kR9:=hc39.cell (show ¬m=t from mt) KR.out
   refine (kdN (w3.heap.size+1) ib io 1 ic (w3.heap.size+2) cb co 2 ck 0 (fun j=>if j=0 then rid T else m) (fun j=>if j=0 then ((toL h (cutL T (mx / 2))).length:Nat) else ((toL h (cutR T m (mx / 2))).length:Nat)) w9
    (by rw [kbB hb9];rfl) (kbC hb9 1) (by rw [kbB hb9];rfl) (by rw [kbB hb9];rfl) (by rw [kbB hb79];rfl) (by omega) (by omega) ?_ (by omega) ?_).mono ?_
   ·intro j hj
    match j,hj with
    | 0,_=>exact ⟨hrow79.cell (j:=0) rfl,by show rid T≠_;omega,kL9,by show (0:Int)≤((toL h (cutL T (mx / 2))).length:Nat);omega⟩
    | 1,_=>exact ⟨hrow79.cell (j:=1) rfl,by show m≠_;omega,kR9,by show (0:Int)≤((toL h (cutR T m (mx / 2))).length:Nat);omega⟩
   ·simp [kfK];omega
   rintro e wa ⟨rfl,mm,hwa⟩
   have hsum:((1:Nat):Int)+kfK (fun j=>if j=0 then (((toL h (cutL T (mx / 2))).length:Nat):Int) else ((toL h (cutR T m (mx / 2))).length:Nat)) 2=((toL h T).length:Nat):=by
    simp [kfK];omega
   rw [hsum] at hwa
   have hca:Chg (fun b _=>b=w3.heap.size+1) w9 wa:=by rw [hwa];exact ((zK _ _).setCell (.inl rfl) _).drewN _
   have hba:wa.heap[w3.heap.size+1]?=some (Ic #[.int .u64 k.iso,Ii Ij (toL h T).length,Is (some ⟨ib,io,none⟩) 1 ic,Ip (some ⟨w3.heap.size+2,0,none⟩)] 109 (0,0)):=by rw [hwa,kcB,kbV hb9];rfl
   clear hwa
   have hsza:=hca.size
   have hBa:=hB9.chg hca (fun b _ hm h=>by have:=hI.map.lt hm;omega)
   have hb7a:wa.heap[w3.heap.size+2]?=some (Ic #[Is (some ⟨cb,co,none⟩) 2 ck] 111 (0,0)):=by rw [hca.block (kbF hb79) (fun _ h=>by omega)];exact hb79
   have hrow7a:=hrow79.chg hca (fun j _ h=>by omega)
   have hrow9a:=hrow9.chg hca (fun j _ h=>by omega)
   have hc3a:Chg (fun b _=>b=t) w3 wa:=hc39.trans' hca i3 (fun b o hb h=>by omega)
   have qa0:=hc3a.cell (show ¬w.heap.size=t by omega) q03
   have qa1:=hc3a.cell (show ¬w.heap.size=t by omega) q13
   obtain ⟨H5,T2,hI5,hB5',hT2,hav,h15⟩:=full_tree (wa:=wa) (l:=⟨ib,io,ic,w3.heap.size+2,cb,co,ck⟩) (x:=x) hI hlenT hF3 hx2 (by omega) (by omega) tout3 tlt (hc3a.mono (fun _ _ _ h=>.inl h)) hBa (Nat.le_succ _)
    ⟨hba,hrow9a,fun ks hks=>(by obtain rfl:=Iq hks;exact ⟨hb7a,hrow7a⟩),(by show ib≠w3.heap.size+1;omega),fun _=>(by show w3.heap.size+2≠w3.heap.size+1∧cb≠w3.heap.size+1∧w3.heap.size+2≠ib∧cb≠ib∧cb≠w3.heap.size+2;have hcbl:=hrow7.lt;exact ⟨by omega,by omega,by omega,by omega,by omega⟩)⟩
    (fun b hb=>by
     rcases hb with h | h | ⟨_,h | h⟩
     ·omega
     ·have h2:b=ib:=h
      omega
     ·have h2:b=w3.heap.size+2:=h
      omega
     ·have h2:b=cb:=h
      omega)
   have hgp:¬grow F3 w3 wa (w.heap.size+1):=by
    rintro (h | h)
    ·exact nF3p h
    ·have:=h.1;omega
   have hpa:wa.heap[w.heap.size+1]?=some (Ic #[Ii Ij pr.1,Ii Ij pr.2] 27 (0,0)):=by rw [hc3a.block hpl3 (fun _ h=>by omega)];exact HP3.out
   have HPA:=zL hpa
   clear hpa
   go_wp2_with fail
   refine (set_avail hI5 hB5' x hav h15 (by rw [hT2];exact hbig)).mono ?_
   rw [hT2]
   rintro e wf ⟨hret,F',H'',h',T',r1,r2,r3,r4,r5,r6⟩
   have hpf:wf.heap[w.heap.size+1]?=some (Ic #[Ii Ij pr.1,Ii Ij pr.2] 27 (0,0)):=by
    rw [r5.block (kbF HPA.out) (fun _ h=>by
     rcases h with h | h
     ·exact hgp h
     ·omega)]
    exact HPA.out
   have nFp:¬F' (w.heap.size+1):=fun h=>by
    rcases r6 _ h with h | h
    ·exact hgp h
    ·omega
   have p0:=kbB hpf 0
   have p1:=kbB hpf 1
   have pf0:=kbC hpf 0
   have pf1:=kbC hpf 1
   simp only [zF,zD,zE] at p0 p1
   clear hpf
   have mlt:∀b,MOwn k t b→b < w.heap.size:=fun b hm=>hI.map.lt hm
   have hres:∀wl,Chg (fun b _=>b=w.heap.size+1) wf wl→SetTop k mn mx w F t (toL h T) x e wl:=by
    intro wl hcl
    have hB9:=r2.chg hcl (fun b _ hm e=>by have:=mlt b hm;omega)
    refine ⟨hret,F',H'',h',T',⟨r1.fam.chg hcl (fun b o hb e=>nFp (e▸hb)),hB9.at_,r1.out,r1.isT,r1.nd,r1.sh,r1.srt,r1.big,r1.m3,r1.m1000,r1.mh,r1.mh2⟩,hB9,r3,r4,?_,?_⟩
    ·refine (((hw03.trans' hc3a (B:=fun b _=>F b∨b=t) (fun _ _ _ h=>.inl h) (fun b o hb h=>.inr h))).trans' r5 (B:=fun b _=>F b∨b=t) i3 ?_).trans' hcl i3 (fun b o hb e=>by omega)
     rintro b o hb (h | h)
     ·rcases h with h | h
      ·exact .inl (old3 b (by omega) h)
      ·omega
     ·exact .inr h
    ·intro b hb
     rcases r6 b hb with h | h
     ·rcases h with h | h
      ·rcases hnew3 b h with h | h
       ·exact .inl h
       ·exact .inr (by omega)
      ·exact .inr (by omega)
     ·exact .inr (by omega)
   have HRES:=zL hres
   clear hres
   have hret2:=hret
   rcases hret2 with ⟨y,_,rfl⟩ | ⟨_,rfl⟩
   ·go_wp2_with fail
    refine bodyPost_ret (v:=Iu #[.agg #[Ii Ij y.1,Ii Ij y.2],.bool true]) (by simp [results,Try.results78,go_sem,p0,p1]) rfl ?_
    refine HRES.out _ ?_
    repeat (first | refine ze ?_ | refine zf ?_ _ | refine zd ?_ (.inl rfl) _ | exact zK _ _)
   ·go_wp2_with fail
    refine bodyPost_ret (v:=Iu #[.agg #[Ii Ij 0,Ii Ij 0],.bool false]) (by simp [results,Try.results78,go_sem,p0,p1]) rfl ?_
    refine HRES.out _ ?_
    repeat (first | refine ze ?_ | refine zf ?_ _ | refine zd ?_ (.inl rfl) _ | exact zK _ _)
  ·skip
   iterate 2
    refine kbN (fun K hK=>?_)
    go_simp
    refine hK _ _ ⟨?_,?_,?_⟩ ?_
    iterate 3 go_keep
    clear hK K
   refine kbN (fun K hK=>?_)
   refine kcC _ _ _ (by rfl) 27 i1 _ 2 16 Try.underlying25 hi0 hz0 hz1 hz2 rfl (w7.heap.size+1) 0 0 0 (by rfl) [] (RowAt.of_block (c:=#[]) (by rw [kbZ];exact kbT _ _ (by simp)) _ _ (by simp) (by simp) (by simp)) (by rfl) ⟨w7.heap.size,0,none⟩ 1 _ (by rfl) [Ii Ij x2.1,Ii Ij x2.2] (by rfl) (World.news_of_block (cs:=#[Ii Ij x2.1,Ii Ij x2.2]) (t:=27) (fr:=(0,0)) (by rw [kbZ,kcZ _ _ (by simp)];exact kbT _ _ rfl)) (by simp [Value.oneCell']) (by unfold maxLen;omega) (by omega) ?_
   intro b' o1 cap' w4 happ
   refine hK _ _ ⟨((((zK (fun _ _=>False) w7).alloc _).alloc _).drew.trans (happ.chg.mono (fun _ o _ h=>by have:=h.2;omega))).q d2,((((zK (fun _ _=>False) w7).alloc _).alloc _).drew.trans (happ.chg.mono (fun _ o _ h=>by have:=h.2;omega))).q m0,((((zK (fun _ _=>False) w7).alloc _).alloc _).drew.trans (happ.chg.mono (fun _ o _ h=>by have:=h.2;omega))).q m1⟩ ?_
   clear hK K
   have hc8:Chg (fun _ _=>False) w7 w4:=(((zK (fun _ _=>False) w7).alloc _).alloc _).drew.trans (happ.chg.mono (fun _ o _ h=>by have:=h.2;omega))
   have hrowi:=happ.row
   have hroomi:=happ.room
   have hpli:w7.heap.size≤b':=by
    rcases happ.place with h | h
    ·have:=h.1;omega
    ·have h2:=h.1
     simp at h2
     omega
   simp only [kdC,za,zb,zJ,zA,zB,zC]
   have hb58:w4.heap[w3.heap.size+1]?=some (Ic #[.int .u64 k.iso,Ii Ij 0,Is none 0 0,Ip (some ⟨w3.heap.size+2,0,none⟩)] 109 (0,0)):=by rw [hc8.block (kbF HB57.out) (fun _ h=>h)];exact HB57.out
   have z58:=kbC hb58 2
   have c58:=kbB hb58 2
   simp only [zF,zD,zE] at c58
   have hB8:=hB7.chg hc8 i3
   clear d2
   have d2:w4.cell? ⟨t,2,none⟩=some (Ip (some ⟨w3.heap.size+1,0,none⟩)):=hB8.c2
   have tnb:¬t=w3.heap.size+1:=by omega
   have tnb':¬w3.heap.size+1=t:=by omega
   have HB58:=zL hb58
   clear happ hb58 m0 m1
   go_wp2_with fail
   refine kbW (fun w9=>∃ib io ic,Chg (fun b _=>b=w3.heap.size+1) w7 w9∧w9.heap[w3.heap.size+1]?=some (Ic #[.int .u64 k.iso,Ii Ij 0,Is (some ⟨ib,io,none⟩) 1 ic,Ip (some ⟨w3.heap.size+2,0,none⟩)] 109 (0,0))∧RowAt w9 27 ib io (ic * 2) [Ii Ij x2.1,Ii Ij x2.2]∧w7.heap.size≤ib)
    ⟨b',o1,cap',?_,?_,?_,hpli⟩ ?_
   ·refine hc8.trans' (A':=fun b _=>b=w3.heap.size+1) ?_ (fun _ _ _ h=>h.elim) i3
    repeat (first | refine ze ?_ | refine zd ?_ (.inl rfl) _ | exact zK _ _)
   ·rw [kbV HB58.out];rfl
   ·exact hrowi.chg ((zK (fun b _=>b=w3.heap.size+1) w4).setCell (.inl rfl) _) (fun j _ h=>by have h2:b'=w3.heap.size+1:=h;omega)
   clear hrowi hroomi hpli z58 c58 HB58 hc8 d2
   rintro w9 ⟨ib,io,ic,hc9,hb9,hrow9,hib⟩
   have hsz9:=hc9.size
   have hc39:Chg (fun b _=>b=t) w3 w9:=hc37.trans' hc9 i3 (fun b o hb h=>by omega)
   have hB9:=hB7.chg hc9 (fun b _ hm h=>by have:=hI.map.lt hm;omega)
   have hb79:w9.heap[w3.heap.size+2]?=some (Ic #[Is (some ⟨cb,co,none⟩) 2 ck] 111 (0,0)):=by rw [hc9.block (kbF HB7.out) (fun _ h=>by omega)];exact HB7.out
   have hrow79:=hrow7.chg hc9 (fun j _ h=>by omega)
   have kL9:=hc39.cell (show ¬rid T=t from fun e=>hI.out t MOwn.self (e▸hI.fam.mem hI.isT.root)) KL.out
   have mt:¬m=t:=by omega
   have kR9:=hc39.cell (show ¬m=t from mt) KR.out
   refine (kdN (w3.heap.size+1) ib io 1 ic (w3.heap.size+2) cb co 2 ck 0 (fun j=>if j=0 then rid T else m) (fun j=>if j=0 then ((toL h (cutL T (mx / 2))).length:Nat) else ((toL h (cutR T m (mx / 2))).length:Nat)) w9
    (by rw [kbB hb9];rfl) (kbC hb9 1) (by rw [kbB hb9];rfl) (by rw [kbB hb9];rfl) (by rw [kbB hb79];rfl) (by omega) (by omega) ?_ (by omega) ?_).mono ?_
   ·intro j hj
    match j,hj with
    | 0,_=>exact ⟨hrow79.cell (j:=0) rfl,by show rid T≠_;omega,kL9,by show (0:Int)≤((toL h (cutL T (mx / 2))).length:Nat);omega⟩
    | 1,_=>exact ⟨hrow79.cell (j:=1) rfl,by show m≠_;omega,kR9,by show (0:Int)≤((toL h (cutR T m (mx / 2))).length:Nat);omega⟩
   ·simp [kfK];omega
   rintro e wa ⟨rfl,mm,hwa⟩
   have hsum:((1:Nat):Int)+kfK (fun j=>if j=0 then (((toL h (cutL T (mx / 2))).length:Nat):Int) else ((toL h (cutR T m (mx / 2))).length:Nat)) 2=((toL h T).length:Nat):=by
    simp [kfK];omega
   rw [hsum] at hwa
   have hca:Chg (fun b _=>b=w3.heap.size+1) w9 wa:=by rw [hwa];exact ((zK _ _).setCell (.inl rfl) _).drewN _
   have hba:wa.heap[w3.heap.size+1]?=some (Ic #[.int .u64 k.iso,Ii Ij (toL h T).length,Is (some ⟨ib,io,none⟩) 1 ic,Ip (some ⟨w3.heap.size+2,0,none⟩)] 109 (0,0)):=by rw [hwa,kcB,kbV hb9];rfl
   clear hwa
   have hsza:=hca.size
   have hBa:=hB9.chg hca (fun b _ hm h=>by have:=hI.map.lt hm;omega)
   have hb7a:wa.heap[w3.heap.size+2]?=some (Ic #[Is (some ⟨cb,co,none⟩) 2 ck] 111 (0,0)):=by rw [hca.block (kbF hb79) (fun _ h=>by omega)];exact hb79
   have hrow7a:=hrow79.chg hca (fun j _ h=>by omega)
   have hrow9a:=hrow9.chg hca (fun j _ h=>by omega)
   have hc3a:Chg (fun b _=>b=t) w3 wa:=hc39.trans' hca i3 (fun b o hb h=>by omega)
   have qa0:=hc3a.cell (show ¬w.heap.size=t by omega) q03
   have qa1:=hc3a.cell (show ¬w.heap.size=t by omega) q13
   obtain ⟨H5,T2,hI5,hB5',hT2,hav,h15⟩:=full_tree (wa:=wa) (l:=⟨ib,io,ic,w3.heap.size+2,cb,co,ck⟩) (x:=x) hI hlenT hF3 hx2 (by omega) (by omega) tout3 tlt (hc3a.mono (fun _ _ _ h=>.inl h)) hBa (Nat.le_succ _)
    ⟨hba,hrow9a,fun ks hks=>(by obtain rfl:=Iq hks;exact ⟨hb7a,hrow7a⟩),(by show ib≠w3.heap.size+1;omega),fun _=>(by show w3.heap.size+2≠w3.heap.size+1∧cb≠w3.heap.size+1∧w3.heap.size+2≠ib∧cb≠ib∧cb≠w3.heap.size+2;have hcbl:=hrow7.lt;exact ⟨by omega,by omega,by omega,by omega,by omega⟩)⟩
    (fun b hb=>by
     rcases hb with h | h | ⟨_,h | h⟩
     ·omega
     ·have h2:b=ib:=h
      omega
     ·have h2:b=w3.heap.size+2:=h
      omega
     ·have h2:b=cb:=h
      omega)
   have hgp:¬grow F3 w3 wa (w.heap.size+1):=by
    rintro (h | h)
    ·exact nF3p h
    ·have:=h.1;omega
   have hpa:wa.heap[w.heap.size+1]?=some (Ic #[Ii Ij pr.1,Ii Ij pr.2] 27 (0,0)):=by rw [hc3a.block hpl3 (fun _ h=>by omega)];exact HP3.out
   have HPA:=zL hpa
   clear hpa
   go_wp2_with fail
   refine (set_avail hI5 hB5' x hav h15 (by rw [hT2];exact hbig)).mono ?_
   rw [hT2]
   rintro e wf ⟨hret,F',H'',h',T',r1,r2,r3,r4,r5,r6⟩
   have hpf:wf.heap[w.heap.size+1]?=some (Ic #[Ii Ij pr.1,Ii Ij pr.2] 27 (0,0)):=by
    rw [r5.block (kbF HPA.out) (fun _ h=>by
     rcases h with h | h
     ·exact hgp h
     ·omega)]
    exact HPA.out
   have nFp:¬F' (w.heap.size+1):=fun h=>by
    rcases r6 _ h with h | h
    ·exact hgp h
    ·omega
   have p0:=kbB hpf 0
   have p1:=kbB hpf 1
   have pf0:=kbC hpf 0
   have pf1:=kbC hpf 1
   simp only [zF,zD,zE] at p0 p1
   clear hpf
   have mlt:∀b,MOwn k t b→b < w.heap.size:=fun b hm=>hI.map.lt hm
   have hres:∀wl,Chg (fun b _=>b=w.heap.size+1) wf wl→SetTop k mn mx w F t (toL h T) x e wl:=by
    intro wl hcl
    have hB9:=r2.chg hcl (fun b _ hm e=>by have:=mlt b hm;omega)
    refine ⟨hret,F',H'',h',T',⟨r1.fam.chg hcl (fun b o hb e=>nFp (e▸hb)),hB9.at_,r1.out,r1.isT,r1.nd,r1.sh,r1.srt,r1.big,r1.m3,r1.m1000,r1.mh,r1.mh2⟩,hB9,r3,r4,?_,?_⟩
    ·refine (((hw03.trans' hc3a (B:=fun b _=>F b∨b=t) (fun _ _ _ h=>.inl h) (fun b o hb h=>.inr h))).trans' r5 (B:=fun b _=>F b∨b=t) i3 ?_).trans' hcl i3 (fun b o hb e=>by omega)
     rintro b o hb (h | h)
     ·rcases h with h | h
      ·exact .inl (old3 b (by omega) h)
      ·omega
     ·exact .inr h
    ·intro b hb
     rcases r6 b hb with h | h
     ·rcases h with h | h
      ·rcases hnew3 b h with h | h
       ·exact .inl h
       ·exact .inr (by omega)
      ·exact .inr (by omega)
     ·exact .inr (by omega)
   have HRES:=zL hres
   clear hres
   have hret2:=hret
   rcases hret2 with ⟨y,_,rfl⟩ | ⟨_,rfl⟩
   ·go_wp2_with fail
    refine bodyPost_ret (v:=Iu #[.agg #[Ii Ij y.1,Ii Ij y.2],.bool true]) (by simp [results,Try.results78,go_sem,p0,p1]) rfl ?_
    refine HRES.out _ ?_
    repeat (first | refine ze ?_ | refine zf ?_ _ | refine zd ?_ (.inl rfl) _ | exact zK _ _)
   ·go_wp2_with fail
    refine bodyPost_ret (v:=Iu #[.agg #[Ii Ij 0,Ii Ij 0],.bool false]) (by simp [results,Try.results78,go_sem,p0,p1]) rfl ?_
    refine HRES.out _ ?_
    repeat (first | refine ze ?_ | refine zf ?_ _ | refine zd ?_ (.inl rfl) _ | exact zK _ _)
end
end Go.Proofs.Ytnohimhihombmaa
