/- For every order, every degree and every list of items and every range the law FnGRangeCounts returns true and leaves its arguments as they were. -/
import Derived.Carry
import Derived.Test.YtnohimhihombmaaRows
import Derived.Test.YtnohimhihombmaaA11
import Derived.Test.YtnohimhihombmaaYw
namespace Go.Proofs.Ytnohimhihombmaa
set_option linter.unusedSimpArgs false
set_option linter.unusedVariables false
set_option maxRecDepth 100000
set_option maxHeartbeats 40000000
open List renaming setIfInBounds_toArray → zA, set_cons_zero → zB, set_cons_succ → zC
open Region renaming wanted → zI
open Act renaming put → zJ
open Lib renaming hid → zL
section
open Go.RowKit
theorem firstN0r {α:Type} (l:List α):kfQ 0 l=l:=by simp [kfQ]
theorem law_GRangeCounts (sv:Value) (os:List Int) (d:Int) (nl:Bool) (p:Option Addr) (cap:Nat) (l:List (Int×Int)) (x y:Int×Int) (w:World) (hs:SlE intE w sv os) (hl:ItemsAt w p l) :
  Calls Try.prog 5 #[.agg #[sv,.int .i64 d,.bool nl],.slice p l.length cap,.agg #[.int .i64 x.1,.int .i64 x.2],.agg #[.int .i64 y.1,.int .i64 y.2]] w fun e w'=>e=.returned (.bool true)∧Chg (fun _ _=>False) w w':=by
 obtain ⟨sa,sc,rfl⟩:∃a c,sv=.slice a os.length c:=hs.form
 have hz:=fun w1=>zzFits1_any sa os.length sc d nl w1
 by_cases hol:os.length≤2147483647
 rotate_left
 ·rw [decide_eq_false hol] at hz
  go_enter Try.func5,Try.ntmps5
  go_wp2_with fail
  refine kbW (fun w1=>Chg (fun _ _=>False) w w1) (((((Chg.refl _ _).alloc _).alloc _).alloc _)) ?_
  intro w1 hc1
  refine (hz w1).mono ?_
  rintro e w2 ⟨rfl,hc2⟩
  go_wp2_with fail
  go_ret
  exact ⟨rfl,hc1.trans hc2⟩
 rw [decide_eq_true hol] at hz
 by_cases hlen:l.length≤2147483647
 rotate_left
 ·have hlen':2147483647 < l.length:=by omega
  go_enter Try.func5,Try.ntmps5
  go_wp2_with fail
  refine kbW (fun w1=>Chg (fun _ _=>False) w w1) (((((Chg.refl _ _).alloc _).alloc _).alloc _)) ?_
  intro w1 hc1
  refine (hz w1).mono ?_
  rintro e w2 ⟨rfl,hc2⟩
  go_wp2_with fail
  go_ret
  exact ⟨rfl,hc1.trans hc2⟩
 have hn:¬2147483647 < l.length:=by omega
 have HR:=zL (fun w1 (c:Chg (fun _ _=>False) w w1)=>rank_list (.slice sa os.length sc) os w1 (hs.chg c) hol)
 have HS:=zL hs
 have HL:=zL hl
 have HOL:=zL hol
 have HLN:=zL hlen
 clear hs hl
 go_enter Try.func5,Try.ntmps5
 go_wp2_with fail
 refine kbW (fun w1=>Chg (fun _ _=>False) w w1∧w1.heap[w.heap.size]?=some (.cells #[.slice sa os.length sc,.int .i64 d,.bool nl] 24 (0,0))∧w1.heap[w.heap.size+1]?=some (.cells #[.int .i64 x.1,.int .i64 x.2] 27 (0,0))∧w1.heap[w.heap.size+2]?=some (.cells #[.int .i64 y.1,.int .i64 y.2] 27 (0,0))) ⟨((((Chg.refl _ _).alloc _).alloc _).alloc _),?_,?_,?_⟩ ?_
 ·rw [kcV _ _ (by simp;try omega),kcV _ _ (by simp;try omega)];exact kbR _ _ rfl
 ·rw [kcV _ _ (by simp;try omega)];exact kbR _ _ (by simp)
 ·exact kbR _ _ (by simp)
 rintro w1 ⟨hc1,hb0,hb1,hb2⟩
 have m0:=kbB hb0 0
 have m1:=kbB hb0 1
 have m2:=kbB hb0 2
 have l0:=kbB hb1 0
 have l1:=kbB hb1 1
 have h0:=kbB hb2 0
 have h1:=kbB hb2 1
 simp only [List.getElem?_toArray,List.getElem?_cons_zero,List.getElem?_cons_succ] at m0 m1 m2 l0 l1 h0 h1
 clear hb0 hb1 hb2
 refine (hz w1).mono ?_
 rintro e w2 ⟨rfl,hc2⟩
 replace m0:=hc2.q m0
 replace m1:=hc2.q m1
 replace m2:=hc2.q m2
 replace l0:=hc2.q l0
 replace l1:=hc2.q l1
 replace h0:=hc2.q h0
 replace h1:=hc2.q h1
 go_wp2_with fail
 by_cases hd:FitD d
 rotate_left
 ·refine (lawFits_no sa _ sc d nl _ hd).mono ?_
  rintro e w3 ⟨rfl,hc3⟩
  go_wp2_with fail
  refine (alive_any _).mono ?_
  rintro e w4 ⟨rfl,hc4⟩
  go_wp2_with fail
  go_ret
  exact ⟨rfl,((hc1.trans hc2).trans hc3).trans hc4⟩
 refine (lawFits_yes sa _ sc d nl _ hd).mono ?_
 rintro e w3 ⟨rfl,hc3⟩
 replace m0:=hc3.q m0
 replace m1:=hc3.q m1
 replace m2:=hc3.q m2
 replace l0:=hc3.q l0
 replace l1:=hc3.q l1
 replace h0:=hc3.q h0
 replace h1:=hc3.q h1
 have hc03:=(hc1.trans hc2).trans hc3
 clear hz hc1 hc2 hc3
 go_wp2_with fail
 have hbf:=before_any (.slice sa os.length sc) (rkL os) y x w3 (HR.out w3 hc03)
 unfold itemV at hbf
 refine hbf.mono ?_
 rintro e w4 ⟨rfl,hc4⟩
 replace m0:=hc4.q m0
 replace m1:=hc4.q m1
 replace m2:=hc4.q m2
 replace l0:=hc4.q l0
 replace l1:=hc4.q l1
 replace h0:=hc4.q h0
 replace h1:=hc4.q h1
 have hc04:=hc03.trans hc4
 clear hc03 hc4 hbf
 obtain ⟨vb,hvb⟩:∃v,ltR (rkL os) y x=v:=⟨_,rfl⟩
 rw [hvb]
 have HVB:=zL hvb
 clear hvb
 cases vb
 rotate_left
 ·go_wp2_with fail
  refine (alive_any _).mono ?_
  rintro e w5 ⟨rfl,hc5⟩
  go_wp2_with fail
  go_ret
  exact ⟨rfl,hc04.trans hc5⟩
 have hgl:=growL_take_len (ord:=os) l l.length
 rw [List.take_length] at hgl
 have hsrt:Srt (ltM (ord:=os)) (growL l):=growL_srt l
 have hcnt:=range_count hsrt (lo:=x) (hi:=y) HVB.out
 have hall:=range_all (insR (rkL os) x y false) (growL (ord:=os) l)
 have hul:=upp_len (ord:=os) ltM x (growL l)
 have hul2:=upp_len (ord:=os) ltM y (growL l)
 have G1:=fun w1 (c:Chg (fun _ _=>False) w w1)=>GDeleteRange_any (ord:=os) (.slice sa os.length sc) d nl p cap l x y false w1 (HS.out.chg c) HOL.out hd (HL.out.chg c) HLN.out
 have G2:=fun z w1 (c:Chg (fun _ _=>False) w w1)=>GAscend_any (ord:=os) (.slice sa os.length sc) d nl p cap l z 0 w1 (HS.out.chg c) HOL.out hd (HL.out.chg c) HLN.out
 have G3:=fun w1 (c:Chg (fun _ _=>False) w w1)=>GLen_any (ord:=os) (.slice sa os.length sc) d nl p cap l w1 (HS.out.chg c) HOL.out hd (HL.out.chg c) HLN.out
 simp only [firstN0r] at G2
 unfold OwnPostI at G2
 obtain ⟨N,hN⟩:∃N,((growL (ord:=os) l).filter (insR (rkL os) x y false)).length=N:=⟨_,rfl⟩
 rw [hN] at hcnt hall
 simp only [hN] at G1
 clear hN
 replace G1:=zL G1
 replace G2:=zL G2
 replace G3:=zL G3
 have HCN:=zL (And.intro hcnt (And.intro hall (And.intro hul (And.intro hul2 hgl))))
 clear hcnt hall hul hul2 hgl hsrt
 go_wp2_with fail
 refine (G1.out _ hc04).mono ?_
 rintro e w5 ⟨v1,v2,rfl,how1,how2,hc5⟩
 replace m0:=hc5.q m0
 replace m1:=hc5.q m1
 replace m2:=hc5.q m2
 replace l0:=hc5.q l0
 replace l1:=hc5.q l1
 replace h0:=hc5.q h0
 replace h1:=hc5.q h1
 have hc05:=hc04.trans hc5
 have hf2:=how2.sl
 obtain ⟨a2,c2,rfl⟩:=hf2.form
 clear how1 how2 hf2 hc04 hc5
 go_wp2_with fail
 refine kbH (fun w'=>w'.cell? ⟨w.heap.size,0,none⟩=some (.slice sa os.length sc)∧w'.cell? ⟨w.heap.size,1,none⟩=some (.int .i64 d)∧w'.cell? ⟨w.heap.size,2,none⟩=some (.bool nl)∧w'.cell? ⟨w.heap.size+1,0,none⟩=some (.int .i64 x.1)∧w'.cell? ⟨w.heap.size+1,1,none⟩=some (.int .i64 x.2)∧w'.cell? ⟨w.heap.size+2,0,none⟩=some (.int .i64 y.1)∧w'.cell? ⟨w.heap.size+2,1,none⟩=some (.int .i64 y.2)) (.soft 0 (.soft 1 (.soft 2 (.soft 3 (.soft 6 (.soft 7 (.soft 8 (.hard 4 (.soft 5 (.hard 9 (.soft 10 (.soft 11 (.soft 12 (.soft 13 (.soft 14 (.soft 15 (.soft 16 (.soft 17 (.soft 18 (.soft 19 (.hard 20 (.soft 21 (.soft 22 (.soft 23 (.hard 24 (.soft 25 (.soft 26 .nil))))))))))))))))))))))))))) (by kernel_rfl) (by kernel_rfl) (fun _ _ _ _ _ h=>h) ⟨m0,m1,m2,l0,l1,h0,h1⟩ ?_
 repeat
  first
  | (refine scr_soft (by rfl) ?_ ?_ ?_ ?_
     rotate_left
     ·simp [zI,yielded];done
     ·intro w' hS
      try obtain ⟨a1,a2,a3,a4,a5,a6,a7⟩:=hS
      go_simp
      try with_reducible rfl
     simp only [zJ,zA,zB,zC])
  | (refine scr_skip (by rfl) ?_ ?_
     ·simp [zI,yielded];done
     simp only [zJ,zA,zB,zC])
 refine kbY (by rfl) (by simp [zI,yielded]) (fun K hK=>?_)
 go_simp
 refine (G2.out x _ hc05.drew).mono ?_
 rintro e w6 ⟨v6,rfl,how6,hc6'⟩
 have hc6:Chg (fun _ _=>False) w5 w6:=(Chg.refl _ _).drew.trans hc6'
 have hf6:=how6.sl
 obtain ⟨a6,c6,rfl⟩:=hf6.form
 clear how6 hf6
 refine hK _ _ ⟨hc6.q m0,hc6.q m1,hc6.q m2,hc6.q l0,hc6.q l1,hc6.q h0,hc6.q h1⟩ ?_
 clear hK K
 repeat
  first
  | (refine scr_soft (by rfl) ?_ ?_ ?_ ?_
     rotate_left
     ·simp [zI,yielded];done
     ·intro w' hS
      try obtain ⟨a1,a2,a3,a4,a5,a6,a7⟩:=hS
      go_simp
      try with_reducible rfl
     simp only [zJ,zA,zB,zC])
  | (refine scr_skip (by rfl) ?_ ?_
     ·simp [zI,yielded];done
     simp only [zJ,zA,zB,zC])
 refine kbY (by rfl) (by simp [zI,yielded]) (fun K hK=>?_)
 go_simp
 refine (G2.out y _ (hc05.trans hc6)).mono ?_
 rintro e w7 ⟨v7,rfl,how7,hc7'⟩
 have hc7:=hc6.trans hc7'
 have hf7:=how7.sl
 obtain ⟨a7,c7,rfl⟩:=hf7.form
 clear how7 hf7
 obtain ⟨q1,q2,q3,q4,q5⟩:=HCN.out
 obtain ⟨n1,hn1⟩:∃n,(upp ltM x (growL (ord:=os) l)).length=n:=⟨_,rfl⟩
 obtain ⟨n2,hn2⟩:∃n,(upp ltM y (growL (ord:=os) l)).length=n:=⟨_,rfl⟩
 obtain ⟨n3,hn3⟩:∃n,(growL (ord:=os) l).length=n:=⟨_,rfl⟩
 obtain ⟨n4,hn4⟩:∃n,((growL (ord:=os) l).filter fun u=>!insR (rkL os) x y false u).length=n:=⟨_,rfl⟩
 rw [hn1] at q1 q3
 rw [hn2] at q1 q4
 rw [hn3] at q2 q3 q4 q5
 rw [hn4] at q2
 have e1:IntKind.i64.wrap ((n1:Int) - (n2:Int))=(N:Int):=by rw [IntWalk.i64_in _ (by omega)];omega
 have e2:IntKind.i64.wrap ((N:Int)+(n4:Int))=(n3:Int):=by rw [IntWalk.i64_in _ (by omega)];omega
 rw [hn1,hn2,hn4] at *
 refine hK _ _ ⟨hc7.q m0,hc7.q m1,hc7.q m2,hc7.q l0,hc7.q l1,hc7.q h0,hc7.q h1⟩ ?_
 clear hK K
 repeat
  first
  | (refine scr_soft (by rfl) ?_ ?_ ?_ ?_
     rotate_left
     ·simp [zI,yielded];done
     ·intro w' hS
      try obtain ⟨a1,a2,a3,a4,a5,a6,a7⟩:=hS
      go_simp
      try with_reducible rfl
     simp only [zJ,zA,zB,zC])
  | (refine scr_skip (by rfl) ?_ ?_
     ·simp [zI,yielded];done
     simp only [zJ,zA,zB,zC])
 refine kbY (by rfl) (by simp [zI,yielded]) (fun K hK=>?_)
 go_simp
 refine (G3.out _ (hc05.trans hc7)).mono ?_
 rintro e w8 ⟨rfl,hc8'⟩
 rw [hn3]
 have hc8:=hc7.trans hc8'
 refine hK _ _ ⟨hc8.q m0,hc8.q m1,hc8.q m2,hc8.q l0,hc8.q l1,hc8.q h0,hc8.q h1⟩ ?_
 clear hK K
 repeat
  first
  | (refine scr_soft (by rfl) ?_ ?_ ?_ ?_
     rotate_left
     ·simp [zI,yielded];done
     ·intro w' hS
      try obtain ⟨a1,a2,a3,a4,a5,a6,a7⟩:=hS
      go_simp
      try with_reducible rfl
     simp only [zJ,zA,zB,zC])
  | (refine scr_skip (by rfl) ?_ ?_
     ·simp [zI,yielded];done
     simp only [zJ,zA,zB,zC])
 refine kbY (by rfl) (by simp [zI,yielded]) (fun K hK=>?_)
 go_simp
 refine (alive_any _).mono ?_
 rintro e w9 ⟨rfl,hc9'⟩
 have hc9:=hc8.trans hc9'
 refine hK _ _ ⟨hc9.q m0,hc9.q m1,hc9.q m2,hc9.q l0,hc9.q l1,hc9.q h0,hc9.q h1⟩ ?_
 clear hK K
 repeat
  first
  | (refine scr_soft (by rfl) ?_ ?_ ?_ ?_
     rotate_left
     ·simp [zI,yielded];done
     ·intro w' hS
      try obtain ⟨a1,a2,a3,a4,a5,a6,a7⟩:=hS
      go_simp
      try with_reducible rfl
     simp only [zJ,zA,zB,zC])
  | (refine scr_skip (by rfl) ?_ ?_
     ·simp [zI,yielded];done
     simp only [zJ,zA,zB,zC])
 refine kcJ ?_
 go_wp2_with fail
 go_ret
 exact ⟨rfl,hc05.trans hc9⟩
end
section
open Go.ChangeShapes Go.WideShapes Go.ChangeAt Go.RowKit
namespace fnGRangeCounts
theorem own:ownKnob Try.prog.godebug=none:=by kernel_rfl
theorem laid:laidOutB Try.prog=true:=by kernel_rfl
theorem lifted (os:Os) (started:os.Started) (H:Type) (enc:TypeId×Value→H) :
  ReturnsInHanded {} Try.checked os 5 .any (Rows.fnGRangeCountsSpec.pre6 enc Try.prog Try.f5 Rows.fnGRangeCountsRow.domain false) (Rows.fnGRangeCountsSpec.post enc Try.prog Try.f5 false true false false):=by
 refine returnsInHanded_of_change (C:=Try.checked) own started (by kernel_rfl) Try.func5
  (ChangeSpec.witness6 (enc:=enc) (C:=Try.checked) false ⟨#[],#[.agg #[.slice none 0 0,.int .i64 0,.bool false],.slice none 0 0,.agg #[.int .i64 0,.int .i64 0],.agg #[.int .i64 0,.int .i64 0]],[]⟩ 8 (by kernel_rfl) (by kernel_rfl) (by kernel_rfl) (by kernel_rfl)) ?_
 intro W base args ds gs before hval0 hW hcnd _
 have hval:∀(j:Nat) t v,Try.f5.params[j]?=some t→args[j]?=some v→Value.okWide Try.prog W .any base t v:=hval0
 have hW':=hW
 obtain ⟨p,q,hA0,hV,rfl,hfz,hnd⟩:=hW
 have hA:DataW.TrodAll enc Try.prog W 0 (fun _=>true) true Try.f5.params.toList args.toList ds p:=hA0
 rw [Try.params5] at hA hval
 obtain ⟨v0,v1,v2,v3,d0,d1,d2,d3,p0,p1,p2,p3,rfl,rfl,rfl,h0,h1,h2,h3⟩:=trodAll_four hA
 obtain ⟨rfl,rfl⟩:=trodVars_none hV
 obtain ⟨sv,ord,dg,nl,rfl,hs⟩:=open_make (hval 0 24 v0 rfl rfl) h0
 obtain ⟨a,l,cap,rfl,hl,_⟩:=open_items Try.underlying25 Try.underlying27 (by kernel_rfl) rfl rfl rfl rfl (by kernel_rfl) Try.underlying3 (hval 1 25 v1 rfl rfl) h1
 obtain ⟨xx,rfl⟩:=open_item (hval 2 27 v2 rfl rfl) h2
 obtain ⟨yy,rfl⟩:=open_item (hval 3 27 v3 rfl rfl) h3
 refine (law_GRangeCounts sv ord dg nl a cap l xx yy W hs hl).mono fun e W' ⟨he,hc⟩=>?_
 subst he
 exact ⟨_,rfl,law_post laid (by kernel_rfl) rfl Try.underlying4 hW' rfl rfl (hc.below (Nat.le_refl _) (fun _ _ _ h=>h))⟩
theorem proved:Rows.FnGRangeCountsSaid :=
 OpenClaim.holds_of_wide 5 Try.f5 rfl rfl rfl rfl rfl rfl rfl ⟨rfl,rfl,rfl,rfl,rfl⟩ rfl rfl rfl rfl rfl (by kernel_rfl) Try.func5 (by kernel_rfl)
  (of_decide_eq_true (by kernel_rfl)) (by unfold Func.isWrapper;first | (rw [if_pos (by decide +kernel)];kernel_rfl) | (rw [if_neg (by decide +kernel)];exact ⟨rfl,rfl⟩))
  (fun os started H enc _=>lifted os started H enc)
end fnGRangeCounts
end
end Go.Proofs.Ytnohimhihombmaa
