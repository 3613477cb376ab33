/- minMut, MinMut. -/
import Derived.Laws.MakeOwn
import Derived.Stop.Asserts
import Derived.Test.YtpgaedmhgchgeaaM3
import Derived.Test.YtpgaedmhgchgeaaM7
namespace Go.Proofs.Ytpgaedmhgchgeaa.M
set_option linter.unusedSimpArgs false
set_option linter.unusedVariables false
open Go.RowKit

set_option maxRecDepth 100000 in
set_option maxHeartbeats 8000000 in
theorem set_full {k : Int} {mn mx : Nat} {w : World} {F : Nat → Prop} {H : Nat → Option (NodeR (Int × Int))} {t h : Nat} {T : BT (Int × Int) h} (hI : TreeIn k mn mx w F H t h T) (hB : MapBlk k mn mx w t (some (rid T)) (toL h T).length)
    (x : Int × Int) (ha : ¬ Avail mx h T x) (hbig : (toL h T).length < 100000000000000) :
    Calls Try.prog 27 #[.pointer (some ⟨t, 0, none⟩), .int .i64 x.1, .int .i64 x.2] w (SetTop k mn mx w F t (toL h T) x) := by
  have c2 : w.cell? ⟨t, 2, none⟩ = some (.pointer (some ⟨rid T, 0, none⟩)) := hB.c2
  have tlt := hB.lt
  have hmx := hI.m1000
  have hlenT : (its T).length = mx := by
    have h1 := hI.sh.len
    rcases Nat.lt_or_ge (its T).length mx with h2 | h2
    · exact absurd (Avail.room h2) ha
    · omega
  have hids : ∀ a ∈ ids h T, a < w.heap.size := fun a ha => hI.isT.lt hI.fam ha
  go_enter Try.func27, Try.ntmps27
  go_wp2_with fail
  refine name_world (fun w1 => Chg (fun _ _ => False) w w1 ∧ w1.heap[w.heap.size]? = some (.cells #[.int .i64 x.2, .int .i64 x.1] 65 (0, 0))) ⟨(Chg.refl _ _).alloc _, ha_at _ _ rfl⟩ ?_
  rintro w1 ⟨hc1, hb1⟩
  have q0 := cell_of_block hb1 0
  have q1 := cell_of_block hb1 1
  simp only [List.getElem?_toArray, List.getElem?_cons_zero, List.getElem?_cons_succ] at q0 q1
  have hB1 := hB.chg hc1 (fun _ _ _ h => h)
  refine wp_region_call (fun w' => w'.cell? ⟨w.heap.size, 0, none⟩ = some (.int .i64 x.2) ∧ w'.cell? ⟨w.heap.size, 1, none⟩ = some (.int .i64 x.1))
    5 [0, 1, 2, 3, 4] _ [6, 7, 8, 9, 10, 11, 12] (by kernel_rfl) (by kernel_rfl) (fun _ _ _ _ _ h => h) rfl rfl rfl ⟨q0, q1⟩ ?_
  simp only [pickOps, List.filterMap_cons, List.filterMap_nil, List.getElem?_cons_zero, List.getElem?_cons_succ]
  iterate 5
    refine wpSoft_step ?_ rfl ?_ ?_
    rotate_left
    · intro w' hS
      obtain ⟨s0, s1⟩ := hS
      go_simp
      try with_reducible rfl
    simp only [Act.put, List.setIfInBounds_toArray, List.set_cons_zero, List.set_cons_succ]
  refine wpSoft_nil ?_
  refine wp_hide (fun K hK => ?_)
  go_simp
  go_at_call 44
  have hI2 : TreeIn k mn mx w1.drew F H t h T := ⟨hI.fam.chg hc1.drew (fun _ _ _ h => h), hI.map.chg hc1.drew (fun _ _ _ h => h), hI.out, hI.isT, hI.nd, hI.sh, hI.srt, hI.big, hI.m3, hI.m1000, hI.mh, hI.mh2⟩
  refine (setSpec h k mn mx t ⟨t, 2, none⟩ x w1.drew F H T hI2 hB1.c2).mono ?_
  rintro e w2 ⟨H', pr, rp, sp, rfl, hF2, hc2, hz⟩
  rcases hz with ⟨rfl, rfl, _⟩ | ⟨_, hyes, _⟩
  rotate_left
  · exact absurd hyes ha
  refine hK _ _ ?_
  clear hK K
  iterate 7
    refine wpSoft_step ?_ rfl ?_ ?_
    rotate_left
    · intro w' _
      go_simp
      try with_reducible rfl
    simp only [Act.put, List.setIfInBounds_toArray, List.set_cons_zero, List.set_cons_succ]
  refine wpSoft_nil ?_
  replace hc2 : Chg (fun b _ => F b) w1 w2 := ((Chg.refl _ _).drew).trans hc2
  have hsz1 := hc1.size
  have hsz2 := hc2.size
  have hlt1 : w.heap.size < w1.heap.size := heap_lt hb1
  obtain ⟨F2, hF2e⟩ : ∃ F2, F2 = grow F w1.drew w2 := ⟨_, rfl⟩
  rw [← hF2e] at hF2
  have hnew2 : ∀ b, F2 b → F b ∨ w1.heap.size ≤ b := by
    rw [hF2e]
    rintro b (h | h)
    · exact .inl h
    · exact .inr h.1
  have old2 : ∀ b, b < w1.heap.size → F2 b → F b := fun b hb h => by
    rcases hnew2 b h with h | h
    · exact h
    · omega
  clear hF2e
  have tout2 : ∀ b, MOwn k t b → ¬ F2 b := fun b hm h => hI.out b hm (old2 b (by have := hI.map.lt hm; omega) h)
  have nF2 : ¬ F2 w.heap.size := fun h => Nat.lt_irrefl _ (hI.fam.lt (old2 _ hlt1 h))
  have hB2 := hB1.chg hc2 (fun b _ hm h => hI.out b hm h)
  have hw02 : Chg (fun b _ => F b) w w2 := (hc1.mono (fun _ _ _ h => h.elim)).trans hc2
  have nF : ¬ F w.heap.size := fun h => Nat.lt_irrefl _ (hI.fam.lt h)
  have q02 := hc2.cell nF q0
  have q12 := hc2.cell nF q1
  obtain ⟨kf1, kf2, kf3⟩ := kidIds_facts hI.isT hI.nd hI.sh
  have hrc := fun m => recOf_cut (i := mx / 2) m hI.isT hI.sh (by have := hI.m3; omega)
  have d2 : w2.cell? ⟨t, 2, none⟩ = some (.pointer (some ⟨rid T, 0, none⟩)) := hB2.c2
  clear q0 q1 c2
  go_wp2_with fail
  refine (nodeSplit_any k mn mx t (rid T) (recOf h T) w2 F2 H' hF2 hB2.at_ hI.isT.root (kidIds T) (by rw [hlenT] at kf1; exact kf1) (by rw [recOf_items]; exact hlenT) hmx hI.m3 (cntOf H') kf2 (by omega)).mono ?_
  rintro e w3 ⟨m, x2, rfl, hx2, hm, hc3, hF3⟩
  rw [recOf_items] at hx2
  obtain ⟨rc1, rc2⟩ := hrc m
  rw [recOf_items, ← rc1, ← rc2] at hF3
  have hsz3 := hc3.size
  have hrTlt : rid T < w.heap.size := hids _ (rid_mem T)
  obtain ⟨lL, hL, _, _, _⟩ := hF3.work (n := rid T) (r := recOf h (cutL T (mx / 2))) (by rw [updNe (by omega)]; exact if_pos rfl)
  obtain ⟨lR, hR, _, _, _⟩ := hF3.work (n := m) (r := recOf h (cutR T m (mx / 2))) (if_pos rfl)
  have kL := hL.c1
  have kR := hR.c1
  rw [recOf_cnt] at kL kR
  have hml3 : m < w3.heap.size := World.block_lt_of_cell? w3 _ kR
  have hcutlen : (toL h T).length = (toL h (cutL T (mx / 2))).length + 1 + (toL h (cutR T m (mx / 2))).length := by
    rw [toL_cut m hI.sh hx2]; simp; omega
  have KL := Lib.hid kL
  have KR := Lib.hid kR
  clear kL kR hL hR
  obtain ⟨F3, hF3e⟩ : ∃ F3, F3 = grow F2 w2 w3 := ⟨_, rfl⟩
  rw [← hF3e] at hF3
  have hnew3 : ∀ b, F3 b → F b ∨ w1.heap.size ≤ b := by
    rw [hF3e]
    rintro b (h | h)
    · exact hnew2 b h
    · have := h.1; exact .inr (by omega)
  clear hF3e
  have old3 : ∀ b, b < w1.heap.size → F3 b → F b := fun b hb h => by
    rcases hnew3 b h with h | h
    · exact h
    · omega
  have tout3 : ∀ b, MOwn k t b → ¬ F3 b := fun b hm h => hI.out b hm (old3 b (by have := hI.map.lt hm; omega) h)
  have hB3 := hB2.chg hc3 (fun b _ hm h => tout2 b hm h)
  have q03 := hc3.cell (fun h => nF (old2 _ hlt1 h)) q02
  have q13 := hc3.cell (fun h => nF (old2 _ hlt1 h)) q12
  have hw03 : Chg (fun b _ => F b) w w3 := hw02.trans' hc3 (fun _ _ _ h => h) (fun b o hb h => old2 b (by omega) h)
  have e2 := hB3.c2
  have e0 := hB3.at_.c0
  have z2 := hB3.fz 2
  have tlt3 : t < w3.heap.size := hB3.lt
  have tlt3a : t < w3.heap.size + 1 := by omega
  have tlt3b : t < w3.heap.size + 1 + 1 := by omega
  clear d2 q02 q12
  go_wp2_with (go_at_call 43; refine (newNode_branch _ k _ ?_).mono ?_; (focus go_simp); rintro e w' ⟨rfl, rfl⟩)
  refine name_world (fun w4 => Chg (fun b _ => b = t) w3 w4 ∧ MapBlk k mn mx w4 t (some (w3.heap.size + 1)) (toL h T).length ∧ w4.heap[w3.heap.size]? = some (.cells #[.int .i64 x2.2, .int .i64 x2.1] 65 (0, 0)) ∧
    w4.heap[w3.heap.size + 1]? = some (.cells #[.int .u64 k, .int .i64 0, .slice none 0 0, .pointer (some ⟨w3.heap.size + 2, 0, none⟩)] 80 (0, 0)) ∧ w4.heap[w3.heap.size + 2]? = some (.cells #[.slice none 0 0] 86 (0, 0))) ⟨?_, ?_, ?_, ?_, ?_⟩ ?_
  · repeat (first | refine Chg.drew ?_ | refine Chg.drewN ?_ _ | refine Chg.alloc ?_ _ | refine Chg.setCell ?_ (.inl rfl) _ | exact Chg.refl _ _)
  · exact ((MapBlk.setRoot hB3 (some (w3.heap.size + 1))).chg ((((Chg.refl (fun _ _ => False) _).alloc _).alloc _).alloc _) (fun _ _ _ h => h))
  · rw [ha_lt _ _ (by simp; try omega), ha_lt _ _ (by simp; try omega)]; exact ha_at _ _ (by simp)
  · rw [ha_lt _ _ (by simp; try omega)]; exact ha_at _ _ (by simp)
  · exact ha_at _ _ (by simp)
  rintro w4 ⟨hc4, hB4, hb4, hb5, hb6⟩
  have d2 : w4.cell? ⟨t, 2, none⟩ = some (.pointer (some ⟨w3.heap.size + 1, 0, none⟩)) := hB4.c2
  have e7 := hB4.at_.c7
  have n3 := cell_of_block hb5 3
  have zc := frozen_of_block hb6 0
  have cc := cell_of_block hb6 0
  simp only [List.getElem?_toArray, List.getElem?_cons_zero, List.getElem?_cons_succ] at n3 cc
  have hsz4 : w3.heap.size + 2 < w4.heap.size := heap_lt hb6
  have zca : ∀ o, (w4.alloc o).drew.frozen? ⟨w3.heap.size + 2, 0, none⟩ = false := fun o => by rw [World.frozen?_drew, World.frozen?_alloc_past _ _ _ hsz4]; exact zc
  have cca : ∀ o, (w4.alloc o).drew.cell? ⟨w3.heap.size + 2, 0, none⟩ = some (.slice none 0 0) := fun o => by rw [World.cell?_drew, World.cell?_alloc_past _ _ _ hsz4]; exact cc
  have s2 : (0 : Int) ≤ (mx : Int) + 1 := by omega
  have s3 : ((mx : Int) + 1).toNat = mx + 1 := by omega
  have s4 : ¬ mx + 1 > 281474976710656 := by omega
  obtain ⟨i0, hi0, hz0, hz1, hz2⟩ := info_parts infoNode
  have hmk := fun w' => run_make (P := Try.prog) w' 86 63 i0 _ Try.underlying86 hi0 hz0 .i64 .i64 0 ((mx : Int) + 1) (by omega) (by omega) (by rw [hz2]; omega) (by omega)
  simp only [s3, hz1] at hmk
  have s1 : IntKind.i64.wrap ((mx : Int) + 1) = (mx : Int) + 1 := IntWalk.i64_in _ (by omega)
  refine wp_region_soft (fun w' => w'.cell? ⟨t, 2, none⟩ = some (.pointer (some ⟨w3.heap.size + 1, 0, none⟩)) ∧ w'.cell? ⟨w3.heap.size + 1, 3, none⟩ = some (.pointer (some ⟨w3.heap.size + 2, 0, none⟩)) ∧ w'.cell? ⟨t, 7, none⟩ = some (.int .i64 mx))
    13 [0, 1, 2, 3, 4, 5, 6, 7, 8, 9, 10, 11] [12] (by kernel_rfl) (by kernel_rfl) (fun _ _ _ _ _ h => h) rfl rfl ⟨d2, n3, e7⟩ ?_
  simp only [pickOps, List.filterMap_cons, List.filterMap_nil, List.getElem?_cons_zero, List.getElem?_cons_succ]
  iterate 12
    refine wpSoft_step ?_ rfl ?_ ?_
    rotate_left
    · intro w' hS
      obtain ⟨a1, a2, a3⟩ := hS
      go_simp
      try with_reducible rfl
    simp only [Act.put, List.setIfInBounds_toArray, List.set_cons_zero, List.set_cons_succ]
  refine wpSoft_nil ?_
  refine wpHards_step (fun K hK => ?_)
  go_simp
  refine hK _ _ ⟨?_, ?_, ?_⟩ ?_
  iterate 3 go_keep
  clear hK K
  simp only [wpHards, List.drop_succ_cons, List.drop_zero, Act.put, List.setIfInBounds_toArray, List.set_cons_zero, List.set_cons_succ]
  have zc4 := zca (.cells (madeCells #[.pointer none] (mx + 1)) 63)
  have cc4 := cca (.cells (madeCells #[.pointer none] (mx + 1)) 63)
  go_wp2_with fail
  refine name_world (fun w5 => Chg (fun b _ => b = w3.heap.size + 2) w4 w5 ∧ ∃ v, w5.heap[w3.heap.size + 2]? = some (.cells #[v] 86 (0, 0))) ⟨?_, .slice (some ⟨w4.heap.size, 0, none⟩) 0 (mx + 1), ?_⟩ ?_
  · repeat (first | refine Chg.drew ?_ | refine Chg.drewN ?_ _ | refine Chg.alloc ?_ _ | refine Chg.setCell ?_ (.inl rfl) _ | exact Chg.refl _ _)
  · rw [hd_drew, ha_lt _ _ (by simpa using hsz4), hs_same hb6]; rfl
  rintro w5 ⟨hc5, v5, hb65⟩
  have hsz5 := hc5.size
  have hB5 := hB4.chg hc5 (fun b _ hm h => by have := hI.map.lt hm; omega)
  have hb55 : w5.heap[w3.heap.size + 1]? = some (.cells #[.int .u64 k, .int .i64 0, .slice none 0 0, .pointer (some ⟨w3.heap.size + 2, 0, none⟩)] 80 (0, 0)) := by rw [hc5.block (by omega) (fun _ h => by omega)]; exact hb5
  have hb45 : w5.heap[w3.heap.size]? = some (.cells #[.int .i64 x2.2, .int .i64 x2.1] 65 (0, 0)) := by rw [hc5.block (by omega) (fun _ h => by omega)]; exact hb4
  have hc35 : Chg (fun b _ => b = t) w3 w5 := hc4.trans' hc5 (fun _ _ _ h => h) (fun b o hb h => by omega)
  have HB5 := Lib.hid hb55
  have HB4 := Lib.hid hb45
  clear hmk zca cca n3 d2 e7 zc cc hb4 hb5 hb6 zc4 cc4 hB4 s1 s2 s3 s4 hb55 hb45
  have d2 : w5.cell? ⟨t, 2, none⟩ = some (.pointer (some ⟨w3.heap.size + 1, 0, none⟩)) := hB5.c2
  have n3 := cell_of_block HB5.out 3
  simp only [List.getElem?_toArray, List.getElem?_cons_zero, List.getElem?_cons_succ] at n3
  refine wp_region_two (fun w' => w'.cell? ⟨t, 2, none⟩ = some (.pointer (some ⟨w3.heap.size + 1, 0, none⟩)) ∧ w'.cell? ⟨w3.heap.size + 1, 3, none⟩ = some (.pointer (some ⟨w3.heap.size + 2, 0, none⟩)))
    12 [0, 1, 2, 3, 4, 5, 6, 8, 9] 7 10 [10, 11] [7, 11] _ _ (by kernel_rfl) (by kernel_rfl) (fun _ _ _ _ _ h => h) rfl rfl rfl rfl rfl ⟨d2, n3⟩ ?_
  simp only [pickOps, List.filterMap_cons, List.filterMap_nil, List.getElem?_cons_zero, List.getElem?_cons_succ]
  iterate 9
    refine wpSoft_step ?_ rfl ?_ ?_
    rotate_left
    · intro w' hS
      obtain ⟨a1, a2⟩ := hS
      go_simp
      try with_reducible rfl
    simp only [Act.put, List.setIfInBounds_toArray, List.set_cons_zero, List.set_cons_succ]
  refine wpSoft_nil ?_
  refine ⟨?_, ?_⟩
  · skip
    refine wpHards_step (fun K hK => ?_)
    go_simp
    refine hK _ _ ⟨?_, ?_⟩ ?_
    iterate 2 go_keep
    clear hK K
    refine wpHards_step (fun K hK => ?_)
    go_simp
    refine hK _ _ ⟨?_, ?_⟩ ?_
    iterate 2 go_keep
    clear hK K
    refine wpHards_step (fun K hK => ?_)
    refine wp_append_row _ _ _ (by rfl) 63 i0 _ 1 8 Try.underlying86 hi0 hz0 hz1 hz2 rfl w5.heap.size 0 0 0 (by rfl) [] (RowAt.of_block (c := #[]) (by rw [hd_drew, ha_lt _ _ (by simp)]; exact ha_at _ _ rfl) _ _ (by simp) (by simp) (by simp)) (by rfl) ⟨w5.heap.size + 1, 0, none⟩ 2 _ (by rfl) [.pointer (some ⟨rid T, 0, none⟩), .pointer (some ⟨m, 0, none⟩)] (by rfl) (World.news_of_block (cs := #[.pointer (some ⟨rid T, 0, none⟩), .pointer (some ⟨m, 0, none⟩)]) (t := 63) (fr := (0, 0)) (ha_at _ _ (by simp))) (by simp [Value.oneCell']) (by unfold maxLen; omega) (by omega) ?_
    intro b' o1 cap' w4 happ
    refine hK _ _ ⟨((((Chg.refl (fun _ _ => False) w5).alloc _).alloc _).drew.trans (happ.chg.mono (fun _ o _ h => by have := h.2; omega))).cell (fun h => h) d2, ((((Chg.refl (fun _ _ => False) w5).alloc _).alloc _).drew.trans (happ.chg.mono (fun _ o _ h => by have := h.2; omega))).cell (fun h => h) n3⟩ ?_
    clear hK K
    have hc6 : Chg (fun _ _ => False) w5 w4 := (((Chg.refl (fun _ _ => False) w5).alloc _).alloc _).drew.trans (happ.chg.mono (fun _ o _ h => by have := h.2; omega))
    have hrowk := happ.row
    have hroomk := happ.room
    have hplk : w5.heap.size ≤ b' := by
      rcases happ.place with h | h
      · have := h.1; omega
      · have h2 := h.1
        simp at h2
        omega
    simp only [wpHards, List.drop_succ_cons, List.drop_zero, Act.put, List.setIfInBounds_toArray, List.set_cons_zero, List.set_cons_succ]
    have hb66 : w4.heap[w3.heap.size + 2]? = some (.cells #[v5] 86 (0, 0)) := by rw [hc6.block (heap_lt hb65) (fun _ h => h)]; exact hb65
    have zc6 := frozen_of_block hb66 0
    have cc6 := cell_of_block hb66 0
    simp only [List.getElem?_toArray, List.getElem?_cons_zero, List.getElem?_cons_succ] at cc6
    have HB66 := Lib.hid hb66
    clear happ hb66 d2 n3
    go_wp2_with fail
    refine name_world (fun w7 => ∃ cb co ck, Chg (fun b _ => b = w3.heap.size + 2) w5 w7 ∧ w7.heap[w3.heap.size + 2]? = some (.cells #[.slice (some ⟨cb, co, none⟩) 2 ck] 86 (0, 0)) ∧ RowAt w7 63 cb co ck [.pointer (some ⟨rid T, 0, none⟩), .pointer (some ⟨m, 0, none⟩)] ∧ w5.heap.size ≤ cb)
      ⟨b', o1, cap', ?_, ?_, ?_, hplk⟩ ?_
    · refine hc6.trans' (A' := fun b _ => b = w3.heap.size + 2) ?_ (fun _ _ _ h => h.elim) (fun _ _ _ h => h)
      repeat (first | refine Chg.drew ?_ | refine Chg.setCell ?_ (.inl rfl) _ | exact Chg.refl _ _)
    · rw [hs_same HB66.out]; rfl
    · rw [Nat.mul_one] at hrowk
      exact hrowk.chg ((Chg.refl (fun b _ => b = w3.heap.size + 2) w4).setCell (.inl rfl) _) (fun j _ h => by have h2 : b' = w3.heap.size + 2 := h; omega)
    clear hrowk hroomk hplk zc6 cc6 HB66 hc6
    rintro w7 ⟨cb, co, ck, hc7, hb7, hrow7, hcb⟩
    have hsz7 := hc7.size
    have hB7 := hB5.chg hc7 (fun b _ hm h => by have := hI.map.lt hm; omega)
    have hb57 : w7.heap[w3.heap.size + 1]? = some (.cells #[.int .u64 k, .int .i64 0, .slice none 0 0, .pointer (some ⟨w3.heap.size + 2, 0, none⟩)] 80 (0, 0)) := by rw [hc7.block (by omega) (fun _ h => by omega)]; exact HB5.out
    have hb47 : w7.heap[w3.heap.size]? = some (.cells #[.int .i64 x2.2, .int .i64 x2.1] 65 (0, 0)) := by rw [hc7.block (by omega) (fun _ h => by omega)]; exact HB4.out
    have hc37 : Chg (fun b _ => b = t) w3 w7 := hc35.trans' hc7 (fun _ _ _ h => h) (fun b o hb h => by omega)
    have d2 : w7.cell? ⟨t, 2, none⟩ = some (.pointer (some ⟨w3.heap.size + 1, 0, none⟩)) := hB7.c2
    have m0 := cell_of_block hb47 0
    have m1 := cell_of_block hb47 1
    simp only [List.getElem?_toArray, List.getElem?_cons_zero, List.getElem?_cons_succ] at m0 m1
    have HB57 := Lib.hid hb57
    have HB7 := Lib.hid hb7
    obtain ⟨i1, hi0, hz0, hz1, hz2⟩ := info_parts infoPair
    clear hb57 hb47 hb7 HB5 HB4
    refine wp_region_two (fun w' => w'.cell? ⟨t, 2, none⟩ = some (.pointer (some ⟨w3.heap.size + 1, 0, none⟩)) ∧ w'.cell? ⟨w3.heap.size, 0, none⟩ = some (.int .i64 x2.2) ∧ w'.cell? ⟨w3.heap.size, 1, none⟩ = some (.int .i64 x2.1))
      8 [0, 1, 2, 3, 5] 4 6 [6, 7] [4, 7] _ _ (by kernel_rfl) (by kernel_rfl) (fun _ _ _ _ _ h => h) rfl rfl rfl rfl rfl ⟨d2, m0, m1⟩ ?_
    simp only [pickOps, List.filterMap_cons, List.filterMap_nil, List.getElem?_cons_zero, List.getElem?_cons_succ]
    iterate 5
      refine wpSoft_step ?_ rfl ?_ ?_
      rotate_left
      · intro w' hS
        obtain ⟨a1, a2, a3⟩ := hS
        go_simp
        try with_reducible rfl
      simp only [Act.put, List.setIfInBounds_toArray, List.set_cons_zero, List.set_cons_succ]
    refine wpSoft_nil ?_
    refine ⟨?_, ?_⟩
    · skip
      refine wpHards_step (fun K hK => ?_)
      go_simp
      refine hK _ _ ⟨?_, ?_, ?_⟩ ?_
      iterate 3 go_keep
      clear hK K
      refine wpHards_step (fun K hK => ?_)
      go_simp
      refine hK _ _ ⟨?_, ?_, ?_⟩ ?_
      iterate 3 go_keep
      clear hK K
      refine wpHards_step (fun K hK => ?_)
      refine wp_append_row _ _ _ (by rfl) 65 i1 _ 2 16 Try.underlying77 hi0 hz0 hz1 hz2 rfl w7.heap.size 0 0 0 (by rfl) [] (RowAt.of_block (c := #[]) (by rw [hd_drew, ha_lt _ _ (by simp)]; exact ha_at _ _ rfl) _ _ (by simp) (by simp) (by simp)) (by rfl) ⟨w7.heap.size + 1, 0, none⟩ 1 _ (by rfl) [.int .i64 x2.2, .int .i64 x2.1] (by rfl) (World.news_of_block (cs := #[.int .i64 x2.2, .int .i64 x2.1]) (t := 65) (fr := (0, 0)) (ha_at _ _ (by simp))) (by simp [Value.oneCell']) (by unfold maxLen; omega) (by omega) ?_
      intro b' o1 cap' w4 happ
      refine hK _ _ ⟨((((Chg.refl (fun _ _ => False) w7).alloc _).alloc _).drew.trans (happ.chg.mono (fun _ o _ h => by have := h.2; omega))).cell (fun h => h) d2, ((((Chg.refl (fun _ _ => False) w7).alloc _).alloc _).drew.trans (happ.chg.mono (fun _ o _ h => by have := h.2; omega))).cell (fun h => h) m0, ((((Chg.refl (fun _ _ => False) w7).alloc _).alloc _).drew.trans (happ.chg.mono (fun _ o _ h => by have := h.2; omega))).cell (fun h => h) m1⟩ ?_
      clear hK K
      have hc8 : Chg (fun _ _ => False) w7 w4 := (((Chg.refl (fun _ _ => False) w7).alloc _).alloc _).drew.trans (happ.chg.mono (fun _ o _ h => by have := h.2; omega))
      have hrowi := happ.row
      have hroomi := happ.room
      have hpli : w7.heap.size ≤ b' := by
        rcases happ.place with h | h
        · have := h.1; omega
        · have h2 := h.1
          simp at h2
          omega
      simp only [wpHards, List.drop_succ_cons, List.drop_zero, Act.put, List.setIfInBounds_toArray, List.set_cons_zero, List.set_cons_succ]
      have hb58 : w4.heap[w3.heap.size + 1]? = some (.cells #[.int .u64 k, .int .i64 0, .slice none 0 0, .pointer (some ⟨w3.heap.size + 2, 0, none⟩)] 80 (0, 0)) := by rw [hc8.block (heap_lt HB57.out) (fun _ h => h)]; exact HB57.out
      have z58 := frozen_of_block hb58 2
      have c58 := cell_of_block hb58 2
      simp only [List.getElem?_toArray, List.getElem?_cons_zero, List.getElem?_cons_succ] at c58
      have hB8 := hB7.chg hc8 (fun _ _ _ h => h)
      clear d2
      have d2 : w4.cell? ⟨t, 2, none⟩ = some (.pointer (some ⟨w3.heap.size + 1, 0, none⟩)) := hB8.c2
      have tnb : ¬ t = w3.heap.size + 1 := by omega
      have tnb' : ¬ w3.heap.size + 1 = t := by omega
      have HB58 := Lib.hid hb58
      clear happ hb58 m0 m1
      go_wp2_with fail
      refine name_calls (fun w9 => ∃ ib io ic, Chg (fun b _ => b = w3.heap.size + 1) w7 w9 ∧ w9.heap[w3.heap.size + 1]? = some (.cells #[.int .u64 k, .int .i64 0, .slice (some ⟨ib, io, none⟩) 1 ic, .pointer (some ⟨w3.heap.size + 2, 0, none⟩)] 80 (0, 0)) ∧ RowAt w9 65 ib io (ic * 2) [.int .i64 x2.2, .int .i64 x2.1] ∧ w7.heap.size ≤ ib)
        ⟨b', o1, cap', ?_, ?_, ?_, hpli⟩ ?_
      · refine hc8.trans' (A' := fun b _ => b = w3.heap.size + 1) ?_ (fun _ _ _ h => h.elim) (fun _ _ _ h => h)
        repeat (first | refine Chg.drew ?_ | refine Chg.setCell ?_ (.inl rfl) _ | exact Chg.refl _ _)
      · rw [hs_same HB58.out]; rfl
      · exact hrowi.chg ((Chg.refl (fun b _ => b = w3.heap.size + 1) w4).setCell (.inl rfl) _) (fun j _ h => by have h2 : b' = w3.heap.size + 1 := h; omega)
      clear hrowi hroomi hpli z58 c58 HB58 hc8 d2
      rintro w9 ⟨ib, io, ic, hc9, hb9, hrow9, hib⟩
      have hsz9 := hc9.size
      have hc39 : Chg (fun b _ => b = t) w3 w9 := hc37.trans' hc9 (fun _ _ _ h => h) (fun b o hb h => by omega)
      have hB9 := hB7.chg hc9 (fun b _ hm h => by have := hI.map.lt hm; omega)
      have hb79 : w9.heap[w3.heap.size + 2]? = some (.cells #[.slice (some ⟨cb, co, none⟩) 2 ck] 86 (0, 0)) := by rw [hc9.block (heap_lt HB7.out) (fun _ h => by omega)]; exact HB7.out
      have hrow79 := hrow7.chg hc9 (fun j _ h => by omega)
      have kL9 := hc39.cell (show ¬ rid T = t from fun e => hI.out t MOwn.self (e ▸ hI.fam.mem hI.isT.root)) KL.out
      have mt : ¬ m = t := by omega
      have kR9 := hc39.cell (show ¬ m = t from mt) KR.out
      refine (updateCount_branch (w3.heap.size + 1) ib io 1 ic (w3.heap.size + 2) cb co 2 ck 0 (fun j => if j = 0 then rid T else m) (fun j => if j = 0 then ((toL h (cutL T (mx / 2))).length : Nat) else ((toL h (cutR T m (mx / 2))).length : Nat)) w9
        (by rw [cell_of_block hb9]; rfl) (frozen_of_block hb9 1) (by rw [cell_of_block hb9]; rfl) (by rw [cell_of_block hb9]; rfl) (by rw [cell_of_block hb79]; rfl) (by omega) (by omega) ?_ (by omega) ?_).mono ?_
      · intro j hj
        match j, hj with
        | 0, _ => exact ⟨hrow79.cell (j := 0) rfl, by show rid T ≠ _; omega, kL9, by show (0 : Int) ≤ ((toL h (cutL T (mx / 2))).length : Nat); omega⟩
        | 1, _ => exact ⟨hrow79.cell (j := 1) rfl, by show m ≠ _; omega, kR9, by show (0 : Int) ≤ ((toL h (cutR T m (mx / 2))).length : Nat); omega⟩
      · simp [sumTo]; omega
      rintro e wa ⟨rfl, mm, hwa⟩
      have hsum : ((1 : Nat) : Int) + sumTo (fun j => if j = 0 then (((toL h (cutL T (mx / 2))).length : Nat) : Int) else ((toL h (cutR T m (mx / 2))).length : Nat)) 2 = ((toL h T).length : Nat) := by
        simp [sumTo]; omega
      rw [hsum] at hwa
      have hca : Chg (fun b _ => b = w3.heap.size + 1) w9 wa := by rw [hwa]; exact ((Chg.refl _ _).setCell (.inl rfl) _).drewN _
      have hba : wa.heap[w3.heap.size + 1]? = some (.cells #[.int .u64 k, .int .i64 (toL h T).length, .slice (some ⟨ib, io, none⟩) 1 ic, .pointer (some ⟨w3.heap.size + 2, 0, none⟩)] 80 (0, 0)) := by rw [hwa, hd_drewN, hs_same hb9]; rfl
      clear hwa
      have hsza := hca.size
      have hBa := hB9.chg hca (fun b _ hm h => by have := hI.map.lt hm; omega)
      have hb7a : wa.heap[w3.heap.size + 2]? = some (.cells #[.slice (some ⟨cb, co, none⟩) 2 ck] 86 (0, 0)) := by rw [hca.block (heap_lt hb79) (fun _ h => by omega)]; exact hb79
      have hrow7a := hrow79.chg hca (fun j _ h => by omega)
      have hrow9a := hrow9.chg hca (fun j _ h => by omega)
      have hc3a : Chg (fun b _ => b = t) w3 wa := hc39.trans' hca (fun _ _ _ h => h) (fun b o hb h => by omega)
      have qa0 := hc3a.cell (show ¬ w.heap.size = t by omega) q03
      have qa1 := hc3a.cell (show ¬ w.heap.size = t by omega) q13
      obtain ⟨H5, T2, hI5, hB5', hT2, hav, h15⟩ := full_tree (wa := wa) (l := ⟨ib, io, ic, w3.heap.size + 2, cb, co, ck⟩) (x := x) hI hlenT hF3 hx2 (by omega) (by omega) tout3 tlt (hc3a.mono (fun _ _ _ h => .inl h)) hBa (Nat.le_succ _)
        ⟨hba, hrow9a, fun ks hks => (by obtain rfl := Option.some.inj hks; exact ⟨hb7a, hrow7a⟩), (by show ib ≠ w3.heap.size + 1; omega), fun _ => (by show w3.heap.size + 2 ≠ w3.heap.size + 1 ∧ cb ≠ w3.heap.size + 1 ∧ w3.heap.size + 2 ≠ ib ∧ cb ≠ ib ∧ cb ≠ w3.heap.size + 2; have hcbl := hrow7.lt; exact ⟨by omega, by omega, by omega, by omega, by omega⟩)⟩
        (fun b hb => by
          rcases hb with h | h | ⟨_, h | h⟩
          · omega
          · have h2 : b = ib := h
            omega
          · have h2 : b = w3.heap.size + 2 := h
            omega
          · have h2 : b = cb := h
            omega)
      go_wp2_with fail
      refine (set_avail hI5 hB5' x hav h15 (by rw [hT2]; exact hbig)).mono ?_
      rw [hT2]
      rintro e wf ⟨hret, F', H'', h', T', r1, r2, r3, r4, r5, r6⟩
      have hres : SetTop k mn mx w F t (toL h T) x e wf := by
        refine ⟨hret, F', H'', h', T', r1, r2, r3, r4, ?_, ?_⟩
        · refine ((hw03.trans' hc3a (B := fun b _ => F b ∨ b = t) (fun _ _ _ h => .inl h) (fun b o hb h => .inr h))).trans' r5 (fun _ _ _ h => h) ?_
          rintro b o hb (h | h)
          · rcases h with h | h
            · exact .inl (old3 b (by omega) h)
            · omega
          · exact .inr h
        · intro b hb
          rcases r6 b hb with h | h
          · rcases h with h | h
            · rcases hnew3 b h with h | h
              · exact .inl h
              · exact .inr (by omega)
            · exact .inr (by omega)
          · exact .inr (by omega)
      have hret2 := hret
      rcases hret2 with ⟨y, _, rfl⟩ | ⟨_, rfl⟩
      · go_wp2_with fail
        go_ret2
        exact hres
      · go_wp2_with fail
        go_ret2
        exact hres
    · skip
      refine wpHards_step (fun K hK => ?_)
      go_simp
      refine hK _ _ ⟨?_, ?_, ?_⟩ ?_
      iterate 3 go_keep
      clear hK K
      refine wpHards_step (fun K hK => ?_)
      go_simp
      refine hK _ _ ⟨?_, ?_, ?_⟩ ?_
      iterate 3 go_keep
      clear hK K
      refine wpHards_step (fun K hK => ?_)
      refine wp_append_row _ _ _ (by rfl) 65 i1 _ 2 16 Try.underlying77 hi0 hz0 hz1 hz2 rfl (w7.heap.size + 1) 0 0 0 (by rfl) [] (RowAt.of_block (c := #[]) (by rw [hd_drew]; exact ha_at _ _ (by simp)) _ _ (by simp) (by simp) (by simp)) (by rfl) ⟨w7.heap.size, 0, none⟩ 1 _ (by rfl) [.int .i64 x2.2, .int .i64 x2.1] (by rfl) (World.news_of_block (cs := #[.int .i64 x2.2, .int .i64 x2.1]) (t := 65) (fr := (0, 0)) (by rw [hd_drew, ha_lt _ _ (by simp)]; exact ha_at _ _ rfl)) (by simp [Value.oneCell']) (by unfold maxLen; omega) (by omega) ?_
      intro b' o1 cap' w4 happ
      refine hK _ _ ⟨((((Chg.refl (fun _ _ => False) w7).alloc _).alloc _).drew.trans (happ.chg.mono (fun _ o _ h => by have := h.2; omega))).cell (fun h => h) d2, ((((Chg.refl (fun _ _ => False) w7).alloc _).alloc _).drew.trans (happ.chg.mono (fun _ o _ h => by have := h.2; omega))).cell (fun h => h) m0, ((((Chg.refl (fun _ _ => False) w7).alloc _).alloc _).drew.trans (happ.chg.mono (fun _ o _ h => by have := h.2; omega))).cell (fun h => h) m1⟩ ?_
      clear hK K
      have hc8 : Chg (fun _ _ => False) w7 w4 := (((Chg.refl (fun _ _ => False) w7).alloc _).alloc _).drew.trans (happ.chg.mono (fun _ o _ h => by have := h.2; omega))
      have hrowi := happ.row
      have hroomi := happ.room
      have hpli : w7.heap.size ≤ b' := by
        rcases happ.place with h | h
        · have := h.1; omega
        · have h2 := h.1
          simp at h2
          omega
      simp only [wpHards, List.drop_succ_cons, List.drop_zero, Act.put, List.setIfInBounds_toArray, List.set_cons_zero, List.set_cons_succ]
      have hb58 : w4.heap[w3.heap.size + 1]? = some (.cells #[.int .u64 k, .int .i64 0, .slice none 0 0, .pointer (some ⟨w3.heap.size + 2, 0, none⟩)] 80 (0, 0)) := by rw [hc8.block (heap_lt HB57.out) (fun _ h => h)]; exact HB57.out
      have z58 := frozen_of_block hb58 2
      have c58 := cell_of_block hb58 2
      simp only [List.getElem?_toArray, List.getElem?_cons_zero, List.getElem?_cons_succ] at c58
      have hB8 := hB7.chg hc8 (fun _ _ _ h => h)
      clear d2
      have d2 : w4.cell? ⟨t, 2, none⟩ = some (.pointer (some ⟨w3.heap.size + 1, 0, none⟩)) := hB8.c2
      have tnb : ¬ t = w3.heap.size + 1 := by omega
      have tnb' : ¬ w3.heap.size + 1 = t := by omega
      have HB58 := Lib.hid hb58
      clear happ hb58 m0 m1
      go_wp2_with fail
      refine name_calls (fun w9 => ∃ ib io ic, Chg (fun b _ => b = w3.heap.size + 1) w7 w9 ∧ w9.heap[w3.heap.size + 1]? = some (.cells #[.int .u64 k, .int .i64 0, .slice (some ⟨ib, io, none⟩) 1 ic, .pointer (some ⟨w3.heap.size + 2, 0, none⟩)] 80 (0, 0)) ∧ RowAt w9 65 ib io (ic * 2) [.int .i64 x2.2, .int .i64 x2.1] ∧ w7.heap.size ≤ ib)
        ⟨b', o1, cap', ?_, ?_, ?_, hpli⟩ ?_
      · refine hc8.trans' (A' := fun b _ => b = w3.heap.size + 1) ?_ (fun _ _ _ h => h.elim) (fun _ _ _ h => h)
        repeat (first | refine Chg.drew ?_ | refine Chg.setCell ?_ (.inl rfl) _ | exact Chg.refl _ _)
      · rw [hs_same HB58.out]; rfl
      · exact hrowi.chg ((Chg.refl (fun b _ => b = w3.heap.size + 1) w4).setCell (.inl rfl) _) (fun j _ h => by have h2 : b' = w3.heap.size + 1 := h; omega)
      clear hrowi hroomi hpli z58 c58 HB58 hc8 d2
      rintro w9 ⟨ib, io, ic, hc9, hb9, hrow9, hib⟩
      have hsz9 := hc9.size
      have hc39 : Chg (fun b _ => b = t) w3 w9 := hc37.trans' hc9 (fun _ _ _ h => h) (fun b o hb h => by omega)
      have hB9 := hB7.chg hc9 (fun b _ hm h => by have := hI.map.lt hm; omega)
      have hb79 : w9.heap[w3.heap.size + 2]? = some (.cells #[.slice (some ⟨cb, co, none⟩) 2 ck] 86 (0, 0)) := by rw [hc9.block (heap_lt HB7.out) (fun _ h => by omega)]; exact HB7.out
      have hrow79 := hrow7.chg hc9 (fun j _ h => by omega)
      have kL9 := hc39.cell (show ¬ rid T = t from fun e => hI.out t MOwn.self (e ▸ hI.fam.mem hI.isT.root)) KL.out
      have mt : ¬ m = t := by omega
      have kR9 := hc39.cell (show ¬ m = t from mt) KR.out
      refine (updateCount_branch (w3.heap.size + 1) ib io 1 ic (w3.heap.size + 2) cb co 2 ck 0 (fun j => if j = 0 then rid T else m) (fun j => if j = 0 then ((toL h (cutL T (mx / 2))).length : Nat) else ((toL h (cutR T m (mx / 2))).length : Nat)) w9
        (by rw [cell_of_block hb9]; rfl) (frozen_of_block hb9 1) (by rw [cell_of_block hb9]; rfl) (by rw [cell_of_block hb9]; rfl) (by rw [cell_of_block hb79]; rfl) (by omega) (by omega) ?_ (by omega) ?_).mono ?_
      · intro j hj
        match j, hj with
        | 0, _ => exact ⟨hrow79.cell (j := 0) rfl, by show rid T ≠ _; omega, kL9, by show (0 : Int) ≤ ((toL h (cutL T (mx / 2))).length : Nat); omega⟩
        | 1, _ => exact ⟨hrow79.cell (j := 1) rfl, by show m ≠ _; omega, kR9, by show (0 : Int) ≤ ((toL h (cutR T m (mx / 2))).length : Nat); omega⟩
      · simp [sumTo]; omega
      rintro e wa ⟨rfl, mm, hwa⟩
      have hsum : ((1 : Nat) : Int) + sumTo (fun j => if j = 0 then (((toL h (cutL T (mx / 2))).length : Nat) : Int) else ((toL h (cutR T m (mx / 2))).length : Nat)) 2 = ((toL h T).length : Nat) := by
        simp [sumTo]; omega
      rw [hsum] at hwa
      have hca : Chg (fun b _ => b = w3.heap.size + 1) w9 wa := by rw [hwa]; exact ((Chg.refl _ _).setCell (.inl rfl) _).drewN _
      have hba : wa.heap[w3.heap.size + 1]? = some (.cells #[.int .u64 k, .int .i64 (toL h T).length, .slice (some ⟨ib, io, none⟩) 1 ic, .pointer (some ⟨w3.heap.size + 2, 0, none⟩)] 80 (0, 0)) := by rw [hwa, hd_drewN, hs_same hb9]; rfl
      clear hwa
      have hsza := hca.size
      have hBa := hB9.chg hca (fun b _ hm h => by have := hI.map.lt hm; omega)
      have hb7a : wa.heap[w3.heap.size + 2]? = some (.cells #[.slice (some ⟨cb, co, none⟩) 2 ck] 86 (0, 0)) := by rw [hca.block (heap_lt hb79) (fun _ h => by omega)]; exact hb79
      have hrow7a := hrow79.chg hca (fun j _ h => by omega)
      have hrow9a := hrow9.chg hca (fun j _ h => by omega)
      have hc3a : Chg (fun b _ => b = t) w3 wa := hc39.trans' hca (fun _ _ _ h => h) (fun b o hb h => by omega)
      have qa0 := hc3a.cell (show ¬ w.heap.size = t by omega) q03
      have qa1 := hc3a.cell (show ¬ w.heap.size = t by omega) q13
      obtain ⟨H5, T2, hI5, hB5', hT2, hav, h15⟩ := full_tree (wa := wa) (l := ⟨ib, io, ic, w3.heap.size + 2, cb, co, ck⟩) (x := x) hI hlenT hF3 hx2 (by omega) (by omega) tout3 tlt (hc3a.mono (fun _ _ _ h => .inl h)) hBa (Nat.le_succ _)
        ⟨hba, hrow9a, fun ks hks => (by obtain rfl := Option.some.inj hks; exact ⟨hb7a, hrow7a⟩), (by show ib ≠ w3.heap.size + 1; omega), fun _ => (by show w3.heap.size + 2 ≠ w3.heap.size + 1 ∧ cb ≠ w3.heap.size + 1 ∧ w3.heap.size + 2 ≠ ib ∧ cb ≠ ib ∧ cb ≠ w3.heap.size + 2; have hcbl := hrow7.lt; exact ⟨by omega, by omega, by omega, by omega, by omega⟩)⟩
        (fun b hb => by
          rcases hb with h | h | ⟨_, h | h⟩
          · omega
          · have h2 : b = ib := h
            omega
          · have h2 : b = w3.heap.size + 2 := h
            omega
          · have h2 : b = cb := h
            omega)
      go_wp2_with fail
      refine (set_avail hI5 hB5' x hav h15 (by rw [hT2]; exact hbig)).mono ?_
      rw [hT2]
      rintro e wf ⟨hret, F', H'', h', T', r1, r2, r3, r4, r5, r6⟩
      have hres : SetTop k mn mx w F t (toL h T) x e wf := by
        refine ⟨hret, F', H'', h', T', r1, r2, r3, r4, ?_, ?_⟩
        · refine ((hw03.trans' hc3a (B := fun b _ => F b ∨ b = t) (fun _ _ _ h => .inl h) (fun b o hb h => .inr h))).trans' r5 (fun _ _ _ h => h) ?_
          rintro b o hb (h | h)
          · rcases h with h | h
            · exact .inl (old3 b (by omega) h)
            · omega
          · exact .inr h
        · intro b hb
          rcases r6 b hb with h | h
          · rcases h with h | h
            · rcases hnew3 b h with h | h
              · exact .inl h
              · exact .inr (by omega)
            · exact .inr (by omega)
          · exact .inr (by omega)
      have hret2 := hret
      rcases hret2 with ⟨y, _, rfl⟩ | ⟨_, rfl⟩
      · go_wp2_with fail
        go_ret2
        exact hres
      · go_wp2_with fail
        go_ret2
        exact hres
  · skip
    refine wpHards_step (fun K hK => ?_)
    go_simp
    refine hK _ _ ⟨?_, ?_⟩ ?_
    iterate 2 go_keep
    clear hK K
    refine wpHards_step (fun K hK => ?_)
    go_simp
    refine hK _ _ ⟨?_, ?_⟩ ?_
    iterate 2 go_keep
    clear hK K
    refine wpHards_step (fun K hK => ?_)
    refine wp_append_row _ _ _ (by rfl) 63 i0 _ 1 8 Try.underlying86 hi0 hz0 hz1 hz2 rfl (w5.heap.size + 1) 0 0 0 (by rfl) [] (RowAt.of_block (c := #[]) (by rw [hd_drew]; exact ha_at _ _ (by simp)) _ _ (by simp) (by simp) (by simp)) (by rfl) ⟨w5.heap.size, 0, none⟩ 2 _ (by rfl) [.pointer (some ⟨rid T, 0, none⟩), .pointer (some ⟨m, 0, none⟩)] (by rfl) (World.news_of_block (cs := #[.pointer (some ⟨rid T, 0, none⟩), .pointer (some ⟨m, 0, none⟩)]) (t := 63) (fr := (0, 0)) (by rw [hd_drew, ha_lt _ _ (by simp)]; exact ha_at _ _ rfl)) (by simp [Value.oneCell']) (by unfold maxLen; omega) (by omega) ?_
    intro b' o1 cap' w4 happ
    refine hK _ _ ⟨((((Chg.refl (fun _ _ => False) w5).alloc _).alloc _).drew.trans (happ.chg.mono (fun _ o _ h => by have := h.2; omega))).cell (fun h => h) d2, ((((Chg.refl (fun _ _ => False) w5).alloc _).alloc _).drew.trans (happ.chg.mono (fun _ o _ h => by have := h.2; omega))).cell (fun h => h) n3⟩ ?_
    clear hK K
    have hc6 : Chg (fun _ _ => False) w5 w4 := (((Chg.refl (fun _ _ => False) w5).alloc _).alloc _).drew.trans (happ.chg.mono (fun _ o _ h => by have := h.2; omega))
    have hrowk := happ.row
    have hroomk := happ.room
    have hplk : w5.heap.size ≤ b' := by
      rcases happ.place with h | h
      · have := h.1; omega
      · have h2 := h.1
        simp at h2
        omega
    simp only [wpHards, List.drop_succ_cons, List.drop_zero, Act.put, List.setIfInBounds_toArray, List.set_cons_zero, List.set_cons_succ]
    have hb66 : w4.heap[w3.heap.size + 2]? = some (.cells #[v5] 86 (0, 0)) := by rw [hc6.block (heap_lt hb65) (fun _ h => h)]; exact hb65
    have zc6 := frozen_of_block hb66 0
    have cc6 := cell_of_block hb66 0
    simp only [List.getElem?_toArray, List.getElem?_cons_zero, List.getElem?_cons_succ] at cc6
    have HB66 := Lib.hid hb66
    clear happ hb66 d2 n3
    go_wp2_with fail
    refine name_world (fun w7 => ∃ cb co ck, Chg (fun b _ => b = w3.heap.size + 2) w5 w7 ∧ w7.heap[w3.heap.size + 2]? = some (.cells #[.slice (some ⟨cb, co, none⟩) 2 ck] 86 (0, 0)) ∧ RowAt w7 63 cb co ck [.pointer (some ⟨rid T, 0, none⟩), .pointer (some ⟨m, 0, none⟩)] ∧ w5.heap.size ≤ cb)
      ⟨b', o1, cap', ?_, ?_, ?_, hplk⟩ ?_
    · refine hc6.trans' (A' := fun b _ => b = w3.heap.size + 2) ?_ (fun _ _ _ h => h.elim) (fun _ _ _ h => h)
      repeat (first | refine Chg.drew ?_ | refine Chg.setCell ?_ (.inl rfl) _ | exact Chg.refl _ _)
    · rw [hs_same HB66.out]; rfl
    · rw [Nat.mul_one] at hrowk
      exact hrowk.chg ((Chg.refl (fun b _ => b = w3.heap.size + 2) w4).setCell (.inl rfl) _) (fun j _ h => by have h2 : b' = w3.heap.size + 2 := h; omega)
    clear hrowk hroomk hplk zc6 cc6 HB66 hc6
    rintro w7 ⟨cb, co, ck, hc7, hb7, hrow7, hcb⟩
    have hsz7 := hc7.size
    have hB7 := hB5.chg hc7 (fun b _ hm h => by have := hI.map.lt hm; omega)
    have hb57 : w7.heap[w3.heap.size + 1]? = some (.cells #[.int .u64 k, .int .i64 0, .slice none 0 0, .pointer (some ⟨w3.heap.size + 2, 0, none⟩)] 80 (0, 0)) := by rw [hc7.block (by omega) (fun _ h => by omega)]; exact HB5.out
    have hb47 : w7.heap[w3.heap.size]? = some (.cells #[.int .i64 x2.2, .int .i64 x2.1] 65 (0, 0)) := by rw [hc7.block (by omega) (fun _ h => by omega)]; exact HB4.out
    have hc37 : Chg (fun b _ => b = t) w3 w7 := hc35.trans' hc7 (fun _ _ _ h => h) (fun b o hb h => by omega)
    have d2 : w7.cell? ⟨t, 2, none⟩ = some (.pointer (some ⟨w3.heap.size + 1, 0, none⟩)) := hB7.c2
    have m0 := cell_of_block hb47 0
    have m1 := cell_of_block hb47 1
    simp only [List.getElem?_toArray, List.getElem?_cons_zero, List.getElem?_cons_succ] at m0 m1
    have HB57 := Lib.hid hb57
    have HB7 := Lib.hid hb7
    obtain ⟨i1, hi0, hz0, hz1, hz2⟩ := info_parts infoPair
    clear hb57 hb47 hb7 HB5 HB4
    refine wp_region_two (fun w' => w'.cell? ⟨t, 2, none⟩ = some (.pointer (some ⟨w3.heap.size + 1, 0, none⟩)) ∧ w'.cell? ⟨w3.heap.size, 0, none⟩ = some (.int .i64 x2.2) ∧ w'.cell? ⟨w3.heap.size, 1, none⟩ = some (.int .i64 x2.1))
      8 [0, 1, 2, 3, 5] 4 6 [6, 7] [4, 7] _ _ (by kernel_rfl) (by kernel_rfl) (fun _ _ _ _ _ h => h) rfl rfl rfl rfl rfl ⟨d2, m0, m1⟩ ?_
    simp only [pickOps, List.filterMap_cons, List.filterMap_nil, List.getElem?_cons_zero, List.getElem?_cons_succ]
    iterate 5
      refine wpSoft_step ?_ rfl ?_ ?_
      rotate_left
      · intro w' hS
        obtain ⟨a1, a2, a3⟩ := hS
        go_simp
        try with_reducible rfl
      simp only [Act.put, List.setIfInBounds_toArray, List.set_cons_zero, List.set_cons_succ]
    refine wpSoft_nil ?_
    refine ⟨?_, ?_⟩
    · skip
      refine wpHards_step (fun K hK => ?_)
      go_simp
      refine hK _ _ ⟨?_, ?_, ?_⟩ ?_
      iterate 3 go_keep
      clear hK K
      refine wpHards_step (fun K hK => ?_)
      go_simp
      refine hK _ _ ⟨?_, ?_, ?_⟩ ?_
      iterate 3 go_keep
      clear hK K
      refine wpHards_step (fun K hK => ?_)
      refine wp_append_row _ _ _ (by rfl) 65 i1 _ 2 16 Try.underlying77 hi0 hz0 hz1 hz2 rfl w7.heap.size 0 0 0 (by rfl) [] (RowAt.of_block (c := #[]) (by rw [hd_drew, ha_lt _ _ (by simp)]; exact ha_at _ _ rfl) _ _ (by simp) (by simp) (by simp)) (by rfl) ⟨w7.heap.size + 1, 0, none⟩ 1 _ (by rfl) [.int .i64 x2.2, .int .i64 x2.1] (by rfl) (World.news_of_block (cs := #[.int .i64 x2.2, .int .i64 x2.1]) (t := 65) (fr := (0, 0)) (ha_at _ _ (by simp))) (by simp [Value.oneCell']) (by unfold maxLen; omega) (by omega) ?_
      intro b' o1 cap' w4 happ
      refine hK _ _ ⟨((((Chg.refl (fun _ _ => False) w7).alloc _).alloc _).drew.trans (happ.chg.mono (fun _ o _ h => by have := h.2; omega))).cell (fun h => h) d2, ((((Chg.refl (fun _ _ => False) w7).alloc _).alloc _).drew.trans (happ.chg.mono (fun _ o _ h => by have := h.2; omega))).cell (fun h => h) m0, ((((Chg.refl (fun _ _ => False) w7).alloc _).alloc _).drew.trans (happ.chg.mono (fun _ o _ h => by have := h.2; omega))).cell (fun h => h) m1⟩ ?_
      clear hK K
      have hc8 : Chg (fun _ _ => False) w7 w4 := (((Chg.refl (fun _ _ => False) w7).alloc _).alloc _).drew.trans (happ.chg.mono (fun _ o _ h => by have := h.2; omega))
      have hrowi := happ.row
      have hroomi := happ.room
      have hpli : w7.heap.size ≤ b' := by
        rcases happ.place with h | h
        · have := h.1; omega
        · have h2 := h.1
          simp at h2
          omega
      simp only [wpHards, List.drop_succ_cons, List.drop_zero, Act.put, List.setIfInBounds_toArray, List.set_cons_zero, List.set_cons_succ]
      have hb58 : w4.heap[w3.heap.size + 1]? = some (.cells #[.int .u64 k, .int .i64 0, .slice none 0 0, .pointer (some ⟨w3.heap.size + 2, 0, none⟩)] 80 (0, 0)) := by rw [hc8.block (heap_lt HB57.out) (fun _ h => h)]; exact HB57.out
      have z58 := frozen_of_block hb58 2
      have c58 := cell_of_block hb58 2
      simp only [List.getElem?_toArray, List.getElem?_cons_zero, List.getElem?_cons_succ] at c58
      have hB8 := hB7.chg hc8 (fun _ _ _ h => h)
      clear d2
      have d2 : w4.cell? ⟨t, 2, none⟩ = some (.pointer (some ⟨w3.heap.size + 1, 0, none⟩)) := hB8.c2
      have tnb : ¬ t = w3.heap.size + 1 := by omega
      have tnb' : ¬ w3.heap.size + 1 = t := by omega
      have HB58 := Lib.hid hb58
      clear happ hb58 m0 m1
      go_wp2_with fail
      refine name_calls (fun w9 => ∃ ib io ic, Chg (fun b _ => b = w3.heap.size + 1) w7 w9 ∧ w9.heap[w3.heap.size + 1]? = some (.cells #[.int .u64 k, .int .i64 0, .slice (some ⟨ib, io, none⟩) 1 ic, .pointer (some ⟨w3.heap.size + 2, 0, none⟩)] 80 (0, 0)) ∧ RowAt w9 65 ib io (ic * 2) [.int .i64 x2.2, .int .i64 x2.1] ∧ w7.heap.size ≤ ib)
        ⟨b', o1, cap', ?_, ?_, ?_, hpli⟩ ?_
      · refine hc8.trans' (A' := fun b _ => b = w3.heap.size + 1) ?_ (fun _ _ _ h => h.elim) (fun _ _ _ h => h)
        repeat (first | refine Chg.drew ?_ | refine Chg.setCell ?_ (.inl rfl) _ | exact Chg.refl _ _)
      · rw [hs_same HB58.out]; rfl
      · exact hrowi.chg ((Chg.refl (fun b _ => b = w3.heap.size + 1) w4).setCell (.inl rfl) _) (fun j _ h => by have h2 : b' = w3.heap.size + 1 := h; omega)
      clear hrowi hroomi hpli z58 c58 HB58 hc8 d2
      rintro w9 ⟨ib, io, ic, hc9, hb9, hrow9, hib⟩
      have hsz9 := hc9.size
      have hc39 : Chg (fun b _ => b = t) w3 w9 := hc37.trans' hc9 (fun _ _ _ h => h) (fun b o hb h => by omega)
      have hB9 := hB7.chg hc9 (fun b _ hm h => by have := hI.map.lt hm; omega)
      have hb79 : w9.heap[w3.heap.size + 2]? = some (.cells #[.slice (some ⟨cb, co, none⟩) 2 ck] 86 (0, 0)) := by rw [hc9.block (heap_lt HB7.out) (fun _ h => by omega)]; exact HB7.out
      have hrow79 := hrow7.chg hc9 (fun j _ h => by omega)
      have kL9 := hc39.cell (show ¬ rid T = t from fun e => hI.out t MOwn.self (e ▸ hI.fam.mem hI.isT.root)) KL.out
      have mt : ¬ m = t := by omega
      have kR9 := hc39.cell (show ¬ m = t from mt) KR.out
      refine (updateCount_branch (w3.heap.size + 1) ib io 1 ic (w3.heap.size + 2) cb co 2 ck 0 (fun j => if j = 0 then rid T else m) (fun j => if j = 0 then ((toL h (cutL T (mx / 2))).length : Nat) else ((toL h (cutR T m (mx / 2))).length : Nat)) w9
        (by rw [cell_of_block hb9]; rfl) (frozen_of_block hb9 1) (by rw [cell_of_block hb9]; rfl) (by rw [cell_of_block hb9]; rfl) (by rw [cell_of_block hb79]; rfl) (by omega) (by omega) ?_ (by omega) ?_).mono ?_
      · intro j hj
        match j, hj with
        | 0, _ => exact ⟨hrow79.cell (j := 0) rfl, by show rid T ≠ _; omega, kL9, by show (0 : Int) ≤ ((toL h (cutL T (mx / 2))).length : Nat); omega⟩
        | 1, _ => exact ⟨hrow79.cell (j := 1) rfl, by show m ≠ _; omega, kR9, by show (0 : Int) ≤ ((toL h (cutR T m (mx / 2))).length : Nat); omega⟩
      · simp [sumTo]; omega
      rintro e wa ⟨rfl, mm, hwa⟩
      have hsum : ((1 : Nat) : Int) + sumTo (fun j => if j = 0 then (((toL h (cutL T (mx / 2))).length : Nat) : Int) else ((toL h (cutR T m (mx / 2))).length : Nat)) 2 = ((toL h T).length : Nat) := by
        simp [sumTo]; omega
      rw [hsum] at hwa
      have hca : Chg (fun b _ => b = w3.heap.size + 1) w9 wa := by rw [hwa]; exact ((Chg.refl _ _).setCell (.inl rfl) _).drewN _
      have hba : wa.heap[w3.heap.size + 1]? = some (.cells #[.int .u64 k, .int .i64 (toL h T).length, .slice (some ⟨ib, io, none⟩) 1 ic, .pointer (some ⟨w3.heap.size + 2, 0, none⟩)] 80 (0, 0)) := by rw [hwa, hd_drewN, hs_same hb9]; rfl
      clear hwa
      have hsza := hca.size
      have hBa := hB9.chg hca (fun b _ hm h => by have := hI.map.lt hm; omega)
      have hb7a : wa.heap[w3.heap.size + 2]? = some (.cells #[.slice (some ⟨cb, co, none⟩) 2 ck] 86 (0, 0)) := by rw [hca.block (heap_lt hb79) (fun _ h => by omega)]; exact hb79
      have hrow7a := hrow79.chg hca (fun j _ h => by omega)
      have hrow9a := hrow9.chg hca (fun j _ h => by omega)
      have hc3a : Chg (fun b _ => b = t) w3 wa := hc39.trans' hca (fun _ _ _ h => h) (fun b o hb h => by omega)
      have qa0 := hc3a.cell (show ¬ w.heap.size = t by omega) q03
      have qa1 := hc3a.cell (show ¬ w.heap.size = t by omega) q13
      obtain ⟨H5, T2, hI5, hB5', hT2, hav, h15⟩ := full_tree (wa := wa) (l := ⟨ib, io, ic, w3.heap.size + 2, cb, co, ck⟩) (x := x) hI hlenT hF3 hx2 (by omega) (by omega) tout3 tlt (hc3a.mono (fun _ _ _ h => .inl h)) hBa (Nat.le_succ _)
        ⟨hba, hrow9a, fun ks hks => (by obtain rfl := Option.some.inj hks; exact ⟨hb7a, hrow7a⟩), (by show ib ≠ w3.heap.size + 1; omega), fun _ => (by show w3.heap.size + 2 ≠ w3.heap.size + 1 ∧ cb ≠ w3.heap.size + 1 ∧ w3.heap.size + 2 ≠ ib ∧ cb ≠ ib ∧ cb ≠ w3.heap.size + 2; have hcbl := hrow7.lt; exact ⟨by omega, by omega, by omega, by omega, by omega⟩)⟩
        (fun b hb => by
          rcases hb with h | h | ⟨_, h | h⟩
          · omega
          · have h2 : b = ib := h
            omega
          · have h2 : b = w3.heap.size + 2 := h
            omega
          · have h2 : b = cb := h
            omega)
      go_wp2_with fail
      refine (set_avail hI5 hB5' x hav h15 (by rw [hT2]; exact hbig)).mono ?_
      rw [hT2]
      rintro e wf ⟨hret, F', H'', h', T', r1, r2, r3, r4, r5, r6⟩
      have hres : SetTop k mn mx w F t (toL h T) x e wf := by
        refine ⟨hret, F', H'', h', T', r1, r2, r3, r4, ?_, ?_⟩
        · refine ((hw03.trans' hc3a (B := fun b _ => F b ∨ b = t) (fun _ _ _ h => .inl h) (fun b o hb h => .inr h))).trans' r5 (fun _ _ _ h => h) ?_
          rintro b o hb (h | h)
          · rcases h with h | h
            · exact .inl (old3 b (by omega) h)
            · omega
          · exact .inr h
        · intro b hb
          rcases r6 b hb with h | h
          · rcases h with h | h
            · rcases hnew3 b h with h | h
              · exact .inl h
              · exact .inr (by omega)
            · exact .inr (by omega)
          · exact .inr (by omega)
      have hret2 := hret
      rcases hret2 with ⟨y, _, rfl⟩ | ⟨_, rfl⟩
      · go_wp2_with fail
        go_ret2
        exact hres
      · go_wp2_with fail
        go_ret2
        exact hres
    · skip
      refine wpHards_step (fun K hK => ?_)
      go_simp
      refine hK _ _ ⟨?_, ?_, ?_⟩ ?_
      iterate 3 go_keep
      clear hK K
      refine wpHards_step (fun K hK => ?_)
      go_simp
      refine hK _ _ ⟨?_, ?_, ?_⟩ ?_
      iterate 3 go_keep
      clear hK K
      refine wpHards_step (fun K hK => ?_)
      refine wp_append_row _ _ _ (by rfl) 65 i1 _ 2 16 Try.underlying77 hi0 hz0 hz1 hz2 rfl (w7.heap.size + 1) 0 0 0 (by rfl) [] (RowAt.of_block (c := #[]) (by rw [hd_drew]; exact ha_at _ _ (by simp)) _ _ (by simp) (by simp) (by simp)) (by rfl) ⟨w7.heap.size, 0, none⟩ 1 _ (by rfl) [.int .i64 x2.2, .int .i64 x2.1] (by rfl) (World.news_of_block (cs := #[.int .i64 x2.2, .int .i64 x2.1]) (t := 65) (fr := (0, 0)) (by rw [hd_drew, ha_lt _ _ (by simp)]; exact ha_at _ _ rfl)) (by simp [Value.oneCell']) (by unfold maxLen; omega) (by omega) ?_
      intro b' o1 cap' w4 happ
      refine hK _ _ ⟨((((Chg.refl (fun _ _ => False) w7).alloc _).alloc _).drew.trans (happ.chg.mono (fun _ o _ h => by have := h.2; omega))).cell (fun h => h) d2, ((((Chg.refl (fun _ _ => False) w7).alloc _).alloc _).drew.trans (happ.chg.mono (fun _ o _ h => by have := h.2; omega))).cell (fun h => h) m0, ((((Chg.refl (fun _ _ => False) w7).alloc _).alloc _).drew.trans (happ.chg.mono (fun _ o _ h => by have := h.2; omega))).cell (fun h => h) m1⟩ ?_
      clear hK K
      have hc8 : Chg (fun _ _ => False) w7 w4 := (((Chg.refl (fun _ _ => False) w7).alloc _).alloc _).drew.trans (happ.chg.mono (fun _ o _ h => by have := h.2; omega))
      have hrowi := happ.row
      have hroomi := happ.room
      have hpli : w7.heap.size ≤ b' := by
        rcases happ.place with h | h
        · have := h.1; omega
        · have h2 := h.1
          simp at h2
          omega
      simp only [wpHards, List.drop_succ_cons, List.drop_zero, Act.put, List.setIfInBounds_toArray, List.set_cons_zero, List.set_cons_succ]
      have hb58 : w4.heap[w3.heap.size + 1]? = some (.cells #[.int .u64 k, .int .i64 0, .slice none 0 0, .pointer (some ⟨w3.heap.size + 2, 0, none⟩)] 80 (0, 0)) := by rw [hc8.block (heap_lt HB57.out) (fun _ h => h)]; exact HB57.out
      have z58 := frozen_of_block hb58 2
      have c58 := cell_of_block hb58 2
      simp only [List.getElem?_toArray, List.getElem?_cons_zero, List.getElem?_cons_succ] at c58
      have hB8 := hB7.chg hc8 (fun _ _ _ h => h)
      clear d2
      have d2 : w4.cell? ⟨t, 2, none⟩ = some (.pointer (some ⟨w3.heap.size + 1, 0, none⟩)) := hB8.c2
      have tnb : ¬ t = w3.heap.size + 1 := by omega
      have tnb' : ¬ w3.heap.size + 1 = t := by omega
      have HB58 := Lib.hid hb58
      clear happ hb58 m0 m1
      go_wp2_with fail
      refine name_calls (fun w9 => ∃ ib io ic, Chg (fun b _ => b = w3.heap.size + 1) w7 w9 ∧ w9.heap[w3.heap.size + 1]? = some (.cells #[.int .u64 k, .int .i64 0, .slice (some ⟨ib, io, none⟩) 1 ic, .pointer (some ⟨w3.heap.size + 2, 0, none⟩)] 80 (0, 0)) ∧ RowAt w9 65 ib io (ic * 2) [.int .i64 x2.2, .int .i64 x2.1] ∧ w7.heap.size ≤ ib)
        ⟨b', o1, cap', ?_, ?_, ?_, hpli⟩ ?_
      · refine hc8.trans' (A' := fun b _ => b = w3.heap.size + 1) ?_ (fun _ _ _ h => h.elim) (fun _ _ _ h => h)
        repeat (first | refine Chg.drew ?_ | refine Chg.setCell ?_ (.inl rfl) _ | exact Chg.refl _ _)
      · rw [hs_same HB58.out]; rfl
      · exact hrowi.chg ((Chg.refl (fun b _ => b = w3.heap.size + 1) w4).setCell (.inl rfl) _) (fun j _ h => by have h2 : b' = w3.heap.size + 1 := h; omega)
      clear hrowi hroomi hpli z58 c58 HB58 hc8 d2
      rintro w9 ⟨ib, io, ic, hc9, hb9, hrow9, hib⟩
      have hsz9 := hc9.size
      have hc39 : Chg (fun b _ => b = t) w3 w9 := hc37.trans' hc9 (fun _ _ _ h => h) (fun b o hb h => by omega)
      have hB9 := hB7.chg hc9 (fun b _ hm h => by have := hI.map.lt hm; omega)
      have hb79 : w9.heap[w3.heap.size + 2]? = some (.cells #[.slice (some ⟨cb, co, none⟩) 2 ck] 86 (0, 0)) := by rw [hc9.block (heap_lt HB7.out) (fun _ h => by omega)]; exact HB7.out
      have hrow79 := hrow7.chg hc9 (fun j _ h => by omega)
      have kL9 := hc39.cell (show ¬ rid T = t from fun e => hI.out t MOwn.self (e ▸ hI.fam.mem hI.isT.root)) KL.out
      have mt : ¬ m = t := by omega
      have kR9 := hc39.cell (show ¬ m = t from mt) KR.out
      refine (updateCount_branch (w3.heap.size + 1) ib io 1 ic (w3.heap.size + 2) cb co 2 ck 0 (fun j => if j = 0 then rid T else m) (fun j => if j = 0 then ((toL h (cutL T (mx / 2))).length : Nat) else ((toL h (cutR T m (mx / 2))).length : Nat)) w9
        (by rw [cell_of_block hb9]; rfl) (frozen_of_block hb9 1) (by rw [cell_of_block hb9]; rfl) (by rw [cell_of_block hb9]; rfl) (by rw [cell_of_block hb79]; rfl) (by omega) (by omega) ?_ (by omega) ?_).mono ?_
      · intro j hj
        match j, hj with
        | 0, _ => exact ⟨hrow79.cell (j := 0) rfl, by show rid T ≠ _; omega, kL9, by show (0 : Int) ≤ ((toL h (cutL T (mx / 2))).length : Nat); omega⟩
        | 1, _ => exact ⟨hrow79.cell (j := 1) rfl, by show m ≠ _; omega, kR9, by show (0 : Int) ≤ ((toL h (cutR T m (mx / 2))).length : Nat); omega⟩
      · simp [sumTo]; omega
      rintro e wa ⟨rfl, mm, hwa⟩
      have hsum : ((1 : Nat) : Int) + sumTo (fun j => if j = 0 then (((toL h (cutL T (mx / 2))).length : Nat) : Int) else ((toL h (cutR T m (mx / 2))).length : Nat)) 2 = ((toL h T).length : Nat) := by
        simp [sumTo]; omega
      rw [hsum] at hwa
      have hca : Chg (fun b _ => b = w3.heap.size + 1) w9 wa := by rw [hwa]; exact ((Chg.refl _ _).setCell (.inl rfl) _).drewN _
      have hba : wa.heap[w3.heap.size + 1]? = some (.cells #[.int .u64 k, .int .i64 (toL h T).length, .slice (some ⟨ib, io, none⟩) 1 ic, .pointer (some ⟨w3.heap.size + 2, 0, none⟩)] 80 (0, 0)) := by rw [hwa, hd_drewN, hs_same hb9]; rfl
      clear hwa
      have hsza := hca.size
      have hBa := hB9.chg hca (fun b _ hm h => by have := hI.map.lt hm; omega)
      have hb7a : wa.heap[w3.heap.size + 2]? = some (.cells #[.slice (some ⟨cb, co, none⟩) 2 ck] 86 (0, 0)) := by rw [hca.block (heap_lt hb79) (fun _ h => by omega)]; exact hb79
      have hrow7a := hrow79.chg hca (fun j _ h => by omega)
      have hrow9a := hrow9.chg hca (fun j _ h => by omega)
      have hc3a : Chg (fun b _ => b = t) w3 wa := hc39.trans' hca (fun _ _ _ h => h) (fun b o hb h => by omega)
      have qa0 := hc3a.cell (show ¬ w.heap.size = t by omega) q03
      have qa1 := hc3a.cell (show ¬ w.heap.size = t by omega) q13
      obtain ⟨H5, T2, hI5, hB5', hT2, hav, h15⟩ := full_tree (wa := wa) (l := ⟨ib, io, ic, w3.heap.size + 2, cb, co, ck⟩) (x := x) hI hlenT hF3 hx2 (by omega) (by omega) tout3 tlt (hc3a.mono (fun _ _ _ h => .inl h)) hBa (Nat.le_succ _)
        ⟨hba, hrow9a, fun ks hks => (by obtain rfl := Option.some.inj hks; exact ⟨hb7a, hrow7a⟩), (by show ib ≠ w3.heap.size + 1; omega), fun _ => (by show w3.heap.size + 2 ≠ w3.heap.size + 1 ∧ cb ≠ w3.heap.size + 1 ∧ w3.heap.size + 2 ≠ ib ∧ cb ≠ ib ∧ cb ≠ w3.heap.size + 2; have hcbl := hrow7.lt; exact ⟨by omega, by omega, by omega, by omega, by omega⟩)⟩
        (fun b hb => by
          rcases hb with h | h | ⟨_, h | h⟩
          · omega
          · have h2 : b = ib := h
            omega
          · have h2 : b = w3.heap.size + 2 := h
            omega
          · have h2 : b = cb := h
            omega)
      go_wp2_with fail
      refine (set_avail hI5 hB5' x hav h15 (by rw [hT2]; exact hbig)).mono ?_
      rw [hT2]
      rintro e wf ⟨hret, F', H'', h', T', r1, r2, r3, r4, r5, r6⟩
      have hres : SetTop k mn mx w F t (toL h T) x e wf := by
        refine ⟨hret, F', H'', h', T', r1, r2, r3, r4, ?_, ?_⟩
        · refine ((hw03.trans' hc3a (B := fun b _ => F b ∨ b = t) (fun _ _ _ h => .inl h) (fun b o hb h => .inr h))).trans' r5 (fun _ _ _ h => h) ?_
          rintro b o hb (h | h)
          · rcases h with h | h
            · exact .inl (old3 b (by omega) h)
            · omega
          · exact .inr h
        · intro b hb
          rcases r6 b hb with h | h
          · rcases h with h | h
            · rcases hnew3 b h with h | h
              · exact .inl h
              · exact .inr (by omega)
            · exact .inr (by omega)
          · exact .inr (by omega)
      have hret2 := hret
      rcases hret2 with ⟨y, _, rfl⟩ | ⟨_, rfl⟩
      · go_wp2_with fail
        go_ret2
        exact hres
      · go_wp2_with fail
        go_ret2
        exact hres
end Go.Proofs.Ytpgaedmhgchgeaa.M

namespace Go.Proofs.Ytpgaedmhgchgeaa.M
set_option linter.unusedSimpArgs false
set_option linter.unusedVariables false
open Go.RowKit

theorem noCopier (v : Value) (xT : TypeId) (w : World) : (Instr.typeAssert (.iface 3 v) xT 103 true).run Try.prog w = .ok (.tuple #[.nilIface, .bool false]) w := run_typeAssert_lacksB Try.underlying103 (by kernel_rfl) (by kernel_rfl) v xT w
theorem noIsoCopier (v : Value) (xT : TypeId) (w : World) : (Instr.typeAssert (.iface 3 v) xT 106 true).run Try.prog w = .ok (.tuple #[.nilIface, .bool false]) w := run_typeAssert_lacksB Try.underlying106 (by kernel_rfl) (by kernel_rfl) v xT w

theorem degree_any (d : Int) (w : World) (h1 : 2 ≤ d) (h2 : d ≤ 128) :
    Calls Try.prog 59 #[.int .i64 d] w fun e w' => e = .returned (.tuple #[.int .i64 ((2 * d - 1) / 2), .int .i64 (2 * d - 1)]) ∧ w' = w := by
  have e1 : (d * 2 - 1).tdiv 2 = (2 * d - 1) / 2 := by rw [Int.tdiv_eq_ediv_of_nonneg (by omega)]; omega
  have e2 : d * 2 - 1 = 2 * d - 1 := by omega
  go_enter Try.func59, Try.ntmps59
  go_wp2
  go_ret2
  exact ⟨rfl, rfl⟩

set_option maxRecDepth 100000 in
theorem init_fresh (t : Nat) (d : Int) (w : World) (h1 : 2 ≤ d) (h2 : d ≤ 128) (hb : w.heap[t]? = some (.cells #[.int .u64 0, .pointer none, .pointer none, .int .i64 0, .int .i64 0, .int .i64 0, .int .i64 0, .int .i64 0, .bool false, .bool false] 67 (0, 0))) :
    Calls Try.prog 42 #[.pointer (some ⟨t, 0, none⟩), .int .i64 d] w fun e w' => e = .returned (.tuple #[]) ∧ Chg (fun b _ => b = t) w w' ∧ MapBlk 0 ((2 * d.toNat - 1) / 2) (2 * d.toNat - 1) w' t none 0 := by
  have c4 := cell_of_block hb 4
  have c6 := cell_of_block hb 6
  have c7 := cell_of_block hb 7
  have c8 := cell_of_block hb 8
  have c9 := cell_of_block hb 9
  have z6 := frozen_of_block hb 6
  have z7 := frozen_of_block hb 7
  have z8 := frozen_of_block hb 8
  have z9 := frozen_of_block hb 9
  simp only [List.getElem?_toArray, List.getElem?_cons_zero, List.getElem?_cons_succ] at c4 c6 c7 c8 c9
  have HB := Lib.hid hb
  clear hb
  have f1 := noCopier
  have f2 := noIsoCopier
  go_enter Try.func42, Try.ntmps42
  go_wp2_with (go_at_call 59; refine (degree_any d _ h1 h2).mono ?_; rintro e w' ⟨rfl, rfl⟩)
  go_end0
  have i1 : (2 * d - 1) / 2 = (((2 * d.toNat - 1) / 2 : Nat) : Int) := by omega
  have i2 : 2 * d - 1 = ((2 * d.toNat - 1 : Nat) : Int) := by omega
  refine ⟨rfl, ?_, ?_⟩
  · repeat (first | refine Chg.drew ?_ | refine Chg.drewN ?_ _ | refine Chg.alloc ?_ _ | refine Chg.setCell ?_ (.inl rfl) _ | exact Chg.refl _ _)
  · rw [i1, i2]
    unfold MapBlk
    rw [hs_same (hs_same (hs_same (hs_same HB.out _) _) _)]
    rfl

set_option maxRecDepth 100000 in
theorem newMap_any (d : Int) (w : World) (h1 : 2 ≤ d) (h2 : d ≤ 128) :
    Calls Try.prog 26 #[.int .i64 d] w fun e w' => e = .returned (.pointer (some ⟨w.heap.size, 0, none⟩)) ∧ Chg (fun _ _ => False) w w' ∧ MapBlk 0 ((2 * d.toNat - 1) / 2) (2 * d.toNat - 1) w' w.heap.size none 0 := by
  go_enter Try.func26, Try.ntmps26
  go_wp2_with fail
  refine (init_fresh w.heap.size d _ h1 h2 (ha_at _ _ rfl)).mono ?_
  rintro e w' ⟨rfl, hc, hB⟩
  go_wp2_with fail
  go_ret
  exact ⟨rfl, ((Chg.refl _ _).alloc _).trans' hc (fun _ _ _ h => h) (fun b o hb h => by omega), hB⟩
end Go.Proofs.Ytpgaedmhgchgeaa.M

namespace Go.Proofs.Ytpgaedmhgchgeaa.M
set_option linter.unusedSimpArgs false
set_option linter.unusedVariables false
open Go.RowKit

/-- The map t holds the list l; its nodes lie in F. -/
def MapIn (mn mx : Nat) (w : World) (F : Nat → Prop) (t : Nat) (l : List (Int × Int)) : Prop :=
  (l = [] ∧ (∀ b, ¬ F b) ∧ MapBlk 0 mn mx w t none 0) ∨ ∃ H h, ∃ T : BT (Int × Int) h, TreeIn 0 mn mx w F H t h T ∧ MapBlk 0 mn mx w t (some (rid T)) (toL h T).length ∧ toL h T = l ∧ 1 ≤ (its T).length

def SetPost (mn mx : Nat) (w : World) (F : Nat → Prop) (t : Nat) (l : List (Int × Int)) (x : Int × Int) (e : Ending) (w' : World) : Prop :=
  SetRet l x e ∧ ∃ F', MapIn mn mx w' F' t (insL ltM x l) ∧ Chg (fun b _ => F b ∨ b = t) w w' ∧ ∀ b, F' b → F b ∨ w.heap.size ≤ b

theorem set_any {mn mx : Nat} {w : World} {F : Nat → Prop} {t : Nat} {l : List (Int × Int)} (h : MapIn mn mx w F t l) (x : Int × Int) (hl : l.length < 100000000000000) (hmn : 1 ≤ mn) (hmx : 3 ≤ mx) (hmx2 : mx ≤ 1000) (hmh : mn ≤ mx / 2) (hmh2 : mn ≤ mx - (mx / 2 + 1)) :
    Calls Try.prog 27 #[.pointer (some ⟨t, 0, none⟩), .int .i64 x.1, .int .i64 x.2] w (SetPost mn mx w F t l x) := by
  have fin : ∀ (G : Nat → Prop) e w', (∀ b, G b → F b) → SetTop 0 mn mx w G t l x e w' → SetPost mn mx w F t l x e w' := by
    rintro G e w' hG ⟨hr, F', H', h', T', r1, r2, r3, r4, r5, r6⟩
    exact ⟨hr, F', .inr ⟨H', h', T', r1, r2, r3, r4⟩, r5.mono (fun b _ _ h => h.imp (hG b) id), fun b hb => (r6 b hb).imp (hG b) id⟩
  rcases h with ⟨rfl, hF, hB⟩ | ⟨H, h, T, hI, hB, rfl, h1⟩
  · exact (set_empty hB hmn hmx hmx2 hmh hmh2 x).mono fun e w' h => fin _ e w' (fun _ h => h.elim) h
  · by_cases ha : Avail mx h T x
    · exact (set_avail hI hB x ha h1 hl).mono fun e w' h => fin F e w' (fun _ h => h) h
    · exact (set_full hI hB x ha hl).mono fun e w' h => fin F e w' (fun _ h => h) h

/-- The list of a map grown from a list. -/
def growL (l : List (Int × Int)) : List (Int × Int) := l.foldl (fun acc x => insL ltM x acc) []

theorem MapIn.chg {mn mx : Nat} {w w' : World} {F : Nat → Prop} {t : Nat} {l : List (Int × Int)} (h : MapIn mn mx w F t l) (c : Chg (fun _ _ => False) w w') : MapIn mn mx w' F t l := by
  rcases h with ⟨h1, h2, h3⟩ | ⟨H, h, T, h1, h2, h3, h4⟩
  · exact .inl ⟨h1, h2, h3.chg c (fun _ _ _ h => h)⟩
  · exact .inr ⟨H, h, T, ⟨h1.fam.chg c (fun _ _ _ h => h), h1.map.chg c (fun _ _ _ h => h), h1.out, h1.isT, h1.nd, h1.sh, h1.srt, h1.big, h1.m3, h1.m1000, h1.mh, h1.mh2⟩, h2.chg c (fun _ _ _ h => h), h3, h4⟩

theorem MapIn.chgA {A : Nat → Nat → Prop} {mn mx : Nat} {w w' : World} {F : Nat → Prop} {t : Nat} {l : List (Int × Int)} (h : MapIn mn mx w F t l) (c : Chg A w w') (h1 : ∀ b o, F b → ¬ A b o) (h2 : ∀ b o, MOwn 0 t b → ¬ A b o) : MapIn mn mx w' F t l := by
  rcases h with ⟨g1, g2, g3⟩ | ⟨H, h, T, g1, g2, g3, g4⟩
  · exact .inl ⟨g1, g2, g3.chg c h2⟩
  · exact .inr ⟨H, h, T, ⟨g1.fam.chg c h1, g1.map.chg c h2, g1.out, g1.isT, g1.nd, g1.sh, g1.srt, g1.big, g1.m3, g1.m1000, g1.mh, g1.mh2⟩, g2.chg c h2, g3, g4⟩

theorem MapIn.own {mn mx : Nat} {w : World} {F : Nat → Prop} {t b : Nat} {l : List (Int × Int)} (h : MapIn mn mx w F t l) (hb : MOwn 0 t b) : b < w.heap.size := by
  rcases h with ⟨_, _, g3⟩ | ⟨H, h, T, g1, _⟩
  · exact g3.at_.lt hb
  · exact g1.map.lt hb

theorem MapIn.famLt {mn mx : Nat} {w : World} {F : Nat → Prop} {t b : Nat} {l : List (Int × Int)} (h : MapIn mn mx w F t l) (hb : F b) : b < w.heap.size := by
  rcases h with ⟨_, g2, _⟩ | ⟨H, h, T, g1, _⟩
  · exact absurd hb (g2 b)
  · exact g1.fam.lt hb

theorem growL_take {l : List (Int × Int)} {j : Nat} {x : Int × Int} (h : l[j]? = some x) : growL (l.take (j + 1)) = insL ltM x (growL (l.take j)) := by
  unfold growL
  rw [List.take_add_one, h, List.foldl_append]; rfl

theorem growL_len : ∀ (l acc : List (Int × Int)), (l.foldl (fun acc x => insL ltM x acc) acc).length ≤ acc.length + l.length
  | [], acc => by simp
  | x :: l, acc => by
    have h1 := growL_len l (insL ltM x acc)
    have h2 := insL_len (lt := ltM) (x := x) (l := acc)
    simp only [List.foldl_cons, List.length_cons]
    split at h2 <;> omega

theorem growL_take_len (l : List (Int × Int)) (j : Nat) : (growL (l.take j)).length ≤ l.length := by
  have := growL_len (l.take j) []
  simp only [List.length_nil, List.length_take] at this
  unfold growL; omega

end Go.Proofs.Ytpgaedmhgchgeaa.M

namespace Go.Proofs.Ytpgaedmhgchgeaa.M
set_option linter.unusedSimpArgs false
set_option linter.unusedVariables false
open Go.RowKit

def GrowPost (mn mx : Nat) (w : World) (l : List (Int × Int)) (e : Ending) (w' : World) : Prop :=
  ∃ t F, e = .returned (.pointer (some ⟨t, 0, none⟩)) ∧ w.heap.size ≤ t ∧ MapIn mn mx w' F t (growL l) ∧ Chg (fun _ _ => False) w w' ∧ ∀ b, F b → w.heap.size ≤ b

set_option maxRecDepth 100000 in
theorem growMap_any (d : Int) (v : Value) (l : List (Int × Int)) (w : World) (h1 : 2 ≤ d) (h2 : d ≤ 128) (hl : SlE itemE w v l) (hlen : l.length ≤ 2147483647) :
    Calls Try.prog 16 #[.int .i64 d, v] w (GrowPost ((2 * d.toNat - 1) / 2) (2 * d.toNat - 1) w l) := by
  obtain ⟨p, cap, rfl⟩ := hl.form
  have HL := Lib.hid hl
  clear hl
  go_enter Try.func16, Try.ntmps16
  go_wp2_with fail
  refine (newMap_any d w h1 h2).mono ?_
  rintro e w1 ⟨rfl, hc1, hB1⟩
  have hlt1 : w.heap.size < w1.heap.size := hB1.lt
  go_wp2_with fail
  go_loopw [12] (fun i wr => ∃ (j : Nat) (F : Nat → Prop), j ≤ l.length ∧ i = .int .i64 j ∧ MapIn ((2 * d.toNat - 1) / 2) (2 * d.toNat - 1) wr F w.heap.size (growL (l.take j)) ∧ Chg (fun _ _ => False) w wr ∧ (∀ b, F b → w.heap.size ≤ b)) (fun i _ => l.length - (intOf i).toNat)
  case atStart => exact ⟨0, fun _ => False, Nat.zero_le _, rfl, .inl ⟨rfl, fun _ h => h, hB1⟩, hc1, fun _ h => h.elim⟩
  case round =>
    obtain ⟨j, F, hj, rfl, hM, hc, hF⟩ := hrel
    have hsz := hc.size
    by_cases hlt : j < l.length
    · obtain ⟨x, hx⟩ : ∃ x, l[j]? = some x := ⟨_, List.getElem?_eq_getElem hlt⟩
      obtain ⟨b, o, rfl, g0, g1⟩ := (HL.out.chg hc).item hx
      have i0 : (0 : Int) ≤ (j : Int) := by omega
      have i1 : (j : Int) < (l.length : Int) := by omega
      have hgl := growL_take_len l j
      have hgt := growL_take hx
      clear hx
      go_wp2_with fail
      have hM1 : MapIn ((2 * d.toNat - 1) / 2) (2 * d.toNat - 1) (wr.alloc (.cells #[.int .i64 x.1, .int .i64 x.2] 34)) F w.heap.size (growL (l.take j)) := hM.chg ((Chg.refl (fun _ _ => False) wr).alloc _)
      refine (set_any hM1 x (by omega) (by omega) (by omega) (by omega) (by omega) (by omega)).mono ?_
      rintro e w2 ⟨hret, F', hM2, hc2, hF2⟩
      have hc02 : Chg (fun _ _ => False) w w2 := (hc.trans ((Chg.refl (fun _ _ => False) wr).alloc _)).trans' hc2 (fun _ _ _ h => h) (fun b o hb h => by
        rcases h with h | h
        · have := hF b h; omega
        · omega)
      have hF2' : ∀ b, F' b → w.heap.size ≤ b := fun b hb => by
        rcases hF2 b hb with h | h
        · exact hF b h
        · have h2 : wr.heap.size ≤ (wr.alloc (.cells #[.int .i64 x.1, .int .i64 x.2] 34)).heap.size := (((Chg.refl (fun _ _ => False) wr).alloc _)).size
          omega
      rcases hret with ⟨y, _, rfl⟩ | ⟨_, rfl⟩
      all_goals
        go_wp2_with fail
        go_roundw
        case rel => exact ⟨j + 1, F', by omega, by go_num, by rw [hgt]; exact hM2, hc02, hF2'⟩
        case measure => simp [intOf]; omega
    · obtain rfl : j = l.length := by omega
      go_wp2_with fail
      go_ret
      exact ⟨w.heap.size, F, rfl, Nat.le_refl _, by rw [List.take_length] at hM; exact hM, hc, hF⟩
end Go.Proofs.Ytpgaedmhgchgeaa.M

namespace Go.Proofs.Ytpgaedmhgchgeaa.M
set_option linter.unusedSimpArgs false
set_option linter.unusedVariables false
open Go.RowKit

theorem its_head {α : Type} {h : Nat} {T : BT α h} {mn mx : Nat} (hs : Sh mn mx h T) (h1 : 1 ≤ (its T).length) : 1 ≤ (toL h T).length := Nat.le_trans h1 (its_sub hs).length_le

theorem first_kid {α : Type} {h : Nat} {T : BT α (h + 1)} {mn mx : Nat} (hs : Sh mn mx (h + 1) T) (h1 : 1 ≤ T.2.1.length) (hmn : 1 ≤ mn) :
    ∃ c, T.2.2[0]? = some c ∧ 1 ≤ (its c).length ∧ Sh mn mx h c ∧ (toL h c).head? = (toL (h + 1) T).head? ∧ (toL h c).length < (toL (h + 1) T).length := by
  have hl := hs.2.1
  obtain ⟨c, hc⟩ : ∃ c, T.2.2[0]? = some c := ⟨_, List.getElem?_eq_getElem (by omega)⟩
  obtain ⟨g1, g2⟩ := hs.2.2 c (List.mem_of_getElem? hc)
  have g3 : 1 ≤ (toL h c).length := its_head g2 (by omega)
  refine ⟨c, hc, by omega, g2, ?_, ?_⟩
  · rw [toL_at hs hc]
    cases e : toL h c with
    | nil => rw [e] at g3; simp at g3
    | cons a l => simp [pre]
  · rw [toL_at hs hc]
    have : 1 ≤ (post (T.2.1.drop 0) ((T.2.2.map (toL h)).drop (0 + 1))).length := by
      match h2 : T.2.1, h3 : T.2.2 with
      | x :: xs, a :: b :: ts => simp [post]
      | [], _ => rw [h2] at h1; simp at h1
      | x :: xs, [] => rw [h2, h3] at hl; simp at hl
      | x :: xs, [a] => rw [h2, h3] at hl; simp at hl
    simp only [List.length_append]
    omega

def mOf (H : Nat → Option (NodeR (Int × Int))) (v : Value) : Nat := match v with
  | .pointer (some a) => (cntOf H a.block).toNat
  | _ => 0

theorem mOf_root {H : Nat → Option (NodeR (Int × Int))} {h : Nat} {T : BT (Int × Int) h} (hT : IsT H h T) : mOf H (.pointer (some ⟨rid T, 0, none⟩)) = (toL h T).length := by
  show (cntOf H (rid T)).toNat = _
  unfold cntOf
  rw [hT.root]
  simp [recOf_cnt]

def headV (o : Option (Int × Int)) : Value := match o with
  | some x => .tuple #[.int .i64 x.1, .int .i64 x.2, .bool true]
  | none => .tuple #[.int .i64 0, .int .i64 0, .bool false]

theorem Fam.node {p : Par (Int × Int)} {w : World} {F : Nat → Prop} {H : Nat → Option (NodeR (Int × Int))} (h : Fam p w F H) {n : Nat} {r : NodeR (Int × Int)} (hn : H n = some r) : ∃ l, NodeAt p w n r l := by
  obtain ⟨l, h1, _⟩ := h.work hn
  exact ⟨l, h1⟩



end Go.Proofs.Ytpgaedmhgchgeaa.M
