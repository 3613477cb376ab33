/- Set of the empty map. -/
import Derived.Test.YtkgcjgedpefhjaaWm
import Derived.Test.YtkgcjgedpefhjaaRegd
namespace Go.Proofs.Ytkgcjgedpefhjaa
open Go.RowKit


theorem init_done (t : Nat) (d : Int) (mn : Nat) (w : World) (h5 : w.cell? ⟨t, 6, none⟩ = some (.int .i64 mn)) (hmn : 1 ≤ mn) :
    Calls Try.prog 93 #[.pointer (some ⟨t, 0, none⟩), .int .i64 d] w fun e w' => e = .returned (.tuple #[]) ∧ ∃ m, w' = w.drewN m := by
  have hne : ¬ (mn : Int) = 0 := by omega
  go_enter Try.func93, Try.ntmps93
  go_wp2
  refine bodyPost_ret (v := .tuple #[]) (by simp [results, Try.results93, go_sem]) rfl ?_
  exact ⟨rfl, 0, rfl⟩

set_option maxRecDepth 100000 in
set_option maxHeartbeats 4000000 in
theorem set_empty {k : Int} {mn mx : Nat} {w : World} {t : Nat} (hB : MapBlk k mn mx w t none 0) (hmn : 1 ≤ mn) (hmx : 3 ≤ mx) (hmx2 : mx ≤ 1000) (hmh : mn ≤ mx / 2) (hmh2 : mn ≤ mx - (mx / 2 + 1)) (x : Int × Int) :
    Calls Try.prog 69 #[.pointer (some ⟨t, 0, none⟩), .int .i64 x.1, .int .i64 x.2] w (SetTop k mn mx w (fun _ => False) t [] x) := by
  have c2 : w.cell? ⟨t, 2, none⟩ = some (.pointer none) := hB.c2
  have tlt := hB.lt
  have c0 := hB.at_.c0
  have c6 := hB.at_.c6
  have z2 := hB.fz 2
  go_enter Try.func69, Try.ntmps69
  go_wp2_with (first | (go_at_call 93; refine (init_done t _ mn _ ?_ hmn).mono ?_; (focus go_simp); rintro e w' ⟨rfl, m, rfl⟩) | (go_at_call 94; refine (newNode_leaf _ k _ ?_).mono ?_; (focus go_simp); rintro e w' ⟨rfl, rfl⟩))
  refine name_world (fun w1 => Chg (fun b _ => b = t) w w1 ∧ MapBlk k mn mx w1 t (some (w.heap.size + 1)) 0 ∧ w1.heap[w.heap.size]? = some (.cells #[.int .i64 x.2, .int .i64 x.1] 94 (0, 0)) ∧
    w1.heap[w.heap.size + 1]? = some (.cells #[.int .u64 k, .int .i64 0, .slice none 0 0, .pointer none] 101 (0, 0))) ⟨?_, ?_, ?_, ?_⟩ ?_
  · repeat (first | refine Chg.drew ?_ | refine Chg.drewN ?_ _ | refine Chg.alloc ?_ _ | refine Chg.setCell ?_ (.inl rfl) _ | exact Chg.refl _ _)
  · exact (MapBlk.setRoot (root := none) (hB.chg (((Chg.refl (fun _ _ => False) w).alloc _).drewN _) (fun _ h => h)) (some (w.heap.size + 1))).chg ((Chg.refl (fun _ _ => False) _).alloc _) (fun _ h => h)
  · rw [ha_lt _ _ (by simp), hs_ne _ (by omega), hd_drewN]; exact ha_at _ _ rfl
  · exact ha_at _ _ (by simp)
  rintro w1 ⟨hc1, hB1, hb1, hb2⟩
  have q0 := cell_of_block hb1 0
  have q1 := cell_of_block hb1 1
  have z22 := frozen_of_block hb2 2
  have z21 := frozen_of_block hb2 1
  have q22 := cell_of_block hb2 2
  simp only [List.getElem?_toArray, List.getElem?_cons_zero, List.getElem?_cons_succ] at q0 q1 q22
  have d2 : w1.cell? ⟨t, 2, none⟩ = some (.pointer (some ⟨w.heap.size + 1, 0, none⟩)) := hB1.c2
  have hsz1 : w.heap.size + 1 < w1.heap.size := heap_lt hb2
  obtain ⟨i0, hi0, hz0, hz1, hz2⟩ := info_parts infoPair
  clear c2 c0 c6 z2
  refine wp_region_two (fun w' => w'.cell? ⟨t, 2, none⟩ = some (.pointer (some ⟨w.heap.size + 1, 0, none⟩)) ∧ w'.cell? ⟨w.heap.size, 0, none⟩ = some (.int .i64 x.2) ∧ w'.cell? ⟨w.heap.size, 1, none⟩ = some (.int .i64 x.1))
    8 [0, 1, 2, 3, 5] 4 6 [6, 7] [4, 7] _ _ (by kernel_rfl) (by kernel_rfl) (fun _ _ _ _ _ h => h) rfl rfl rfl rfl rfl ⟨d2, q0, q1⟩ ?_
  simp only [pickOps, List.filterMap_cons, List.filterMap_nil, List.getElem?_cons_zero, List.getElem?_cons_succ]
  iterate 5
    refine wpSoft_step ?_ rfl ?_ ?_
    rotate_left
    · intro w' hS
      obtain ⟨s1, s2, s3⟩ := hS
      go_simp
      try with_reducible rfl
    simp only [Act.put, List.setIfInBounds_toArray, List.set_cons_zero, List.set_cons_succ]
  refine wpSoft_nil ?_
  refine ⟨?_, ?_⟩
  · skip
    refine wpHards_step (fun K hK => ?_)
    go_simp
    refine hK _ _ ⟨?_, ?_, ?_⟩ ?_
    iterate 3 go_keep
    clear hK K
    refine wpHards_step (fun K hK => ?_)
    go_simp
    refine hK _ _ ⟨?_, ?_, ?_⟩ ?_
    iterate 3 go_keep
    clear hK K
    refine wpHards_step (fun K hK => ?_)
    refine wp_append_row _ _ _ (by rfl) 94 i0 _ 2 16 Try.underlying98 hi0 hz0 hz1 hz2 rfl w1.heap.size 0 0 0 (by rfl) [] (RowAt.of_block (c := #[]) (by rw [hd_drew, ha_lt _ _ (by simp)]; exact ha_at _ _ rfl) _ _ (by simp) (by simp) (by simp)) (by rfl) ⟨w1.heap.size + 1, 0, none⟩ 1 _ (by rfl) [.int .i64 x.2, .int .i64 x.1] (by rfl) (World.news_of_block (cs := #[.int .i64 x.2, .int .i64 x.1]) (t := 94) (fr := (0, 0)) (ha_at _ _ (by simp))) (by simp [Value.oneCell']) (by unfold maxLen; omega) (by omega) ?_
    intro b' o1 cap' w4 happ
    refine hK _ _ ⟨((((Chg.refl (fun _ _ => False) w1).alloc _).alloc _).drew.trans (happ.chg.mono (fun _ o _ h => by have := h.2; omega))).cell (fun h => h) d2, ((((Chg.refl (fun _ _ => False) w1).alloc _).alloc _).drew.trans (happ.chg.mono (fun _ o _ h => by have := h.2; omega))).cell (fun h => h) q0, ((((Chg.refl (fun _ _ => False) w1).alloc _).alloc _).drew.trans (happ.chg.mono (fun _ o _ h => by have := h.2; omega))).cell (fun h => h) q1⟩ ?_
    clear hK K
    have hc4 : Chg (fun _ _ => False) w1 w4 := (((Chg.refl (fun _ _ => False) w1).alloc _).alloc _).drew.trans (happ.chg.mono (fun _ o _ h => by have := h.2; omega))
    have hrow := happ.row
    have hroom := happ.room
    have hpl : w1.heap.size ≤ b' := by
      rcases happ.place with h | h
      · have := h.1; omega
      · have h2 := h.1
        simp at h2
        omega
    simp only [wpHards, List.drop_succ_cons, List.drop_zero, Act.put, List.setIfInBounds_toArray, List.set_cons_zero, List.set_cons_succ]
    have hB4 := hB1.chg hc4 (fun _ h => h)
    have hb4 : w4.heap[w.heap.size + 1]? = some (.cells #[.int .u64 k, .int .i64 0, .slice none 0 0, .pointer none] 101 (0, 0)) := by rw [hc4.block hsz1 (fun _ h => h)]; exact hb2
    clear d2 q0 q1 z22 z21 q22
    have d2 : w4.cell? ⟨t, 2, none⟩ = some (.pointer (some ⟨w.heap.size + 1, 0, none⟩)) := hB4.c2
    have d3 := hB4.c3
    have d4 := hB4.at_.c4
    have y3 := hB4.fz 3
    have z22 := frozen_of_block hb4 2
    have z21 := frozen_of_block hb4 1
    have q22 := cell_of_block hb4 2
    have q21 := cell_of_block hb4 1
    simp only [List.getElem?_toArray, List.getElem?_cons_zero, List.getElem?_cons_succ] at q22 q21
    have hb4' := Lib.hid hb4
    clear happ hb4
    go_wp2_with fail
    go_ret2
    generalize hwf : World.setCell _ _ _ = wf
    have hB5 : MapBlk k mn mx wf t (some (w.heap.size + 1)) 1 := by
      rw [← hwf]
      exact ((hB4.chg ((Chg.refl (fun b _ => b = w.heap.size + 1) w4).setCell (.inl rfl) _) (fun _ h => by omega)).chg ((Chg.refl (fun b _ => b = w.heap.size + 1) _).setCell (.inl rfl) _) (fun _ h => by omega)).setCnt 1
    have hc5 : Chg (fun b _ => b = w.heap.size + 1 ∨ b = t) w4 wf := by
      rw [← hwf]
      repeat (first | refine Chg.drew ?_ | refine Chg.setCell ?_ (.inl (by simp)) _ | exact Chg.refl _ _)
    have hd5 : wf.heap[w.heap.size + 1]? = some (.cells #[.int .u64 k, .int .i64 1, .slice (some ⟨b', o1, none⟩) 1 cap', .pointer none] 101 (0, 0)) := by
      rw [← hwf, hs_ne _ (by omega), hs_same (by rw [hs_same hb4'.out])]
      rfl
    have hrow5 : RowAt wf 94 b' o1 (cap' * 2) [.int .i64 x.2, .int .i64 x.1] := hrow.chg hc5 (fun j _ h => by omega)
    clear hwf
    have hc05 : Chg (fun b _ => b = t) w wf := (hc1.trans' hc4 (fun _ _ _ h => h) (fun _ _ _ h => h.elim)).trans' hc5 (fun _ _ _ h => h) (fun b o hb h => by omega)
    have hfam := (Fam.empty (parM k) w).add hc05 (fun _ _ h => h.elim) (m := w.heap.size + 1) (s := ⟨1, [x], none⟩) (l := ⟨b', o1, cap', 0, 0, 0, 0⟩) ⟨hd5, hrow5, fun _ h => (by cases h), (by show b' ≠ w.heap.size + 1; omega), fun h => absurd rfl h⟩ (fun b hb => by
      rcases hb with h | h | ⟨h, _⟩
      · omega
      · have h2 : b = b' := h
        omega
      · exact absurd rfl h)
    refine ⟨.inr ⟨rfl, rfl⟩, _, _, 0, ((w.heap.size + 1, [x]) : BT (Int × Int) 0), ⟨hfam, hB5.at_, ?_, if_pos rfl, by simp [ids], ?_, by simp [toL, Srt], by simp [toL], hmx, hmx2, hmh, hmh2⟩, hB5, rfl, by simp [its], hc05.mono (fun _ _ _ h => .inr h), ?_⟩
    · rintro (h | h)
      · exact h
      · omega
    · show [x].length ≤ mx
      simp; omega
    · rintro b (h | h)
      · exact .inl h
      · exact .inr h.1
  · skip
    refine wpHards_step (fun K hK => ?_)
    go_simp
    refine hK _ _ ⟨?_, ?_, ?_⟩ ?_
    iterate 3 go_keep
    clear hK K
    refine wpHards_step (fun K hK => ?_)
    go_simp
    refine hK _ _ ⟨?_, ?_, ?_⟩ ?_
    iterate 3 go_keep
    clear hK K
    refine wpHards_step (fun K hK => ?_)
    refine wp_append_row _ _ _ (by rfl) 94 i0 _ 2 16 Try.underlying98 hi0 hz0 hz1 hz2 rfl (w1.heap.size + 1) 0 0 0 (by rfl) [] (RowAt.of_block (c := #[]) (by rw [hd_drew]; exact ha_at _ _ (by simp)) _ _ (by simp) (by simp) (by simp)) (by rfl) ⟨w1.heap.size, 0, none⟩ 1 _ (by rfl) [.int .i64 x.2, .int .i64 x.1] (by rfl) (World.news_of_block (cs := #[.int .i64 x.2, .int .i64 x.1]) (t := 94) (fr := (0, 0)) (by rw [hd_drew, ha_lt _ _ (by simp)]; exact ha_at _ _ rfl)) (by simp [Value.oneCell']) (by unfold maxLen; omega) (by omega) ?_
    intro b' o1 cap' w4 happ
    refine hK _ _ ⟨((((Chg.refl (fun _ _ => False) w1).alloc _).alloc _).drew.trans (happ.chg.mono (fun _ o _ h => by have := h.2; omega))).cell (fun h => h) d2, ((((Chg.refl (fun _ _ => False) w1).alloc _).alloc _).drew.trans (happ.chg.mono (fun _ o _ h => by have := h.2; omega))).cell (fun h => h) q0, ((((Chg.refl (fun _ _ => False) w1).alloc _).alloc _).drew.trans (happ.chg.mono (fun _ o _ h => by have := h.2; omega))).cell (fun h => h) q1⟩ ?_
    clear hK K
    have hc4 : Chg (fun _ _ => False) w1 w4 := (((Chg.refl (fun _ _ => False) w1).alloc _).alloc _).drew.trans (happ.chg.mono (fun _ o _ h => by have := h.2; omega))
    have hrow := happ.row
    have hroom := happ.room
    have hpl : w1.heap.size ≤ b' := by
      rcases happ.place with h | h
      · have := h.1; omega
      · have h2 := h.1
        simp at h2
        omega
    simp only [wpHards, List.drop_succ_cons, List.drop_zero, Act.put, List.setIfInBounds_toArray, List.set_cons_zero, List.set_cons_succ]
    have hB4 := hB1.chg hc4 (fun _ h => h)
    have hb4 : w4.heap[w.heap.size + 1]? = some (.cells #[.int .u64 k, .int .i64 0, .slice none 0 0, .pointer none] 101 (0, 0)) := by rw [hc4.block hsz1 (fun _ h => h)]; exact hb2
    clear d2 q0 q1 z22 z21 q22
    have d2 : w4.cell? ⟨t, 2, none⟩ = some (.pointer (some ⟨w.heap.size + 1, 0, none⟩)) := hB4.c2
    have d3 := hB4.c3
    have d4 := hB4.at_.c4
    have y3 := hB4.fz 3
    have z22 := frozen_of_block hb4 2
    have z21 := frozen_of_block hb4 1
    have q22 := cell_of_block hb4 2
    have q21 := cell_of_block hb4 1
    simp only [List.getElem?_toArray, List.getElem?_cons_zero, List.getElem?_cons_succ] at q22 q21
    have hb4' := Lib.hid hb4
    clear happ hb4
    go_wp2_with fail
    go_ret2
    generalize hwf : World.setCell _ _ _ = wf
    have hB5 : MapBlk k mn mx wf t (some (w.heap.size + 1)) 1 := by
      rw [← hwf]
      exact ((hB4.chg ((Chg.refl (fun b _ => b = w.heap.size + 1) w4).setCell (.inl rfl) _) (fun _ h => by omega)).chg ((Chg.refl (fun b _ => b = w.heap.size + 1) _).setCell (.inl rfl) _) (fun _ h => by omega)).setCnt 1
    have hc5 : Chg (fun b _ => b = w.heap.size + 1 ∨ b = t) w4 wf := by
      rw [← hwf]
      repeat (first | refine Chg.drew ?_ | refine Chg.setCell ?_ (.inl (by simp)) _ | exact Chg.refl _ _)
    have hd5 : wf.heap[w.heap.size + 1]? = some (.cells #[.int .u64 k, .int .i64 1, .slice (some ⟨b', o1, none⟩) 1 cap', .pointer none] 101 (0, 0)) := by
      rw [← hwf, hs_ne _ (by omega), hs_same (by rw [hs_same hb4'.out])]
      rfl
    have hrow5 : RowAt wf 94 b' o1 (cap' * 2) [.int .i64 x.2, .int .i64 x.1] := hrow.chg hc5 (fun j _ h => by omega)
    clear hwf
    have hc05 : Chg (fun b _ => b = t) w wf := (hc1.trans' hc4 (fun _ _ _ h => h) (fun _ _ _ h => h.elim)).trans' hc5 (fun _ _ _ h => h) (fun b o hb h => by omega)
    have hfam := (Fam.empty (parM k) w).add hc05 (fun _ _ h => h.elim) (m := w.heap.size + 1) (s := ⟨1, [x], none⟩) (l := ⟨b', o1, cap', 0, 0, 0, 0⟩) ⟨hd5, hrow5, fun _ h => (by cases h), (by show b' ≠ w.heap.size + 1; omega), fun h => absurd rfl h⟩ (fun b hb => by
      rcases hb with h | h | ⟨h, _⟩
      · omega
      · have h2 : b = b' := h
        omega
      · exact absurd rfl h)
    refine ⟨.inr ⟨rfl, rfl⟩, _, _, 0, ((w.heap.size + 1, [x]) : BT (Int × Int) 0), ⟨hfam, hB5.at_, ?_, if_pos rfl, by simp [ids], ?_, by simp [toL, Srt], by simp [toL], hmx, hmx2, hmh, hmh2⟩, hB5, rfl, by simp [its], hc05.mono (fun _ _ _ h => .inr h), ?_⟩
    · rintro (h | h)
      · exact h
      · omega
    · show [x].length ≤ mx
      simp; omega
    · rintro b (h | h)
      · exact .inl h
      · exact .inr h.1
end Go.Proofs.Ytkgcjgedpefhjaa
