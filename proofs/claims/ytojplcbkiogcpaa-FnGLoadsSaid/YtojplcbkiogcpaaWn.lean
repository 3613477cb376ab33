/- Set of the empty map. -/
import Derived.Test.YtojplcbkiogcpaaWm
import Derived.Test.YtojplcbkiogcpaaRegd
namespace Go.Proofs.Ytojplcbkiogcpaa
set_option linter.unusedSimpArgs false
set_option linter.unusedVariables false
open Go.RowKit
variable {ord : List Int} {k : Kc ord}

theorem init_done (t : Nat) (d : Int) (mn : Nat) (w : World) (h5 : w.cell? ⟨t, 10, none⟩ = some (.int .i64 mn)) (hmn : 1 ≤ mn) :
    Calls Try.prog 108 #[.pointer (some ⟨t, 0, none⟩), .int .i64 d] w fun e w' => e = .returned (.tuple #[]) ∧ ∃ m, w' = w.drewN m := by
  have hne : ¬ (mn : Int) = 0 := by omega
  go_enter Try.func108, Try.ntmps108
  go_wp2
  refine bodyPost_ret (v := .tuple #[]) (by simp [results, Try.results108, go_sem]) rfl ?_
  exact ⟨rfl, 0, rfl⟩

set_option maxRecDepth 100000 in
set_option maxHeartbeats 4000000 in
theorem set_empty {k : Kc ord} {mn mx : Nat} {w : World} {t : Nat} (hB : MapBlk k mn mx w t none 0) (hmn : 1 ≤ mn) (hmx : 3 ≤ mx) (hmx2 : mx ≤ 1000) (hmh : mn ≤ mx / 2) (hmh2 : mn ≤ mx - (mx / 2 + 1)) (x : It ord) :
    Calls Try.prog 95 #[.pointer (some ⟨t, 0, none⟩), aggM x, .pointer none] w (SetTop k mn mx w (fun _ => False) t [] x) := by
  have c2 : w.cell? ⟨t, 2, none⟩ = some (.pointer none) := hB.c2
  have tlt := hB.lt
  have c0 := hB.at_.c0
  have c6 := hB.at_.c6
  have z2 := hB.fz 2
  have tlt1 : t < w.heap.size + 1 := by omega
  have tlt2 : t < w.heap.size + 1 + 1 := by omega
  have tlt3 : t < w.heap.size + 1 + 1 + 1 := by omega
  unfold aggM
  go_enter Try.func95, Try.ntmps95
  go_wp2_with (first | (go_at_call 108; refine (init_done t _ mn _ ?_ hmn).mono ?_; (focus go_simp); rintro e w' ⟨rfl, m, rfl⟩) | (go_at_call 115; refine (newNode_leaf _ k _ ?_).mono ?_; (focus go_simp); rintro e w' ⟨rfl, rfl⟩))
  refine name_world (fun w1 => Chg (fun b _ => b = t) w w1 ∧ MapBlk k mn mx w1 t (some (w.heap.size + 2)) 0 ∧ w1.heap[w.heap.size]? = some (.cells #[.int .i64 x.1, .int .i64 x.2] 26 (0, 0)) ∧ w1.heap[w.heap.size + 1]? = some (.cells #[.int .i64 0, .int .i64 0] 26 (0, 0)) ∧
    w1.heap[w.heap.size + 2]? = some (.cells #[.int .u64 k.iso, .int .i64 0, .slice none 0 0, .pointer none] 105 (0, 0))) ⟨?_, ?_, ?_, ?_, ?_⟩ ?_
  · repeat (first | refine Chg.drew ?_ | refine Chg.drewN ?_ _ | refine Chg.alloc ?_ _ | refine Chg.setCell ?_ (.inl rfl) _ | exact Chg.refl _ _)
  · exact (MapBlk.setRoot (root := none) (hB.chg ((((Chg.refl (fun _ _ => False) w).alloc _).alloc _).drewN _) (fun _ _ _ h => h)) (some (w.heap.size + 2))).chg ((Chg.refl (fun _ _ => False) _).alloc _) (fun _ _ _ h => h)
  · rw [ha_lt _ _ (by simp; try omega), hs_ne _ (by omega), hd_drewN, ha_lt _ _ (by simp; try omega)]; exact ha_at _ _ rfl
  · rw [ha_lt _ _ (by simp), hs_ne _ (by omega), hd_drewN]; exact ha_at _ _ (by simp)
  · exact ha_at _ _ (by simp)
  rintro w1 ⟨hc1, hB1, hb1, hbp, hb2⟩
  have HBP := Lib.hid hbp
  clear hbp
  have q0 := cell_of_block hb1 0
  have q1 := cell_of_block hb1 1
  have z22 := frozen_of_block hb2 2
  have z21 := frozen_of_block hb2 1
  have q22 := cell_of_block hb2 2
  simp only [List.getElem?_toArray, List.getElem?_cons_zero, List.getElem?_cons_succ] at q0 q1 q22
  have d2 : w1.cell? ⟨t, 2, none⟩ = some (.pointer (some ⟨w.heap.size + 2, 0, none⟩)) := hB1.c2
  have hsz1 : w.heap.size + 2 < w1.heap.size := heap_lt hb2
  obtain ⟨i0, hi0, hz0, hz1, hz2⟩ := info_parts infoPair
  clear c2 c0 c6 z2
  refine wp_region_two (fun w' => w'.cell? ⟨t, 2, none⟩ = some (.pointer (some ⟨w.heap.size + 2, 0, none⟩)) ∧ w'.cell? ⟨w.heap.size, 0, none⟩ = some (.int .i64 x.1) ∧ w'.cell? ⟨w.heap.size, 1, none⟩ = some (.int .i64 x.2))
    8 [0, 1, 2, 3, 5] 4 6 [6, 7] [4, 7] _ _ (by kernel_rfl) (by kernel_rfl) (fun _ _ _ _ _ h => h) rfl rfl rfl rfl rfl ⟨d2, q0, q1⟩ ?_
  simp only [pickOps, List.filterMap_cons, List.filterMap_nil, List.getElem?_cons_zero, List.getElem?_cons_succ]
  iterate 5
    refine wpSoft_step ?_ rfl ?_ ?_
    rotate_left
    · intro w' hS
      obtain ⟨s1, s2, s3⟩ := hS
      go_simp
      try with_reducible rfl
    simp only [Act.put, List.setIfInBounds_toArray, List.set_cons_zero, List.set_cons_succ]
  refine wpSoft_nil ?_
  refine ⟨?_, ?_⟩
  · skip
    refine wpHards_step (fun K hK => ?_)
    go_simp
    refine hK _ _ ⟨?_, ?_, ?_⟩ ?_
    iterate 3 go_keep
    clear hK K
    refine wpHards_step (fun K hK => ?_)
    go_simp
    refine hK _ _ ⟨?_, ?_, ?_⟩ ?_
    iterate 3 go_keep
    clear hK K
    refine wpHards_step (fun K hK => ?_)
    refine wp_append_row _ _ _ (by rfl) 26 i0 _ 2 16 Try.underlying31 hi0 hz0 hz1 hz2 rfl w1.heap.size 0 0 0 (by rfl) [] (RowAt.of_block (c := #[]) (by rw [hd_drew, ha_lt _ _ (by simp)]; exact ha_at _ _ rfl) _ _ (by simp) (by simp) (by simp)) (by rfl) ⟨w1.heap.size + 1, 0, none⟩ 1 _ (by rfl) [.int .i64 x.1, .int .i64 x.2] (by rfl) (World.news_of_block (cs := #[.int .i64 x.1, .int .i64 x.2]) (t := 26) (fr := (0, 0)) (ha_at _ _ (by simp))) (by simp [Value.oneCell']) (by unfold maxLen; omega) (by omega) ?_
    intro b' o1 cap' w4 happ
    refine hK _ _ ⟨((((Chg.refl (fun _ _ => False) w1).alloc _).alloc _).drew.trans (happ.chg.mono (fun _ o _ h => by have := h.2; omega))).cell (fun h => h) d2, ((((Chg.refl (fun _ _ => False) w1).alloc _).alloc _).drew.trans (happ.chg.mono (fun _ o _ h => by have := h.2; omega))).cell (fun h => h) q0, ((((Chg.refl (fun _ _ => False) w1).alloc _).alloc _).drew.trans (happ.chg.mono (fun _ o _ h => by have := h.2; omega))).cell (fun h => h) q1⟩ ?_
    clear hK K
    have hc4 : Chg (fun _ _ => False) w1 w4 := (((Chg.refl (fun _ _ => False) w1).alloc _).alloc _).drew.trans (happ.chg.mono (fun _ o _ h => by have := h.2; omega))
    have hrow := happ.row
    have hroom := happ.room
    have hpl : w1.heap.size ≤ b' := by
      rcases happ.place with h | h
      · have := h.1; omega
      · have h2 := h.1
        simp at h2
        omega
    simp only [wpHards, List.drop_succ_cons, List.drop_zero, Act.put, List.setIfInBounds_toArray, List.set_cons_zero, List.set_cons_succ]
    have hB4 := hB1.chg hc4 (fun _ _ _ h => h)
    have hb4 : w4.heap[w.heap.size + 2]? = some (.cells #[.int .u64 k.iso, .int .i64 0, .slice none 0 0, .pointer none] 105 (0, 0)) := by rw [hc4.block hsz1 (fun _ h => h)]; exact hb2
    clear d2 q0 q1 z22 z21 q22
    have d2 : w4.cell? ⟨t, 2, none⟩ = some (.pointer (some ⟨w.heap.size + 2, 0, none⟩)) := hB4.c2
    have d3 := hB4.c3
    have d4 := hB4.at_.c4
    have y3 := hB4.fz 3
    have z22 := frozen_of_block hb4 2
    have z21 := frozen_of_block hb4 1
    have q22 := cell_of_block hb4 2
    have q21 := cell_of_block hb4 1
    simp only [List.getElem?_toArray, List.getElem?_cons_zero, List.getElem?_cons_succ] at q22 q21
    have hb4' := Lib.hid hb4
    have hbp4 : w4.heap[w.heap.size + 1]? = some (.cells #[.int .i64 0, .int .i64 0] 26 (0, 0)) := by rw [hc4.block (heap_lt HBP.out) (fun _ h => h)]; exact HBP.out
    have p0 := cell_of_block hbp4 0
    have p1 := cell_of_block hbp4 1
    have pf0 := frozen_of_block hbp4 0
    have pf1 := frozen_of_block hbp4 1
    simp only [List.getElem?_toArray, List.getElem?_cons_zero, List.getElem?_cons_succ] at p0 p1
    have d5 := hB4.at_.c5
    have u1 : ¬ w.heap.size + 1 = t := by omega
    have u1' : ¬ t = w.heap.size + 1 := by omega
    clear happ hb4 hbp4
    go_wp2_with fail
    refine bodyPost_ret (v := .tuple #[.agg #[.int .i64 0, .int .i64 0], .bool false]) (by simp [results, Try.results95, go_sem, p0, p1, u1, u1']) rfl ?_
    have fin : ∀ wf wl, wf = ((w4.setCell ⟨w.heap.size + 2, 2, none⟩ (.slice (some ⟨b', o1, none⟩) 1 cap')).setCell ⟨w.heap.size + 2, 1, none⟩ (.int .i64 1)).setCell ⟨t, 3, none⟩ (.int .i64 1) → Chg (fun b _ => b = w.heap.size + 1) wf wl → SetTop k mn mx w (fun _ => False) t [] x (.returned (.tuple #[.agg #[.int .i64 0, .int .i64 0], .bool false])) wl := by
      intro wf wl hwf hcl
      have hB5 : MapBlk k mn mx wf t (some (w.heap.size + 2)) 1 := by
        rw [hwf]
        exact ((hB4.chg ((Chg.refl (fun b _ => b = w.heap.size + 2) w4).setCell (.inl rfl) _) (fun b _ hm h => by have := hB.at_.lt hm; omega)).chg ((Chg.refl (fun b _ => b = w.heap.size + 2) _).setCell (.inl rfl) _) (fun b _ hm h => by have := hB.at_.lt hm; omega)).setCnt 1
      have hc5 : Chg (fun b _ => b = w.heap.size + 2 ∨ b = t) w4 wf := by
        rw [hwf]
        repeat (first | refine Chg.drew ?_ | refine Chg.setCell ?_ (.inl (by simp)) _ | exact Chg.refl _ _)
      have hd5 : wf.heap[w.heap.size + 2]? = some (.cells #[.int .u64 k.iso, .int .i64 1, .slice (some ⟨b', o1, none⟩) 1 cap', .pointer none] 105 (0, 0)) := by
        rw [hwf, hs_ne _ (by omega), hs_same (hs_same hb4'.out _)]
        rfl
      have hrow5 : RowAt wf 26 b' o1 (cap' * 2) [.int .i64 x.1, .int .i64 x.2] := hrow.chg hc5 (fun j _ h => by omega)
      clear hwf
      have hB6 := hB5.chg hcl (fun b _ hm e => by have := hB.at_.lt hm; omega)
      have hd6 : wl.heap[w.heap.size + 2]? = some (.cells #[.int .u64 k.iso, .int .i64 1, .slice (some ⟨b', o1, none⟩) 1 cap', .pointer none] 105 (0, 0)) := by rw [hcl.block (heap_lt hd5) (fun _ e => by omega)]; exact hd5
      have hrow6 := hrow5.chg hcl (fun j _ h => by have h2 : b' = w.heap.size + 1 := h; omega)
      have hc05 : Chg (fun b _ => b = t) w wl := ((hc1.trans' hc4 (fun _ _ _ h => h) (fun _ _ _ h => h.elim)).trans' hc5 (B := fun b _ => b = t) (fun _ _ _ h => h) (fun b o hb h => by omega)).trans' hcl (fun _ _ _ h => h) (fun b o hb h => by omega)
      have hfam := (Fam.empty (parM k) w).add hc05 (fun _ _ h => h.elim) (m := w.heap.size + 2) (s := ⟨1, [x], none⟩) (l := ⟨b', o1, cap', 0, 0, 0, 0⟩) ⟨hd6, hrow6, fun _ h => (by cases h), (by show b' ≠ w.heap.size + 2; omega), fun h => absurd rfl h⟩ (fun b hb => by
        rcases hb with h | h | ⟨h, _⟩
        · omega
        · have h2 : b = b' := h
          omega
        · exact absurd rfl h)
      refine ⟨.inr ⟨rfl, rfl⟩, _, _, 0, ((w.heap.size + 2, [x]) : BT (It ord) 0), ⟨hfam, hB6.at_, ?_, if_pos rfl, by simp [ids], ?_, by simp [toL, Srt], by simp [toL], hmx, hmx2, hmh, hmh2⟩, hB6, rfl, by simp [its], hc05.mono (fun _ _ _ h => .inr h), ?_⟩
      · intro b hm
        rintro (h | h)
        · exact h
        · have := h.1; have := hB.at_.lt hm; omega
      · show [x].length ≤ mx
        simp; omega
      · rintro b (h | h)
        · exact .inl h
        · exact .inr h.1
    refine fin _ _ rfl ?_
    repeat (first | refine Chg.drew ?_ | refine Chg.drewN ?_ _ | refine Chg.setCell ?_ (.inl rfl) _ | exact Chg.refl _ _)
  · skip
    refine wpHards_step (fun K hK => ?_)
    go_simp
    refine hK _ _ ⟨?_, ?_, ?_⟩ ?_
    iterate 3 go_keep
    clear hK K
    refine wpHards_step (fun K hK => ?_)
    go_simp
    refine hK _ _ ⟨?_, ?_, ?_⟩ ?_
    iterate 3 go_keep
    clear hK K
    refine wpHards_step (fun K hK => ?_)
    refine wp_append_row _ _ _ (by rfl) 26 i0 _ 2 16 Try.underlying31 hi0 hz0 hz1 hz2 rfl (w1.heap.size + 1) 0 0 0 (by rfl) [] (RowAt.of_block (c := #[]) (by rw [hd_drew]; exact ha_at _ _ (by simp)) _ _ (by simp) (by simp) (by simp)) (by rfl) ⟨w1.heap.size, 0, none⟩ 1 _ (by rfl) [.int .i64 x.1, .int .i64 x.2] (by rfl) (World.news_of_block (cs := #[.int .i64 x.1, .int .i64 x.2]) (t := 26) (fr := (0, 0)) (by rw [hd_drew, ha_lt _ _ (by simp)]; exact ha_at _ _ rfl)) (by simp [Value.oneCell']) (by unfold maxLen; omega) (by omega) ?_
    intro b' o1 cap' w4 happ
    refine hK _ _ ⟨((((Chg.refl (fun _ _ => False) w1).alloc _).alloc _).drew.trans (happ.chg.mono (fun _ o _ h => by have := h.2; omega))).cell (fun h => h) d2, ((((Chg.refl (fun _ _ => False) w1).alloc _).alloc _).drew.trans (happ.chg.mono (fun _ o _ h => by have := h.2; omega))).cell (fun h => h) q0, ((((Chg.refl (fun _ _ => False) w1).alloc _).alloc _).drew.trans (happ.chg.mono (fun _ o _ h => by have := h.2; omega))).cell (fun h => h) q1⟩ ?_
    clear hK K
    have hc4 : Chg (fun _ _ => False) w1 w4 := (((Chg.refl (fun _ _ => False) w1).alloc _).alloc _).drew.trans (happ.chg.mono (fun _ o _ h => by have := h.2; omega))
    have hrow := happ.row
    have hroom := happ.room
    have hpl : w1.heap.size ≤ b' := by
      rcases happ.place with h | h
      · have := h.1; omega
      · have h2 := h.1
        simp at h2
        omega
    simp only [wpHards, List.drop_succ_cons, List.drop_zero, Act.put, List.setIfInBounds_toArray, List.set_cons_zero, List.set_cons_succ]
    have hB4 := hB1.chg hc4 (fun _ _ _ h => h)
    have hb4 : w4.heap[w.heap.size + 2]? = some (.cells #[.int .u64 k.iso, .int .i64 0, .slice none 0 0, .pointer none] 105 (0, 0)) := by rw [hc4.block hsz1 (fun _ h => h)]; exact hb2
    clear d2 q0 q1 z22 z21 q22
    have d2 : w4.cell? ⟨t, 2, none⟩ = some (.pointer (some ⟨w.heap.size + 2, 0, none⟩)) := hB4.c2
    have d3 := hB4.c3
    have d4 := hB4.at_.c4
    have y3 := hB4.fz 3
    have z22 := frozen_of_block hb4 2
    have z21 := frozen_of_block hb4 1
    have q22 := cell_of_block hb4 2
    have q21 := cell_of_block hb4 1
    simp only [List.getElem?_toArray, List.getElem?_cons_zero, List.getElem?_cons_succ] at q22 q21
    have hb4' := Lib.hid hb4
    have hbp4 : w4.heap[w.heap.size + 1]? = some (.cells #[.int .i64 0, .int .i64 0] 26 (0, 0)) := by rw [hc4.block (heap_lt HBP.out) (fun _ h => h)]; exact HBP.out
    have p0 := cell_of_block hbp4 0
    have p1 := cell_of_block hbp4 1
    have pf0 := frozen_of_block hbp4 0
    have pf1 := frozen_of_block hbp4 1
    simp only [List.getElem?_toArray, List.getElem?_cons_zero, List.getElem?_cons_succ] at p0 p1
    have d5 := hB4.at_.c5
    have u1 : ¬ w.heap.size + 1 = t := by omega
    have u1' : ¬ t = w.heap.size + 1 := by omega
    clear happ hb4 hbp4
    go_wp2_with fail
    refine bodyPost_ret (v := .tuple #[.agg #[.int .i64 0, .int .i64 0], .bool false]) (by simp [results, Try.results95, go_sem, p0, p1, u1, u1']) rfl ?_
    have fin : ∀ wf wl, wf = ((w4.setCell ⟨w.heap.size + 2, 2, none⟩ (.slice (some ⟨b', o1, none⟩) 1 cap')).setCell ⟨w.heap.size + 2, 1, none⟩ (.int .i64 1)).setCell ⟨t, 3, none⟩ (.int .i64 1) → Chg (fun b _ => b = w.heap.size + 1) wf wl → SetTop k mn mx w (fun _ => False) t [] x (.returned (.tuple #[.agg #[.int .i64 0, .int .i64 0], .bool false])) wl := by
      intro wf wl hwf hcl
      have hB5 : MapBlk k mn mx wf t (some (w.heap.size + 2)) 1 := by
        rw [hwf]
        exact ((hB4.chg ((Chg.refl (fun b _ => b = w.heap.size + 2) w4).setCell (.inl rfl) _) (fun b _ hm h => by have := hB.at_.lt hm; omega)).chg ((Chg.refl (fun b _ => b = w.heap.size + 2) _).setCell (.inl rfl) _) (fun b _ hm h => by have := hB.at_.lt hm; omega)).setCnt 1
      have hc5 : Chg (fun b _ => b = w.heap.size + 2 ∨ b = t) w4 wf := by
        rw [hwf]
        repeat (first | refine Chg.drew ?_ | refine Chg.setCell ?_ (.inl (by simp)) _ | exact Chg.refl _ _)
      have hd5 : wf.heap[w.heap.size + 2]? = some (.cells #[.int .u64 k.iso, .int .i64 1, .slice (some ⟨b', o1, none⟩) 1 cap', .pointer none] 105 (0, 0)) := by
        rw [hwf, hs_ne _ (by omega), hs_same (hs_same hb4'.out _)]
        rfl
      have hrow5 : RowAt wf 26 b' o1 (cap' * 2) [.int .i64 x.1, .int .i64 x.2] := hrow.chg hc5 (fun j _ h => by omega)
      clear hwf
      have hB6 := hB5.chg hcl (fun b _ hm e => by have := hB.at_.lt hm; omega)
      have hd6 : wl.heap[w.heap.size + 2]? = some (.cells #[.int .u64 k.iso, .int .i64 1, .slice (some ⟨b', o1, none⟩) 1 cap', .pointer none] 105 (0, 0)) := by rw [hcl.block (heap_lt hd5) (fun _ e => by omega)]; exact hd5
      have hrow6 := hrow5.chg hcl (fun j _ h => by have h2 : b' = w.heap.size + 1 := h; omega)
      have hc05 : Chg (fun b _ => b = t) w wl := ((hc1.trans' hc4 (fun _ _ _ h => h) (fun _ _ _ h => h.elim)).trans' hc5 (B := fun b _ => b = t) (fun _ _ _ h => h) (fun b o hb h => by omega)).trans' hcl (fun _ _ _ h => h) (fun b o hb h => by omega)
      have hfam := (Fam.empty (parM k) w).add hc05 (fun _ _ h => h.elim) (m := w.heap.size + 2) (s := ⟨1, [x], none⟩) (l := ⟨b', o1, cap', 0, 0, 0, 0⟩) ⟨hd6, hrow6, fun _ h => (by cases h), (by show b' ≠ w.heap.size + 2; omega), fun h => absurd rfl h⟩ (fun b hb => by
        rcases hb with h | h | ⟨h, _⟩
        · omega
        · have h2 : b = b' := h
          omega
        · exact absurd rfl h)
      refine ⟨.inr ⟨rfl, rfl⟩, _, _, 0, ((w.heap.size + 2, [x]) : BT (It ord) 0), ⟨hfam, hB6.at_, ?_, if_pos rfl, by simp [ids], ?_, by simp [toL, Srt], by simp [toL], hmx, hmx2, hmh, hmh2⟩, hB6, rfl, by simp [its], hc05.mono (fun _ _ _ h => .inr h), ?_⟩
      · intro b hm
        rintro (h | h)
        · exact h
        · have := h.1; have := hB.at_.lt hm; omega
      · show [x].length ≤ mx
        simp; omega
      · rintro b (h | h)
        · exact .inl h
        · exact .inr h.1
    refine fin _ _ rfl ?_
    repeat (first | refine Chg.drew ?_ | refine Chg.drewN ?_ _ | refine Chg.setCell ?_ (.inl rfl) _ | exact Chg.refl _ _)
end Go.Proofs.Ytojplcbkiogcpaa
