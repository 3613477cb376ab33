/- A full root parted under a new root: the tree is of the next height. -/
import Derived.Test.YtpgaedmhgchgeaaM2
import Derived.Test.YtpgaedmhgchgeaaM6
namespace Go.Proofs.Ytpgaedmhgchgeaa.M
set_option linter.unusedSimpArgs false
set_option linter.unusedVariables false
open Go.RowKit

/-- What Set returns. -/
def SetRet (l : List (Int × Int)) (x : Int × Int) (e : Ending) : Prop :=
  (∃ y, fndL ltM x l = some y ∧ e = .returned (.tuple #[.int .i64 y.2, .bool true])) ∨ (fndL ltM x l = none ∧ e = .returned (.tuple #[.int .i64 0, .bool false]))

def SetTop (k : Int) (mn mx : Nat) (w : World) (F : Nat → Prop) (t : Nat) (l : List (Int × Int)) (x : Int × Int) (e : Ending) (w' : World) : Prop :=
  SetRet l x e ∧ ∃ F' H' h T', TreeIn k mn mx w' F' H' t h T' ∧ MapBlk k mn mx w' t (some (rid T')) (toL h T').length ∧ toL h T' = insL ltM x l ∧ 1 ≤ (its T').length ∧ Chg (fun b _ => F b ∨ b = t) w w' ∧ (∀ b, F' b → F b ∨ w.heap.size ≤ b)

set_option maxRecDepth 100000 in
set_option maxHeartbeats 4000000 in
theorem set_avail {k : Int} {mn mx : Nat} {w : World} {F : Nat → Prop} {H : Nat → Option (NodeR (Int × Int))} {t h : Nat} {T : BT (Int × Int) h} (hI : TreeIn k mn mx w F H t h T) (hB : MapBlk k mn mx w t (some (rid T)) (toL h T).length)
    (x : Int × Int) (ha : Avail mx h T x) (h1 : 1 ≤ (its T).length) (hbig : (toL h T).length < 100000000000000) :
    Calls Try.prog 27 #[.pointer (some ⟨t, 0, none⟩), .int .i64 x.1, .int .i64 x.2] w (SetTop k mn mx w F t (toL h T) x) := by
  have c2 : w.cell? ⟨t, 2, none⟩ = some (.pointer (some ⟨rid T, 0, none⟩)) := hB.c2
  have tlt := hB.lt
  go_enter Try.func27, Try.ntmps27
  go_wp2_with fail
  refine name_world (fun w1 => Chg (fun _ _ => False) w w1 ∧ w1.heap[w.heap.size]? = some (.cells #[.int .i64 x.2, .int .i64 x.1] 65 (0, 0))) ⟨(Chg.refl _ _).alloc _, ha_at _ _ rfl⟩ ?_
  rintro w1 ⟨hc1, hb1⟩
  have q0 := cell_of_block hb1 0
  have q1 := cell_of_block hb1 1
  simp only [List.getElem?_toArray, List.getElem?_cons_zero, List.getElem?_cons_succ] at q0 q1
  have hI1 : TreeIn k mn mx w1 F H t h T := ⟨hI.fam.chg hc1 (fun _ _ _ h => h), hI.map.chg hc1 (fun _ _ _ h => h), hI.out, hI.isT, hI.nd, hI.sh, hI.srt, hI.big, hI.m3, hI.m1000, hI.mh, hI.mh2⟩
  have hB1 := hB.chg hc1 (fun _ _ _ h => h)
  refine wp_region_call (fun w' => w'.cell? ⟨w.heap.size, 0, none⟩ = some (.int .i64 x.2) ∧ w'.cell? ⟨w.heap.size, 1, none⟩ = some (.int .i64 x.1))
    5 [0, 1, 2, 3, 4] _ [6, 7, 8, 9, 10, 11, 12] (by kernel_rfl) (by kernel_rfl) (fun _ _ _ _ _ h => h) rfl rfl rfl ⟨q0, q1⟩ ?_
  simp only [pickOps, List.filterMap_cons, List.filterMap_nil, List.getElem?_cons_zero, List.getElem?_cons_succ]
  iterate 5
    refine wpSoft_step ?_ rfl ?_ ?_
    rotate_left
    · intro w' hS
      obtain ⟨s0, s1⟩ := hS
      go_simp
      try with_reducible rfl
    simp only [Act.put, List.setIfInBounds_toArray, List.set_cons_zero, List.set_cons_succ]
  refine wpSoft_nil ?_
  refine wp_hide (fun K hK => ?_)
  go_simp
  go_at_call 44
  have hI2 : TreeIn k mn mx w1.drew F H t h T := ⟨hI1.fam.chg (Chg.refl (fun _ _ => False) _).drew (fun _ _ _ h => h), hI1.map.chg (Chg.refl (fun _ _ => False) _).drew (fun _ _ _ h => h), hI.out, hI.isT, hI.nd, hI.sh, hI.srt, hI.big, hI.m3, hI.m1000, hI.mh, hI.mh2⟩
  refine (setSpec h k mn mx t ⟨t, 2, none⟩ x w1.drew F H T hI2 hB1.c2).mono ?_
  rintro e w2 ⟨H', pr, rp, sp, rfl, hF2, hc2, hz⟩
  rcases hz with ⟨_, _, hno⟩ | ⟨rfl, _, T', hi⟩
  · exact absurd ha hno
  refine hK _ _ ?_
  clear hK K
  iterate 7
    refine wpSoft_step ?_ rfl ?_ ?_
    rotate_left
    · intro w' _
      go_simp
      try with_reducible rfl
    simp only [Act.put, List.setIfInBounds_toArray, List.set_cons_zero, List.set_cons_succ]
  refine wpSoft_nil ?_
  replace hc2 : Chg (fun b _ => F b) w1 w2 := ((Chg.refl _ _).drew).trans hc2
  have hB2 := hB1.chg hc2 (fun b _ hm h => hI.out b hm h)
  have e3 := hB2.c3
  have e4 := hB2.at_.c4
  have z3 := hB2.fz 3
  have hsz1 := hc1.size
  have hsz2 := hc2.size
  have hw02 : Chg (fun b _ => F b ∨ b = t) w w2 := (hc1.mono (fun _ _ _ h => h.elim)).trans (hc2.mono (fun _ _ _ h => .inl h))
  have hnew : ∀ b, grow F w1.drew w2 b → F b ∨ w.heap.size ≤ b := by
    rintro b (h | h)
    · exact .inl h
    · have := h.1; have : w1.drew.heap.size = w1.heap.size := rfl; exact .inr (by omega)
  have tout : ∀ b, MOwn k t b → ¬ grow F w1.drew w2 b := by
    intro b hm
    rintro (h | h)
    · exact hI.out b hm h
    · have := h.1; have := hI.map.lt hm; have : w1.drew.heap.size = w1.heap.size := rfl; omega
  have hlen := insL_len (lt := ltM) (x := x) (l := toL h T)
  have s1 : IntKind.i64.wrap (((toL h T).length : Nat) + 1) = ((toL h T).length : Nat) + 1 := IntWalk.i64_in _ (by omega)
  have hsrt' : Srt ltM (toL h T') := by rw [hi.list]; exact insL_srt swoM x hI.srt
  rcases hi.found with ⟨y, f1, rfl, rfl⟩ | ⟨f1, rfl⟩
  · rw [f1] at hlen
    simp only [Option.isSome_some, if_true, Nat.add_zero] at hlen
    go_wp2_with fail
    go_ret2
    refine ⟨.inl ⟨y, f1, rfl⟩, _, H', h, T', ⟨hF2, hB2.at_, tout, hi.isT, hi.nd, hi.sh, hsrt', by rw [hi.list, hlen]; exact hI.big, hI.m3, hI.m1000, hI.mh, hI.mh2⟩, ?_, hi.list, Nat.le_trans h1 hi.len, hw02, hnew⟩
    rw [hi.rid', hi.list, hlen]; exact hB2
  · rw [f1] at hlen
    simp only [Option.isSome_none, if_false, Bool.false_eq_true] at hlen
    go_wp2_with fail
    go_ret2
    have hc3 : Chg (fun b _ => b = t) w2 (w2.setCell ⟨t, 3, none⟩ (.int .i64 (((toL h T).length : Nat) + 1))) := (Chg.refl _ _).setCell (.inl rfl) _
    have hB3 := hB2.setCnt (((toL h T).length : Nat) + 1)
    refine ⟨.inr ⟨f1, rfl⟩, grow F w1.drew w2, H', h, T', ⟨hF2.chg hc3 (fun b o hb e => tout t MOwn.self (e ▸ hb)), hB3.at_, tout, hi.isT, hi.nd, hi.sh, hsrt', by rw [hi.list, hlen]; omega, hI.m3, hI.m1000, hI.mh, hI.mh2⟩, ?_, hi.list, Nat.le_trans h1 hi.len, hw02.trans (hc3.mono (fun _ _ _ h => .inr h)), hnew⟩
    rw [hi.rid', hi.list, hlen]; exact hB3
end Go.Proofs.Ytpgaedmhgchgeaa.M

namespace Go.Proofs.Ytpgaedmhgchgeaa.M
set_option linter.unusedSimpArgs false
set_option linter.unusedVariables false
open Go.RowKit

theorem init_done (t : Nat) (d : Int) (mn : Nat) (w : World) (h5 : w.cell? ⟨t, 6, none⟩ = some (.int .i64 mn)) (hmn : 1 ≤ mn) :
    Calls Try.prog 42 #[.pointer (some ⟨t, 0, none⟩), .int .i64 d] w fun e w' => e = .returned (.tuple #[]) ∧ ∃ m, w' = w.drewN m := by
  have hne : ¬ (mn : Int) = 0 := by omega
  go_enter Try.func42, Try.ntmps42
  go_wp2
  refine bodyPost_ret (v := .tuple #[]) (by simp [results, Try.results42, go_sem]) rfl ?_
  exact ⟨rfl, 0, rfl⟩

set_option maxRecDepth 100000 in
set_option maxHeartbeats 4000000 in
theorem set_empty {k : Int} {mn mx : Nat} {w : World} {t : Nat} (hB : MapBlk k mn mx w t none 0) (hmn : 1 ≤ mn) (hmx : 3 ≤ mx) (hmx2 : mx ≤ 1000) (hmh : mn ≤ mx / 2) (hmh2 : mn ≤ mx - (mx / 2 + 1)) (x : Int × Int) :
    Calls Try.prog 27 #[.pointer (some ⟨t, 0, none⟩), .int .i64 x.1, .int .i64 x.2] w (SetTop k mn mx w (fun _ => False) t [] x) := by
  have c2 : w.cell? ⟨t, 2, none⟩ = some (.pointer none) := hB.c2
  have tlt := hB.lt
  have c0 := hB.at_.c0
  have c6 := hB.at_.c6
  have z2 := hB.fz 2
  go_enter Try.func27, Try.ntmps27
  go_wp2_with (first | (go_at_call 42; refine (init_done t _ mn _ ?_ hmn).mono ?_; (focus go_simp); rintro e w' ⟨rfl, m, rfl⟩) | (go_at_call 43; refine (newNode_leaf _ k _ ?_).mono ?_; (focus go_simp); rintro e w' ⟨rfl, rfl⟩))
  refine name_world (fun w1 => Chg (fun b _ => b = t) w w1 ∧ MapBlk k mn mx w1 t (some (w.heap.size + 1)) 0 ∧ w1.heap[w.heap.size]? = some (.cells #[.int .i64 x.2, .int .i64 x.1] 65 (0, 0)) ∧
    w1.heap[w.heap.size + 1]? = some (.cells #[.int .u64 k, .int .i64 0, .slice none 0 0, .pointer none] 80 (0, 0))) ⟨?_, ?_, ?_, ?_⟩ ?_
  · repeat (first | refine Chg.drew ?_ | refine Chg.drewN ?_ _ | refine Chg.alloc ?_ _ | refine Chg.setCell ?_ (.inl rfl) _ | exact Chg.refl _ _)
  · exact (MapBlk.setRoot (root := none) (hB.chg (((Chg.refl (fun _ _ => False) w).alloc _).drewN _) (fun _ _ _ h => h)) (some (w.heap.size + 1))).chg ((Chg.refl (fun _ _ => False) _).alloc _) (fun _ _ _ h => h)
  · rw [ha_lt _ _ (by simp), hs_ne _ (by omega), hd_drewN]; exact ha_at _ _ rfl
  · exact ha_at _ _ (by simp)
  rintro w1 ⟨hc1, hB1, hb1, hb2⟩
  have q0 := cell_of_block hb1 0
  have q1 := cell_of_block hb1 1
  have z22 := frozen_of_block hb2 2
  have z21 := frozen_of_block hb2 1
  have q22 := cell_of_block hb2 2
  simp only [List.getElem?_toArray, List.getElem?_cons_zero, List.getElem?_cons_succ] at q0 q1 q22
  have d2 : w1.cell? ⟨t, 2, none⟩ = some (.pointer (some ⟨w.heap.size + 1, 0, none⟩)) := hB1.c2
  have hsz1 : w.heap.size + 1 < w1.heap.size := heap_lt hb2
  obtain ⟨i0, hi0, hz0, hz1, hz2⟩ := info_parts infoPair
  clear c2 c0 c6 z2
  refine wp_region_two (fun w' => w'.cell? ⟨t, 2, none⟩ = some (.pointer (some ⟨w.heap.size + 1, 0, none⟩)) ∧ w'.cell? ⟨w.heap.size, 0, none⟩ = some (.int .i64 x.2) ∧ w'.cell? ⟨w.heap.size, 1, none⟩ = some (.int .i64 x.1))
    8 [0, 1, 2, 3, 5] 4 6 [6, 7] [4, 7] _ _ (by kernel_rfl) (by kernel_rfl) (fun _ _ _ _ _ h => h) rfl rfl rfl rfl rfl ⟨d2, q0, q1⟩ ?_
  simp only [pickOps, List.filterMap_cons, List.filterMap_nil, List.getElem?_cons_zero, List.getElem?_cons_succ]
  iterate 5
    refine wpSoft_step ?_ rfl ?_ ?_
    rotate_left
    · intro w' hS
      obtain ⟨s1, s2, s3⟩ := hS
      go_simp
      try with_reducible rfl
    simp only [Act.put, List.setIfInBounds_toArray, List.set_cons_zero, List.set_cons_succ]
  refine wpSoft_nil ?_
  refine ⟨?_, ?_⟩
  · skip
    refine wpHards_step (fun K hK => ?_)
    go_simp
    refine hK _ _ ⟨?_, ?_, ?_⟩ ?_
    iterate 3 go_keep
    clear hK K
    refine wpHards_step (fun K hK => ?_)
    go_simp
    refine hK _ _ ⟨?_, ?_, ?_⟩ ?_
    iterate 3 go_keep
    clear hK K
    refine wpHards_step (fun K hK => ?_)
    refine wp_append_row _ _ _ (by rfl) 65 i0 _ 2 16 Try.underlying77 hi0 hz0 hz1 hz2 rfl w1.heap.size 0 0 0 (by rfl) [] (RowAt.of_block (c := #[]) (by rw [hd_drew, ha_lt _ _ (by simp)]; exact ha_at _ _ rfl) _ _ (by simp) (by simp) (by simp)) (by rfl) ⟨w1.heap.size + 1, 0, none⟩ 1 _ (by rfl) [.int .i64 x.2, .int .i64 x.1] (by rfl) (World.news_of_block (cs := #[.int .i64 x.2, .int .i64 x.1]) (t := 65) (fr := (0, 0)) (ha_at _ _ (by simp))) (by simp [Value.oneCell']) (by unfold maxLen; omega) (by omega) ?_
    intro b' o1 cap' w4 happ
    refine hK _ _ ⟨((((Chg.refl (fun _ _ => False) w1).alloc _).alloc _).drew.trans (happ.chg.mono (fun _ o _ h => by have := h.2; omega))).cell (fun h => h) d2, ((((Chg.refl (fun _ _ => False) w1).alloc _).alloc _).drew.trans (happ.chg.mono (fun _ o _ h => by have := h.2; omega))).cell (fun h => h) q0, ((((Chg.refl (fun _ _ => False) w1).alloc _).alloc _).drew.trans (happ.chg.mono (fun _ o _ h => by have := h.2; omega))).cell (fun h => h) q1⟩ ?_
    clear hK K
    have hc4 : Chg (fun _ _ => False) w1 w4 := (((Chg.refl (fun _ _ => False) w1).alloc _).alloc _).drew.trans (happ.chg.mono (fun _ o _ h => by have := h.2; omega))
    have hrow := happ.row
    have hroom := happ.room
    have hpl : w1.heap.size ≤ b' := by
      rcases happ.place with h | h
      · have := h.1; omega
      · have h2 := h.1
        simp at h2
        omega
    simp only [wpHards, List.drop_succ_cons, List.drop_zero, Act.put, List.setIfInBounds_toArray, List.set_cons_zero, List.set_cons_succ]
    have hB4 := hB1.chg hc4 (fun _ _ _ h => h)
    have hb4 : w4.heap[w.heap.size + 1]? = some (.cells #[.int .u64 k, .int .i64 0, .slice none 0 0, .pointer none] 80 (0, 0)) := by rw [hc4.block hsz1 (fun _ h => h)]; exact hb2
    clear d2 q0 q1 z22 z21 q22
    have d2 : w4.cell? ⟨t, 2, none⟩ = some (.pointer (some ⟨w.heap.size + 1, 0, none⟩)) := hB4.c2
    have d3 := hB4.c3
    have d4 := hB4.at_.c4
    have y3 := hB4.fz 3
    have z22 := frozen_of_block hb4 2
    have z21 := frozen_of_block hb4 1
    have q22 := cell_of_block hb4 2
    have q21 := cell_of_block hb4 1
    simp only [List.getElem?_toArray, List.getElem?_cons_zero, List.getElem?_cons_succ] at q22 q21
    have hb4' := Lib.hid hb4
    clear happ hb4
    go_wp2_with fail
    go_ret2
    generalize hwf : World.setCell _ _ _ = wf
    have hB5 : MapBlk k mn mx wf t (some (w.heap.size + 1)) 1 := by
      rw [← hwf]
      exact ((hB4.chg ((Chg.refl (fun b _ => b = w.heap.size + 1) w4).setCell (.inl rfl) _) (fun b _ hm h => by have := hB.at_.lt hm; omega)).chg ((Chg.refl (fun b _ => b = w.heap.size + 1) _).setCell (.inl rfl) _) (fun b _ hm h => by have := hB.at_.lt hm; omega)).setCnt 1
    have hc5 : Chg (fun b _ => b = w.heap.size + 1 ∨ b = t) w4 wf := by
      rw [← hwf]
      repeat (first | refine Chg.drew ?_ | refine Chg.setCell ?_ (.inl (by simp)) _ | exact Chg.refl _ _)
    have hd5 : wf.heap[w.heap.size + 1]? = some (.cells #[.int .u64 k, .int .i64 1, .slice (some ⟨b', o1, none⟩) 1 cap', .pointer none] 80 (0, 0)) := by
      rw [← hwf, hs_ne _ (by omega), hs_same (by rw [hs_same hb4'.out])]
      rfl
    have hrow5 : RowAt wf 65 b' o1 (cap' * 2) [.int .i64 x.2, .int .i64 x.1] := hrow.chg hc5 (fun j _ h => by omega)
    clear hwf
    have hc05 : Chg (fun b _ => b = t) w wf := (hc1.trans' hc4 (fun _ _ _ h => h) (fun _ _ _ h => h.elim)).trans' hc5 (fun _ _ _ h => h) (fun b o hb h => by omega)
    have hfam := (Fam.empty (parM k) w).add hc05 (fun _ _ h => h.elim) (m := w.heap.size + 1) (s := ⟨1, [x], none⟩) (l := ⟨b', o1, cap', 0, 0, 0, 0⟩) ⟨hd5, hrow5, fun _ h => (by cases h), (by show b' ≠ w.heap.size + 1; omega), fun h => absurd rfl h⟩ (fun b hb => by
      rcases hb with h | h | ⟨h, _⟩
      · omega
      · have h2 : b = b' := h
        omega
      · exact absurd rfl h)
    refine ⟨.inr ⟨rfl, rfl⟩, _, _, 0, ((w.heap.size + 1, [x]) : BT (Int × Int) 0), ⟨hfam, hB5.at_, ?_, if_pos rfl, by simp [ids], ?_, by simp [toL, Srt], by simp [toL], hmx, hmx2, hmh, hmh2⟩, hB5, rfl, by simp [its], hc05.mono (fun _ _ _ h => .inr h), ?_⟩
    · intro b hm
      rintro (h | h)
      · exact h
      · have := h.1; have := hB.at_.lt hm; omega
    · show [x].length ≤ mx
      simp; omega
    · rintro b (h | h)
      · exact .inl h
      · exact .inr h.1
  · skip
    refine wpHards_step (fun K hK => ?_)
    go_simp
    refine hK _ _ ⟨?_, ?_, ?_⟩ ?_
    iterate 3 go_keep
    clear hK K
    refine wpHards_step (fun K hK => ?_)
    go_simp
    refine hK _ _ ⟨?_, ?_, ?_⟩ ?_
    iterate 3 go_keep
    clear hK K
    refine wpHards_step (fun K hK => ?_)
    refine wp_append_row _ _ _ (by rfl) 65 i0 _ 2 16 Try.underlying77 hi0 hz0 hz1 hz2 rfl (w1.heap.size + 1) 0 0 0 (by rfl) [] (RowAt.of_block (c := #[]) (by rw [hd_drew]; exact ha_at _ _ (by simp)) _ _ (by simp) (by simp) (by simp)) (by rfl) ⟨w1.heap.size, 0, none⟩ 1 _ (by rfl) [.int .i64 x.2, .int .i64 x.1] (by rfl) (World.news_of_block (cs := #[.int .i64 x.2, .int .i64 x.1]) (t := 65) (fr := (0, 0)) (by rw [hd_drew, ha_lt _ _ (by simp)]; exact ha_at _ _ rfl)) (by simp [Value.oneCell']) (by unfold maxLen; omega) (by omega) ?_
    intro b' o1 cap' w4 happ
    refine hK _ _ ⟨((((Chg.refl (fun _ _ => False) w1).alloc _).alloc _).drew.trans (happ.chg.mono (fun _ o _ h => by have := h.2; omega))).cell (fun h => h) d2, ((((Chg.refl (fun _ _ => False) w1).alloc _).alloc _).drew.trans (happ.chg.mono (fun _ o _ h => by have := h.2; omega))).cell (fun h => h) q0, ((((Chg.refl (fun _ _ => False) w1).alloc _).alloc _).drew.trans (happ.chg.mono (fun _ o _ h => by have := h.2; omega))).cell (fun h => h) q1⟩ ?_
    clear hK K
    have hc4 : Chg (fun _ _ => False) w1 w4 := (((Chg.refl (fun _ _ => False) w1).alloc _).alloc _).drew.trans (happ.chg.mono (fun _ o _ h => by have := h.2; omega))
    have hrow := happ.row
    have hroom := happ.room
    have hpl : w1.heap.size ≤ b' := by
      rcases happ.place with h | h
      · have := h.1; omega
      · have h2 := h.1
        simp at h2
        omega
    simp only [wpHards, List.drop_succ_cons, List.drop_zero, Act.put, List.setIfInBounds_toArray, List.set_cons_zero, List.set_cons_succ]
    have hB4 := hB1.chg hc4 (fun _ _ _ h => h)
    have hb4 : w4.heap[w.heap.size + 1]? = some (.cells #[.int .u64 k, .int .i64 0, .slice none 0 0, .pointer none] 80 (0, 0)) := by rw [hc4.block hsz1 (fun _ h => h)]; exact hb2
    clear d2 q0 q1 z22 z21 q22
    have d2 : w4.cell? ⟨t, 2, none⟩ = some (.pointer (some ⟨w.heap.size + 1, 0, none⟩)) := hB4.c2
    have d3 := hB4.c3
    have d4 := hB4.at_.c4
    have y3 := hB4.fz 3
    have z22 := frozen_of_block hb4 2
    have z21 := frozen_of_block hb4 1
    have q22 := cell_of_block hb4 2
    have q21 := cell_of_block hb4 1
    simp only [List.getElem?_toArray, List.getElem?_cons_zero, List.getElem?_cons_succ] at q22 q21
    have hb4' := Lib.hid hb4
    clear happ hb4
    go_wp2_with fail
    go_ret2
    generalize hwf : World.setCell _ _ _ = wf
    have hB5 : MapBlk k mn mx wf t (some (w.heap.size + 1)) 1 := by
      rw [← hwf]
      exact ((hB4.chg ((Chg.refl (fun b _ => b = w.heap.size + 1) w4).setCell (.inl rfl) _) (fun b _ hm h => by have := hB.at_.lt hm; omega)).chg ((Chg.refl (fun b _ => b = w.heap.size + 1) _).setCell (.inl rfl) _) (fun b _ hm h => by have := hB.at_.lt hm; omega)).setCnt 1
    have hc5 : Chg (fun b _ => b = w.heap.size + 1 ∨ b = t) w4 wf := by
      rw [← hwf]
      repeat (first | refine Chg.drew ?_ | refine Chg.setCell ?_ (.inl (by simp)) _ | exact Chg.refl _ _)
    have hd5 : wf.heap[w.heap.size + 1]? = some (.cells #[.int .u64 k, .int .i64 1, .slice (some ⟨b', o1, none⟩) 1 cap', .pointer none] 80 (0, 0)) := by
      rw [← hwf, hs_ne _ (by omega), hs_same (by rw [hs_same hb4'.out])]
      rfl
    have hrow5 : RowAt wf 65 b' o1 (cap' * 2) [.int .i64 x.2, .int .i64 x.1] := hrow.chg hc5 (fun j _ h => by omega)
    clear hwf
    have hc05 : Chg (fun b _ => b = t) w wf := (hc1.trans' hc4 (fun _ _ _ h => h) (fun _ _ _ h => h.elim)).trans' hc5 (fun _ _ _ h => h) (fun b o hb h => by omega)
    have hfam := (Fam.empty (parM k) w).add hc05 (fun _ _ h => h.elim) (m := w.heap.size + 1) (s := ⟨1, [x], none⟩) (l := ⟨b', o1, cap', 0, 0, 0, 0⟩) ⟨hd5, hrow5, fun _ h => (by cases h), (by show b' ≠ w.heap.size + 1; omega), fun h => absurd rfl h⟩ (fun b hb => by
      rcases hb with h | h | ⟨h, _⟩
      · omega
      · have h2 : b = b' := h
        omega
      · exact absurd rfl h)
    refine ⟨.inr ⟨rfl, rfl⟩, _, _, 0, ((w.heap.size + 1, [x]) : BT (Int × Int) 0), ⟨hfam, hB5.at_, ?_, if_pos rfl, by simp [ids], ?_, by simp [toL, Srt], by simp [toL], hmx, hmx2, hmh, hmh2⟩, hB5, rfl, by simp [its], hc05.mono (fun _ _ _ h => .inr h), ?_⟩
    · intro b hm
      rintro (h | h)
      · exact h
      · have := h.1; have := hB.at_.lt hm; omega
    · show [x].length ≤ mx
      simp; omega
    · rintro b (h | h)
      · exact .inl h
      · exact .inr h.1
end Go.Proofs.Ytpgaedmhgchgeaa.M

namespace Go.Proofs.Ytpgaedmhgchgeaa.M
set_option linter.unusedSimpArgs false
set_option linter.unusedVariables false
open Go.RowKit

theorem full_tree {k : Int} {mn mx : Nat} {w w3 wa : World} {F F3 : Nat → Prop} {H : Nat → Option (NodeR (Int × Int))} {t h m nb : Nat} {T : BT (Int × Int) h} {x x2 : Int × Int} {l : Lay} (hI : TreeIn k mn mx w F H t h T) (hlenT : (its T).length = mx)
    (hF3 : Fam (parM k) w3 F3 (upd (upd H (rid T) (recOf h (cutL T (mx / 2)))) m (recOf h (cutR T m (mx / 2))))) (hx2 : (its T)[mx / 2]? = some x2) (hm : w.heap.size ≤ m) (hw : w.heap.size ≤ w3.heap.size) (htF3 : ∀ b, MOwn k t b → ¬ F3 b) (tlt : t < w.heap.size)
    (hc : Chg (fun b _ => b = t ∨ w3.heap.size ≤ b) w3 wa) (hB : MapBlk k mn mx wa t (some nb) (toL h T).length) (hnb : w3.heap.size ≤ nb)
    (hn : NodeAt (parM k) wa nb ⟨(toL h T).length, [x2], some [some (rid T), some m]⟩ l) (hl : ∀ b, Blk nb (⟨(toL h T).length, [x2], some [some (rid T), some m]⟩ : NodeR (Int × Int)) l b → w3.heap.size ≤ b) :
    ∃ H5, ∃ T2 : BT (Int × Int) (h + 1), TreeIn k mn mx wa (grow F3 w3 wa) H5 t (h + 1) T2 ∧ MapBlk k mn mx wa t (some (rid T2)) (toL (h + 1) T2).length ∧ toL (h + 1) T2 = toL h T ∧ Avail mx (h + 1) T2 x ∧ 1 ≤ (its T2).length := by
  have hm3 := hI.m3
  have hlt : ∀ a ∈ ids h T, a < w.heap.size := fun a ha => hI.isT.lt hI.fam ha
  have hrT := hlt _ (rid_mem T)
  have hml : m < w3.heap.size := hF3.lt (hF3.mem (n := m) (if_pos rfl))
  obtain ⟨g1, g2, g3⟩ := ids_cut (t := T) (m := m) (i := mx / 2) hI.nd hlt hm
  obtain ⟨s1, s2⟩ := sh_cut (i := mx / 2) m hI.sh (by omega)
  have l1 : (its (cutL T (mx / 2))).length = mx / 2 := by rw [its_cutL, List.length_take]; omega
  have l2 : (its (cutR T m (mx / 2))).length = mx - (mx / 2 + 1) := by rw [its_cutR, List.length_drop]; omega
  have htoL : toL (h + 1) ((nb, [x2], [cutL T (mx / 2), cutR T m (mx / 2)]) : BT (Int × Int) (h + 1)) = toL h T := by
    rw [toL_cut m hI.sh hx2]
    show inter [x2] [toL h (cutL T (mx / 2)), toL h (cutR T m (mx / 2))] = _
    simp [inter]
  have hfam := hF3.add hc (fun b o hb h => by
    rcases h with rfl | h
    · exact htF3 _ MOwn.self hb
    · have := hF3.lt hb; omega) hn hl
  have tout : ∀ b, MOwn k t b → ¬ grow F3 w3 wa b := by
    intro b hm
    rintro (h | h)
    · exact htF3 b hm h
    · have := h.1; have := hI.map.lt hm; omega
  obtain ⟨H5, hH5⟩ : ∃ H5, H5 = upd (upd (upd H (rid T) (recOf h (cutL T (mx / 2)))) m (recOf h (cutR T m (mx / 2)))) nb (⟨(toL h T).length, [x2], some [some (rid T), some m]⟩ : NodeR (Int × Int)) := ⟨_, rfl⟩
  rw [← hH5] at hfam
  obtain ⟨tc1, tc2⟩ := isT_cut (H5 := H5) (m := m) (i := mx / 2) hI.isT hI.nd
    (by rw [hH5, updNe (by omega), updNe (by omega)]; exact if_pos rfl) (by rw [hH5, updNe (by omega)]; exact if_pos rfl)
    (fun a ha hne => by have := hlt a ha; rw [hH5, updNe (by omega), updNe (by omega), updNe hne])
  refine ⟨H5, (nb, [x2], [cutL T (mx / 2), cutR T m (mx / 2)]), ⟨hfam, hB.at_, tout, ⟨?_, ?_⟩, ?_, ⟨?_, rfl, ?_⟩, by rw [htoL]; exact hI.srt, by rw [htoL]; exact hI.big, hm3, hI.m1000, hI.mh, hI.mh2⟩, by rw [htoL]; exact hB, htoL, .room (by show 1 < mx; omega), Nat.le_refl _⟩
  · show H5 nb = some (⟨((toL (h + 1) ((nb, [x2], [cutL T (mx / 2), cutR T m (mx / 2)]) : BT (Int × Int) (h + 1))).length : Nat), [x2], some [some (rid (cutL T (mx / 2))), some (rid (cutR T m (mx / 2)))]⟩ : NodeR (Int × Int))
    rw [htoL, rid_cutL, rid_cutR, hH5]
    exact if_pos rfl
  · intro c hc2
    change c ∈ [cutL T (mx / 2), cutR T m (mx / 2)] at hc2
    simp only [List.mem_cons, List.not_mem_nil, or_false] at hc2
    rcases hc2 with rfl | rfl
    · exact tc1
    · exact tc2
  · show (nb :: [cutL T (mx / 2), cutR T m (mx / 2)].flatMap (ids h)).Nodup
    simp only [List.flatMap_cons, List.flatMap_nil, List.append_nil]
    refine List.nodup_cons.2 ⟨fun hmem => ?_, g1⟩
    rcases List.mem_append.1 hmem with h1 | h1
    · have := hlt _ (g2 _ h1); omega
    · rcases g3 _ h1 with h2 | h2
      · have := hlt _ h2; omega
      · omega
  · show 1 ≤ mx
    omega
  · intro c hc2
    change c ∈ [cutL T (mx / 2), cutR T m (mx / 2)] at hc2
    simp only [List.mem_cons, List.not_mem_nil, or_false] at hc2
    rcases hc2 with rfl | rfl
    · exact ⟨by rw [l1]; exact hI.mh, s1⟩
    · exact ⟨by rw [l2]; exact hI.mh2, s2⟩
end Go.Proofs.Ytpgaedmhgchgeaa.M
