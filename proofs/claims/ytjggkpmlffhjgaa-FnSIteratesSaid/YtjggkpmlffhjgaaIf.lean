/- Iterators made; First, Next, Last, Prev, Key of a set's iterator. -/
import Derived.Test.YtjggkpmlffhjgaaIa
import Derived.BigQuiet
import Derived.Deep.QuietTactic
import Derived.StillTailTactics
namespace Go.Proofs.Ytjggkpmlffhjgaa
set_option linter.unusedSimpArgs false
set_option linter.unusedVariables false
open Go.RowKit

theorem name_last {G : World → Prop} {w : World} (p : World → Prop) (h : p w) (hG : ∀ w', p w' → G w') : G w := hG w h


/-- A new iterator over a map, as a value. -/
def itV (t : Nat) : Value := .agg #[.pointer (some ⟨t, 0, none⟩), .bool false, .bool false, .bool false, .bool false, .slice none 0 0, .int .i64 0]

theorem miter_cells : Try.prog.cellsOf 109 = 7 := by kernel_rfl
theorem miter_byte : byteOfCell Try.prog Try.prog.depth 109 6 = some 40 := by kernel_rfl
theorem miter_pz {w : World} {b : Nat} {c : Array Value} (h : w.heap[b]? = some (.cells c 109 (0, 0))) : (partAt ⟨b, 6, none⟩ 0 0).run Try.prog w = .ok ⟨b, 6, none⟩ w := partAt_zero h miter_cells (by decide) miter_byte

theorem iter_any (t : Nat) (w : World) : Calls Try.prog 160 #[.pointer (some ⟨t, 0, none⟩), .bool false] w fun e w' => e = .returned (itV t) ∧ Chg (fun _ _ => False) w w' := by
  go_enter Try.func160, Try.ntmps160
  go_upto_region 4 with fail
  have p2 := miter_pz (ha_at (w.alloc (.cells #[.pointer none, .bool false, .bool false, .bool false, .bool false, .slice none 0 0, .int .i64 0] 109)) (.cells #[.pointer (some ⟨t, 0, none⟩), .bool false, .bool false, .bool false, .bool false, .slice none 0 0, .int .i64 0] 109) (b := w.heap.size + 1) (by simp))
  have p1 := miter_pz (w := (w.alloc (.cells #[.pointer none, .bool false, .bool false, .bool false, .bool false, .slice none 0 0, .int .i64 0] 109)).alloc (.cells #[.pointer (some ⟨t, 0, none⟩), .bool false, .bool false, .bool false, .bool false, .slice none 0 0, .int .i64 0] 109)) (b := w.heap.size) (by rw [ha_lt _ _ (by simp)]; exact ha_at _ _ rfl)
  go_wp2_with fail
  refine bodyPost_ret (v := itV t) (by simp [itV, results, Try.results160, go_sem]) rfl ?_
  exact ⟨rfl, (((Chg.refl _ _).alloc _).alloc _)⟩

theorem mIter_any (t : Nat) (w : World) : Calls Try.prog 121 #[.pointer (some ⟨t, 0, none⟩)] w fun e w' => e = .returned (itV t) ∧ Chg (fun _ _ => False) w w' := by
  have hi := fun w => iter_any t w
  unfold itV at hi ⊢
  have HIX := Lib.hid hi
  clear hi
  go_enter Try.func121, Try.ntmps121
  go_wp2_with fail
  refine (HIX.out _).mono ?_
  rintro e w1 ⟨rfl, hc1⟩
  have hb : w1.heap[w.heap.size]? = some (.cells #[.pointer none, .bool false, .bool false, .bool false, .bool false, .slice none 0 0, .int .i64 0] 109 (0, 0)) := by rw [hc1.block (by simp) (fun _ h => h)]; exact ha_at _ _ rfl
  have hs1 := hc1.size
  have p1 := miter_pz hb
  have k0 := cell_of_block hb 0
  have k1 := cell_of_block hb 1
  have k2 := cell_of_block hb 2
  have k3 := cell_of_block hb 3
  have k4 := cell_of_block hb 4
  have k5 := cell_of_block hb 5
  have k6 := cell_of_block hb 6
  simp only [List.getElem?_toArray, List.getElem?_cons_zero, List.getElem?_cons_succ] at k0 k1 k2 k3 k4 k5 k6
  have z0 := frozen_of_block hb 0
  have z1 := frozen_of_block hb 1
  have z2 := frozen_of_block hb 2
  have z3 := frozen_of_block hb 3
  have z4 := frozen_of_block hb 4
  have z5 := frozen_of_block hb 5
  have z6 := frozen_of_block hb 6
  have HB0 := Lib.hid hb
  clear hb
  go_wp2_with fail
  have q0 := hs_same (o := 0) HB0.out (.pointer (some ⟨t, 0, none⟩))
  have q1 := hs_same (o := 1) q0 (.bool false)
  have q2 := hs_same (o := 2) q1 (.bool false)
  have q3 := hs_same (o := 3) q2 (.bool false)
  have q4 := hs_same (o := 4) q3 (.bool false)
  have q5 := hs_same (o := 5) q4 (.slice none 0 0)
  have q6 := hs_same (o := 6) q5 (.int .i64 0)
  refine name_last (fun w3 => w3.heap[w.heap.size]? = some (.cells #[.pointer (some ⟨t, 0, none⟩), .bool false, .bool false, .bool false, .bool false, .slice none 0 0, .int .i64 0] 109 (0, 0)) ∧ Chg (fun _ _ => False) w w3) ⟨q6, ?_⟩ ?_
  · have hw : ∀ {w' : World} {o : Nat} {v : Value}, Chg (fun _ _ => False) w w' → Chg (fun _ _ => False) w (w'.setCell ⟨w.heap.size, o, none⟩ v) := fun h => h.setCell (.inr (Nat.le_refl _)) _
    exact hw (hw (hw (hw (hw (hw (hw (((Chg.refl _ _).alloc _).trans hc1)))))))
  clear k0 k1 k2 k3 k4 k5 k6 z0 z1 z2 z3 z4 z5 z6 q0 q1 q2 q3 q4 q5 q6 p1 HB0
  rintro w3 ⟨hb, hc3⟩
  have p1 := miter_pz hb
  have k0 := cell_of_block hb 0
  have k1 := cell_of_block hb 1
  have k2 := cell_of_block hb 2
  have k3 := cell_of_block hb 3
  have k4 := cell_of_block hb 4
  have k5 := cell_of_block hb 5
  have k6 := cell_of_block hb 6
  simp only [List.getElem?_toArray, List.getElem?_cons_zero, List.getElem?_cons_succ] at k0 k1 k2 k3 k4 k5 k6
  have z0 := frozen_of_block hb 0
  have z1 := frozen_of_block hb 1
  have z2 := frozen_of_block hb 2
  have z3 := frozen_of_block hb 3
  have z4 := frozen_of_block hb 4
  have z5 := frozen_of_block hb 5
  have z6 := frozen_of_block hb 6
  refine bodyPost_ret (v := .agg #[.pointer (some ⟨t, 0, none⟩), .bool false, .bool false, .bool false, .bool false, .slice none 0 0, .int .i64 0]) (by simp [results, Try.results121, go_sem, k0, k1, k2, k3, k4, k5, k6, p1]) rfl ?_
  exact ⟨rfl, hc3⟩

theorem siter_pz {w : World} {b : Nat} {c : Array Value} (h : w.heap[b]? = some (.cells c 111 (0, 0))) : (partAt ⟨b, 6, none⟩ 0 0).run Try.prog w = .ok ⟨b, 6, none⟩ w := partAt_zero h iter_cells (by decide) iter_byte

theorem sIter_any (t : Nat) (w : World) : Calls Try.prog 75 #[.pointer (some ⟨t, 0, none⟩)] w fun e w' => e = .returned (itV t) ∧ Chg (fun _ _ => False) w w' := by
  have hi := fun w => mIter_any t w
  unfold itV at hi ⊢
  have HIX := Lib.hid hi
  clear hi
  go_enter Try.func75, Try.ntmps75
  go_wp2_with fail
  refine (HIX.out _).mono ?_
  rintro e w1 ⟨rfl, hc1⟩
  have hb : w1.heap[w.heap.size]? = some (.cells #[.pointer none, .bool false, .bool false, .bool false, .bool false, .slice none 0 0, .int .i64 0] 111 (0, 0)) := by rw [hc1.block (by simp) (fun _ h => h)]; exact ha_at _ _ rfl
  have hs1 := hc1.size
  have p1 := siter_pz hb
  have k0 := cell_of_block hb 0
  have k1 := cell_of_block hb 1
  have k2 := cell_of_block hb 2
  have k3 := cell_of_block hb 3
  have k4 := cell_of_block hb 4
  have k5 := cell_of_block hb 5
  have k6 := cell_of_block hb 6
  simp only [List.getElem?_toArray, List.getElem?_cons_zero, List.getElem?_cons_succ] at k0 k1 k2 k3 k4 k5 k6
  have z0 := frozen_of_block hb 0
  have z1 := frozen_of_block hb 1
  have z2 := frozen_of_block hb 2
  have z3 := frozen_of_block hb 3
  have z4 := frozen_of_block hb 4
  have z5 := frozen_of_block hb 5
  have z6 := frozen_of_block hb 6
  have HB0 := Lib.hid hb
  clear hb
  go_wp2_with fail
  have q0 := hs_same (o := 0) HB0.out (.pointer (some ⟨t, 0, none⟩))
  have q1 := hs_same (o := 1) q0 (.bool false)
  have q2 := hs_same (o := 2) q1 (.bool false)
  have q3 := hs_same (o := 3) q2 (.bool false)
  have q4 := hs_same (o := 4) q3 (.bool false)
  have q5 := hs_same (o := 5) q4 (.slice none 0 0)
  have q6 := hs_same (o := 6) q5 (.int .i64 0)
  refine name_last (fun w3 => w3.heap[w.heap.size]? = some (.cells #[.pointer (some ⟨t, 0, none⟩), .bool false, .bool false, .bool false, .bool false, .slice none 0 0, .int .i64 0] 111 (0, 0)) ∧ Chg (fun _ _ => False) w w3) ⟨q6, ?_⟩ ?_
  · have hw : ∀ {w' : World} {o : Nat} {v : Value}, Chg (fun _ _ => False) w w' → Chg (fun _ _ => False) w (w'.setCell ⟨w.heap.size, o, none⟩ v) := fun h => h.setCell (.inr (Nat.le_refl _)) _
    exact hw (hw (hw (hw (hw (hw (hw (((Chg.refl _ _).alloc _).trans hc1)))))))
  clear k0 k1 k2 k3 k4 k5 k6 z0 z1 z2 z3 z4 z5 z6 q0 q1 q2 q3 q4 q5 q6 p1 HB0
  rintro w3 ⟨hb, hc3⟩
  have p1 := siter_pz hb
  have k0 := cell_of_block hb 0
  have k1 := cell_of_block hb 1
  have k2 := cell_of_block hb 2
  have k3 := cell_of_block hb 3
  have k4 := cell_of_block hb 4
  have k5 := cell_of_block hb 5
  have k6 := cell_of_block hb 6
  simp only [List.getElem?_toArray, List.getElem?_cons_zero, List.getElem?_cons_succ] at k0 k1 k2 k3 k4 k5 k6
  have z0 := frozen_of_block hb 0
  have z1 := frozen_of_block hb 1
  have z2 := frozen_of_block hb 2
  have z3 := frozen_of_block hb 3
  have z4 := frozen_of_block hb 4
  have z5 := frozen_of_block hb 5
  have z6 := frozen_of_block hb 6
  refine bodyPost_ret (v := .agg #[.pointer (some ⟨t, 0, none⟩), .bool false, .bool false, .bool false, .bool false, .slice none 0 0, .int .i64 0]) (by simp [results, Try.results75, go_sem, k0, k1, k2, k3, k4, k5, k6, p1]) rfl ?_
  exact ⟨rfl, hc3⟩

theorem sFirst_any {w : World} {ib : Nat} {Q : Ending → World → Prop} (h : Calls Try.prog 126 #[.pointer (some ⟨ib, 0, none⟩)] w Q) (hQ : ∀ e w', Q e w' → ∃ q, e = .returned (.bool q)) :
    Calls Try.prog 80 #[.pointer (some ⟨ib, 0, none⟩)] w Q := by
  have HX := Lib.hid h
  have HQ := Lib.hid hQ
  clear h hQ
  go_enter Try.func80, Try.ntmps80
  go_wp2_with fail
  refine HX.out.mono ?_
  intro e w1 hq
  obtain ⟨q, rfl⟩ := HQ.out e w1 hq
  have HR := Lib.hid hq
  clear hq
  go_wp2_with fail
  exact HR.out

theorem sNext_any {w : World} {ib : Nat} {Q : Ending → World → Prop} (h : Calls Try.prog 123 #[.pointer (some ⟨ib, 0, none⟩)] w Q) (hQ : ∀ e w', Q e w' → ∃ q, e = .returned (.bool q)) :
    Calls Try.prog 77 #[.pointer (some ⟨ib, 0, none⟩)] w Q := by
  have HX := Lib.hid h
  have HQ := Lib.hid hQ
  clear h hQ
  go_enter Try.func77, Try.ntmps77
  go_wp2_with fail
  refine HX.out.mono ?_
  intro e w1 hq
  obtain ⟨q, rfl⟩ := HQ.out e w1 hq
  have HR := Lib.hid hq
  clear hq
  go_wp2_with fail
  exact HR.out

theorem sLast_any {w : World} {ib : Nat} {Q : Ending → World → Prop} (h : Calls Try.prog 122 #[.pointer (some ⟨ib, 0, none⟩)] w Q) (hQ : ∀ e w', Q e w' → ∃ q, e = .returned (.bool q)) :
    Calls Try.prog 76 #[.pointer (some ⟨ib, 0, none⟩)] w Q := by
  have HX := Lib.hid h
  have HQ := Lib.hid hQ
  clear h hQ
  go_enter Try.func76, Try.ntmps76
  go_wp2_with fail
  refine HX.out.mono ?_
  intro e w1 hq
  obtain ⟨q, rfl⟩ := HQ.out e w1 hq
  have HR := Lib.hid hq
  clear hq
  go_wp2_with fail
  exact HR.out

theorem sPrev_any {w : World} {ib : Nat} {Q : Ending → World → Prop} (h : Calls Try.prog 124 #[.pointer (some ⟨ib, 0, none⟩)] w Q) (hQ : ∀ e w', Q e w' → ∃ q, e = .returned (.bool q)) :
    Calls Try.prog 78 #[.pointer (some ⟨ib, 0, none⟩)] w Q := by
  have HX := Lib.hid h
  have HQ := Lib.hid hQ
  clear h hQ
  go_enter Try.func78, Try.ntmps78
  go_wp2_with fail
  refine HX.out.mono ?_
  intro e w1 hq
  obtain ⟨q, rfl⟩ := HQ.out e w1 hq
  have HR := Lib.hid hq
  clear hq
  go_wp2_with fail
  exact HR.out

theorem iterKey_any {w : World} {ib t : Nat} {sk a e : Bool} {st : Value} {k : Int} (h : ItAt w ib t sk a e st k) : Calls Try.prog 127 #[.pointer (some ⟨ib, 0, none⟩)] w fun e w' => e = .returned (.int .i64 k) ∧ w = w' := by
  have k6 := h.c6
  have p6 := h.pz
  go_enter Try.func127, Try.ntmps127
  go_wp2
  go_ret
  exact ⟨rfl, rfl⟩

theorem sKey_any {w : World} {ib t : Nat} {sk a e : Bool} {st : Value} {k : Int} (h : ItAt w ib t sk a e st k) : Calls Try.prog 82 #[.pointer (some ⟨ib, 0, none⟩)] w fun e w' => e = .returned (.int .i64 k) ∧ w = w' := by
  have HX := Lib.hid (iterKey_any h)
  clear h
  go_enter Try.func82, Try.ntmps82
  go_wp2_with fail
  refine HX.out.mono ?_
  rintro e w1 ⟨rfl, rfl⟩
  go_wp2_with fail
  go_ret
  exact ⟨rfl, rfl⟩
end Go.Proofs.Ytjggkpmlffhjgaa
