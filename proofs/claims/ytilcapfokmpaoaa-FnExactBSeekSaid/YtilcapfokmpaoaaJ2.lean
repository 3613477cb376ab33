/- BSeek, and the law on it, whatever the input. -/
import Derived.BigQuiet
import Derived.Test.YtilcapfokmpaoaaJ1
namespace Go.Proofs.Ytilcapfokmpaoaa
set_option linter.unusedSimpArgs false
set_option linter.unusedVariables false
open Go.RowKit

/-- A new iterator, as a value; sb is the block in which its stack begins. -/
def itV (t sb : Nat) : Value := .agg #[.pointer (some ⟨t, 0, none⟩), .bool false, .bool false, .bool false, .bool false, .bool false, .pointer none, .int .i64 0, .pointer none, .int .i64 0, .pointer none, .int .i64 0, .pointer none, .int .i64 0, .slice (some ⟨sb, 6, none⟩) 0 4, .nilIface]

/-- There is room for the stack in the block sb. -/
def SRoom (w : World) (sb : Nat) : Prop := ∃ c T, w.heap[sb]? = some (.cells c T (0, 0)) ∧ c.size = 16

theorem SRoom.chg {w w' : World} {sb : Nat} (h : SRoom w sb) (c : Chg (fun _ _ => False) w w') : SRoom w' sb := by
  obtain ⟨c1, T, h1, h2⟩ := h
  exact ⟨c1, T, by rw [c.block (heap_lt h1) (fun _ h => h)]; exact h1, h2⟩

theorem SRoom.lt {w : World} {sb : Nat} (h : SRoom w sb) : sb < w.heap.size := by
  obtain ⟨c1, T, h1, h2⟩ := h
  exact heap_lt h1

theorem SRoom.stk {w : World} {sb ib base : Nat} (h : SRoom w sb) (h1 : base ≤ sb) (h2 : sb ≠ ib) : StkAt ib w (.slice (some ⟨sb, 6, none⟩) 0 4) [] base := by
  obtain ⟨c, T, h3, h4⟩ := h
  refine ⟨sb, 6, 4, T, rfl, Nat.zero_le _, h1, h2, RowAt.of_block h3 _ _ (by show 0 ≤ 8; omega) (by show 6 + 8 ≤ c.size; omega) (fun j hj => by simp [flat] at hj)⟩

/-- Cells of a block filled one after another. -/
def fillC (w : World) (b : Nat) : List Value → Nat → World
  | [], _ => w
  | v :: vs, o => fillC (w.setCell ⟨b, o, none⟩ v) b vs (o + 1)

def setA (c : Array Value) : List Value → Nat → Array Value
  | [], _ => c
  | v :: vs, o => setA (c.setIfInBounds o v) vs (o + 1)

theorem fill_block {b T : Nat} : ∀ (vs : List Value) (w : World) (c : Array Value) (o : Nat), w.heap[b]? = some (.cells c T (0, 0)) → (fillC w b vs o).heap[b]? = some (.cells (setA c vs o) T (0, 0))
  | [], _, _, _, h => h
  | v :: vs, w, c, o, h => fill_block vs _ _ (o + 1) (hs_same h v)

theorem fill_chg {b : Nat} : ∀ (vs : List Value) (w : World) (o : Nat), Chg (fun b' _ => b' = b) w (fillC w b vs o)
  | [], w, _ => Chg.refl _ w
  | v :: vs, w, o => ((Chg.refl (fun b' _ => b' = b) w).setCell (a := ⟨b, o, none⟩) (.inl rfl) v).trans (fill_chg vs _ (o + 1))

theorem name_last {G : World → Prop} {w : World} (p : World → Prop) (h : p w) (hG : ∀ w', p w' → G w') : G w := hG w h

def itL (t sb : Nat) : List Value := [.pointer (some ⟨t, 0, none⟩), .bool false, .bool false, .bool false, .bool false, .bool false, .pointer none, .int .i64 0, .pointer none, .int .i64 0, .pointer none, .int .i64 0, .pointer none, .int .i64 0, .slice (some ⟨sb, 6, none⟩) 0 4, .nilIface]

def IterPost (t : Nat) (w : World) (e : Ending) (w' : World) : Prop := ∃ sb, e = .returned (itV t sb) ∧ w.heap.size ≤ sb ∧ SRoom w' sb ∧ Chg (fun _ _ => False) w w'

set_option maxRecDepth 100000 in
theorem iter_any (t : Nat) (w : World) : Calls Try.prog 44 #[.pointer (some ⟨t, 0, none⟩), .bool false] w (IterPost t w) := by
  go_enter Try.func44, Try.ntmps44
  go_wp2_with (go_at_call 51; refine (lock_any t false _).mono ?_; rintro e w' ⟨rfl, rfl⟩)
  refine bodyPost_ret (v := itV t (w.heap.size + 1)) (by simp [itV, results, Try.results44, go_sem]) rfl ?_
  exact ⟨w.heap.size + 1, rfl, by omega, ⟨_, _, ha_at _ _ (by simp), rfl⟩, ((Chg.refl _ _).alloc _).alloc _⟩

end Go.Proofs.Ytilcapfokmpaoaa

namespace Go.Proofs.Ytilcapfokmpaoaa
set_option linter.unusedSimpArgs false
set_option linter.unusedVariables false
open Go.RowKit

set_option maxRecDepth 100000 in
set_option maxHeartbeats 4000000 in
theorem gIter_any (t : Nat) (w : World) : Calls Try.prog 33 #[.pointer (some ⟨t, 0, none⟩)] w (IterPost t w) := by
  have hi := fun w => iter_any t w
  unfold IterPost itV at hi
  have HIX := Lib.hid hi
  clear hi
  skip
  go_enter Try.func33, Try.ntmps33
  go_wp2_with fail
  refine (HIX.out _).mono ?_
  rintro e w1 ⟨sb, rfl, hsb, hr, hc1⟩
  have hb : w1.heap[w.heap.size]? = some (.cells #[.pointer none, .bool false, .bool false, .bool false, .bool false, .bool false, .pointer none, .int .i64 0, .pointer none, .int .i64 0, .pointer none, .int .i64 0, .pointer none, .int .i64 0, .slice none 0 0, .nilIface] 62 (0, 0)) := by rw [hc1.block (by simp) (fun _ h => h)]; exact ha_at _ _ rfl
  have hsx : w.heap.size + 1 ≤ sb := by simpa using hsb
  have HB := Lib.hid hb
  have HR := Lib.hid hr
  have HC := Lib.hid hc1
  have k0 := cell_of_block hb 0
  have k1 := cell_of_block hb 1
  have k2 := cell_of_block hb 2
  have k3 := cell_of_block hb 3
  have k4 := cell_of_block hb 4
  have k5 := cell_of_block hb 5
  have k6 := cell_of_block hb 6
  have k7 := cell_of_block hb 7
  have k8 := cell_of_block hb 8
  have k9 := cell_of_block hb 9
  have k10 := cell_of_block hb 10
  have k11 := cell_of_block hb 11
  have k12 := cell_of_block hb 12
  have k13 := cell_of_block hb 13
  have k14 := cell_of_block hb 14
  have k15 := cell_of_block hb 15
  simp only [List.getElem?_toArray, List.getElem?_cons_zero, List.getElem?_cons_succ] at k0 k1 k2 k3 k4 k5 k6 k7 k8 k9 k10 k11 k12 k13 k14 k15
  have z0 := frozen_of_block hb 0
  have z1 := frozen_of_block hb 1
  have z2 := frozen_of_block hb 2
  have z3 := frozen_of_block hb 3
  have z4 := frozen_of_block hb 4
  have z5 := frozen_of_block hb 5
  have z6 := frozen_of_block hb 6
  have z7 := frozen_of_block hb 7
  have z8 := frozen_of_block hb 8
  have z9 := frozen_of_block hb 9
  have z10 := frozen_of_block hb 10
  have z11 := frozen_of_block hb 11
  have z12 := frozen_of_block hb 12
  have z13 := frozen_of_block hb 13
  have z14 := frozen_of_block hb 14
  have z15 := frozen_of_block hb 15
  clear hb hr hc1 hsb
  go_wp2_with fail
  refine name_last (fun w3 => (∃ c, w3.heap[w.heap.size]? = some (.cells c 62 (0, 0)) ∧ c = #[.pointer (some ⟨t, 0, none⟩), .bool false, .bool false, .bool false, .bool false, .bool false, .pointer none, .int .i64 0, .pointer none, .int .i64 0, .pointer none, .int .i64 0, .pointer none, .int .i64 0, .slice (some ⟨sb, 6, none⟩) 0 4, .nilIface]) ∧ Chg (fun b' _ => b' = w.heap.size) w1 w3) ?_ ?_
  · refine And.intro ?_ ?_
    · apply Exists.intro
      apply And.intro
      · iterate 16 apply hs_same
        exact HB.out
      · simp only [List.setIfInBounds_toArray, List.set_cons_zero, List.set_cons_succ]
    · iterate 16 refine Chg.setCell ?_ (.inl rfl) _
      exact Chg.refl _ _
  clear k0 k1 k2 k3 k4 k5 k6 k7 k8 k9 k10 k11 k12 k13 k14 k15
  clear z0 z1 z2 z3 z4 z5 z6 z7 z8 z9 z10 z11 z12 z13 z14 z15
  rintro w3 ⟨⟨c3, hb3, rfl⟩, hc3⟩
  have k0 := cell_of_block hb3 0
  have k1 := cell_of_block hb3 1
  have k2 := cell_of_block hb3 2
  have k3 := cell_of_block hb3 3
  have k4 := cell_of_block hb3 4
  have k5 := cell_of_block hb3 5
  have k6 := cell_of_block hb3 6
  have k7 := cell_of_block hb3 7
  have k8 := cell_of_block hb3 8
  have k9 := cell_of_block hb3 9
  have k10 := cell_of_block hb3 10
  have k11 := cell_of_block hb3 11
  have k12 := cell_of_block hb3 12
  have k13 := cell_of_block hb3 13
  have k14 := cell_of_block hb3 14
  have k15 := cell_of_block hb3 15
  simp only [List.getElem?_toArray, List.getElem?_cons_zero, List.getElem?_cons_succ] at k0 k1 k2 k3 k4 k5 k6 k7 k8 k9 k10 k11 k12 k13 k14 k15

  refine bodyPost_ret (v := itV t sb) (by simp [itV, results, Try.results33, go_sem, k0, k1, k2, k3, k4, k5, k6, k7, k8, k9, k10, k11, k12, k13, k14, k15]) rfl ?_
  obtain ⟨c, T, hr1, hr2⟩ := HR.out
  refine ⟨sb, rfl, by omega, ⟨c, T, ?_, hr2⟩, ?_⟩
  · rw [hc3.block (heap_lt hr1) (fun _ h => by omega)]; exact hr1
  · exact (((Chg.refl _ _).alloc _).trans HC.out).trans' hc3 (fun _ _ _ h => h) (fun b _ hb h => by omega)

end Go.Proofs.Ytilcapfokmpaoaa

namespace Go.Proofs.Ytilcapfokmpaoaa
set_option linter.unusedSimpArgs false
set_option linter.unusedVariables false
open Go.RowKit

theorem gItem_any {w : World} {ib t : Nat} {sk a e : Bool} {st x : Value} (h : ItAt w ib t sk a e st x) : Calls Try.prog 36 #[.pointer (some ⟨ib, 0, none⟩)] w fun e w' => e = .returned x ∧ w = w' := by
  have e15 := h.c15
  clear h
  go_enter Try.func36, Try.ntmps36
  go_wp2
  go_ret
  exact ⟨rfl, rfl⟩

theorem iItem_any {w : World} {ib t : Nat} {sk a e : Bool} {st x : Value} (h : ItAt w ib t sk a e st x) : Calls Try.prog 26 #[.pointer (some ⟨ib, 0, none⟩)] w fun e w' => e = .returned x ∧ w = w' := by
  have HX := Lib.hid (gItem_any h)
  clear h
  go_enter Try.func26, Try.ntmps26
  go_wp2_with fail
  refine HX.out.mono ?_
  rintro e w1 ⟨rfl, rfl⟩
  go_wp2_with fail
  go_ret
  exact ⟨rfl, rfl⟩

set_option maxRecDepth 100000 in
set_option maxHeartbeats 4000000 in
theorem gRelease_any {w : World} {ib t : Nat} {sk a e : Bool} {b o n c : Nat} {x : Value} (h : ItAt w ib t sk a e (.slice (some ⟨b, o, none⟩) n c) x) : Calls Try.prog 35 #[.pointer (some ⟨ib, 0, none⟩)] w fun e w' => e = .returned (.tuple #[]) ∧ Chg (fun b _ => b = ib) w w' := by
  have hb := h
  unfold ItAt at hb
  have k0 := cell_of_block hb 0
  have k1 := cell_of_block hb 1
  have k2 := cell_of_block hb 2
  have k3 := cell_of_block hb 3
  have k4 := cell_of_block hb 4
  have k5 := cell_of_block hb 5
  have k6 := cell_of_block hb 6
  have k7 := cell_of_block hb 7
  have k8 := cell_of_block hb 8
  have k9 := cell_of_block hb 9
  have k10 := cell_of_block hb 10
  have k11 := cell_of_block hb 11
  have k12 := cell_of_block hb 12
  have k13 := cell_of_block hb 13
  have k14 := cell_of_block hb 14
  have k15 := cell_of_block hb 15
  simp only [List.getElem?_toArray, List.getElem?_cons_zero, List.getElem?_cons_succ] at k0 k1 k2 k3 k4 k5 k6 k7 k8 k9 k10 k11 k12 k13 k14 k15
  have z0 := frozen_of_block hb 0
  have z1 := frozen_of_block hb 1
  have z2 := frozen_of_block hb 2
  have z3 := frozen_of_block hb 3
  have z4 := frozen_of_block hb 4
  have z5 := frozen_of_block hb 5
  have z6 := frozen_of_block hb 6
  have z7 := frozen_of_block hb 7
  have z8 := frozen_of_block hb 8
  have z9 := frozen_of_block hb 9
  have z10 := frozen_of_block hb 10
  have z11 := frozen_of_block hb 11
  have z12 := frozen_of_block hb 12
  have z13 := frozen_of_block hb 13
  have z14 := frozen_of_block hb 14
  have z15 := frozen_of_block hb 15
  have c0 : (0 : Int) ≤ (c : Int) := by omega
  clear hb h
  go_enter Try.func35, Try.ntmps35
  go_wp2_with fail
  refine bodyPost_end (v := .tuple #[]) (by simp [results, Try.results35, go_sem]) rfl ?_
  refine ⟨rfl, ?_⟩
  iterate 17 refine Chg.setCell ?_ (.inl rfl) _
  exact Chg.refl _ _
end Go.Proofs.Ytilcapfokmpaoaa

namespace Go.Proofs.Ytilcapfokmpaoaa
set_option linter.unusedSimpArgs false
set_option linter.unusedVariables false
open Go.RowKit

set_option maxRecDepth 100000 in
set_option maxHeartbeats 4000000 in
theorem hIter_any {ord : List Int} (k : Kc ord) (hp : Nat)(t : Nat) (w : World) (hh : HeapAt k w hp t): Calls Try.prog 23 #[.pointer (some ⟨hp, 0, none⟩)] w (IterPost t w) := by
  have hi := fun w => gIter_any t w
  unfold IterPost itV at hi
  have HIX := Lib.hid hi
  clear hi
  (have c0 := cell_of_block hh 0; simp only [List.getElem?_toArray, List.getElem?_cons_zero] at c0; have c0l := World.block_lt_of_cell? w _ c0; have c0a : ∀ o, (w.alloc o).cell? ⟨hp, 0, none⟩ = some (.pointer (some ⟨t, 0, none⟩)) := fun o => by { rw [World.cell?_alloc_lt w _ _ c0l]; exact c0 }; clear hh)
  go_enter Try.func23, Try.ntmps23
  go_wp2_with fail
  refine (HIX.out _).mono ?_
  rintro e w1 ⟨sb, rfl, hsb, hr, hc1⟩
  have hb : w1.heap[w.heap.size]? = some (.cells #[.pointer none, .bool false, .bool false, .bool false, .bool false, .bool false, .pointer none, .int .i64 0, .pointer none, .int .i64 0, .pointer none, .int .i64 0, .pointer none, .int .i64 0, .slice none 0 0, .nilIface] 64 (0, 0)) := by rw [hc1.block (by simp) (fun _ h => h)]; exact ha_at _ _ rfl
  have hsx : w.heap.size + 1 ≤ sb := by simpa using hsb
  have HB := Lib.hid hb
  have HR := Lib.hid hr
  have HC := Lib.hid hc1
  have k0 := cell_of_block hb 0
  have k1 := cell_of_block hb 1
  have k2 := cell_of_block hb 2
  have k3 := cell_of_block hb 3
  have k4 := cell_of_block hb 4
  have k5 := cell_of_block hb 5
  have k6 := cell_of_block hb 6
  have k7 := cell_of_block hb 7
  have k8 := cell_of_block hb 8
  have k9 := cell_of_block hb 9
  have k10 := cell_of_block hb 10
  have k11 := cell_of_block hb 11
  have k12 := cell_of_block hb 12
  have k13 := cell_of_block hb 13
  have k14 := cell_of_block hb 14
  have k15 := cell_of_block hb 15
  simp only [List.getElem?_toArray, List.getElem?_cons_zero, List.getElem?_cons_succ] at k0 k1 k2 k3 k4 k5 k6 k7 k8 k9 k10 k11 k12 k13 k14 k15
  have z0 := frozen_of_block hb 0
  have z1 := frozen_of_block hb 1
  have z2 := frozen_of_block hb 2
  have z3 := frozen_of_block hb 3
  have z4 := frozen_of_block hb 4
  have z5 := frozen_of_block hb 5
  have z6 := frozen_of_block hb 6
  have z7 := frozen_of_block hb 7
  have z8 := frozen_of_block hb 8
  have z9 := frozen_of_block hb 9
  have z10 := frozen_of_block hb 10
  have z11 := frozen_of_block hb 11
  have z12 := frozen_of_block hb 12
  have z13 := frozen_of_block hb 13
  have z14 := frozen_of_block hb 14
  have z15 := frozen_of_block hb 15
  clear hb hr hc1 hsb
  go_wp2_with fail
  refine name_last (fun w3 => (∃ c, w3.heap[w.heap.size]? = some (.cells c 64 (0, 0)) ∧ c = #[.pointer (some ⟨t, 0, none⟩), .bool false, .bool false, .bool false, .bool false, .bool false, .pointer none, .int .i64 0, .pointer none, .int .i64 0, .pointer none, .int .i64 0, .pointer none, .int .i64 0, .slice (some ⟨sb, 6, none⟩) 0 4, .nilIface]) ∧ Chg (fun b' _ => b' = w.heap.size) w1 w3) ?_ ?_
  · refine And.intro ?_ ?_
    · apply Exists.intro
      apply And.intro
      · iterate 16 apply hs_same
        exact HB.out
      · simp only [List.setIfInBounds_toArray, List.set_cons_zero, List.set_cons_succ]
    · iterate 16 refine Chg.setCell ?_ (.inl rfl) _
      exact Chg.refl _ _
  clear k0 k1 k2 k3 k4 k5 k6 k7 k8 k9 k10 k11 k12 k13 k14 k15
  clear z0 z1 z2 z3 z4 z5 z6 z7 z8 z9 z10 z11 z12 z13 z14 z15
  rintro w3 ⟨⟨c3, hb3, rfl⟩, hc3⟩
  have k0 := cell_of_block hb3 0
  have k1 := cell_of_block hb3 1
  have k2 := cell_of_block hb3 2
  have k3 := cell_of_block hb3 3
  have k4 := cell_of_block hb3 4
  have k5 := cell_of_block hb3 5
  have k6 := cell_of_block hb3 6
  have k7 := cell_of_block hb3 7
  have k8 := cell_of_block hb3 8
  have k9 := cell_of_block hb3 9
  have k10 := cell_of_block hb3 10
  have k11 := cell_of_block hb3 11
  have k12 := cell_of_block hb3 12
  have k13 := cell_of_block hb3 13
  have k14 := cell_of_block hb3 14
  have k15 := cell_of_block hb3 15
  simp only [List.getElem?_toArray, List.getElem?_cons_zero, List.getElem?_cons_succ] at k0 k1 k2 k3 k4 k5 k6 k7 k8 k9 k10 k11 k12 k13 k14 k15

  refine bodyPost_ret (v := itV t sb) (by simp [itV, results, Try.results23, go_sem, k0, k1, k2, k3, k4, k5, k6, k7, k8, k9, k10, k11, k12, k13, k14, k15]) rfl ?_
  obtain ⟨c, T, hr1, hr2⟩ := HR.out
  refine ⟨sb, rfl, by omega, ⟨c, T, ?_, hr2⟩, ?_⟩
  · rw [hc3.block (heap_lt hr1) (fun _ h => by omega)]; exact hr1
  · exact (((Chg.refl _ _).alloc _).trans HC.out).trans' hc3 (fun _ _ _ h => h) (fun b _ hb h => by omega)

set_option maxRecDepth 100000 in
theorem gSeek_any {ord : List Int} {w : World} {t ib base : Nat} {R : List (It ord)} (key : It ord) (h : Calls Try.prog 45 #[.pointer (some ⟨ib, 0, none⟩), aggM key, .pointer none] w (ItPost w ib t base R)) :
    Calls Try.prog 34 #[.pointer (some ⟨ib, 0, none⟩), aggM key] w (ItPost w ib t base R) := by
  unfold aggM at h ⊢
  have HX := Lib.hid h
  clear h
  go_enter Try.func34, Try.ntmps34
  go_wp2_with fail
  refine HX.out.mono ?_
  rintro e w9 (⟨y, R', b9, o9, n9, c9, hR, rfl, hi9, hc9⟩ | ⟨hR, rfl, hx9, hc9⟩)
  · have H9 := Lib.hid (And.intro hi9 hc9)
    clear hi9 hc9
    go_wp2_with fail
    go_ret
    exact .inl ⟨y, R', b9, o9, n9, c9, hR, rfl, H9.out.1, H9.out.2⟩
  · have H9 := Lib.hid (And.intro hx9 hc9)
    clear hx9 hc9
    go_wp2_with fail
    go_ret
    exact .inr ⟨hR, rfl, H9.out.1, H9.out.2⟩

set_option maxRecDepth 100000 in
theorem iSeek_any {ord : List Int} {w : World} {t ib base : Nat} {R : List (It ord)} (key : It ord) (h : Calls Try.prog 45 #[.pointer (some ⟨ib, 0, none⟩), aggM key, .pointer none] w (ItPost w ib t base R)) :
    Calls Try.prog 24 #[.pointer (some ⟨ib, 0, none⟩), aggM key] w (ItPost w ib t base R) := by
  replace h := gSeek_any key h
  unfold aggM at h ⊢
  have HX := Lib.hid h
  clear h
  go_enter Try.func24, Try.ntmps24
  go_wp2_with fail
  refine HX.out.mono ?_
  rintro e w9 (⟨y, R', b9, o9, n9, c9, hR, rfl, hi9, hc9⟩ | ⟨hR, rfl, hx9, hc9⟩)
  · have H9 := Lib.hid (And.intro hi9 hc9)
    clear hi9 hc9
    go_wp2_with fail
    go_ret
    exact .inl ⟨y, R', b9, o9, n9, c9, hR, rfl, H9.out.1, H9.out.2⟩
  · have H9 := Lib.hid (And.intro hx9 hc9)
    clear hx9 hc9
    go_wp2_with fail
    go_ret
    exact .inr ⟨hR, rfl, H9.out.1, H9.out.2⟩

theorem iRelease_any {w : World} {ib : Nat} (h : Calls Try.prog 35 #[.pointer (some ⟨ib, 0, none⟩)] w fun e w' => e = .returned (.tuple #[]) ∧ Chg (fun b _ => b = ib) w w') : Calls Try.prog 25 #[.pointer (some ⟨ib, 0, none⟩)] w fun e w' => e = .returned (.tuple #[]) ∧ Chg (fun b _ => b = ib) w w' := by
  have HX := Lib.hid h
  clear h
  go_enter Try.func25, Try.ntmps25
  go_wp2_with fail
  refine HX.out.mono ?_
  rintro e w9 ⟨rfl, hc9⟩
  have H9 := Lib.hid hc9
  clear hc9
  go_wp2_with fail
  refine bodyPost_end (v := .tuple #[]) (by simp [results, Try.results25, go_sem]) rfl ?_
  exact ⟨rfl, H9.out⟩

set_option maxRecDepth 100000 in
set_option maxHeartbeats 4000000 in
theorem hSeek_any {ord : List Int} {k : Kc ord} {mn mx : Nat} {w : World} {F : Nat → Prop} {hp t : Nat} {l : List (It ord)} (key : It ord) (hh : HeapAt k w hp t) (hM : MapIn k mn mx w F t l) (hmn : 1 ≤ mn) (hlen : l.length ≤ 1000000000000) :
    Calls Try.prog 13 #[.pointer (some ⟨hp, 0, none⟩), aggM key] w fun e w' => e = .returned (endV (upp ltM key l).head?) ∧ Chg (fun _ _ => False) w w' := by
  obtain ⟨R, hR⟩ : ∃ R, R = upp ltM key l := ⟨_, rfl⟩
  rw [← hR]
  have HR := Lib.hid hR
  have HM := Lib.hid hM
  have hi := hIter_any k hp t w hh
  unfold IterPost itV at hi
  have HI := Lib.hid hi
  have hFl : ∀ b, F b → b < w.heap.size := fun b hb => hM.famLt hb
  have hOl : ∀ b, MOwn k t b → b < w.heap.size := fun b hb => hM.own hb
  have HL := Lib.hid (And.intro hFl hOl)
  clear hR hM hh hFl hOl hi
  unfold aggM
  go_enter Try.func13, Try.ntmps13
  go_wp2_with fail
  refine HI.out.mono ?_
  rintro e w1 ⟨sb, rfl, hsb, hr, hc1⟩
  have HRM := Lib.hid hr
  have hsl := hr.lt
  have HC1 := Lib.hid hc1
  have hs1 := hc1.size
  clear hr hc1
  go_upto_region 2 with fail
  refine name_world (fun w2 => ItAt w2 w1.heap.size t false false false (.slice (some ⟨sb, 6, none⟩) 0 4) .nilIface ∧ Chg (fun _ _ => False) w1 w2) ⟨ha_at _ _ rfl, (Chg.refl _ _).alloc _⟩ ?_
  rintro w2 ⟨hi2, hc2⟩
  have hc02 := HC1.out.trans hc2
  have hM2 := HM.out.chg hc02
  have hs2 := hc2.size
  have hr2 := (HRM.out.chg hc2).stk (ib := w1.heap.size) (base := w.heap.size) hsb (by omega)
  have hsk := seek_any key hM2 hmn hlen hi2 hr2 (fun b hb => HL.out.1 b hb) (fun b hb => HL.out.2 b hb) hs1 (by omega)
  rw [← HR.out] at hsk
  have hsk2 := iSeek_any key hsk
  unfold aggM at hsk2
  have HSK := Lib.hid hsk2
  have HC2 := Lib.hid hc02
  clear hsk hsk2 hi2 hr2 hM2 hc02 hc2 hsl
  go_wp2_with fail
  refine HSK.out.mono ?_
  rintro e w9 (⟨y, R', b9, o9, n9, c9, hR, rfl, hi9, hc9⟩ | ⟨hR, rfl, hx9, hc9⟩)
  · have HI9 := Lib.hid hi9
    have HR9 := Lib.hid hR
    have HC9 := Lib.hid (HC2.out.trans' hc9 (B := fun b _ => w.heap.size ≤ b) (fun _ _ _ h => h.elim) (fun _ _ _ h => h))
    clear hi9 hc9 hR HSK
    unfold aggM at HI9
    go_wp2_with fail
    refine (iItem_any HI9.out).mono ?_
    rintro e w' ⟨rfl, rfl⟩
    go_wp2_with fail
    refine (iRelease_any (gRelease_any HI9.out)).mono ?_
    rintro e w10 ⟨rfl, hc10⟩
    have HC10 := Lib.hid hc10
    clear hc10
    go_wp2_with fail
    go_ret2
    rw [HR9.out]
    exact ⟨rfl, (HC9.out.trans (HC10.out.mono (fun b _ _ h => by rw [show b = _ from h]; exact hs1))).mono (fun b _ hb h => by omega)⟩
  · obtain ⟨sk9, a9, en9, b9, o9, n9, c9, hi9⟩ := hx9
    have HI9 := Lib.hid hi9
    have HR9 := Lib.hid hR
    have HC9 := Lib.hid (HC2.out.trans' hc9 (B := fun b _ => w.heap.size ≤ b) (fun _ _ _ h => h.elim) (fun _ _ _ h => h))
    clear hi9 hc9 hR HSK
    go_wp2_with fail
    refine (iRelease_any (gRelease_any HI9.out)).mono ?_
    rintro e w10 ⟨rfl, hc10⟩
    have HC10 := Lib.hid hc10
    clear hc10
    go_wp2_with fail
    go_ret2
    rw [HR9.out]
    exact ⟨rfl, (HC9.out.trans (HC10.out.mono (fun b _ _ h => by rw [show b = _ from h]; exact hs1))).mono (fun b _ hb h => by omega)⟩
end Go.Proofs.Ytilcapfokmpaoaa

namespace Go.Proofs.Ytilcapfokmpaoaa
set_option linter.unusedSimpArgs false
set_option linter.unusedVariables false
open Go.RowKit

theorem growL_len' {ord : List Int} (l : List (It ord)) : (growL l).length ≤ l.length := by
  have := growL_take_len l l.length
  rw [List.take_length] at this
  exact this

set_option maxRecDepth 100000 in
set_option maxHeartbeats 4000000 in
theorem BSeek_any {ord : List Int} (sv : Value) (d : Int) (nl : Bool) (p : Option Addr) (cap : Nat) (l : List (It ord)) (x : It ord) (w : World) (hs : SlE intE w sv ord) (hol : ord.length ≤ 2147483647) (hd : FitD d) (hl : ItemsAt w p l) (hlen : l.length ≤ 2147483647) :
    Calls Try.prog 9 #[.agg #[sv, .int .i64 d, .bool nl], .slice p l.length cap, .agg #[.int .i64 x.1, .int .i64 x.2]] w fun e w' => e = .returned (foundV (upp ltM x (growL l)).head?) ∧ Chg (fun _ _ => False) w w' := by
  have HP := Lib.hid (fun w => foundAny_any (upp ltM x (growL l)).head? w)
  have HGR := Lib.hid (fun w1 (c : Chg (fun _ _ => False) w w1) => grow_any (ord := ord) sv d nl p cap l w1 hd (hs.chg c) hol (hl.chg c) hlen)
  unfold GrowPost at HGR
  have hgl := growL_len' l
  have hdim := hd.dims.1
  generalize ho : (upp ltM x (growL l)).head? = o at HP ⊢
  have HO := Lib.hid ho
  obtain ⟨sa, sc, rfl⟩ : ∃ a c, sv = .slice a ord.length c := hs.form
  clear hl hs ho
  go_enter Try.func9, Try.ntmps9
  go_wp2_with fail
  refine name_world (fun w1 => Chg (fun _ _ => False) w w1 ∧ w1.heap[w.heap.size]? = some (.cells #[.slice sa ord.length sc, .int .i64 d, .bool nl] 24 (0, 0)) ∧ w1.heap[w.heap.size + 1]? = some (.cells #[.int .i64 x.1, .int .i64 x.2] 27 (0, 0)) ∧ w1.heap[w.heap.size + 2]? = some (.cells #[.int .i64 0, .int .i64 0, .bool false] 34 (0, 0))) ⟨(((Chg.refl _ _).alloc _).alloc _).alloc _, ?_, ?_, ?_⟩ ?_
  · rw [ha_lt _ _ (by simp; try omega), ha_lt _ _ (by simp; try omega)]; exact ha_at _ _ rfl
  · rw [ha_lt _ _ (by simp; try omega)]; exact ha_at _ _ (by simp)
  · exact ha_at _ _ (by simp)
  rintro w1 ⟨hc1, hb0, hb1, hbo⟩
  have m0 := cell_of_block hb0 0
  have m1 := cell_of_block hb0 1
  have m2 := cell_of_block hb0 2
  have q0 := cell_of_block hb1 0
  have q1 := cell_of_block hb1 1
  simp only [List.getElem?_toArray, List.getElem?_cons_zero, List.getElem?_cons_succ] at m0 m1 m2 q0 q1
  have HBO := Lib.hid hbo
  have hlt1 := heap_lt hbo
  have hsz1 := hc1.size
  clear hb0 hb1 hbo
  refine wp_region_scr (fun w' => w'.cell? ⟨w.heap.size, 0, none⟩ = some (.slice sa ord.length sc) ∧ w'.cell? ⟨w.heap.size, 1, none⟩ = some (.int .i64 d) ∧ w'.cell? ⟨w.heap.size, 2, none⟩ = some (.bool nl) ∧ w'.cell? ⟨w.heap.size + 1, 0, none⟩ = some (.int .i64 x.1) ∧ w'.cell? ⟨w.heap.size + 1, 1, none⟩ = some (.int .i64 x.2)) (.soft 0 (.soft 1 (.soft 3 (.soft 4 (.hard 2 (.hard 5 (.soft 6 (.soft 7 (.soft 8 (.soft 9 (.soft 10 .nil))))))))))) (by kernel_rfl) (by kernel_rfl) (fun _ _ _ _ _ h => h) ⟨m0, m1, m2, q0, q1⟩ ?_
  repeat
    first
    | (refine scr_soft (by rfl) ?_ ?_ ?_ ?_
       rotate_left
       · simp [Region.wanted, yielded]; done
       · intro w' hS
         try obtain ⟨a1, a2, a3, a4, a5⟩ := hS
         go_simp
         try with_reducible rfl
       simp only [Act.put, List.setIfInBounds_toArray, List.set_cons_zero, List.set_cons_succ])
    | (refine scr_skip (by rfl) ?_ ?_
       · simp [Region.wanted, yielded]; done
       simp only [Act.put, List.setIfInBounds_toArray, List.set_cons_zero, List.set_cons_succ])
  refine scr_hard (by rfl) (by simp [Region.wanted, yielded]) (fun K hK => ?_)
  go_simp
  refine (HGR.out _ hc1.drew).mono ?_
  rintro e w2 ⟨k0, hp, t, F, rfl, hH, hM, hc2', _⟩
  have c2 : Chg (fun _ _ => False) w1 w2 := (Chg.refl _ _).drew.trans hc2'
  refine hK _ _ ⟨c2.cell (fun h => h) m0, c2.cell (fun h => h) m1, c2.cell (fun h => h) m2, c2.cell (fun h => h) q0, c2.cell (fun h => h) q1⟩ ?_
  clear hK K
  repeat
    first
    | (refine scr_soft (by rfl) ?_ ?_ ?_ ?_
       rotate_left
       · simp [Region.wanted, yielded]; done
       · intro w' hS
         try obtain ⟨a1, a2, a3, a4, a5⟩ := hS
         go_simp
         try with_reducible rfl
       simp only [Act.put, List.setIfInBounds_toArray, List.set_cons_zero, List.set_cons_succ])
    | (refine scr_skip (by rfl) ?_ ?_
       · simp [Region.wanted, yielded]; done
       simp only [Act.put, List.setIfInBounds_toArray, List.set_cons_zero, List.set_cons_succ])
  refine scr_hard (by rfl) (by simp [Region.wanted, yielded]) (fun K hK => ?_)
  go_simp
  have hsk := hSeek_any x hH hM hdim (by omega)
  rw [HO.out] at hsk
  unfold aggM at hsk
  have HSK := Lib.hid hsk
  clear hsk hH hM
  refine HSK.out.mono ?_
  rintro e w3 ⟨rfl, hc3⟩
  have c3 := c2.trans hc3
  refine hK _ _ ⟨c3.cell (fun h => h) m0, c3.cell (fun h => h) m1, c3.cell (fun h => h) m2, c3.cell (fun h => h) q0, c3.cell (fun h => h) q1⟩ ?_
  clear hK K
  have hb3 : w3.heap[w.heap.size + 2]? = some (.cells #[.int .i64 0, .int .i64 0, .bool false] 34 (0, 0)) := by rw [c3.block hlt1 (fun _ h => h)]; exact HBO.out
  have f0 := cell_of_block hb3 0
  have f1 := cell_of_block hb3 1
  have f2 := cell_of_block hb3 2
  have z0 := frozen_of_block hb3 0
  have z1 := frozen_of_block hb3 1
  have z2 := frozen_of_block hb3 2
  simp only [List.getElem?_toArray, List.getElem?_cons_zero, List.getElem?_cons_succ] at f0 f1 f2
  have HC := Lib.hid (hc1.trans c3)
  clear hb3
  rcases o with _ | y
  · unfold endV
    repeat
      first
      | (refine scr_soft (by rfl) ?_ ?_ ?_ ?_
         rotate_left
         · simp [Region.wanted, yielded]; done
         · intro w' hS
           try obtain ⟨a1, a2, a3, a4, a5⟩ := hS
           go_simp
           try with_reducible rfl
         simp only [Act.put, List.setIfInBounds_toArray, List.set_cons_zero, List.set_cons_succ])
      | (refine scr_skip (by rfl) ?_ ?_
         · simp [Region.wanted, yielded]; done
         simp only [Act.put, List.setIfInBounds_toArray, List.set_cons_zero, List.set_cons_succ])
    refine scr_nil ?_
    go_wp2_with fail
    refine bodyPost_ret (v := foundV none) (by simp [results, Try.results9, go_sem, foundV, f0, f1, f2]) rfl ⟨rfl, ?_⟩
    exact fresh_found1 _ (by omega) HC.out
  · unfold endV
    repeat
      first
      | (refine scr_soft (by rfl) ?_ ?_ ?_ ?_
         rotate_left
         · simp [Region.wanted, yielded]; done
         · intro w' hS
           try obtain ⟨a1, a2, a3, a4, a5⟩ := hS
           go_simp
           try with_reducible rfl
         simp only [Act.put, List.setIfInBounds_toArray, List.set_cons_zero, List.set_cons_succ])
      | (refine scr_skip (by rfl) ?_ ?_
         · simp [Region.wanted, yielded]; done
         simp only [Act.put, List.setIfInBounds_toArray, List.set_cons_zero, List.set_cons_succ])
    refine scr_nil ?_
    unfold optV at HP
    go_wp2_with fail
    refine (HP.out _).mono ?_
    rintro e w4 ⟨rfl, hc4⟩
    replace f0 := hc4.cell (fun h => h) f0
    replace f1 := hc4.cell (fun h => h) f1
    replace f2 := hc4.cell (fun h => h) f2
    have hb4 : w4.heap[w.heap.size + 2]? = some (.cells #[.int .i64 0, .int .i64 0, .bool false] 34 (0, 0)) := by rw [(c3.trans hc4).block hlt1 (fun _ h => h)]; exact HBO.out
    clear z0 z1 z2
    have z0 := frozen_of_block hb4 0
    have z1 := frozen_of_block hb4 1
    have z2 := frozen_of_block hb4 2
    clear hb4
    unfold foundV
    go_wp2_with fail
    refine bodyPost_ret (v := foundV (some y)) (by simp [results, Try.results9, go_sem, foundV, f0, f1, f2]) rfl ⟨rfl, ?_⟩
    exact fresh_found1 _ (by omega) (HC.out.trans hc4)

theorem firstN_one {α : Type} (l : List α) : (firstN 1 l).head? = l.head? := by
  unfold firstN
  split
  · rfl
  · cases l with
    | nil => rfl
    | cons a t => rfl

set_option maxRecDepth 100000 in
set_option maxHeartbeats 4000000 in
theorem bSeek_any {ord : List Int} (sv : Value) (d : Int) (nl : Bool) (p : Option Addr) (cap : Nat) (l : List (It ord)) (x : It ord) (w : World) (hs : SlE intE w sv ord) (hol : ord.length ≤ 2147483647) (hd : FitD d) (hl : ItemsAt w p l) (hlen : l.length ≤ 2147483647) :
    Calls Try.prog 5 #[.agg #[sv, .int .i64 d, .bool nl], .slice p l.length cap, .agg #[.int .i64 x.1, .int .i64 x.2]] w fun e w' => e = .returned (.bool true) ∧ Chg (fun _ _ => False) w w' := by
  have HM := Lib.hid (fun w1 (c : Chg (fun _ _ => False) w w1) => BSeek_any (ord := ord) sv d nl p cap l x w1 (hs.chg c) hol hd (hl.chg c) hlen)
  have HS := Lib.hid (fun w1 (c : Chg (fun _ _ => False) w w1) => specGAscend_any (ord := ord) sv d nl p cap l x 1 w1 (hs.chg c) hol (hl.chg c) hlen)
  have hpl := Nat.le_trans (firstN_len 1 (upp ltM x (growL l))) (Nat.le_trans (upp_len ltM x (growL l)) (growL_len' l))
  have e1 : firstN 1 (uppL (ltR (rkL ord)) x (treeL (ltR (rkL ord)) l)) = firstN 1 (upp ltM x (growL l)) := rfl
  rw [e1] at HS
  have hat : atL (firstN 1 (upp ltM x (growL l))) 0 = (upp ltM x (growL l)).head? := by
    rw [← firstN_one]; simp [atL, List.head?_eq_getElem?]
  generalize (upp ltM x (growL l)).head? = o at HM hat
  have HAT := Lib.hid hat
  obtain ⟨sa, sc, rfl⟩ : ∃ a c, sv = .slice a ord.length c := hs.form
  clear hs hl e1 hat
  rcases o with _ | y
  · unfold foundV at HM
    go_enter Try.func5, Try.ntmps5
    go_wp2_with fail
    refine name_calls (fun w1 => Chg (fun _ _ => False) w w1 ∧ w1.heap[w.heap.size]? = some (.cells #[.slice sa ord.length sc, .int .i64 d, .bool nl] 24 (0, 0)) ∧ w1.heap[w.heap.size + 1]? = some (.cells #[.int .i64 x.1, .int .i64 x.2] 27 (0, 0))) ⟨((Chg.refl _ _).alloc _).alloc _, ?_, ?_⟩ ?_
    · rw [ha_lt _ _ (by simp)]; exact ha_at _ _ rfl
    · exact ha_at _ _ (by simp)
    rintro w1 ⟨hc1, hb0, hb1⟩
    have m0 := cell_of_block hb0 0
    have m1 := cell_of_block hb0 1
    have m2 := cell_of_block hb0 2
    have q0 := cell_of_block hb1 0
    have q1 := cell_of_block hb1 1
    simp only [List.getElem?_toArray, List.getElem?_cons_zero, List.getElem?_cons_succ] at m0 m1 m2 q0 q1
    clear hb0 hb1
    refine (HM.out _ hc1).mono ?_
    rintro e w2 ⟨rfl, hc2⟩
    replace m0 := hc2.cell (fun h => h) m0
    replace m1 := hc2.cell (fun h => h) m1
    replace m2 := hc2.cell (fun h => h) m2
    replace q0 := hc2.cell (fun h => h) q0
    replace q1 := hc2.cell (fun h => h) q1
    have l0 := World.block_lt_of_cell? _ _ m0
    have l1 := World.block_lt_of_cell? _ _ q0
    go_wp2_with fail
    refine name_calls (fun w3 => Chg (fun _ _ => False) w w3 ∧ w3.heap[w2.heap.size]? = some (.cells #[.int .i64 0, .int .i64 0, .bool false] 34 (0, 0))) ⟨((hc1.trans hc2).alloc _), ha_at _ _ rfl⟩ ?_
    rintro w3 ⟨hc3, hb3⟩
    have c0 := cell_of_block hb3 0
    have c1 := cell_of_block hb3 1
    have c2 := cell_of_block hb3 2
    have hlt := heap_lt hb3
    clear hb3
    simp only [List.getElem?_toArray, List.getElem?_cons_zero, List.getElem?_cons_succ] at c0 c1 c2
    refine (HS.out _ hc3).mono ?_
    rintro e w4 ⟨v4, rfl, hs4, hc4⟩
    obtain ⟨q, cap2, rfl, hi, hcap⟩ := hs4.itemsAt
    have HI := Lib.hid hi
    clear m0 m1 m2 q0 q1 hs4 hi
    replace c0 := hc4.cell (fun h => h) c0
    replace c1 := hc4.cell (fun h => h) c1
    replace c2 := hc4.cell (fun h => h) c2
    go_wp2_with fail
    refine (at_any q cap2 _ 0 _ HI.out (by omega) hcap).mono ?_
    rintro e w5 ⟨rfl, hc5⟩
    rw [HAT.out]
    replace c0 := hc5.cell (fun h => h) c0
    replace c1 := hc5.cell (fun h => h) c1
    replace c2 := hc5.cell (fun h => h) c2
    have hl3 : w2.heap.size < w5.heap.size := by have := (hc4.trans hc5).size; omega
    unfold foundV
    go_wp2_with fail
    go_ret
    exact ⟨rfl, (((hc3.trans hc4).trans hc5).alloc _)⟩
  · unfold foundV at HM
    go_enter Try.func5, Try.ntmps5
    go_wp2_with fail
    refine name_calls (fun w1 => Chg (fun _ _ => False) w w1 ∧ w1.heap[w.heap.size]? = some (.cells #[.slice sa ord.length sc, .int .i64 d, .bool nl] 24 (0, 0)) ∧ w1.heap[w.heap.size + 1]? = some (.cells #[.int .i64 x.1, .int .i64 x.2] 27 (0, 0))) ⟨((Chg.refl _ _).alloc _).alloc _, ?_, ?_⟩ ?_
    · rw [ha_lt _ _ (by simp)]; exact ha_at _ _ rfl
    · exact ha_at _ _ (by simp)
    rintro w1 ⟨hc1, hb0, hb1⟩
    have m0 := cell_of_block hb0 0
    have m1 := cell_of_block hb0 1
    have m2 := cell_of_block hb0 2
    have q0 := cell_of_block hb1 0
    have q1 := cell_of_block hb1 1
    simp only [List.getElem?_toArray, List.getElem?_cons_zero, List.getElem?_cons_succ] at m0 m1 m2 q0 q1
    clear hb0 hb1
    refine (HM.out _ hc1).mono ?_
    rintro e w2 ⟨rfl, hc2⟩
    replace m0 := hc2.cell (fun h => h) m0
    replace m1 := hc2.cell (fun h => h) m1
    replace m2 := hc2.cell (fun h => h) m2
    replace q0 := hc2.cell (fun h => h) q0
    replace q1 := hc2.cell (fun h => h) q1
    have l0 := World.block_lt_of_cell? _ _ m0
    have l1 := World.block_lt_of_cell? _ _ q0
    go_wp2_with fail
    refine name_calls (fun w3 => Chg (fun _ _ => False) w w3 ∧ w3.heap[w2.heap.size]? = some (.cells #[.int .i64 y.1, .int .i64 y.2, .bool true] 34 (0, 0))) ⟨((hc1.trans hc2).alloc _), ha_at _ _ rfl⟩ ?_
    rintro w3 ⟨hc3, hb3⟩
    have c0 := cell_of_block hb3 0
    have c1 := cell_of_block hb3 1
    have c2 := cell_of_block hb3 2
    have hlt := heap_lt hb3
    clear hb3
    simp only [List.getElem?_toArray, List.getElem?_cons_zero, List.getElem?_cons_succ] at c0 c1 c2
    refine (HS.out _ hc3).mono ?_
    rintro e w4 ⟨v4, rfl, hs4, hc4⟩
    obtain ⟨q, cap2, rfl, hi, hcap⟩ := hs4.itemsAt
    have HI := Lib.hid hi
    clear m0 m1 m2 q0 q1 hs4 hi
    replace c0 := hc4.cell (fun h => h) c0
    replace c1 := hc4.cell (fun h => h) c1
    replace c2 := hc4.cell (fun h => h) c2
    go_wp2_with fail
    refine (at_any q cap2 _ 0 _ HI.out (by omega) hcap).mono ?_
    rintro e w5 ⟨rfl, hc5⟩
    rw [HAT.out]
    replace c0 := hc5.cell (fun h => h) c0
    replace c1 := hc5.cell (fun h => h) c1
    replace c2 := hc5.cell (fun h => h) c2
    have hl3 : w2.heap.size < w5.heap.size := by have := (hc4.trans hc5).size; omega
    unfold foundV
    go_wp2_with fail
    go_ret
    exact ⟨rfl, (((hc3.trans hc4).trans hc5).alloc _)⟩

set_option maxRecDepth 100000 in
theorem law_ExactBSeek (sv : Value) (os : List Int) (d : Int) (nl : Bool) (p : Option Addr) (cap : Nat) (l : List (Int × Int)) (x : Int × Int) (w : World) (hs : SlE intE w sv os) (hl : ItemsAt w p l) :
    Calls Try.prog 3 #[.agg #[sv, .int .i64 d, .bool nl], .slice p l.length cap, .agg #[.int .i64 x.1, .int .i64 x.2]] w fun e w' => e = .returned (.bool true) ∧ Chg (fun _ _ => False) w w' := by
  obtain ⟨sa, sc, rfl⟩ : ∃ a c, sv = .slice a os.length c := hs.form
  have hz := fun w1 => zzFits1_any sa os.length sc d nl w1
  by_cases hol : os.length ≤ 2147483647
  rotate_left
  · rw [decide_eq_false hol] at hz
    go_enter Try.func3, Try.ntmps3
    go_wp2_with fail
    refine name_calls (fun w1 => Chg (fun _ _ => False) w w1) ((((Chg.refl _ _).alloc _).alloc _)) ?_
    intro w1 hc1
    refine (hz w1).mono ?_
    rintro e w2 ⟨rfl, hc2⟩
    go_wp2_with fail
    go_ret
    exact ⟨rfl, hc1.trans hc2⟩
  rw [decide_eq_true hol] at hz
  by_cases hlen : l.length ≤ 2147483647
  rotate_left
  · have hlen' : 2147483647 < l.length := by omega
    go_enter Try.func3, Try.ntmps3
    go_wp2_with fail
    refine name_calls (fun w1 => Chg (fun _ _ => False) w w1) ((((Chg.refl _ _).alloc _).alloc _)) ?_
    intro w1 hc1
    refine (hz w1).mono ?_
    rintro e w2 ⟨rfl, hc2⟩
    go_wp2_with fail
    go_ret
    exact ⟨rfl, hc1.trans hc2⟩
  have hn : ¬ 2147483647 < l.length := by omega
  have HEX := Lib.hid (fun q w1 (hq : ItemsAt w1 q exL) => bSeek_any (ord := []) (.slice none 0 0) 2 false q 7 exL ((4, 0) : Int × Int) w1 ⟨none, 0, rfl, Nat.le_refl _, .inl rfl⟩ (by simp) (.inr ⟨by omega, by omega⟩) hq (by decide))
  have HG := Lib.hid (fun hd w1 (c : Chg (fun _ _ => False) w w1) => bSeek_any (ord := os) (.slice sa os.length sc) d nl p cap l x w1 (hs.chg c) hol hd (hl.chg c) hlen)
  clear hs hl
  have q1 : exL.length = 7 := rfl
  go_enter Try.func3, Try.ntmps3
  go_wp2_with fail
  refine name_calls (fun w1 => Chg (fun _ _ => False) w w1 ∧ w1.heap[w.heap.size]? = some (.cells #[.slice sa os.length sc, .int .i64 d, .bool nl] 24 (0, 0)) ∧ w1.heap[w.heap.size + 1]? = some (.cells #[.int .i64 x.1, .int .i64 x.2] 27 (0, 0))) ⟨(((Chg.refl _ _).alloc _).alloc _), ?_, ?_⟩ ?_
  · rw [ha_lt _ _ (by simp; try omega)]; exact ha_at _ _ rfl
  · exact ha_at _ _ (by simp)
  rintro w1 ⟨hc1, hb0, hb1⟩
  have k0 := cell_of_block hb1 0
  have k1 := cell_of_block hb1 1
  have m0 := cell_of_block hb0 0
  have m1 := cell_of_block hb0 1
  have m2 := cell_of_block hb0 2
  simp only [List.getElem?_toArray, List.getElem?_cons_zero, List.getElem?_cons_succ] at m0 m1 m2 k0 k1
  clear hb0 hb1
  refine (hz w1).mono ?_
  rintro e w2 ⟨rfl, hc2⟩
  replace m0 := hc2.cell (fun h => h) m0
  replace m1 := hc2.cell (fun h => h) m1
  replace m2 := hc2.cell (fun h => h) m2
  replace k0 := hc2.cell (fun h => h) k0
  replace k1 := hc2.cell (fun h => h) k1
  go_wp2_with fail
  refine (exMake_any _).mono ?_
  rintro e w3 ⟨rfl, hc3⟩
  replace m0 := hc3.cell (fun h => h) m0
  replace m1 := hc3.cell (fun h => h) m1
  replace m2 := hc3.cell (fun h => h) m2
  replace k0 := hc3.cell (fun h => h) k0
  replace k1 := hc3.cell (fun h => h) k1
  go_wp2_with fail
  refine (exItems_any _).mono ?_
  rintro e w4 ⟨q, rfl, hq, hc4⟩
  replace m0 := hc4.cell (fun h => h) m0
  replace m1 := hc4.cell (fun h => h) m1
  replace m2 := hc4.cell (fun h => h) m2
  replace k0 := hc4.cell (fun h => h) k0
  replace k1 := hc4.cell (fun h => h) k1
  go_wp2_with fail
  refine (HEX.out q _ hq).mono ?_
  rintro e w5 ⟨rfl, hc5⟩
  replace m0 := hc5.cell (fun h => h) m0
  replace m1 := hc5.cell (fun h => h) m1
  replace m2 := hc5.cell (fun h => h) m2
  replace k0 := hc5.cell (fun h => h) k0
  replace k1 := hc5.cell (fun h => h) k1
  have hc04 := (((hc1.trans hc2).trans hc3).trans hc4).trans hc5
  by_cases hd : FitD d
  · go_wp2_with fail
    refine (fits_fit d _ hd).mono ?_
    rintro e w' ⟨rfl, rfl⟩
    go_wp2_with fail
    refine (HG.out hd _ hc04).mono ?_
    rintro e w5 ⟨rfl, hc5⟩
    go_wp2_with fail
    go_ret
    exact ⟨rfl, hc04.trans hc5⟩
  · go_wp2_with fail
    refine (fits_not d _ hd).mono ?_
    rintro e w' ⟨rfl, rfl⟩
    go_wp2_with fail
    go_ret
    exact ⟨rfl, hc04⟩
end Go.Proofs.Ytilcapfokmpaoaa
