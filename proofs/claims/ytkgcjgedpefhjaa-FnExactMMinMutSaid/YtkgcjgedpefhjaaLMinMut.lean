/- FnExactMMinMut returns true, whatever the input; nothing that was there before has changed. -/
import Derived.Test.YtkgcjgedpefhjaaLa
import Derived.Test.YtkgcjgedpefhjaaWr
import Derived.Test.YtkgcjgedpefhjaaSu
namespace Go.Proofs.Ytkgcjgedpefhjaa
open Go.RowKit

theorem growL_tree (l : List (Int × Int)) : growL l = treeL (ltR id) l := rfl

set_option maxRecDepth 100000 in
theorem mMinMut_any (d : Int) (p : Option Addr) (cap : Nat) (l : List (Int × Int)) (w : World) (h1 : 2 ≤ d) (h2 : d ≤ 128) (hl : ItemsAt w p l) (hlen : l.length ≤ 2147483647) :
    Calls Try.prog 14 #[.int .i64 d, .slice p l.length cap] w fun e w' => e = .returned (.bool true) ∧ Chg (fun _ _ => False) w w' := by
  have hG := fun w1 (c : Chg (fun _ _ => False) w w1) => GMin_nil p cap l w1 (hl.chg c) hlen
  have hM := fun w1 (c : Chg (fun _ _ => False) w w1) => MMinMut_any d p cap l w1 h1 h2 (hl.chg c) hlen
  rw [growL_tree] at hM
  generalize (treeL (ltR id) l).head? = o at hG hM
  have HG := Lib.hid hG
  have HM := Lib.hid hM
  clear hG hM hl
  unfold makeV at HG
  rcases o with _ | y
  · unfold foundV at HG HM
    go_enter Try.func14, Try.ntmps14
    go_wp2_with fail
    refine (HM.out _ (Chg.refl _ _)).mono ?_
    rintro e w1 ⟨rfl, hc1⟩
    go_wp2_with fail
    refine name_calls (fun w2 => Chg (fun _ _ => False) w1 w2 ∧ w2.heap[w1.heap.size]? = some (.cells #[.int .i64 0, .int .i64 0, .bool false] 51 (0, 0))) ⟨(Chg.refl _ _).alloc _, ha_at _ _ rfl⟩ ?_
    rintro w2 ⟨hc2, hb2⟩
    have c0 := cell_of_block hb2 0
    have c1 := cell_of_block hb2 1
    have c2 := cell_of_block hb2 2
    have hlt := heap_lt hb2
    clear hb2
    simp only [List.getElem?_toArray, List.getElem?_cons_zero, List.getElem?_cons_succ] at c0 c1 c2
    refine (HG.out _ (hc1.trans hc2)).mono ?_
    rintro e w3 ⟨rfl, hc3⟩
    replace c0 := hc3.cell (fun h => h) c0
    replace c1 := hc3.cell (fun h => h) c1
    replace c2 := hc3.cell (fun h => h) c2
    have hsz3 := hc3.size
    have hl3 : w1.heap.size < w3.heap.size := by omega
    go_wp2_with fail
    go_ret
    refine ⟨rfl, ?_⟩
    refine (((hc1.trans hc2).trans hc3).alloc _)
  · unfold foundV at HG HM
    go_enter Try.func14, Try.ntmps14
    go_wp2_with fail
    refine (HM.out _ (Chg.refl _ _)).mono ?_
    rintro e w1 ⟨rfl, hc1⟩
    go_wp2_with fail
    refine name_calls (fun w2 => Chg (fun _ _ => False) w1 w2 ∧ w2.heap[w1.heap.size]? = some (.cells #[.int .i64 y.1, .int .i64 y.2, .bool true] 51 (0, 0))) ⟨(Chg.refl _ _).alloc _, ha_at _ _ rfl⟩ ?_
    rintro w2 ⟨hc2, hb2⟩
    have c0 := cell_of_block hb2 0
    have c1 := cell_of_block hb2 1
    have c2 := cell_of_block hb2 2
    have hlt := heap_lt hb2
    clear hb2
    simp only [List.getElem?_toArray, List.getElem?_cons_zero, List.getElem?_cons_succ] at c0 c1 c2
    refine (HG.out _ (hc1.trans hc2)).mono ?_
    rintro e w3 ⟨rfl, hc3⟩
    replace c0 := hc3.cell (fun h => h) c0
    replace c1 := hc3.cell (fun h => h) c1
    replace c2 := hc3.cell (fun h => h) c2
    have hsz3 := hc3.size
    have hl3 : w1.heap.size < w3.heap.size := by omega
    go_wp2_with fail
    go_ret
    refine ⟨rfl, ?_⟩
    refine (((hc1.trans hc2).trans hc3).alloc _)

set_option maxRecDepth 100000 in
theorem law_MMinMut (d : Int) (p : Option Addr) (cap : Nat) (l : List (Int × Int)) (w : World) (hl : ItemsAt w p l) :
    Calls Try.prog 3 #[.int .i64 d, .slice p l.length cap] w fun e w' => e = .returned (.bool true) ∧ Chg (fun _ _ => False) w w' := by
  by_cases hlen : l.length ≤ 2147483647
  rotate_left
  · have hlen' : 2147483647 < l.length := by omega
    go_enter Try.func3, Try.ntmps3
    go_wp2
    go_ret
    exact ⟨rfl, Chg.refl _ _⟩
  have hn : ¬ 2147483647 < l.length := by omega
  have HL := Lib.hid hl
  clear hl
  have hM := fun w1 (c : Chg (fun _ _ => False) w w1) h1 h2 => mMinMut_any d p cap l w1 h1 h2 (HL.out.chg c) hlen
  have HM := Lib.hid hM
  clear hM
  by_cases hd : 2 ≤ d ∧ d ≤ 128
  · obtain ⟨d1, d2⟩ := hd
    have d3 : 0 < d := by omega
    go_enter Try.func3, Try.ntmps3
    go_wp2_with fail
    refine (exItems_any _).mono ?_
    rintro e w1 ⟨q, rfl, hq, hc1⟩
    have q1 : exL.length = 7 := rfl
    go_wp2_with fail
    refine (mMinMut_any 2 q 7 exL _ (by decide) (by decide) hq (by decide)).mono ?_
    rintro e w2 ⟨rfl, hc2⟩
    go_wp2_with fail
    refine (fits_yes d _ d1 d2).mono ?_
    rintro e w' ⟨rfl, rfl⟩
    go_wp2_with fail
    refine (HM.out _ (hc1.trans hc2) d1 d2).mono ?_
    rintro e w3 ⟨rfl, hc3⟩
    go_wp2_with fail
    go_ret
    exact ⟨rfl, (hc1.trans hc2).trans hc3⟩
  by_cases h0 : d = 0
  · subst h0
    go_enter Try.func3, Try.ntmps3
    go_wp2_with fail
    refine (exItems_any _).mono ?_
    rintro e w1 ⟨q, rfl, hq, hc1⟩
    have q1 : exL.length = 7 := rfl
    go_wp2_with fail
    refine (mMinMut_any 2 q 7 exL _ (by decide) (by decide) hq (by decide)).mono ?_
    rintro e w2 ⟨rfl, hc2⟩
    go_wp2_with fail
    refine (fits_zero _).mono ?_
    rintro e w' ⟨rfl, rfl⟩
    go_wp2_with fail
    go_ret
    exact ⟨rfl, hc1.trans hc2⟩
  · have hno : d < 2 ∨ 128 < d := by omega
    clear hd
    go_enter Try.func3, Try.ntmps3
    go_wp2_with fail
    refine (exItems_any _).mono ?_
    rintro e w1 ⟨q, rfl, hq, hc1⟩
    have q1 : exL.length = 7 := rfl
    go_wp2_with fail
    refine (mMinMut_any 2 q 7 exL _ (by decide) (by decide) hq (by decide)).mono ?_
    rintro e w2 ⟨rfl, hc2⟩
    go_wp2_with fail
    refine (fits_no d _ h0 hno).mono ?_
    rintro e w' ⟨rfl, rfl⟩
    go_wp2_with fail
    go_ret
    exact ⟨rfl, hc1.trans hc2⟩
end Go.Proofs.Ytkgcjgedpefhjaa
