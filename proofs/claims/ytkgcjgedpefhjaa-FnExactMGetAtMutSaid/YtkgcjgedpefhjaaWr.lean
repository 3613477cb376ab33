/- impl's found and pair. -/
import Derived.Test.YtkgcjgedpefhjaaMin
import Derived.Test.YtkgcjgedpefhjaaSe
namespace Go.Proofs.Ytkgcjgedpefhjaa
open Go.RowKit

def FoundIs (o : Option (Int × Int)) (x : Int × Int) (b : Bool) : Prop := match o with
  | some y => y = x ∧ b = true
  | none => b = false

theorem found_any (o : Option (Int × Int)) (x : Int × Int) (b : Bool) (w : World) (h : FoundIs o x b) :
    Calls Try.prog 88 #[.agg #[.int .i64 x.1, .int .i64 x.2], .bool b] w fun e w' => e = .returned (foundV o) ∧ Chg (fun _ _ => False) w w' := by
  cases o with
  | none =>
    obtain rfl := h
    go_enter Try.func88, Try.ntmps88
    go_wp2
    refine bodyPost_ret (v := foundV none) (by simp [results, Try.results88, go_sem, foundV]) rfl ?_
    exact ⟨rfl, ((Chg.refl _ _).alloc _).alloc _⟩
  | some y =>
    obtain ⟨rfl, rfl⟩ := h
    go_enter Try.func88, Try.ntmps88
    go_wp2
    refine bodyPost_ret (v := foundV (some y)) (by simp [results, Try.results88, go_sem, foundV]) rfl ?_
    exact ⟨rfl, ((Chg.refl _ _).alloc _).alloc _⟩

theorem fresh_found {w w1 : World} (hc : Chg (fun _ _ => False) w w1) {u v x : Value} : Chg (fun _ _ => False) w (((w1.setCell ⟨w.heap.size, 0, none⟩ u).setCell ⟨w.heap.size, 1, none⟩ v).setCell ⟨w.heap.size, 2, none⟩ x) := by
  refine hc.trans' (A' := fun b _ => b = w.heap.size) ?_ (fun _ _ _ h => h) (fun b o hb h => by omega)
  repeat (first | refine Chg.setCell ?_ (.inl rfl) _ | exact Chg.refl _ _)

theorem pair_any (o : Option (Int × Int)) (w : World) (k v : Int) (b : Bool) (ho : FoundIs o (k, v) b) :
    Calls Try.prog 64 #[.int .i64 k, .int .i64 v, .bool b] w fun e w' => e = .returned (foundV o) ∧ Chg (fun _ _ => False) w w' := by
  have HF := fun w => found_any o (k, v) b w ho
  cases o
  all_goals
    have HF' := Lib.hid HF
    clear HF
    go_enter Try.func64, Try.ntmps64
    go_wp2_with fail
    refine (HF'.out _).mono ?_
    rintro e w1 ⟨rfl, hc⟩
    have hb1 : w1.heap[w.heap.size]? = some (.cells #[.int .i64 0, .int .i64 0, .bool false] 51 (0, 0)) := by rw [hc.block (by simp) (fun _ h => h)]; exact ha_at _ _ rfl
    have c0 := cell_of_block hb1 0
    have c1 := cell_of_block hb1 1
    have c2 := cell_of_block hb1 2
    have z0 := frozen_of_block hb1 0
    have z1 := frozen_of_block hb1 1
    have z2 := frozen_of_block hb1 2
    simp only [List.getElem?_toArray, List.getElem?_cons_zero, List.getElem?_cons_succ] at c0 c1 c2
    have HB1 := Lib.hid hb1
    clear hb1
    unfold foundV
    go_wp2_with fail
  · refine bodyPost_ret (v := foundV none) (by simp [results, Try.results64, go_sem, foundV, c0, c1, c2]) rfl ⟨rfl, ?_⟩
    exact fresh_found (((Chg.refl _ _).alloc _).trans hc)
  · refine bodyPost_ret (v := foundV (some _)) (by simp [results, Try.results64, go_sem, foundV, c0, c1, c2]) rfl ⟨rfl, ?_⟩
    exact fresh_found (((Chg.refl _ _).alloc _).trans hc)

theorem headV_found (o : Option (Int × Int)) : ∃ k v b, headV o = .tuple #[.int .i64 k, .int .i64 v, .bool b] ∧ FoundIs o (k, v) b := by
  cases o with
  | none => exact ⟨0, 0, false, rfl, rfl⟩
  | some y => exact ⟨y.1, y.2, true, rfl, rfl, rfl⟩

set_option maxRecDepth 100000 in
theorem MMinMut_any (d : Int) (p : Option Addr) (cap : Nat) (l : List (Int × Int)) (w : World) (h1 : 2 ≤ d) (h2 : d ≤ 128) (hl : ItemsAt w p l) (hlen : l.length ≤ 2147483647) :
    Calls Try.prog 37 #[.int .i64 d, .slice p l.length cap] w fun e w' => e = .returned (foundV (growL l).head?) ∧ Chg (fun _ _ => False) w w' := by
  obtain ⟨k, v, b, hv, hf⟩ := headV_found (growL l).head?
  have HP := fun w => pair_any (growL l).head? w k v b hf
  generalize ho : (growL l).head? = o at HP hv hf ⊢
  have HO := Lib.hid ho
  clear ho hf
  cases o
  all_goals
    have HP' := Lib.hid HP
    clear HP
    go_enter Try.func37, Try.ntmps37
    go_wp2_with fail
    refine (growMap_any d p cap l _ h1 h2 (hl.chg ((Chg.refl _ _).alloc _)) hlen).mono ?_
    rintro e w2 ⟨t, F, rfl, _, hM, hc2, _⟩
    go_wp2_with fail
    refine (MinMut_any hM (by omega)).mono ?_
    rw [HO.out, hv]
    rintro e w3 ⟨rfl, hc3⟩
    go_wp2_with fail
    refine (HP'.out _).mono ?_
    rintro e w1 ⟨rfl, hc4⟩
    have hc := (hc2.trans hc3).trans hc4
    have hb1 : w1.heap[w.heap.size]? = some (.cells #[.int .i64 0, .int .i64 0, .bool false] 51 (0, 0)) := by rw [hc.block (by simp) (fun _ h => h)]; exact ha_at _ _ rfl
    have c0 := cell_of_block hb1 0
    have c1 := cell_of_block hb1 1
    have c2 := cell_of_block hb1 2
    have z0 := frozen_of_block hb1 0
    have z1 := frozen_of_block hb1 1
    have z2 := frozen_of_block hb1 2
    simp only [List.getElem?_toArray, List.getElem?_cons_zero, List.getElem?_cons_succ] at c0 c1 c2
    have HB1 := Lib.hid hb1
    clear hb1
    unfold foundV
    go_wp2_with fail
  · refine bodyPost_ret (v := foundV none) (by simp [results, Try.results37, go_sem, foundV, c0, c1, c2]) rfl ⟨rfl, ?_⟩
    exact fresh_found (((Chg.refl _ _).alloc _).trans hc)
  · refine bodyPost_ret (v := foundV (some _)) (by simp [results, Try.results37, go_sem, foundV, c0, c1, c2]) rfl ⟨rfl, ?_⟩
    exact fresh_found (((Chg.refl _ _).alloc _).trans hc)
end Go.Proofs.Ytkgcjgedpefhjaa
