/- What the laws on trees share: the examples; Less. -/
import Derived.Test.YtojplcbkiogcpaaGr
import Derived.Test.YtojplcbkiogcpaaRk
import Derived.Test.YtojplcbkiogcpaaLa
namespace Go.Proofs.Ytojplcbkiogcpaa
set_option linter.unusedSimpArgs false
set_option linter.unusedVariables false
open Go.RowKit

theorem exMake_any (w : World) : Calls Try.prog 17 #[] w fun e w' => e = .returned (.agg #[.slice none 0 0, .int .i64 2, .bool false]) ∧ Chg (fun _ _ => False) w w' := by
  go_enter Try.func17, Try.ntmps17
  go_wp2_with fail
  refine name_prop (fun w1 => Chg (fun _ _ => False) w w1 ∧ w1.heap[w.heap.size]? = some (.cells #[.slice none 0 0, .int .i64 2, .bool false] 24 (0, 0))) ⟨?_, ?_⟩ ?_
  · repeat (first | refine Chg.drew ?_ | refine Chg.drewN ?_ _ | refine Chg.alloc ?_ _ | refine Chg.setCell ?_ (.inr (by simp)) _ | exact Chg.refl _ _)
  · exact ha_at _ _ rfl
  rintro w1 ⟨hc, hb⟩
  have p0 := cell_of_block hb 0
  have p1 := cell_of_block hb 1
  have p2 := cell_of_block hb 2
  simp only [List.getElem?_toArray, List.getElem?_cons_zero, List.getElem?_cons_succ] at p0 p1 p2
  refine bodyPost_ret (v := .agg #[.slice none 0 0, .int .i64 2, .bool false]) (by simp [results, Try.results17, go_sem, p0, p1, p2]) rfl ?_
  exact ⟨rfl, hc⟩

theorem zzFits1_any (a : Option Addr) (n c : Nat) (d : Int) (b : Bool) (w : World) : Calls Try.prog 15 #[.agg #[.slice a n c, .int .i64 d, .bool b]] w fun e w' => e = .returned (.bool (decide (n ≤ 2147483647))) ∧ Chg (fun _ _ => False) w w' := by
  by_cases h : n ≤ 2147483647
  · have h2 : ¬ (2147483647 : Int) < (n : Int) := by omega
    have e : decide (n ≤ 2147483647) = true := by simpa using h
    rw [e]
    go_enter Try.func15, Try.ntmps15
    go_wp2
    go_ret
    exact ⟨rfl, (Chg.refl _ _).alloc _⟩
  · have h2 : (2147483647 : Int) < (n : Int) := by omega
    have e : decide (n ≤ 2147483647) = false := by simpa using h
    rw [e]
    go_enter Try.func15, Try.ntmps15
    go_wp2
    go_ret
    exact ⟨rfl, (Chg.refl _ _).alloc _⟩

theorem fits_fit (d : Int) (w : World) (h : FitD d) : Calls Try.prog 18 #[.int .i64 d] w fun e w' => e = .returned (.bool true) ∧ w = w' := by
  rcases h with rfl | ⟨h1, h2⟩
  · exact fits_zero w
  · exact fits_yes d w h1 h2
theorem fits_not (d : Int) (w : World) (h : ¬ FitD d) : Calls Try.prog 18 #[.int .i64 d] w fun e w' => e = .returned (.bool false) ∧ w = w' :=
  fits_no d w (fun e => h (.inl e)) (by
    by_cases h2 : d < 2
    · exact .inl h2
    · refine .inr ?_
      by_cases h3 : 128 < d
      · exact h3
      · exact absurd (.inr ⟨by omega, by omega⟩) h)
theorem MapIn.mapAt {ord : List Int} {k : Kc ord} {mn mx : Nat} {w : World} {F : Nat → Prop} {t : Nat} {l : List (It ord)} (h : MapIn k mn mx w F t l) : MapAt k mn mx w t := by
  rcases h with ⟨_, _, g3⟩ | ⟨H, h, T, g1, _⟩
  · exact g3.at_
  · exact g1.map

theorem Less_any {ord : List Int} {k : Kc ord} {mn mx t : Nat} {w : World} (h : MapAt k mn mx w t) (a b : It ord) :
    Calls Try.prog 78 #[.pointer (some ⟨t, 0, none⟩), .agg #[.int .i64 a.1, .int .i64 a.2], .agg #[.int .i64 b.1, .int .i64 b.2]] w fun e w' => e = .returned (.bool (ltM a b)) ∧ Chg (fun _ _ => False) w w' := by
  have H := Lib.hid h
  clear h
  go_enter Try.func78, Try.ntmps78
  go_wp2_with fail
  refine name_world (fun w1 => Chg (fun _ _ => False) w w1 ∧ w1.heap[w.heap.size]? = some (.cells #[.int .i64 a.1, .int .i64 a.2] 26 (0, 0)) ∧ w1.heap[w.heap.size + 1]? = some (.cells #[.int .i64 b.1, .int .i64 b.2] 26 (0, 0))) ⟨((Chg.refl _ _).alloc _).alloc _, ?_, ?_⟩ ?_
  · rw [ha_lt _ _ (by simp)]; exact ha_at _ _ rfl
  · exact ha_at _ _ (by simp)
  rintro w1 ⟨hc1, hb1, hb2⟩
  have q0 := cell_of_block hb1 0
  have q1 := cell_of_block hb1 1
  have q2 := cell_of_block hb2 0
  have q3 := cell_of_block hb2 1
  simp only [List.getElem?_toArray, List.getElem?_cons_zero, List.getElem?_cons_succ] at q0 q1 q2 q3
  have hm := H.out.chg hc1 (fun _ _ _ h => h)
  have c6 := hm.c6l
  unfold lessV at c6
  have HO := Lib.hid hm.ord
  clear hm hb1 hb2
  refine wp_region_scr (fun w' => w'.cell? ⟨t, 6, none⟩ = some (.func (.func 110) #[] #[.pointer (some ⟨k.ob, 0, none⟩)]) ∧ w'.cell? ⟨w.heap.size, 0, none⟩ = some (.int .i64 a.1) ∧ w'.cell? ⟨w.heap.size, 1, none⟩ = some (.int .i64 a.2) ∧ w'.cell? ⟨w.heap.size + 1, 0, none⟩ = some (.int .i64 b.1) ∧ w'.cell? ⟨w.heap.size + 1, 1, none⟩ = some (.int .i64 b.2)) (.soft 0 (.soft 1 (.soft 2 (.soft 3 (.soft 4 (.soft 5 (.hard 6 (.soft 7 .nil)))))))) (by kernel_rfl) (by kernel_rfl) (fun _ _ _ _ _ h => h) ⟨c6, q0, q1, q2, q3⟩ ?_
  repeat
    first
    | (refine scr_soft (by rfl) ?_ ?_ ?_ ?_
       rotate_left
       · simp [Region.wanted, yielded]; done
       · intro w' hS
         try obtain ⟨a1, a2, a3, a4, a5⟩ := hS
         go_simp
         try with_reducible rfl
       simp only [Act.put, List.setIfInBounds_toArray, List.set_cons_zero, List.set_cons_succ])
    | (refine scr_skip (by rfl) ?_ ?_
       · simp [Region.wanted, yielded]; done
       simp only [Act.put, List.setIfInBounds_toArray, List.set_cons_zero, List.set_cons_succ])
  refine scr_hard (by rfl) (by simp [Region.wanted, yielded]) (fun K hK => ?_)
  go_simp
  refine (less_any a b _ (HO.out.chg (Chg.refl (fun _ _ => False) _).drew (fun _ h => h) (fun _ h => h))).mono ?_
  rintro e w2 ⟨rfl, hc2⟩
  refine hK _ _ ⟨hc2.cell (fun h => h) c6, hc2.cell (fun h => h) q0, hc2.cell (fun h => h) q1, hc2.cell (fun h => h) q2, hc2.cell (fun h => h) q3⟩ ?_
  clear hK K
  repeat
    first
    | (refine scr_soft (by rfl) ?_ ?_ ?_ ?_
       rotate_left
       · simp [Region.wanted, yielded]; done
       · intro w' hS
         try obtain ⟨a1, a2, a3, a4, a5⟩ := hS
         go_simp
         try with_reducible rfl
       simp only [Act.put, List.setIfInBounds_toArray, List.set_cons_zero, List.set_cons_succ])
    | (refine scr_skip (by rfl) ?_ ?_
       · simp [Region.wanted, yielded]; done
       simp only [Act.put, List.setIfInBounds_toArray, List.set_cons_zero, List.set_cons_succ])
  refine scr_nil ?_
  go_wp2_with fail
  go_ret
  exact ⟨rfl, hc1.trans ((Chg.refl _ _).drew.trans hc2)⟩
end Go.Proofs.Ytojplcbkiogcpaa
