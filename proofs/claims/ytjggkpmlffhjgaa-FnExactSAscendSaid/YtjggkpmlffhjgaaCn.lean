/- spec: GAscend. -/
import Derived.Test.YtjggkpmlffhjgaaCm
namespace Go.Proofs.Ytjggkpmlffhjgaa
set_option linter.unusedSimpArgs false
set_option linter.unusedVariables false
open Go.RowKit

set_option maxRecDepth 100000 in
theorem specGAscend_any (p : Option Addr) (cap : Nat) (l : List (Int × Int)) (x : Int × Int) (n : Int) (w : World) (hl : ItemsAt w p l) (hlen : l.length ≤ 2147483647) :
    Calls Try.prog 54 #[makeV (.slice none 0 0) 0 false, .slice p l.length cap, .agg #[.int .i64 x.1, .int .i64 x.2], .int .i64 n] w fun e w' => ∃ v', e = .returned v' ∧ SlE itemE w' v' (firstN n (uppL (ltR id) x (treeL (ltR id) l))) ∧ Chg (fun _ _ => False) w w' := by
  have HT := Lib.hid (fun w1 (c : Chg (fun _ _ => False) w w1) => tree_any (.slice none 0 0) id p cap l w1 (rank_nil w1) (hl.chg c) hlen)
  have HR := Lib.hid (fun w1 (c : Chg (fun _ _ => False) w w1) => rank_nil w1)
  have hlen2 := treeL_len (ltR id) l
  clear hl
  unfold makeV
  go_enter Try.func54, Try.ntmps54
  go_wp2_with fail
  refine name_world (fun w1 => Chg (fun _ _ => False) w w1 ∧ w1.heap[w.heap.size]? = some (.cells #[.slice none 0 0, .int .i64 0, .bool false] 76 (0, 0)) ∧ w1.heap[w.heap.size + 1]? = some (.cells #[.int .i64 x.1, .int .i64 x.2] 53 (0, 0))) ⟨((Chg.refl _ _).alloc _).alloc _, ?_, ?_⟩ ?_
  · rw [ha_lt _ _ (by simp)]; exact ha_at _ _ rfl
  · exact ha_at _ _ (by simp)
  rintro w1 ⟨hc1, hb0, hb1⟩
  have m0 := cell_of_block hb0 0
  have q0 := cell_of_block hb1 0
  have q1 := cell_of_block hb1 1
  simp only [List.getElem?_toArray, List.getElem?_cons_zero, List.getElem?_cons_succ] at m0 q0 q1
  clear hb0 hb1
  refine wp_region_scr (fun w' => w'.cell? ⟨w.heap.size, 0, none⟩ = some (.slice none 0 0) ∧ w'.cell? ⟨w.heap.size + 1, 0, none⟩ = some (.int .i64 x.1) ∧ w'.cell? ⟨w.heap.size + 1, 1, none⟩ = some (.int .i64 x.2)) (.soft 0 (.soft 1 (.soft 2 (.soft 3 (.soft 4 (.soft 6 (.soft 8 (.hard 5 (.hard 7 (.hard 9 (.soft 10 .nil))))))))))) (by kernel_rfl) (by kernel_rfl) (fun _ _ _ _ _ h => h) ⟨m0, q0, q1⟩ ?_
  repeat
    first
    | (refine scr_soft (by rfl) ?_ ?_ ?_ ?_
       rotate_left
       · simp [Region.wanted, yielded]; done
       · intro w' hS
         try obtain ⟨a1, a2, a3⟩ := hS
         go_simp
         try with_reducible rfl
       simp only [Act.put, List.setIfInBounds_toArray, List.set_cons_zero, List.set_cons_succ])
    | (refine scr_skip (by rfl) ?_ ?_
       · simp [Region.wanted, yielded]; done
       simp only [Act.put, List.setIfInBounds_toArray, List.set_cons_zero, List.set_cons_succ])
  refine scr_hard (by rfl) (by simp [Region.wanted, yielded]) (fun K hK => ?_)
  go_simp
  refine (HT.out _ hc1.drew).mono ?_
  rintro e w2 ⟨v2, rfl, hv2, hc2⟩
  have hc02 := hc1.drew.trans hc2
  obtain ⟨q, cap2, rfl, hi, hcap⟩ := hv2.items
  have HI := Lib.hid hi
  clear hv2 hi
  refine hK _ _ ⟨hc2.cell (fun h => h) m0, hc2.cell (fun h => h) q0, hc2.cell (fun h => h) q1⟩ ?_
  clear hK K
  repeat
    first
    | (refine scr_soft (by rfl) ?_ ?_ ?_ ?_
       rotate_left
       · simp [Region.wanted, yielded]; done
       · intro w' hS
         try obtain ⟨a1, a2, a3⟩ := hS
         go_simp
         try with_reducible rfl
       simp only [Act.put, List.setIfInBounds_toArray, List.set_cons_zero, List.set_cons_succ])
    | (refine scr_skip (by rfl) ?_ ?_
       · simp [Region.wanted, yielded]; done
       simp only [Act.put, List.setIfInBounds_toArray, List.set_cons_zero, List.set_cons_succ])
  refine scr_hard (by rfl) (by simp [Region.wanted, yielded]) (fun K hK => ?_)
  go_simp
  refine (From_any _ q cap2 _ x _ (HR.out _ hc02) ⟨_, _, _, rfl⟩ HI.out hcap (by omega)).mono ?_
  rintro e w3 ⟨v3, rfl, hs3, hc3⟩
  have hc23 := hc2.trans hc3
  have HS3 := Lib.hid hs3
  have hl3 : (uppL (ltR id) x (treeL (ltR id) l)).length ≤ 2147483648 := Nat.le_trans (List.dropWhile_sublist _).length_le (by omega)
  obtain ⟨a3, c3, rfl⟩ := hs3.form
  clear hs3
  refine hK _ _ ⟨hc23.cell (fun h => h) m0, hc23.cell (fun h => h) q0, hc23.cell (fun h => h) q1⟩ ?_
  clear hK K
  repeat
    first
    | (refine scr_soft (by rfl) ?_ ?_ ?_ ?_
       rotate_left
       · simp [Region.wanted, yielded]; done
       · intro w' hS
         try obtain ⟨a1, a2, a3⟩ := hS
         go_simp
         try with_reducible rfl
       simp only [Act.put, List.setIfInBounds_toArray, List.set_cons_zero, List.set_cons_succ])
    | (refine scr_skip (by rfl) ?_ ?_
       · simp [Region.wanted, yielded]; done
       simp only [Act.put, List.setIfInBounds_toArray, List.set_cons_zero, List.set_cons_succ])
  refine scr_hard (by rfl) (by simp [Region.wanted, yielded]) (fun K hK => ?_)
  go_simp
  refine (First_any _ _ n _ HS3.out hl3).mono ?_
  rintro e w4 ⟨v4, rfl, hs4, hc4⟩
  have hc24 := hc23.trans hc4
  have HS4 := Lib.hid hs4
  obtain ⟨a4, c4, rfl⟩ := hs4.form
  clear hs4
  refine hK _ _ ⟨hc24.cell (fun h => h) m0, hc24.cell (fun h => h) q0, hc24.cell (fun h => h) q1⟩ ?_
  clear hK K
  repeat
    first
    | (refine scr_soft (by rfl) ?_ ?_ ?_ ?_
       rotate_left
       · simp [Region.wanted, yielded]; done
       · intro w' hS
         try obtain ⟨a1, a2, a3⟩ := hS
         go_simp
         try with_reducible rfl
       simp only [Act.put, List.setIfInBounds_toArray, List.set_cons_zero, List.set_cons_succ])
    | (refine scr_skip (by rfl) ?_ ?_
       · simp [Region.wanted, yielded]; done
       simp only [Act.put, List.setIfInBounds_toArray, List.set_cons_zero, List.set_cons_succ])
  refine scr_nil ?_
  go_wp2_with fail
  go_ret
  exact ⟨_, rfl, HS4.out, (hc02.trans hc3).trans hc4⟩
end Go.Proofs.Ytjggkpmlffhjgaa
