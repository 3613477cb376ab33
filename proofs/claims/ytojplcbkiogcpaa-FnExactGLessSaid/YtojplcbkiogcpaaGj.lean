/- GLess. -/
import Derived.Test.YtojplcbkiogcpaaGi
namespace Go.Proofs.Ytojplcbkiogcpaa
open Go.RowKit

set_option maxRecDepth 100000 in
theorem GLess_any {ord : List Int} (sv : Value) (d : Int) (nl : Bool) (a b : It ord) (w : World) (hs : SlE intE w sv ord) (hol : ord.length ≤ 2147483647) (hd : FitD d) :
    Calls Try.prog 48 #[.agg #[sv, .int .i64 d, .bool nl], .agg #[.int .i64 a.1, .int .i64 a.2], .agg #[.int .i64 b.1, .int .i64 b.2]] w fun e w' => e = .returned (.bool (ltM a b)) ∧ Chg (fun _ _ => False) w w' := by
  have hG := fun w1 (c : Chg (fun _ _ => False) w w1) => grow_any (ord := ord) sv d nl none 0 [] w1 hd (hs.chg c) hol (.inl rfl) (by simp)
  have HG := Lib.hid hG
  obtain ⟨sa, sc, rfl⟩ : ∃ a c, sv = .slice a ord.length c := hs.form
  clear hs hG
  go_enter Try.func48, Try.ntmps48
  go_wp2_with fail
  refine name_world (fun w1 => Chg (fun _ _ => False) w w1 ∧ w1.heap[w.heap.size]? = some (.cells #[.slice sa ord.length sc, .int .i64 d, .bool nl] 24 (0, 0)) ∧ w1.heap[w.heap.size + 1]? = some (.cells #[.int .i64 a.1, .int .i64 a.2] 26 (0, 0)) ∧ w1.heap[w.heap.size + 2]? = some (.cells #[.int .i64 b.1, .int .i64 b.2] 26 (0, 0))) ⟨(((Chg.refl _ _).alloc _).alloc _).alloc _, ?_, ?_, ?_⟩ ?_
  · rw [ha_lt _ _ (by simp; try omega), ha_lt _ _ (by simp; try omega)]; exact ha_at _ _ rfl
  · rw [ha_lt _ _ (by simp; try omega)]; exact ha_at _ _ (by simp)
  · exact ha_at _ _ (by simp)
  rintro w1 ⟨hc1, hb0, hb1, hb2⟩
  have m0 := cell_of_block hb0 0
  have m1 := cell_of_block hb0 1
  have m2 := cell_of_block hb0 2
  have q0 := cell_of_block hb1 0
  have q1 := cell_of_block hb1 1
  have q2 := cell_of_block hb2 0
  have q3 := cell_of_block hb2 1
  simp only [List.getElem?_toArray, List.getElem?_cons_zero, List.getElem?_cons_succ] at m0 m1 m2 q0 q1 q2 q3
  clear hb0 hb1 hb2
  refine wp_region_scr (fun w' => w'.cell? ⟨w.heap.size, 0, none⟩ = some (.slice sa ord.length sc) ∧ w'.cell? ⟨w.heap.size, 1, none⟩ = some (.int .i64 d) ∧ w'.cell? ⟨w.heap.size, 2, none⟩ = some (.bool nl) ∧ w'.cell? ⟨w.heap.size + 1, 0, none⟩ = some (.int .i64 a.1) ∧ w'.cell? ⟨w.heap.size + 1, 1, none⟩ = some (.int .i64 a.2) ∧ w'.cell? ⟨w.heap.size + 2, 0, none⟩ = some (.int .i64 b.1) ∧ w'.cell? ⟨w.heap.size + 2, 1, none⟩ = some (.int .i64 b.2)) (.soft 0 (.soft 2 (.soft 3 (.hard 1 (.hard 4 (.soft 5 .nil)))))) (by kernel_rfl) (by kernel_rfl) (fun _ _ _ _ _ h => h) ⟨m0, m1, m2, q0, q1, q2, q3⟩ ?_
  repeat
    first
    | (refine scr_soft (by rfl) ?_ ?_ ?_ ?_
       rotate_left
       · simp [Region.wanted, yielded]; done
       · intro w' hS
         try obtain ⟨a1, a2, a3, a4, a5, a6, a7⟩ := hS
         go_simp
         try with_reducible rfl
       simp only [Act.put, List.setIfInBounds_toArray, List.set_cons_zero, List.set_cons_succ])
    | (refine scr_skip (by rfl) ?_ ?_
       · simp [Region.wanted, yielded]; done
       simp only [Act.put, List.setIfInBounds_toArray, List.set_cons_zero, List.set_cons_succ])
  refine scr_hard (by rfl) (by simp [Region.wanted, yielded]) (fun K hK => ?_)
  go_simp
  refine (HG.out _ hc1.drew).mono ?_
  rintro e w2 ⟨k, t, F, rfl, hM, hc2, _, _⟩
  have HM := Lib.hid hM.mapAt
  clear hM
  refine hK _ _ ⟨hc2.cell (fun h => h) m0, hc2.cell (fun h => h) m1, hc2.cell (fun h => h) m2, hc2.cell (fun h => h) q0, hc2.cell (fun h => h) q1, hc2.cell (fun h => h) q2, hc2.cell (fun h => h) q3⟩ ?_
  clear hK K
  repeat
    first
    | (refine scr_soft (by rfl) ?_ ?_ ?_ ?_
       rotate_left
       · simp [Region.wanted, yielded]; done
       · intro w' hS
         try obtain ⟨a1, a2, a3, a4, a5, a6, a7⟩ := hS
         go_simp
         try with_reducible rfl
       simp only [Act.put, List.setIfInBounds_toArray, List.set_cons_zero, List.set_cons_succ])
    | (refine scr_skip (by rfl) ?_ ?_
       · simp [Region.wanted, yielded]; done
       simp only [Act.put, List.setIfInBounds_toArray, List.set_cons_zero, List.set_cons_succ])
  refine scr_hard (by rfl) (by simp [Region.wanted, yielded]) (fun K hK => ?_)
  go_simp
  refine (Less_any HM.out a b).mono ?_
  rintro e w3 ⟨rfl, hc3⟩
  have hc23 := hc2.trans hc3
  refine hK _ _ ⟨hc23.cell (fun h => h) m0, hc23.cell (fun h => h) m1, hc23.cell (fun h => h) m2, hc23.cell (fun h => h) q0, hc23.cell (fun h => h) q1, hc23.cell (fun h => h) q2, hc23.cell (fun h => h) q3⟩ ?_
  clear hK K
  repeat
    first
    | (refine scr_soft (by rfl) ?_ ?_ ?_ ?_
       rotate_left
       · simp [Region.wanted, yielded]; done
       · intro w' hS
         try obtain ⟨a1, a2, a3, a4, a5, a6, a7⟩ := hS
         go_simp
         try with_reducible rfl
       simp only [Act.put, List.setIfInBounds_toArray, List.set_cons_zero, List.set_cons_succ])
    | (refine scr_skip (by rfl) ?_ ?_
       · simp [Region.wanted, yielded]; done
       simp only [Act.put, List.setIfInBounds_toArray, List.set_cons_zero, List.set_cons_succ])
  refine scr_nil ?_
  go_wp2_with fail
  go_ret
  exact ⟨rfl, hc1.trans ((Chg.refl _ _).drew.trans hc23)⟩

set_option maxRecDepth 100000 in
theorem gLess_any {ord : List Int} (sv : Value) (d : Int) (nl : Bool) (a b : It ord) (w : World) (hs : SlE intE w sv ord) (hol : ord.length ≤ 2147483647) (hd : FitD d) :
    Calls Try.prog 16 #[.agg #[sv, .int .i64 d, .bool nl], .agg #[.int .i64 a.1, .int .i64 a.2], .agg #[.int .i64 b.1, .int .i64 b.2]] w fun e w' => e = .returned (.bool true) ∧ Chg (fun _ _ => False) w w' := by
  have HG := Lib.hid (fun w1 (c : Chg (fun _ _ => False) w w1) => GLess_any sv d nl a b w1 (hs.chg c) hol hd)
  have HB := Lib.hid (fun w1 (c : Chg (fun _ _ => False) w w1) => before_any sv (rkL ord) a b w1 (rank_list sv ord w1 (hs.chg c) hol))
  have e : ltR (rkL ord) a b = ltM a b := rfl
  rw [e] at HB
  obtain ⟨q, hq⟩ : ∃ q, ltM a b = q := ⟨_, rfl⟩
  rw [hq] at HG HB
  obtain ⟨sa, sc, rfl⟩ : ∃ a c, sv = .slice a ord.length c := hs.form
  unfold itemV at HB
  clear hs hq e
  go_enter Try.func16, Try.ntmps16
  go_wp2_with fail
  refine (HG.out _ ((((Chg.refl _ _).alloc _).alloc _).alloc _)).mono ?_
  rintro e w2 ⟨rfl, hc2⟩
  refine name_prop (fun w3 => Chg (fun _ _ => False) w w3 ∧ w3.heap[w.heap.size]? = some (.cells #[.slice sa ord.length sc, .int .i64 d, .bool nl] 24 (0, 0)) ∧ w3.heap[w.heap.size + 1]? = some (.cells #[.int .i64 a.1, .int .i64 a.2] 26 (0, 0)) ∧ w3.heap[w.heap.size + 2]? = some (.cells #[.int .i64 b.1, .int .i64 b.2] 26 (0, 0))) ⟨((((Chg.refl _ _).alloc _).alloc _).alloc _).trans hc2, ?_, ?_, ?_⟩ ?_
  · rw [hc2.block (by simp; omega) (fun _ h => h), ha_lt _ _ (by simp; try omega), ha_lt _ _ (by simp; try omega)]; exact ha_at _ _ rfl
  · rw [hc2.block (by simp) (fun _ h => h), ha_lt _ _ (by simp; try omega)]; exact ha_at _ _ (by simp)
  · rw [hc2.block (by simp) (fun _ h => h)]; exact ha_at _ _ (by simp)
  clear hc2
  rintro w3 ⟨hc1, hb0, hb1, hb2⟩
  have m0 := cell_of_block hb0 0
  have q0 := cell_of_block hb1 0
  have q1 := cell_of_block hb1 1
  have q2 := cell_of_block hb2 0
  have q3 := cell_of_block hb2 1
  simp only [List.getElem?_toArray, List.getElem?_cons_zero, List.getElem?_cons_succ] at m0 q0 q1 q2 q3
  clear hb0 hb1 hb2
  go_wp2_with fail
  refine (HB.out _ hc1).mono ?_
  rintro e w4 ⟨rfl, hc4⟩
  have hqq : (q == q) = true := by simp
  go_wp2_with fail
  go_ret
  exact ⟨by simp, hc1.trans hc4⟩

set_option maxRecDepth 100000 in
theorem law_ExactGLess (sv : Value) (os : List Int) (d : Int) (nl : Bool) (a b : Int × Int) (w : World) (hs : SlE intE w sv os) :
    Calls Try.prog 3 #[.agg #[sv, .int .i64 d, .bool nl], .agg #[.int .i64 a.1, .int .i64 a.2], .agg #[.int .i64 b.1, .int .i64 b.2]] w fun e w' => e = .returned (.bool true) ∧ Chg (fun _ _ => False) w w' := by
  obtain ⟨sa, sc, rfl⟩ : ∃ a c, sv = .slice a os.length c := hs.form
  have hz := fun w1 => zzFits1_any sa os.length sc d nl w1
  by_cases hol : os.length ≤ 2147483647
  rotate_left
  · rw [decide_eq_false hol] at hz
    go_enter Try.func3, Try.ntmps3
    go_wp2_with fail
    refine name_calls (fun w1 => Chg (fun _ _ => False) w w1) ((((Chg.refl _ _).alloc _).alloc _).alloc _) ?_
    intro w1 hc1
    refine (hz w1).mono ?_
    rintro e w2 ⟨rfl, hc2⟩
    go_wp2_with fail
    go_ret
    exact ⟨rfl, hc1.trans hc2⟩
  rw [decide_eq_true hol] at hz
  have HEX := Lib.hid (fun w1 => gLess_any (ord := []) (.slice none 0 0) 2 false ((1, 0) : Int × Int) ((2, 0) : Int × Int) w1 ⟨none, 0, rfl, Nat.le_refl _, .inl rfl⟩ (by simp) (.inr ⟨by omega, by omega⟩))
  have HG := Lib.hid (fun hd w1 (c : Chg (fun _ _ => False) w w1) => gLess_any (ord := os) (.slice sa os.length sc) d nl a b w1 (hs.chg c) hol hd)
  clear hs
  go_enter Try.func3, Try.ntmps3
  go_wp2_with fail
  refine name_calls (fun w1 => Chg (fun _ _ => False) w w1 ∧ w1.heap[w.heap.size]? = some (.cells #[.slice sa os.length sc, .int .i64 d, .bool nl] 24 (0, 0)) ∧ w1.heap[w.heap.size + 1]? = some (.cells #[.int .i64 a.1, .int .i64 a.2] 26 (0, 0)) ∧ w1.heap[w.heap.size + 2]? = some (.cells #[.int .i64 b.1, .int .i64 b.2] 26 (0, 0))) ⟨(((Chg.refl _ _).alloc _).alloc _).alloc _, ?_, ?_, ?_⟩ ?_
  · rw [ha_lt _ _ (by simp; try omega), ha_lt _ _ (by simp; try omega)]; exact ha_at _ _ rfl
  · rw [ha_lt _ _ (by simp; try omega)]; exact ha_at _ _ (by simp)
  · exact ha_at _ _ (by simp)
  rintro w1 ⟨hc1, hb0, hb1, hb2⟩
  have m0 := cell_of_block hb0 0
  have m1 := cell_of_block hb0 1
  have m2 := cell_of_block hb0 2
  have q0 := cell_of_block hb1 0
  have q1 := cell_of_block hb1 1
  have q2 := cell_of_block hb2 0
  have q3 := cell_of_block hb2 1
  simp only [List.getElem?_toArray, List.getElem?_cons_zero, List.getElem?_cons_succ] at m0 m1 m2 q0 q1 q2 q3
  clear hb0 hb1 hb2
  refine (hz w1).mono ?_
  rintro e w2 ⟨rfl, hc2⟩
  replace m0 := hc2.cell (fun h => h) m0
  replace m1 := hc2.cell (fun h => h) m1
  replace m2 := hc2.cell (fun h => h) m2
  replace q0 := hc2.cell (fun h => h) q0
  replace q1 := hc2.cell (fun h => h) q1
  replace q2 := hc2.cell (fun h => h) q2
  replace q3 := hc2.cell (fun h => h) q3
  go_wp2_with fail
  refine (exMake_any _).mono ?_
  rintro e w3 ⟨rfl, hc3⟩
  replace m0 := hc3.cell (fun h => h) m0
  replace m1 := hc3.cell (fun h => h) m1
  replace m2 := hc3.cell (fun h => h) m2
  replace q0 := hc3.cell (fun h => h) q0
  replace q1 := hc3.cell (fun h => h) q1
  replace q2 := hc3.cell (fun h => h) q2
  replace q3 := hc3.cell (fun h => h) q3
  go_wp2_with fail
  refine (HEX.out _).mono ?_
  rintro e w4 ⟨rfl, hc4⟩
  replace m0 := hc4.cell (fun h => h) m0
  replace m1 := hc4.cell (fun h => h) m1
  replace m2 := hc4.cell (fun h => h) m2
  replace q0 := hc4.cell (fun h => h) q0
  replace q1 := hc4.cell (fun h => h) q1
  replace q2 := hc4.cell (fun h => h) q2
  replace q3 := hc4.cell (fun h => h) q3
  have hc04 := ((hc1.trans hc2).trans hc3).trans hc4
  by_cases hd : FitD d
  · go_wp2_with fail
    refine (fits_fit d _ hd).mono ?_
    rintro e w' ⟨rfl, rfl⟩
    go_wp2_with fail
    refine (HG.out hd _ hc04).mono ?_
    rintro e w5 ⟨rfl, hc5⟩
    go_wp2_with fail
    go_ret
    exact ⟨rfl, hc04.trans hc5⟩
  · go_wp2_with fail
    refine (fits_not d _ hd).mono ?_
    rintro e w' ⟨rfl, rfl⟩
    go_wp2_with fail
    go_ret
    exact ⟨rfl, hc04⟩
end Go.Proofs.Ytojplcbkiogcpaa
