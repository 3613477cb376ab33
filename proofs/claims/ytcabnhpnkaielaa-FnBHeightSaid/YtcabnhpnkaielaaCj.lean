/- The law FnBHeight. -/
import Derived.Test.YtcabnhpnkaielaaCi
namespace Go.Proofs.Ytcabnhpnkaielaa
set_option linter.unusedSimpArgs false
set_option linter.unusedVariables false
open Go.RowKit

theorem height_fit (d : Int) (q m : Nat) (w : World) (hd : FitD d) (hok : HgtOk (2 * dg d) q m) (hm : m ≤ 2147483647) :
    Calls Try.prog 26 #[.int .i64 d, .int .i64 q, .int .i64 m] w fun e w' => e = .returned (.bool true) ∧ w = w' := by
  rcases hd with rfl | ⟨h1, h2⟩
  · exact height_zero q m w (by simpa [dg] using hok) hm
  · refine height_true d q m w h1 h2 ?_ hm
    have e : dg d = d.toNat := if_neg (by omega)
    rwa [e] at hok

theorem lawFits_yes (a : Option Addr) (m c : Nat) (d : Int) (nl : Bool) (w : World) (hd : FitD d) :
    Calls Try.prog 24 #[.agg #[.slice a m c, .int .i64 d, .bool nl]] w fun e w' => e = .returned (.bool true) ∧ Chg (fun _ _ => False) w w' := by
  go_enter Try.func24, Try.ntmps24
  go_wp2_with fail
  refine (fits_fit d _ hd).mono ?_
  rintro e w' ⟨rfl, rfl⟩
  go_wp2_with fail
  go_ret
  exact ⟨rfl, (Chg.refl _ _).alloc _⟩

theorem lawFits_no (a : Option Addr) (m c : Nat) (d : Int) (nl : Bool) (w : World) (hd : ¬ FitD d) :
    Calls Try.prog 24 #[.agg #[.slice a m c, .int .i64 d, .bool nl]] w fun e w' => e = .returned (.bool false) ∧ Chg (fun _ _ => False) w w' := by
  go_enter Try.func24, Try.ntmps24
  go_wp2_with fail
  refine (fits_not d _ hd).mono ?_
  rintro e w' ⟨rfl, rfl⟩
  go_wp2_with fail
  go_ret
  exact ⟨rfl, (Chg.refl _ _).alloc _⟩

set_option maxRecDepth 100000 in
set_option maxHeartbeats 1000000 in
theorem law_BHeight (sv : Value) (os : List Int) (d : Int) (nl : Bool) (p : Option Addr) (cap : Nat) (l : List (Int × Int)) (w : World) (hs : SlE intE w sv os) (hl : ItemsAt w p l) :
    Calls Try.prog 9 #[.agg #[sv, .int .i64 d, .bool nl], .slice p l.length cap] w fun e w' => e = .returned (.bool true) ∧ Chg (fun _ _ => False) w w' := by
  obtain ⟨sa, sc, rfl⟩ : ∃ a c, sv = .slice a os.length c := hs.form
  have hz := fun w1 => zzFits1_any sa os.length sc d nl w1
  by_cases hol : os.length ≤ 2147483647
  rotate_left
  · rw [decide_eq_false hol] at hz
    go_enter Try.func9, Try.ntmps9
    go_wp2_with fail
    refine name_calls (fun w1 => Chg (fun _ _ => False) w w1) (((Chg.refl _ _).alloc _)) ?_
    intro w1 hc1
    refine (hz w1).mono ?_
    rintro e w2 ⟨rfl, hc2⟩
    go_wp2_with fail
    go_ret
    exact ⟨rfl, hc1.trans hc2⟩
  rw [decide_eq_true hol] at hz
  by_cases hlen : l.length ≤ 2147483647
  rotate_left
  · have hlen' : 2147483647 < l.length := by omega
    go_enter Try.func9, Try.ntmps9
    go_wp2_with fail
    refine name_calls (fun w1 => Chg (fun _ _ => False) w w1) (((Chg.refl _ _).alloc _)) ?_
    intro w1 hc1
    refine (hz w1).mono ?_
    rintro e w2 ⟨rfl, hc2⟩
    go_wp2_with fail
    go_ret
    exact ⟨rfl, hc1.trans hc2⟩
  have hn : ¬ 2147483647 < l.length := by omega
  have HM := Lib.hid (fun hd w1 (c : Chg (fun _ _ => False) w w1) => BHeight_any (ord := os) (.slice sa os.length sc) d nl p cap l w1 (hs.chg c) hol hd (hl.chg c) hlen)
  have HT := Lib.hid (fun w1 (c : Chg (fun _ _ => False) w w1) => tree_any (.slice sa os.length sc) (rkL os) p cap l w1 (rank_list (.slice sa os.length sc) os w1 (hs.chg c) hol) (hl.chg c) hlen)
  have e1 : growL (ord := os) l = treeL (ltR (rkL os)) l := rfl
  rw [e1] at HM
  have hlen2 := treeL_len (ltR (rkL os)) l
  unfold TreePost at HT
  generalize treeL (ltR (rkL os)) l = V at HM HT hlen2
  clear hs hl e1
  go_enter Try.func9, Try.ntmps9
  go_wp2_with fail
  refine name_calls (fun w1 => Chg (fun _ _ => False) w w1 ∧ w1.heap[w.heap.size]? = some (.cells #[.slice sa os.length sc, .int .i64 d, .bool nl] 24 (0, 0))) ⟨((Chg.refl _ _).alloc _), ha_at _ _ rfl⟩ ?_
  rintro w1 ⟨hc1, hb0⟩
  have m0 := cell_of_block hb0 0
  have m1 := cell_of_block hb0 1
  have m2 := cell_of_block hb0 2
  simp only [List.getElem?_toArray, List.getElem?_cons_zero, List.getElem?_cons_succ] at m0 m1 m2
  clear hb0
  refine (hz w1).mono ?_
  rintro e w2 ⟨rfl, hc2⟩
  replace m0 := hc2.cell (fun h => h) m0
  replace m1 := hc2.cell (fun h => h) m1
  replace m2 := hc2.cell (fun h => h) m2
  go_wp2_with fail
  by_cases hd : FitD d
  rotate_left
  · refine (lawFits_no sa _ sc d nl _ hd).mono ?_
    rintro e w3 ⟨rfl, hc3⟩
    go_wp2_with fail
    refine (aliveB_any _).mono ?_
    rintro e w4 ⟨rfl, hc4⟩
    go_wp2_with fail
    go_ret
    exact ⟨rfl, ((hc1.trans hc2).trans hc3).trans hc4⟩
  refine (lawFits_yes sa _ sc d nl _ hd).mono ?_
  rintro e w3 ⟨rfl, hc3⟩
  replace m0 := hc3.cell (fun h => h) m0
  replace m1 := hc3.cell (fun h => h) m1
  replace m2 := hc3.cell (fun h => h) m2
  have hc03 := (hc1.trans hc2).trans hc3
  go_wp2_with fail
  refine wp_region_scr (fun w' => w'.cell? ⟨w.heap.size, 0, none⟩ = some (.slice sa os.length sc) ∧ w'.cell? ⟨w.heap.size, 1, none⟩ = some (.int .i64 d) ∧ w'.cell? ⟨w.heap.size, 2, none⟩ = some (.bool nl)) (.soft 0 (.soft 1 (.soft 2 (.soft 3 (.soft 5 (.soft 6 (.soft 7 (.hard 4 (.hard 8 (.soft 9 (.hard 10 (.soft 11 (.hard 12 (.soft 13 (.soft 14 .nil))))))))))))))) (by kernel_rfl) (by kernel_rfl) (fun _ _ _ _ _ h => h) ⟨m0, m1, m2⟩ ?_
  repeat
    first
    | (refine scr_soft (by rfl) ?_ ?_ ?_ ?_
       rotate_left
       · simp [Region.wanted, yielded]; done
       · intro w' hS
         try obtain ⟨a1, a2, a3⟩ := hS
         go_simp
         try with_reducible rfl
       simp only [Act.put, List.setIfInBounds_toArray, List.set_cons_zero, List.set_cons_succ])
    | (refine scr_skip (by rfl) ?_ ?_
       · simp [Region.wanted, yielded]; done
       simp only [Act.put, List.setIfInBounds_toArray, List.set_cons_zero, List.set_cons_succ])
  refine scr_hard (by rfl) (by simp [Region.wanted, yielded]) (fun K hK => ?_)
  go_simp
  refine (HM.out hd _ hc03.drew).mono ?_
  rintro e w4 ⟨q, rfl, hok, hc4⟩
  have hc04 := hc03.drew.trans hc4
  have HOK := Lib.hid hok
  clear hok
  refine hK _ _ ⟨hc4.cell (fun h => h) m0, hc4.cell (fun h => h) m1, hc4.cell (fun h => h) m2⟩ ?_
  clear hK K
  repeat
    first
    | (refine scr_soft (by rfl) ?_ ?_ ?_ ?_
       rotate_left
       · simp [Region.wanted, yielded]; done
       · intro w' hS
         try obtain ⟨a1, a2, a3⟩ := hS
         go_simp
         try with_reducible rfl
       simp only [Act.put, List.setIfInBounds_toArray, List.set_cons_zero, List.set_cons_succ])
    | (refine scr_skip (by rfl) ?_ ?_
       · simp [Region.wanted, yielded]; done
       simp only [Act.put, List.setIfInBounds_toArray, List.set_cons_zero, List.set_cons_succ])
  refine scr_hard (by rfl) (by simp [Region.wanted, yielded]) (fun K hK => ?_)
  go_simp
  refine (HT.out _ hc04).mono ?_
  rintro e w5 ⟨v5, rfl, hv5, hc5⟩
  have hc05 := hc04.trans hc5
  have hc45 := hc4.trans hc5
  obtain ⟨q5, cap5, rfl, hi, hcap5⟩ := hv5.items
  clear hv5 hi
  refine hK _ _ ⟨hc45.cell (fun h => h) m0, hc45.cell (fun h => h) m1, hc45.cell (fun h => h) m2⟩ ?_
  clear hK K
  repeat
    first
    | (refine scr_soft (by rfl) ?_ ?_ ?_ ?_
       rotate_left
       · simp [Region.wanted, yielded]; done
       · intro w' hS
         try obtain ⟨a1, a2, a3⟩ := hS
         go_simp
         try with_reducible rfl
       simp only [Act.put, List.setIfInBounds_toArray, List.set_cons_zero, List.set_cons_succ])
    | (refine scr_skip (by rfl) ?_ ?_
       · simp [Region.wanted, yielded]; done
       simp only [Act.put, List.setIfInBounds_toArray, List.set_cons_zero, List.set_cons_succ])
  refine scr_hard (by rfl) (by simp [Region.wanted, yielded]) (fun K hK => ?_)
  go_simp
  refine (height_fit d q _ _ hd HOK.out (by omega)).mono ?_
  rintro e w' ⟨rfl, rfl⟩
  refine hK _ _ ⟨hc45.cell (fun h => h) m0, hc45.cell (fun h => h) m1, hc45.cell (fun h => h) m2⟩ ?_
  clear hK K
  repeat
    first
    | (refine scr_soft (by rfl) ?_ ?_ ?_ ?_
       rotate_left
       · simp [Region.wanted, yielded]; done
       · intro w' hS
         try obtain ⟨a1, a2, a3⟩ := hS
         go_simp
         try with_reducible rfl
       simp only [Act.put, List.setIfInBounds_toArray, List.set_cons_zero, List.set_cons_succ])
    | (refine scr_skip (by rfl) ?_ ?_
       · simp [Region.wanted, yielded]; done
       simp only [Act.put, List.setIfInBounds_toArray, List.set_cons_zero, List.set_cons_succ])
  refine scr_hard (by rfl) (by simp [Region.wanted, yielded]) (fun K hK => ?_)
  go_simp
  refine (aliveB_any _).mono ?_
  rintro e w6 ⟨rfl, hc6⟩
  have hc46 := hc45.trans hc6
  refine hK _ _ ⟨hc46.cell (fun h => h) m0, hc46.cell (fun h => h) m1, hc46.cell (fun h => h) m2⟩ ?_
  clear hK K
  repeat
    first
    | (refine scr_soft (by rfl) ?_ ?_ ?_ ?_
       rotate_left
       · simp [Region.wanted, yielded]; done
       · intro w' hS
         try obtain ⟨a1, a2, a3⟩ := hS
         go_simp
         try with_reducible rfl
       simp only [Act.put, List.setIfInBounds_toArray, List.set_cons_zero, List.set_cons_succ])
    | (refine scr_skip (by rfl) ?_ ?_
       · simp [Region.wanted, yielded]; done
       simp only [Act.put, List.setIfInBounds_toArray, List.set_cons_zero, List.set_cons_succ])
  refine scr_nil ?_
  go_wp2_with fail
  go_ret
  exact ⟨rfl, hc05.trans hc6⟩
end Go.Proofs.Ytcabnhpnkaielaa
