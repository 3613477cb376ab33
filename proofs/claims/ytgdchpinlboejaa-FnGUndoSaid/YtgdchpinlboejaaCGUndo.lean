/- For every order, every degree, every two lists of items and every number the law FnGUndo returns true and leaves its arguments as they were. -/
import Derived.Carry
import Derived.Test.YtgdchpinlboejaaRows
import Derived.Test.YtgdchpinlboejaaA11
import Derived.Test.YtgdchpinlboejaaA12
import Derived.Test.YtgdchpinlboejaaT1
namespace Go.Proofs.Ytgdchpinlboejaa
set_option linter.unusedSimpArgs false
set_option linter.unusedVariables false
open Go.RowKit

theorem SlE.take {w : World} {b o n c : Nat} {xs : List (Int × Int)} (h : SlE itemE w (.slice (some ⟨b, o, none⟩) n c) xs) (i : Nat) (hi : i ≤ xs.length) : SlE itemE w (.slice (some ⟨b, o, none⟩) i c) (xs.take i) := by
  obtain ⟨a, cap, e, h2, h3⟩ := h
  injection e with e1 e2 e3
  subst e1
  subst e3
  have hl : (xs.take i).length = i := by rw [List.length_take]; omega
  refine ⟨some ⟨b, o, none⟩, c, by rw [hl], by omega, ?_⟩
  rcases h3 with h3 | ⟨b', o', e4, h4⟩
  · subst h3; exact .inl (by simp)
  · obtain ⟨rfl, rfl⟩ : b = b' ∧ o = o' := by simpa using e4
    refine .inr ⟨b, o, rfl, fun j u hj => h4 j u ?_⟩
    rw [← flat_take, List.getElem?_take] at hj
    split at hj
    · exact hj
    · cases hj

theorem SlE.drop {w : World} {b o n c : Nat} {xs : List (Int × Int)} (h : SlE itemE w (.slice (some ⟨b, o, none⟩) n c) xs) (i : Nat) (hi : i ≤ xs.length) : SlE itemE w (.slice (some ⟨b, o + i * 2, none⟩) (n - i) (c - i)) (xs.drop i) := by
  obtain ⟨a, cap, e, h2, h3⟩ := h
  injection e with e1 e2 e3
  subst e1
  subst e3
  have hl : (xs.drop i).length = n - i := by rw [List.length_drop, e2]
  refine ⟨some ⟨b, o + i * 2, none⟩, c - i, by rw [hl], by omega, ?_⟩
  rcases h3 with h3 | ⟨b', o', e4, h4⟩
  · subst h3; exact .inl (by simp)
  · obtain ⟨rfl, rfl⟩ : b = b' ∧ o = o' := by simpa using e4
    refine .inr ⟨b, o + i * 2, rfl, fun j u hj => ?_⟩
    have hd := flat_drop itemE.par xs i
    have hd' : (flat itemE.par xs).drop (i * 2) = flat itemE.par (xs.drop i) := hd
    rw [← hd', List.getElem?_drop] at hj
    have := h4 (i * 2 + j) u hj
    rw [Nat.add_assoc]; exact this

theorem tree_sl {ord : List Int} (sv v : Value) (l : List (It ord)) (w : World) (hs : SlE intE w sv ord) (hol : ord.length ≤ 2147483647) (hv : SlE itemE w v l) (hlen : l.length ≤ 8589934592) :
    Calls Try.prog 12 #[sv, v] w fun e w' => ∃ v' , e = .returned v' ∧ (∃ a c, v' = .slice a (growL l).length c) ∧ Chg (fun _ _ => False) w w' := by
  obtain ⟨a, cap, rfl, hi, _⟩ := hv.itemsAt
  refine (tree_big sv (rkL ord) a cap l w (rank_list sv ord w hs hol) hi hlen).mono ?_
  rintro e w' ⟨v', rfl, h1, h2⟩
  exact ⟨v', rfl, h1.form, h2⟩

set_option maxRecDepth 100000 in
set_option maxHeartbeats 4000000 in
theorem law_GUndo (sv : Value) (os : List Int) (d : Int) (nl : Bool) (p : Option Addr) (cap : Nat) (l : List (Int × Int)) (kv : Value) (ks : List (Int × Int)) (n : Int) (HCL : l.length ≤ cap) (hn0 : 0 ≤ n) (hn1 : n ≤ 255) (w : World) (hs : SlE intE w sv os) (hl : ItemsAt w p l) (hk : SlE itemE w kv ks) :
    Calls Try.prog 3 #[.agg #[sv, .int .i64 d, .bool nl], .slice p l.length cap, kv, .int .u8 n] w fun e w' => e = .returned (.bool true) ∧ Chg (fun _ _ => False) w w' := by
  obtain ⟨sa, sc, rfl⟩ : ∃ a c, sv = .slice a os.length c := hs.form
  obtain ⟨ka, kcap, rfl⟩ := hk.form
  have hz := fun w1 => zzFits1_any sa os.length sc d nl w1
  by_cases hol : os.length ≤ 2147483647
  rotate_left
  · rw [decide_eq_false hol] at hz
    go_enter Try.func3, Try.ntmps3
    go_wp2_with fail
    refine name_calls (fun w1 => Chg (fun _ _ => False) w w1) (((Chg.refl _ _).alloc _)) ?_
    intro w1 hc1
    refine (hz w1).mono ?_
    rintro e w2 ⟨rfl, hc2⟩
    go_wp2_with fail
    go_ret
    exact ⟨rfl, hc1.trans hc2⟩
  rw [decide_eq_true hol] at hz
  by_cases hlen : l.length ≤ 2147483647
  rotate_left
  · have hlen' : 2147483647 < l.length := by omega
    go_enter Try.func3, Try.ntmps3
    go_wp2_with fail
    refine name_calls (fun w1 => Chg (fun _ _ => False) w w1) (((Chg.refl _ _).alloc _)) ?_
    intro w1 hc1
    refine (hz w1).mono ?_
    rintro e w2 ⟨rfl, hc2⟩
    go_wp2_with fail
    go_ret
    exact ⟨rfl, hc1.trans hc2⟩
  by_cases hkl : ks.length ≤ 2147483647
  rotate_left
  · have hn : ¬ 2147483647 < l.length := by omega
    have hlen' : 2147483647 < ks.length := by omega
    go_enter Try.func3, Try.ntmps3
    go_wp2_with fail
    refine name_calls (fun w1 => Chg (fun _ _ => False) w w1) (((Chg.refl _ _).alloc _)) ?_
    intro w1 hc1
    refine (hz w1).mono ?_
    rintro e w2 ⟨rfl, hc2⟩
    go_wp2_with fail
    go_ret
    exact ⟨rfl, hc1.trans hc2⟩
  have hn : ¬ 2147483647 < l.length := by omega
  have hnk : ¬ 2147483647 < ks.length := by omega
  have HS := Lib.hid hs
  have HL := Lib.hid hl
  have HKS := Lib.hid hk
  have HOL := Lib.hid hol
  have HLN := Lib.hid hlen
  have HKL := Lib.hid hkl
  clear hs hl hk
  go_enter Try.func3, Try.ntmps3
  go_wp2_with fail
  refine name_calls (fun w1 => Chg (fun _ _ => False) w w1 ∧ w1.heap[w.heap.size]? = some (.cells #[.slice sa os.length sc, .int .i64 d, .bool nl] 24 (0, 0))) ⟨((Chg.refl _ _).alloc _), ha_at _ _ rfl⟩ ?_
  rintro w1 ⟨hcu, hb0⟩
  have m0 := cell_of_block hb0 0
  have m1 := cell_of_block hb0 1
  have m2 := cell_of_block hb0 2
  simp only [List.getElem?_toArray, List.getElem?_cons_zero, List.getElem?_cons_succ] at m0 m1 m2
  clear hb0
  refine (hz w1).mono ?_
  rintro e w2 ⟨rfl, hst⟩
  replace m0 := hst.cell (fun h => h) m0
  replace m1 := hst.cell (fun h => h) m1
  replace m2 := hst.cell (fun h => h) m2
  replace hcu := hcu.trans hst
  clear hz
  go_wp2_with fail
  refine wp_region_scr (fun w' => w'.cell? ⟨w.heap.size, 0, none⟩ = some (.slice sa os.length sc) ∧ w'.cell? ⟨w.heap.size, 1, none⟩ = some (.int .i64 d) ∧ w'.cell? ⟨w.heap.size, 2, none⟩ = some (.bool nl)) (.soft 0 (.hard 1 (.soft 2 (.soft 3 (.soft 4 (.soft 5 (.soft 6 (.soft 7 (.soft 8 (.soft 9 (.soft 10 (.soft 11 (.soft 12 (.soft 17 (.soft 18 (.soft 19 (.soft 22 (.soft 23 (.hard 13 (.hard 14 (.hard 15 (.soft 16 (.hard 20 (.soft 21 (.soft 24 (.soft 25 (.soft 26 .nil))))))))))))))))))))))))))) (by kernel_rfl) (by kernel_rfl) (fun _ _ _ _ _ h => h) ⟨m0, m1, m2⟩ ?_
  replace hcu := hcu.drew
  clear hst
  repeat
    first
    | (refine scr_soft (by rfl) ?_ ?_ ?_ ?_
       rotate_left
       · simp [Region.wanted, yielded]; done
       · intro w' hS
         try obtain ⟨a1, a2, a3⟩ := hS
         go_simp
         try with_reducible rfl
       simp only [Act.put, List.setIfInBounds_toArray, List.set_cons_zero, List.set_cons_succ])
    | (refine scr_skip (by rfl) ?_ ?_
       · simp [Region.wanted, yielded]; done
       simp only [Act.put, List.setIfInBounds_toArray, List.set_cons_zero, List.set_cons_succ])
  refine scr_hard (by rfl) (by simp [Region.wanted, yielded]) (fun K hK => ?_)
  go_simp
  by_cases hd : FitD d
  rotate_left
  · refine (lawFits_no sa _ sc d nl _ hd).mono ?_
    rintro e w3 ⟨rfl, hst⟩
    replace m0 := hst.cell (fun h => h) m0
    replace m1 := hst.cell (fun h => h) m1
    replace m2 := hst.cell (fun h => h) m2
    replace hcu := hcu.trans hst
    refine hK _ _ ⟨m0, m1, m2⟩ ?_
    clear hK K
    repeat
      first
      | (refine scr_soft (by rfl) ?_ ?_ ?_ ?_
         rotate_left
         · simp [Region.wanted, yielded]; done
         · intro w' hS
           try obtain ⟨a1, a2, a3⟩ := hS
           go_simp
           try with_reducible rfl
         simp only [Act.put, List.setIfInBounds_toArray, List.set_cons_zero, List.set_cons_succ])
      | (refine scr_skip (by rfl) ?_ ?_
         · simp [Region.wanted, yielded]; done
         simp only [Act.put, List.setIfInBounds_toArray, List.set_cons_zero, List.set_cons_succ])
    iterate 3
      refine scr_hard_skip (by rfl) (by simp [Region.wanted, yielded]) ?_
      simp only [Act.put, List.setIfInBounds_toArray, List.set_cons_zero, List.set_cons_succ]
    repeat
      first
      | (refine scr_soft (by rfl) ?_ ?_ ?_ ?_
         rotate_left
         · simp [Region.wanted, yielded]; done
         · intro w' hS
           try obtain ⟨a1, a2, a3⟩ := hS
           go_simp
           try with_reducible rfl
         simp only [Act.put, List.setIfInBounds_toArray, List.set_cons_zero, List.set_cons_succ])
      | (refine scr_skip (by rfl) ?_ ?_
         · simp [Region.wanted, yielded]; done
         simp only [Act.put, List.setIfInBounds_toArray, List.set_cons_zero, List.set_cons_succ])
    refine scr_hard_skip (by rfl) (by simp [Region.wanted, yielded]) ?_
    simp only [Act.put, List.setIfInBounds_toArray, List.set_cons_zero, List.set_cons_succ]
    repeat
      first
      | (refine scr_soft (by rfl) ?_ ?_ ?_ ?_
         rotate_left
         · simp [Region.wanted, yielded]; done
         · intro w' hS
           try obtain ⟨a1, a2, a3⟩ := hS
           go_simp
           try with_reducible rfl
         simp only [Act.put, List.setIfInBounds_toArray, List.set_cons_zero, List.set_cons_succ])
      | (refine scr_skip (by rfl) ?_ ?_
         · simp [Region.wanted, yielded]; done
         simp only [Act.put, List.setIfInBounds_toArray, List.set_cons_zero, List.set_cons_succ])
    refine scr_nil ?_
    go_wp2_with fail
    refine (alive_any _).mono ?_
    rintro e wz ⟨rfl, hst⟩
    go_wp2_with fail
    go_ret
    exact ⟨rfl, hcu.trans hst⟩
  refine (lawFits_yes sa _ sc d nl _ hd).mono ?_
  rintro e w3 ⟨rfl, hst⟩
  replace m0 := hst.cell (fun h => h) m0
  replace m1 := hst.cell (fun h => h) m1
  replace m2 := hst.cell (fun h => h) m2
  replace hcu := hcu.trans hst
  refine hK _ _ ⟨m0, m1, m2⟩ ?_
  clear hK K hst
  by_cases hk0 : ks.length = 0
  · have hk0' : ((ks.length : Int) == 0) = true := by simp [hk0]
    have HK0 := Lib.hid hk0
    clear hk0
    repeat
      first
      | (refine scr_soft (by rfl) ?_ ?_ ?_ ?_
         rotate_left
         · simp [Region.wanted, yielded]; done
         · intro w' hS
           try obtain ⟨a1, a2, a3⟩ := hS
           go_simp
           try with_reducible rfl
         simp only [Act.put, List.setIfInBounds_toArray, List.set_cons_zero, List.set_cons_succ])
      | (refine scr_skip (by rfl) ?_ ?_
         · simp [Region.wanted, yielded]; done
         simp only [Act.put, List.setIfInBounds_toArray, List.set_cons_zero, List.set_cons_succ])
    iterate 3
      refine scr_hard_skip (by rfl) (by simp [Region.wanted, yielded]) ?_
      simp only [Act.put, List.setIfInBounds_toArray, List.set_cons_zero, List.set_cons_succ]
    repeat
      first
      | (refine scr_soft (by rfl) ?_ ?_ ?_ ?_
         rotate_left
         · simp [Region.wanted, yielded]; done
         · intro w' hS
           try obtain ⟨a1, a2, a3⟩ := hS
           go_simp
           try with_reducible rfl
         simp only [Act.put, List.setIfInBounds_toArray, List.set_cons_zero, List.set_cons_succ])
      | (refine scr_skip (by rfl) ?_ ?_
         · simp [Region.wanted, yielded]; done
         simp only [Act.put, List.setIfInBounds_toArray, List.set_cons_zero, List.set_cons_succ])
    refine scr_hard_skip (by rfl) (by simp [Region.wanted, yielded]) ?_
    simp only [Act.put, List.setIfInBounds_toArray, List.set_cons_zero, List.set_cons_succ]
    repeat
      first
      | (refine scr_soft (by rfl) ?_ ?_ ?_ ?_
         rotate_left
         · simp [Region.wanted, yielded]; done
         · intro w' hS
           try obtain ⟨a1, a2, a3⟩ := hS
           go_simp
           try with_reducible rfl
         simp only [Act.put, List.setIfInBounds_toArray, List.set_cons_zero, List.set_cons_succ])
      | (refine scr_skip (by rfl) ?_ ?_
         · simp [Region.wanted, yielded]; done
         simp only [Act.put, List.setIfInBounds_toArray, List.set_cons_zero, List.set_cons_succ])
    refine scr_nil ?_
    go_wp2_with fail
    refine (alive_any _).mono ?_
    rintro e wz ⟨rfl, hst⟩
    go_wp2_with fail
    go_ret
    exact ⟨rfl, hcu.trans hst⟩
  have hkp : 0 < ks.length := by omega
  obtain ⟨kb, ko, rfl⟩ : ∃ b o, ka = some ⟨b, o, none⟩ := by
    obtain ⟨b, o, h, _⟩ := HKS.out.cell (List.getElem?_eq_getElem hkp)
    exact ⟨b, o, h⟩
  have hkc : ks.length ≤ kcap := by
    obtain ⟨_, cap', e, h2, _⟩ := id HKS.out
    injection e with e1 e2 e3
    omega
  have hk0' : ((ks.length : Int) == 0) = false := by simpa using hk0
  have HT := Lib.hid (fun w1 (c : Chg (fun _ _ => False) w w1) v l' (hv : SlE itemE w1 v l') (hl' : l'.length ≤ 8589934592) => tree_sl (ord := os) (.slice sa os.length sc) v l' w1 (HS.out.chg c) HOL.out hv hl')
  clear hk0
  repeat
    first
    | (refine scr_soft (by rfl) ?_ ?_ ?_ ?_
       rotate_left
       · simp [Region.wanted, yielded]; done
       · intro w' hS
         try obtain ⟨a1, a2, a3⟩ := hS
         go_simp
         try with_reducible rfl
       simp only [Act.put, List.setIfInBounds_toArray, List.set_cons_zero, List.set_cons_succ])
    | (refine scr_skip (by rfl) ?_ ?_
       · simp [Region.wanted, yielded]; done
       simp only [Act.put, List.setIfInBounds_toArray, List.set_cons_zero, List.set_cons_succ])
  refine scr_hard (by rfl) (by simp [Region.wanted, yielded]) (fun K hK => ?_)
  go_simp
  have hcb := (Chg.refl (fun _ _ => False) w3).alloc (.cells #[.slice p l.length cap, .slice (some ⟨kb, ko, none⟩) ks.length kcap] 25)
  refine hK _ _ ⟨hcb.cell (fun h => h) m0, hcb.cell (fun h => h) m1, hcb.cell (fun h => h) m2⟩ ?_
  clear hK K
  refine name_scr (fun wn => Chg (fun _ _ => False) w3 wn ∧ wn.heap[w3.heap.size]? = some (.cells #[.slice p l.length cap, .slice (some ⟨kb, ko, none⟩) ks.length kcap] 25 (0, 0))) ⟨hcb, ha_at _ _ rfl⟩ ?_
  clear hcb
  rintro w4 ⟨hst, hb⟩
  replace m0 := hst.cell (fun h => h) m0
  replace m1 := hst.cell (fun h => h) m1
  replace m2 := hst.cell (fun h => h) m2
  replace hcu := hcu.trans hst
  have HB1 := Lib.hid hb
  clear hb
  clear hst
  repeat
    first
    | (refine scr_soft (by rfl) ?_ ?_ ?_ ?_
       rotate_left
       · simp [Region.wanted, yielded]; done
       · intro w' hS
         try obtain ⟨a1, a2, a3⟩ := hS
         go_simp
         try with_reducible rfl
       simp only [Act.put, List.setIfInBounds_toArray, List.set_cons_zero, List.set_cons_succ])
    | (refine scr_skip (by rfl) ?_ ?_
       · simp [Region.wanted, yielded]; done
       simp only [Act.put, List.setIfInBounds_toArray, List.set_cons_zero, List.set_cons_succ])
  refine scr_hard (by rfl) (by simp [Region.wanted, yielded]) (fun K hK => ?_)
  go_simp
  refine (concat_two w3.heap.size 2 (.slice p l.length cap) (.slice (some ⟨kb, ko, none⟩) ks.length kcap) l ks _ HB1.out ((HL.out.chg hcu).sl HCL) (HKS.out.chg hcu) (by have := HLN.out; have := HKL.out; omega)).mono ?_
  rintro e w5 ⟨v5, rfl, how5, hst⟩
  replace m0 := hst.cell (fun h => h) m0
  replace m1 := hst.cell (fun h => h) m1
  replace m2 := hst.cell (fun h => h) m2
  replace hcu := hcu.trans hst
  have HOW5 := Lib.hid how5.sl
  refine hK _ _ ⟨m0, m1, m2⟩ ?_
  clear hK K
  clear how5 hst HB1
  repeat
    first
    | (refine scr_soft (by rfl) ?_ ?_ ?_ ?_
       rotate_left
       · simp [Region.wanted, yielded]; done
       · intro w' hS
         try obtain ⟨a1, a2, a3⟩ := hS
         go_simp
         try with_reducible rfl
       simp only [Act.put, List.setIfInBounds_toArray, List.set_cons_zero, List.set_cons_succ])
    | (refine scr_skip (by rfl) ?_ ?_
       · simp [Region.wanted, yielded]; done
       simp only [Act.put, List.setIfInBounds_toArray, List.set_cons_zero, List.set_cons_succ])
  refine scr_hard (by rfl) (by simp [Region.wanted, yielded]) (fun K hK => ?_)
  go_simp
  refine (HT.out _ hcu _ (l ++ ks) HOW5.out (by have := HLN.out; have := HKL.out; simp; omega)).mono ?_
  rintro e w6 ⟨v6, rfl, ⟨a6, c6, rfl⟩, hst⟩
  replace m0 := hst.cell (fun h => h) m0
  replace m1 := hst.cell (fun h => h) m1
  replace m2 := hst.cell (fun h => h) m2
  replace hcu := hcu.trans hst
  skip
  refine hK _ _ ⟨m0, m1, m2⟩ ?_
  clear hK K
  clear hst HOW5
  obtain ⟨LA, hLA⟩ : ∃ LA, (growL (ord := os) (l ++ ks)).length = LA := ⟨_, rfl⟩
  obtain ⟨LB, hLB⟩ : ∃ LB, (growL (ord := os) l).length = LB := ⟨_, rfl⟩
  rw [hLA]
  have HLA := Lib.hid hLA
  have HLB := Lib.hid hLB
  clear hLA
  repeat
    first
    | (refine scr_soft (by rfl) ?_ ?_ ?_ ?_
       rotate_left
       · simp [Region.wanted, yielded]; done
       · intro w' hS
         try obtain ⟨a1, a2, a3⟩ := hS
         go_simp
         try with_reducible rfl
       simp only [Act.put, List.setIfInBounds_toArray, List.set_cons_zero, List.set_cons_succ])
    | (refine scr_skip (by rfl) ?_ ?_
       · simp [Region.wanted, yielded]; done
       simp only [Act.put, List.setIfInBounds_toArray, List.set_cons_zero, List.set_cons_succ])
  refine scr_hard (by rfl) (by simp [Region.wanted, yielded]) (fun K hK => ?_)
  go_simp
  refine (HT.out _ hcu _ l ((HL.out.chg hcu).sl HCL) (by have := HLN.out; omega)).mono ?_
  rintro e w7 ⟨v7, rfl, ⟨a7, c7, rfl⟩, hst⟩
  replace m0 := hst.cell (fun h => h) m0
  replace m1 := hst.cell (fun h => h) m1
  replace m2 := hst.cell (fun h => h) m2
  replace hcu := hcu.trans hst
  skip
  refine hK _ _ ⟨m0, m1, m2⟩ ?_
  clear hK K
  clear hst
  rw [hLB]
  clear hLB
  have hLBl : LB ≤ l.length := by
    have := growL_take_len (ord := os) l l.length
    rw [List.take_length, HLB.out] at this
    exact this
  have s1 : IntKind.i64.wrap ((LB : Int) + (ks.length : Int)) = (LB : Int) + (ks.length : Int) := IntWalk.i64_in _ (by have := HLN.out; have := HKL.out; omega)
  by_cases hne : LA = LB + ks.length
  rotate_left
  · have hne' : ((LA : Int) == (LB : Int) + (ks.length : Int)) = false := beq_eq_false_iff_ne.2 (by omega)
    repeat
      first
      | (refine scr_soft (by rfl) ?_ ?_ ?_ ?_
         rotate_left
         · simp [Region.wanted, yielded]; done
         · intro w' hS
           try obtain ⟨a1, a2, a3⟩ := hS
           go_simp
           try with_reducible rfl
         simp only [Act.put, List.setIfInBounds_toArray, List.set_cons_zero, List.set_cons_succ])
      | (refine scr_skip (by rfl) ?_ ?_
         · simp [Region.wanted, yielded]; done
         simp only [Act.put, List.setIfInBounds_toArray, List.set_cons_zero, List.set_cons_succ])
    refine scr_nil ?_
    go_wp2_with fail
    refine (alive_any _).mono ?_
    rintro e wz ⟨rfl, hst⟩
    go_wp2_with fail
    go_ret
    exact ⟨rfl, hcu.trans hst⟩
  have hne' : ((LA : Int) == (LB : Int) + (ks.length : Int)) = true := by rw [hne]; simp
  obtain ⟨i, hi⟩ : ∃ i : Nat, n % (ks.length : Int) = (i : Int) := ⟨(n % (ks.length : Int)).toNat, by have := Int.emod_nonneg n (show (ks.length : Int) ≠ 0 by omega); omega⟩
  have hil : i < ks.length := by have := Int.emod_lt_of_pos n (show (0 : Int) < (ks.length : Int) by omega); omega
  have HUND := Lib.hid (show delsF ltM (growL (ord := os) (l ++ ks)) (ks.drop i ++ ks.take i) = (ks.drop i ++ ks.take i).map some ∧ delsL ltM (growL (ord := os) (l ++ ks)) (ks.drop i ++ ks.take i) = growL (ord := os) l from by
    have hA : AllNew (growL (ord := os) l) ks := allNew_of _ _ (by rw [← growL_append, HLA.out, HLB.out]; exact hne)
    have := undo (growL_srt l) hA (rot_perm ks i)
    rw [← growL_append] at this
    exact this)
  obtain ⟨KR, hKR⟩ : ∃ KR, ks.drop i ++ ks.take i = KR := ⟨_, rfl⟩
  have HKRL := Lib.hid (show KR.length = ks.length from by rw [← hKR]; exact (rot_perm ks i).length_eq)
  have HROT := Lib.hid (show ∀ j, j < KR.length → KR[j]? = ks[(i + j) % ks.length]? from fun j hj => by rw [← hKR]; exact rot_get ks i j hil (by have := HKRL.out; omega))
  have G5 := Lib.hid (show ∀ w1 (c : Chg (fun _ _ => False) w w1) v vk (hv : SlE itemE w1 v (l ++ ks)) (hk : SlE itemE w1 vk KR), Calls Try.prog 15 #[.agg #[.slice sa os.length sc, .int .i64 d, .bool nl], v, vk] w1 fun e w' => ∃ v u, e = .returned (.tuple #[v, u]) ∧ SlE foundE w' v (KR.map some) ∧ SlE itemE w' u (growL (ord := os) l) ∧ Chg (fun _ _ => False) w1 w' from
    fun w1 c v vk hv hk => by
      have := GDelete_sl (ord := os) (.slice sa os.length sc) d nl v (l ++ ks) vk KR w1 (HS.out.chg c) HOL.out hd hv (by have := HLN.out; have := HKL.out; simp; omega) hk (by have := HKRL.out; have := HKL.out; omega)
      rw [← hKR] at this ⊢
      rw [HUND.out.1, HUND.out.2] at this
      exact this)
  have G4 := Lib.hid (fun w1 (c : Chg (fun _ _ => False) w w1) => GItems_any (ord := os) (.slice sa os.length sc) d nl p cap l w1 (HS.out.chg c) HOL.out hd (HL.out.chg c) HLN.out)
  have HKR := Lib.hid hKR
  have HNE := Lib.hid hne
  clear hKR hne HUND HT
  repeat
    first
    | (refine scr_soft (by rfl) ?_ ?_ ?_ ?_
       rotate_left
       · simp [Region.wanted, yielded]; done
       · intro w' hS
         try obtain ⟨a1, a2, a3⟩ := hS
         go_simp
         try with_reducible rfl
       simp only [Act.put, List.setIfInBounds_toArray, List.set_cons_zero, List.set_cons_succ])
    | (refine scr_skip (by rfl) ?_ ?_
       · simp [Region.wanted, yielded]; done
       simp only [Act.put, List.setIfInBounds_toArray, List.set_cons_zero, List.set_cons_succ])
  refine scr_nil ?_
  have c0 : (0 : Int) < (ks.length : Int) := by omega
  have c1 : IntKind.i64.wrap n = n := IntWalk.i64_in _ (by omega)
  have c2 : (0 : Int) ≤ (i : Int) := by omega
  have c3 : (i : Int) ≤ (ks.length : Int) := by omega
  have c4 : (i : Int) ≤ (kcap : Int) := by omega
  have c5 : (ks.length : Int) ≤ (kcap : Int) := by omega
  have c6 : ¬ kcap = i := by omega
  have c7 : ¬ kcap = 0 := by omega
  go_wp2_with fail
  refine wp_region_scr (fun w' => w'.cell? ⟨w.heap.size, 0, none⟩ = some (.slice sa os.length sc) ∧ w'.cell? ⟨w.heap.size, 1, none⟩ = some (.int .i64 d) ∧ w'.cell? ⟨w.heap.size, 2, none⟩ = some (.bool nl)) (.soft 0 (.soft 1 (.soft 2 (.soft 5 (.soft 6 (.soft 7 (.soft 8 (.soft 9 (.soft 10 (.fork 3 11 (.fork 4 11 (.hard 11 (.hard 12 (.hard 13 (.soft 14 (.soft 15 (.soft 16 (.soft 17 (.soft 18 .nil)))))))) (.hard 4 (.hard 12 (.hard 13 (.soft 14 (.soft 15 (.soft 16 (.soft 17 (.soft 18 .nil))))))))) (.hard 3 (.hard 4 (.hard 12 (.hard 13 (.soft 14 (.soft 15 (.soft 16 (.soft 17 (.soft 18 .nil))))))))))))))))))) (by kernel_rfl) (by kernel_rfl) (fun _ _ _ _ _ h => h) ⟨m0, m1, m2⟩ ?_
  replace hcu := hcu.drew
  repeat
    first
    | (refine scr_soft (by rfl) ?_ ?_ ?_ ?_
       rotate_left
       · simp [Region.wanted, yielded]; done
       · intro w' hS
         try obtain ⟨a1, a2, a3⟩ := hS
         go_simp
         try with_reducible rfl
       simp only [Act.put, List.setIfInBounds_toArray, List.set_cons_zero, List.set_cons_succ])
    | (refine scr_skip (by rfl) ?_ ?_
       · simp [Region.wanted, yielded]; done
       simp only [Act.put, List.setIfInBounds_toArray, List.set_cons_zero, List.set_cons_succ])
  refine scr_fork (by rfl) (by rfl) rfl rfl (fun K hK => ?_) (fun K hK => ?_)
  · skip
    go_simp
    have hcb := (Chg.refl (fun _ _ => False) w7.drew).alloc (.cells #[.slice p l.length cap, .slice (some ⟨kb, ko, none⟩) ks.length kcap] 25)
    refine hK _ _ ⟨hcb.cell (fun h => h) m0, hcb.cell (fun h => h) m1, hcb.cell (fun h => h) m2⟩ ?_
    clear hK K
    refine name_scr (fun wn => Chg (fun _ _ => False) w7.drew wn ∧ wn.heap[w7.drew.heap.size]? = some (.cells #[.slice p l.length cap, .slice (some ⟨kb, ko, none⟩) ks.length kcap] 25 (0, 0))) ⟨hcb, ha_at _ _ rfl⟩ ?_
    clear hcb
    rintro wb1 ⟨hst, hb⟩
    replace m0 := hst.cell (fun h => h) m0
    replace m1 := hst.cell (fun h => h) m1
    replace m2 := hst.cell (fun h => h) m2
    replace hcu := hcu.trans hst
    have HB1 := Lib.hid hb
    clear hb
    clear hst
    repeat
      first
      | (refine scr_soft (by rfl) ?_ ?_ ?_ ?_
         rotate_left
         · simp [Region.wanted, yielded]; done
         · intro w' hS
           try obtain ⟨a1, a2, a3⟩ := hS
           go_simp
           try with_reducible rfl
         simp only [Act.put, List.setIfInBounds_toArray, List.set_cons_zero, List.set_cons_succ])
      | (refine scr_skip (by rfl) ?_ ?_
         · simp [Region.wanted, yielded]; done
         simp only [Act.put, List.setIfInBounds_toArray, List.set_cons_zero, List.set_cons_succ])
    refine scr_fork (by rfl) (by rfl) rfl rfl (fun K hK => ?_) (fun K hK => ?_)
    · skip
      go_simp
      refine (concat_two w7.drew.heap.size 2 (.slice p l.length cap) (.slice (some ⟨kb, ko, none⟩) ks.length kcap) l ks _ HB1.out ((HL.out.chg hcu).sl HCL) (HKS.out.chg hcu) (by have := HLN.out; have := HKL.out; omega)).mono ?_
      rintro e wc1 ⟨vc1, rfl, hc1, hst⟩
      replace m0 := hst.cell (fun h => h) m0
      replace m1 := hst.cell (fun h => h) m1
      replace m2 := hst.cell (fun h => h) m2
      replace hcu := hcu.trans hst
      have HC1 := Lib.hid hc1.sl
      refine hK _ _ ⟨m0, m1, m2⟩ ?_
      clear hK K
      clear hst
      repeat
        first
        | (refine scr_soft (by rfl) ?_ ?_ ?_ ?_
           rotate_left
           · simp [Region.wanted, yielded]; done
           · intro w' hS
             try obtain ⟨a1, a2, a3⟩ := hS
             go_simp
             try with_reducible rfl
           simp only [Act.put, List.setIfInBounds_toArray, List.set_cons_zero, List.set_cons_succ])
        | (refine scr_skip (by rfl) ?_ ?_
           · simp [Region.wanted, yielded]; done
           simp only [Act.put, List.setIfInBounds_toArray, List.set_cons_zero, List.set_cons_succ])
      refine scr_hard (by rfl) (by simp [Region.wanted, yielded]) (fun K hK => ?_)
      go_simp
      have hcb := (Chg.refl (fun _ _ => False) wc1).alloc (.cells #[.slice (some ⟨kb, ko + i * 2, none⟩) (ks.length - i) (kcap - i), .slice (some ⟨kb, ko, none⟩) i kcap] 25)
      refine hK _ _ ⟨hcb.cell (fun h => h) m0, hcb.cell (fun h => h) m1, hcb.cell (fun h => h) m2⟩ ?_
      clear hK K
      refine name_scr (fun wn => Chg (fun _ _ => False) wc1 wn ∧ wn.heap[wc1.heap.size]? = some (.cells #[.slice (some ⟨kb, ko + i * 2, none⟩) (ks.length - i) (kcap - i), .slice (some ⟨kb, ko, none⟩) i kcap] 25 (0, 0))) ⟨hcb, ha_at _ _ rfl⟩ ?_
      clear hcb
      rintro wb2 ⟨hst, hb⟩
      replace m0 := hst.cell (fun h => h) m0
      replace m1 := hst.cell (fun h => h) m1
      replace m2 := hst.cell (fun h => h) m2
      replace hcu := hcu.trans hst
      have HB2 := Lib.hid hb
      clear hb
      replace HC1 := Lib.hid (HC1.out.chg hst)
      clear hst
      repeat
        first
        | (refine scr_soft (by rfl) ?_ ?_ ?_ ?_
           rotate_left
           · simp [Region.wanted, yielded]; done
           · intro w' hS
             try obtain ⟨a1, a2, a3⟩ := hS
             go_simp
             try with_reducible rfl
           simp only [Act.put, List.setIfInBounds_toArray, List.set_cons_zero, List.set_cons_succ])
        | (refine scr_skip (by rfl) ?_ ?_
           · simp [Region.wanted, yielded]; done
           simp only [Act.put, List.setIfInBounds_toArray, List.set_cons_zero, List.set_cons_succ])
      refine scr_hard (by rfl) (by simp [Region.wanted, yielded]) (fun K hK => ?_)
      go_simp
      refine (concat_two wc1.heap.size 2 (.slice (some ⟨kb, ko + i * 2, none⟩) (ks.length - i) (kcap - i)) (.slice (some ⟨kb, ko, none⟩) i kcap) (ks.drop i) (ks.take i) _ HB2.out ((HKS.out.chg hcu).drop i (Nat.le_of_lt hil)) ((HKS.out.chg hcu).take i (Nat.le_of_lt hil)) (by have := HKL.out; simp; omega)).mono ?_
      rintro e wc2 ⟨vc2, rfl, hc2, hst⟩
      replace m0 := hst.cell (fun h => h) m0
      replace m1 := hst.cell (fun h => h) m1
      replace m2 := hst.cell (fun h => h) m2
      replace hcu := hcu.trans hst
      have HC2 := Lib.hid (show SlE itemE wc2 vc2 KR from HKR.out ▸ hc2.sl)
      refine hK _ _ ⟨m0, m1, m2⟩ ?_
      clear hK K
      replace HC1 := Lib.hid (HC1.out.chg hst)
      clear hst
      repeat
        first
        | (refine scr_soft (by rfl) ?_ ?_ ?_ ?_
           rotate_left
           · simp [Region.wanted, yielded]; done
           · intro w' hS
             try obtain ⟨a1, a2, a3⟩ := hS
             go_simp
             try with_reducible rfl
           simp only [Act.put, List.setIfInBounds_toArray, List.set_cons_zero, List.set_cons_succ])
        | (refine scr_skip (by rfl) ?_ ?_
           · simp [Region.wanted, yielded]; done
           simp only [Act.put, List.setIfInBounds_toArray, List.set_cons_zero, List.set_cons_succ])
      refine scr_hard (by rfl) (by simp [Region.wanted, yielded]) (fun K hK => ?_)
      go_simp
      refine (G5.out _ hcu _ _ HC1.out HC2.out).mono ?_
      rintro e w9 ⟨v9, u9, rfl, how9, hou9, hst⟩
      replace m0 := hst.cell (fun h => h) m0
      replace m1 := hst.cell (fun h => h) m1
      replace m2 := hst.cell (fun h => h) m2
      replace hcu := hcu.trans hst
      refine hK _ _ ⟨m0, m1, m2⟩ ?_
      clear hK K
      repeat
        first
        | (refine scr_soft (by rfl) ?_ ?_ ?_ ?_
           rotate_left
           · simp [Region.wanted, yielded]; done
           · intro w' hS
             try obtain ⟨a1, a2, a3⟩ := hS
             go_simp
             try with_reducible rfl
           simp only [Act.put, List.setIfInBounds_toArray, List.set_cons_zero, List.set_cons_succ])
        | (refine scr_skip (by rfl) ?_ ?_
           · simp [Region.wanted, yielded]; done
           simp only [Act.put, List.setIfInBounds_toArray, List.set_cons_zero, List.set_cons_succ])
      refine scr_nil ?_
      have h9 := how9.form
      rw [List.length_map] at h9
      obtain ⟨a9, c9, rfl⟩ := h9
      have HF := Lib.hid how9
      have HU := Lib.hid hou9
      obtain ⟨au, cu, rfl⟩ := hou9.form
      clear how9 hou9 hst
      go_wp2_with fail
      go_loopw [79] (fun iv wr => ∃ (j : Nat), iv = .int .i64 j ∧ j ≤ KR.length ∧ Chg (fun _ _ => False) w9 wr) (fun iv _ => KR.length - (intOf iv).toNat)
      case atStart => exact ⟨0, rfl, Nat.zero_le _, Chg.refl _ _⟩
      case round =>
        obtain ⟨j, rfl, hj, hcr⟩ := hrel
        replace m0 := hcr.cell (fun h => h) m0
        replace m1 := hcr.cell (fun h => h) m1
        replace m2 := hcr.cell (fun h => h) m2
        have hcur := hcu.trans hcr
        by_cases hlt : j < KR.length
        · obtain ⟨y, hy⟩ : ∃ y, KR[j]? = some y := ⟨_, List.getElem?_eq_getElem hlt⟩
          obtain ⟨bf, of, gk, gv, gq, rfl, g0, g1, g2, gfl⟩ := (HF.out.chg hcr).found (j := j) (x := some y) (by rw [List.getElem?_map, hy]; rfl)
          obtain ⟨rfl, rfl, rfl⟩ : gk = y.1 ∧ gv = y.2 ∧ gq = true := by
            have e : ([.int .i64 y.1, .int .i64 y.2, .bool true] : List Value) = [.int .i64 gk, .int .i64 gv, .bool gq] := gfl
            simp at e
            exact ⟨e.1.symm, e.2.1.symm, e.2.2⟩
          have hyk := HROT.out j hlt
          rw [hy] at hyk
          obtain ⟨bk, ok, hka, k0, k1⟩ := (HKS.out.chg hcur).item hyk.symm
          obtain ⟨rfl, rfl⟩ : kb = bk ∧ ko = ok := by simpa using hka
          have jl : j < ks.length := by have := HKRL.out; omega
          have jj0 : (0 : Int) ≤ (j : Int) := by omega
          have jj1 : (j : Int) < (KR.length : Int) := by omega
          have r0 : (0 : Int) ≤ (i : Int) + (j : Int) := by omega
          have r1 : IntKind.i64.wrap ((i : Int) + (j : Int)) = (i : Int) + (j : Int) := IntWalk.i64_in _ (by have := HKL.out; omega)
          have r2 : ((i : Int) + (j : Int)) % (ks.length : Int) = (((i + j) % ks.length : Nat) : Int) := by first | (simp; done) | (push_cast; rfl) | rw [Int.natCast_emod, Int.natCast_add]
          have r3 : (0 : Int) ≤ (((i + j) % ks.length : Nat) : Int) := by omega
          have r4 : (((i + j) % ks.length : Nat) : Int) < (ks.length : Int) := by have := Nat.mod_lt (i + j) (show 0 < ks.length by omega); omega
          have R2 := r2
          generalize (i + j) % ks.length = q at r2 R2 r3 r4 k0 k1
          have r5 : ((i : Int) + (j : Int)).tmod (ks.length : Int) = (q : Int) := by rw [Int.tmod_eq_emod_of_nonneg r0]; exact r2
          have r6 : IntKind.i64.wrap (q : Int) = (q : Int) := IntWalk.i64_in _ (by have := HKL.out; omega)
          have r7 : ¬ ks = [] := fun h => by rw [h] at hkp; simp at hkp
          clear R2 gfl hka hy hyk
          go_wp2_with fail
          refine name_world (fun wx => Chg (fun _ _ => False) wr wx ∧ wx.heap[wr.heap.size]? = some (.cells #[.int .i64 y.1, .int .i64 y.2, .bool true] 36 (0, 0))) ⟨?_, ?_⟩ ?_
          · repeat (first | refine Chg.drew ?_ | refine Chg.drewN ?_ _ | refine Chg.setCellNew ?_ (by simp) _ | refine Chg.alloc ?_ _ | exact Chg.refl _ _)
          · exact ha_at _ _ rfl
          rintro wx ⟨hcx, hbx⟩
          have x0 := cell_of_block hbx 0
          have x1 := cell_of_block hbx 1
          have x2 := cell_of_block hbx 2
          simp only [List.getElem?_toArray, List.getElem?_cons_zero, List.getElem?_cons_succ] at x0 x1 x2
          replace k0 := hcx.cell (fun h => h) k0
          replace k1 := hcx.cell (fun h => h) k1
          clear hbx g0 g1 g2
          refine wp_region_scr (fun w' => w'.cell? ⟨wr.heap.size, 0, none⟩ = some (.int .i64 y.1) ∧ w'.cell? ⟨wr.heap.size, 1, none⟩ = some (.int .i64 y.2) ∧ w'.cell? ⟨wr.heap.size, 2, none⟩ = some (.bool true) ∧ w'.cell? ⟨kb, ko + q * 2, none⟩ = some (.int .i64 y.1) ∧ w'.cell? ⟨kb, ko + q * 2 + 1, none⟩ = some (.int .i64 y.2)) (.soft 0 (.soft 1 (.soft 2 (.soft 3 (.soft 4 (.soft 5 (.soft 6 (.soft 7 (.soft 8 (.soft 9 (.soft 10 (.soft 11 .nil)))))))))))) (by kernel_rfl) (by kernel_rfl) (fun _ _ _ _ _ h => h) ⟨x0, x1, x2, k0, k1⟩ ?_
          repeat
            first
            | (refine scr_soft (by rfl) ?_ ?_ ?_ ?_
               rotate_left
               · simp [Region.wanted, yielded]; done
               · intro w' hS
                 try obtain ⟨a1, a2, a3, a4, a5⟩ := hS
                 go_simp
                 try with_reducible rfl
               simp only [Act.put, List.setIfInBounds_toArray, List.set_cons_zero, List.set_cons_succ])
            | (refine scr_skip (by rfl) ?_ ?_
               · simp [Region.wanted, yielded]; done
               simp only [Act.put, List.setIfInBounds_toArray, List.set_cons_zero, List.set_cons_succ])
          refine scr_nil ?_
          go_wp2_with fail
          go_roundw
          case rel => exact ⟨j + 1, by go_num, by omega, hcr.trans hcx.drew⟩
          case measure => simp [intOf]; omega
        · obtain rfl : j = KR.length := by omega
          have e1 : ((KR.length : Int) == (ks.length : Int)) = true := by rw [HKRL.out]; simp
          have e2 : ¬ (KR.length : Int) < (KR.length : Int) := by omega
          go_wp2_with fail
          refine (G4.out _ hcur).mono ?_
          rintro e w10 ⟨v10, rfl, how10, hst10⟩
          go_wp2_with fail
          refine (equal_item _ _ _ _ (HU.out.chg (hcr.trans hst10)) how10.sl (by have := HLN.out; rw [HLB.out]; omega)).mono ?_
          rintro e w11 ⟨rfl, hst11⟩
          go_wp2_with fail
          refine (alive_any _).mono ?_
          rintro e w12 ⟨rfl, hst12⟩
          go_wp2_with fail
          go_ret
          exact ⟨rfl, ((hcur.trans hst10).trans hst11).trans hst12⟩
    · skip
      go_simp
      have hcb := (Chg.refl (fun _ _ => False) wb1).alloc (.cells #[.slice (some ⟨kb, ko + i * 2, none⟩) (ks.length - i) (kcap - i), .slice (some ⟨kb, ko, none⟩) i kcap] 25)
      refine hK _ _ ⟨hcb.cell (fun h => h) m0, hcb.cell (fun h => h) m1, hcb.cell (fun h => h) m2⟩ ?_
      clear hK K
      refine name_scr (fun wn => Chg (fun _ _ => False) wb1 wn ∧ wn.heap[wb1.heap.size]? = some (.cells #[.slice (some ⟨kb, ko + i * 2, none⟩) (ks.length - i) (kcap - i), .slice (some ⟨kb, ko, none⟩) i kcap] 25 (0, 0))) ⟨hcb, ha_at _ _ rfl⟩ ?_
      clear hcb
      rintro wb2 ⟨hst, hb⟩
      replace m0 := hst.cell (fun h => h) m0
      replace m1 := hst.cell (fun h => h) m1
      replace m2 := hst.cell (fun h => h) m2
      replace hcu := hcu.trans hst
      have HB2 := Lib.hid hb
      clear hb
      replace HB1 := Lib.hid (show wb2.heap[w7.drew.heap.size]? = some (.cells #[.slice p l.length cap, .slice (some ⟨kb, ko, none⟩) ks.length kcap] 25 (0, 0)) from by rw [hst.block (heap_lt HB1.out) (fun _ h => h)]; exact HB1.out)
      clear hst
      repeat
        first
        | (refine scr_soft (by rfl) ?_ ?_ ?_ ?_
           rotate_left
           · simp [Region.wanted, yielded]; done
           · intro w' hS
             try obtain ⟨a1, a2, a3⟩ := hS
             go_simp
             try with_reducible rfl
           simp only [Act.put, List.setIfInBounds_toArray, List.set_cons_zero, List.set_cons_succ])
        | (refine scr_skip (by rfl) ?_ ?_
           · simp [Region.wanted, yielded]; done
           simp only [Act.put, List.setIfInBounds_toArray, List.set_cons_zero, List.set_cons_succ])
      refine scr_hard (by rfl) (by simp [Region.wanted, yielded]) (fun K hK => ?_)
      go_simp
      refine (concat_two w7.drew.heap.size 2 (.slice p l.length cap) (.slice (some ⟨kb, ko, none⟩) ks.length kcap) l ks _ HB1.out ((HL.out.chg hcu).sl HCL) (HKS.out.chg hcu) (by have := HLN.out; have := HKL.out; omega)).mono ?_
      rintro e wc1 ⟨vc1, rfl, hc1, hst⟩
      replace m0 := hst.cell (fun h => h) m0
      replace m1 := hst.cell (fun h => h) m1
      replace m2 := hst.cell (fun h => h) m2
      replace hcu := hcu.trans hst
      have HC1 := Lib.hid hc1.sl
      refine hK _ _ ⟨m0, m1, m2⟩ ?_
      clear hK K
      replace HB2 := Lib.hid (show wc1.heap[wb1.heap.size]? = some (.cells #[.slice (some ⟨kb, ko + i * 2, none⟩) (ks.length - i) (kcap - i), .slice (some ⟨kb, ko, none⟩) i kcap] 25 (0, 0)) from by rw [hst.block (heap_lt HB2.out) (fun _ h => h)]; exact HB2.out)
      clear hst
      repeat
        first
        | (refine scr_soft (by rfl) ?_ ?_ ?_ ?_
           rotate_left
           · simp [Region.wanted, yielded]; done
           · intro w' hS
             try obtain ⟨a1, a2, a3⟩ := hS
             go_simp
             try with_reducible rfl
           simp only [Act.put, List.setIfInBounds_toArray, List.set_cons_zero, List.set_cons_succ])
        | (refine scr_skip (by rfl) ?_ ?_
           · simp [Region.wanted, yielded]; done
           simp only [Act.put, List.setIfInBounds_toArray, List.set_cons_zero, List.set_cons_succ])
      refine scr_hard (by rfl) (by simp [Region.wanted, yielded]) (fun K hK => ?_)
      go_simp
      refine (concat_two wb1.heap.size 2 (.slice (some ⟨kb, ko + i * 2, none⟩) (ks.length - i) (kcap - i)) (.slice (some ⟨kb, ko, none⟩) i kcap) (ks.drop i) (ks.take i) _ HB2.out ((HKS.out.chg hcu).drop i (Nat.le_of_lt hil)) ((HKS.out.chg hcu).take i (Nat.le_of_lt hil)) (by have := HKL.out; simp; omega)).mono ?_
      rintro e wc2 ⟨vc2, rfl, hc2, hst⟩
      replace m0 := hst.cell (fun h => h) m0
      replace m1 := hst.cell (fun h => h) m1
      replace m2 := hst.cell (fun h => h) m2
      replace hcu := hcu.trans hst
      have HC2 := Lib.hid (show SlE itemE wc2 vc2 KR from HKR.out ▸ hc2.sl)
      refine hK _ _ ⟨m0, m1, m2⟩ ?_
      clear hK K
      replace HC1 := Lib.hid (HC1.out.chg hst)
      clear hst
      repeat
        first
        | (refine scr_soft (by rfl) ?_ ?_ ?_ ?_
           rotate_left
           · simp [Region.wanted, yielded]; done
           · intro w' hS
             try obtain ⟨a1, a2, a3⟩ := hS
             go_simp
             try with_reducible rfl
           simp only [Act.put, List.setIfInBounds_toArray, List.set_cons_zero, List.set_cons_succ])
        | (refine scr_skip (by rfl) ?_ ?_
           · simp [Region.wanted, yielded]; done
           simp only [Act.put, List.setIfInBounds_toArray, List.set_cons_zero, List.set_cons_succ])
      refine scr_hard (by rfl) (by simp [Region.wanted, yielded]) (fun K hK => ?_)
      go_simp
      refine (G5.out _ hcu _ _ HC1.out HC2.out).mono ?_
      rintro e w9 ⟨v9, u9, rfl, how9, hou9, hst⟩
      replace m0 := hst.cell (fun h => h) m0
      replace m1 := hst.cell (fun h => h) m1
      replace m2 := hst.cell (fun h => h) m2
      replace hcu := hcu.trans hst
      refine hK _ _ ⟨m0, m1, m2⟩ ?_
      clear hK K
      repeat
        first
        | (refine scr_soft (by rfl) ?_ ?_ ?_ ?_
           rotate_left
           · simp [Region.wanted, yielded]; done
           · intro w' hS
             try obtain ⟨a1, a2, a3⟩ := hS
             go_simp
             try with_reducible rfl
           simp only [Act.put, List.setIfInBounds_toArray, List.set_cons_zero, List.set_cons_succ])
        | (refine scr_skip (by rfl) ?_ ?_
           · simp [Region.wanted, yielded]; done
           simp only [Act.put, List.setIfInBounds_toArray, List.set_cons_zero, List.set_cons_succ])
      refine scr_nil ?_
      have h9 := how9.form
      rw [List.length_map] at h9
      obtain ⟨a9, c9, rfl⟩ := h9
      have HF := Lib.hid how9
      have HU := Lib.hid hou9
      obtain ⟨au, cu, rfl⟩ := hou9.form
      clear how9 hou9 hst
      go_wp2_with fail
      go_loopw [79] (fun iv wr => ∃ (j : Nat), iv = .int .i64 j ∧ j ≤ KR.length ∧ Chg (fun _ _ => False) w9 wr) (fun iv _ => KR.length - (intOf iv).toNat)
      case atStart => exact ⟨0, rfl, Nat.zero_le _, Chg.refl _ _⟩
      case round =>
        obtain ⟨j, rfl, hj, hcr⟩ := hrel
        replace m0 := hcr.cell (fun h => h) m0
        replace m1 := hcr.cell (fun h => h) m1
        replace m2 := hcr.cell (fun h => h) m2
        have hcur := hcu.trans hcr
        by_cases hlt : j < KR.length
        · obtain ⟨y, hy⟩ : ∃ y, KR[j]? = some y := ⟨_, List.getElem?_eq_getElem hlt⟩
          obtain ⟨bf, of, gk, gv, gq, rfl, g0, g1, g2, gfl⟩ := (HF.out.chg hcr).found (j := j) (x := some y) (by rw [List.getElem?_map, hy]; rfl)
          obtain ⟨rfl, rfl, rfl⟩ : gk = y.1 ∧ gv = y.2 ∧ gq = true := by
            have e : ([.int .i64 y.1, .int .i64 y.2, .bool true] : List Value) = [.int .i64 gk, .int .i64 gv, .bool gq] := gfl
            simp at e
            exact ⟨e.1.symm, e.2.1.symm, e.2.2⟩
          have hyk := HROT.out j hlt
          rw [hy] at hyk
          obtain ⟨bk, ok, hka, k0, k1⟩ := (HKS.out.chg hcur).item hyk.symm
          obtain ⟨rfl, rfl⟩ : kb = bk ∧ ko = ok := by simpa using hka
          have jl : j < ks.length := by have := HKRL.out; omega
          have jj0 : (0 : Int) ≤ (j : Int) := by omega
          have jj1 : (j : Int) < (KR.length : Int) := by omega
          have r0 : (0 : Int) ≤ (i : Int) + (j : Int) := by omega
          have r1 : IntKind.i64.wrap ((i : Int) + (j : Int)) = (i : Int) + (j : Int) := IntWalk.i64_in _ (by have := HKL.out; omega)
          have r2 : ((i : Int) + (j : Int)) % (ks.length : Int) = (((i + j) % ks.length : Nat) : Int) := by first | (simp; done) | (push_cast; rfl) | rw [Int.natCast_emod, Int.natCast_add]
          have r3 : (0 : Int) ≤ (((i + j) % ks.length : Nat) : Int) := by omega
          have r4 : (((i + j) % ks.length : Nat) : Int) < (ks.length : Int) := by have := Nat.mod_lt (i + j) (show 0 < ks.length by omega); omega
          have R2 := r2
          generalize (i + j) % ks.length = q at r2 R2 r3 r4 k0 k1
          have r5 : ((i : Int) + (j : Int)).tmod (ks.length : Int) = (q : Int) := by rw [Int.tmod_eq_emod_of_nonneg r0]; exact r2
          have r6 : IntKind.i64.wrap (q : Int) = (q : Int) := IntWalk.i64_in _ (by have := HKL.out; omega)
          have r7 : ¬ ks = [] := fun h => by rw [h] at hkp; simp at hkp
          clear R2 gfl hka hy hyk
          go_wp2_with fail
          refine name_world (fun wx => Chg (fun _ _ => False) wr wx ∧ wx.heap[wr.heap.size]? = some (.cells #[.int .i64 y.1, .int .i64 y.2, .bool true] 36 (0, 0))) ⟨?_, ?_⟩ ?_
          · repeat (first | refine Chg.drew ?_ | refine Chg.drewN ?_ _ | refine Chg.setCellNew ?_ (by simp) _ | refine Chg.alloc ?_ _ | exact Chg.refl _ _)
          · exact ha_at _ _ rfl
          rintro wx ⟨hcx, hbx⟩
          have x0 := cell_of_block hbx 0
          have x1 := cell_of_block hbx 1
          have x2 := cell_of_block hbx 2
          simp only [List.getElem?_toArray, List.getElem?_cons_zero, List.getElem?_cons_succ] at x0 x1 x2
          replace k0 := hcx.cell (fun h => h) k0
          replace k1 := hcx.cell (fun h => h) k1
          clear hbx g0 g1 g2
          refine wp_region_scr (fun w' => w'.cell? ⟨wr.heap.size, 0, none⟩ = some (.int .i64 y.1) ∧ w'.cell? ⟨wr.heap.size, 1, none⟩ = some (.int .i64 y.2) ∧ w'.cell? ⟨wr.heap.size, 2, none⟩ = some (.bool true) ∧ w'.cell? ⟨kb, ko + q * 2, none⟩ = some (.int .i64 y.1) ∧ w'.cell? ⟨kb, ko + q * 2 + 1, none⟩ = some (.int .i64 y.2)) (.soft 0 (.soft 1 (.soft 2 (.soft 3 (.soft 4 (.soft 5 (.soft 6 (.soft 7 (.soft 8 (.soft 9 (.soft 10 (.soft 11 .nil)))))))))))) (by kernel_rfl) (by kernel_rfl) (fun _ _ _ _ _ h => h) ⟨x0, x1, x2, k0, k1⟩ ?_
          repeat
            first
            | (refine scr_soft (by rfl) ?_ ?_ ?_ ?_
               rotate_left
               · simp [Region.wanted, yielded]; done
               · intro w' hS
                 try obtain ⟨a1, a2, a3, a4, a5⟩ := hS
                 go_simp
                 try with_reducible rfl
               simp only [Act.put, List.setIfInBounds_toArray, List.set_cons_zero, List.set_cons_succ])
            | (refine scr_skip (by rfl) ?_ ?_
               · simp [Region.wanted, yielded]; done
               simp only [Act.put, List.setIfInBounds_toArray, List.set_cons_zero, List.set_cons_succ])
          refine scr_nil ?_
          go_wp2_with fail
          go_roundw
          case rel => exact ⟨j + 1, by go_num, by omega, hcr.trans hcx.drew⟩
          case measure => simp [intOf]; omega
        · obtain rfl : j = KR.length := by omega
          have e1 : ((KR.length : Int) == (ks.length : Int)) = true := by rw [HKRL.out]; simp
          have e2 : ¬ (KR.length : Int) < (KR.length : Int) := by omega
          go_wp2_with fail
          refine (G4.out _ hcur).mono ?_
          rintro e w10 ⟨v10, rfl, how10, hst10⟩
          go_wp2_with fail
          refine (equal_item _ _ _ _ (HU.out.chg (hcr.trans hst10)) how10.sl (by have := HLN.out; rw [HLB.out]; omega)).mono ?_
          rintro e w11 ⟨rfl, hst11⟩
          go_wp2_with fail
          refine (alive_any _).mono ?_
          rintro e w12 ⟨rfl, hst12⟩
          go_wp2_with fail
          go_ret
          exact ⟨rfl, ((hcur.trans hst10).trans hst11).trans hst12⟩
  · skip
    go_simp
    have hcb := (Chg.refl (fun _ _ => False) w7.drew).alloc (.cells #[.slice (some ⟨kb, ko + i * 2, none⟩) (ks.length - i) (kcap - i), .slice (some ⟨kb, ko, none⟩) i kcap] 25)
    refine hK _ _ ⟨hcb.cell (fun h => h) m0, hcb.cell (fun h => h) m1, hcb.cell (fun h => h) m2⟩ ?_
    clear hK K
    refine name_scr (fun wn => Chg (fun _ _ => False) w7.drew wn ∧ wn.heap[w7.drew.heap.size]? = some (.cells #[.slice (some ⟨kb, ko + i * 2, none⟩) (ks.length - i) (kcap - i), .slice (some ⟨kb, ko, none⟩) i kcap] 25 (0, 0))) ⟨hcb, ha_at _ _ rfl⟩ ?_
    clear hcb
    rintro wb2 ⟨hst, hb⟩
    replace m0 := hst.cell (fun h => h) m0
    replace m1 := hst.cell (fun h => h) m1
    replace m2 := hst.cell (fun h => h) m2
    replace hcu := hcu.trans hst
    have HB2 := Lib.hid hb
    clear hb
    clear hst
    repeat
      first
      | (refine scr_soft (by rfl) ?_ ?_ ?_ ?_
         rotate_left
         · simp [Region.wanted, yielded]; done
         · intro w' hS
           try obtain ⟨a1, a2, a3⟩ := hS
           go_simp
           try with_reducible rfl
         simp only [Act.put, List.setIfInBounds_toArray, List.set_cons_zero, List.set_cons_succ])
      | (refine scr_skip (by rfl) ?_ ?_
         · simp [Region.wanted, yielded]; done
         simp only [Act.put, List.setIfInBounds_toArray, List.set_cons_zero, List.set_cons_succ])
    refine scr_hard (by rfl) (by simp [Region.wanted, yielded]) (fun K hK => ?_)
    go_simp
    have hcb := (Chg.refl (fun _ _ => False) wb2).alloc (.cells #[.slice p l.length cap, .slice (some ⟨kb, ko, none⟩) ks.length kcap] 25)
    refine hK _ _ ⟨hcb.cell (fun h => h) m0, hcb.cell (fun h => h) m1, hcb.cell (fun h => h) m2⟩ ?_
    clear hK K
    refine name_scr (fun wn => Chg (fun _ _ => False) wb2 wn ∧ wn.heap[wb2.heap.size]? = some (.cells #[.slice p l.length cap, .slice (some ⟨kb, ko, none⟩) ks.length kcap] 25 (0, 0))) ⟨hcb, ha_at _ _ rfl⟩ ?_
    clear hcb
    rintro wb1 ⟨hst, hb⟩
    replace m0 := hst.cell (fun h => h) m0
    replace m1 := hst.cell (fun h => h) m1
    replace m2 := hst.cell (fun h => h) m2
    replace hcu := hcu.trans hst
    have HB1 := Lib.hid hb
    clear hb
    replace HB2 := Lib.hid (show wb1.heap[w7.drew.heap.size]? = some (.cells #[.slice (some ⟨kb, ko + i * 2, none⟩) (ks.length - i) (kcap - i), .slice (some ⟨kb, ko, none⟩) i kcap] 25 (0, 0)) from by rw [hst.block (heap_lt HB2.out) (fun _ h => h)]; exact HB2.out)
    clear hst
    repeat
      first
      | (refine scr_soft (by rfl) ?_ ?_ ?_ ?_
         rotate_left
         · simp [Region.wanted, yielded]; done
         · intro w' hS
           try obtain ⟨a1, a2, a3⟩ := hS
           go_simp
           try with_reducible rfl
         simp only [Act.put, List.setIfInBounds_toArray, List.set_cons_zero, List.set_cons_succ])
      | (refine scr_skip (by rfl) ?_ ?_
         · simp [Region.wanted, yielded]; done
         simp only [Act.put, List.setIfInBounds_toArray, List.set_cons_zero, List.set_cons_succ])
    refine scr_hard (by rfl) (by simp [Region.wanted, yielded]) (fun K hK => ?_)
    go_simp
    refine (concat_two wb2.heap.size 2 (.slice p l.length cap) (.slice (some ⟨kb, ko, none⟩) ks.length kcap) l ks _ HB1.out ((HL.out.chg hcu).sl HCL) (HKS.out.chg hcu) (by have := HLN.out; have := HKL.out; omega)).mono ?_
    rintro e wc1 ⟨vc1, rfl, hc1, hst⟩
    replace m0 := hst.cell (fun h => h) m0
    replace m1 := hst.cell (fun h => h) m1
    replace m2 := hst.cell (fun h => h) m2
    replace hcu := hcu.trans hst
    have HC1 := Lib.hid hc1.sl
    refine hK _ _ ⟨m0, m1, m2⟩ ?_
    clear hK K
    replace HB2 := Lib.hid (show wc1.heap[w7.drew.heap.size]? = some (.cells #[.slice (some ⟨kb, ko + i * 2, none⟩) (ks.length - i) (kcap - i), .slice (some ⟨kb, ko, none⟩) i kcap] 25 (0, 0)) from by rw [hst.block (heap_lt HB2.out) (fun _ h => h)]; exact HB2.out)
    clear hst
    repeat
      first
      | (refine scr_soft (by rfl) ?_ ?_ ?_ ?_
         rotate_left
         · simp [Region.wanted, yielded]; done
         · intro w' hS
           try obtain ⟨a1, a2, a3⟩ := hS
           go_simp
           try with_reducible rfl
         simp only [Act.put, List.setIfInBounds_toArray, List.set_cons_zero, List.set_cons_succ])
      | (refine scr_skip (by rfl) ?_ ?_
         · simp [Region.wanted, yielded]; done
         simp only [Act.put, List.setIfInBounds_toArray, List.set_cons_zero, List.set_cons_succ])
    refine scr_hard (by rfl) (by simp [Region.wanted, yielded]) (fun K hK => ?_)
    go_simp
    refine (concat_two w7.drew.heap.size 2 (.slice (some ⟨kb, ko + i * 2, none⟩) (ks.length - i) (kcap - i)) (.slice (some ⟨kb, ko, none⟩) i kcap) (ks.drop i) (ks.take i) _ HB2.out ((HKS.out.chg hcu).drop i (Nat.le_of_lt hil)) ((HKS.out.chg hcu).take i (Nat.le_of_lt hil)) (by have := HKL.out; simp; omega)).mono ?_
    rintro e wc2 ⟨vc2, rfl, hc2, hst⟩
    replace m0 := hst.cell (fun h => h) m0
    replace m1 := hst.cell (fun h => h) m1
    replace m2 := hst.cell (fun h => h) m2
    replace hcu := hcu.trans hst
    have HC2 := Lib.hid (show SlE itemE wc2 vc2 KR from HKR.out ▸ hc2.sl)
    refine hK _ _ ⟨m0, m1, m2⟩ ?_
    clear hK K
    replace HC1 := Lib.hid (HC1.out.chg hst)
    clear hst
    repeat
      first
      | (refine scr_soft (by rfl) ?_ ?_ ?_ ?_
         rotate_left
         · simp [Region.wanted, yielded]; done
         · intro w' hS
           try obtain ⟨a1, a2, a3⟩ := hS
           go_simp
           try with_reducible rfl
         simp only [Act.put, List.setIfInBounds_toArray, List.set_cons_zero, List.set_cons_succ])
      | (refine scr_skip (by rfl) ?_ ?_
         · simp [Region.wanted, yielded]; done
         simp only [Act.put, List.setIfInBounds_toArray, List.set_cons_zero, List.set_cons_succ])
    refine scr_hard (by rfl) (by simp [Region.wanted, yielded]) (fun K hK => ?_)
    go_simp
    refine (G5.out _ hcu _ _ HC1.out HC2.out).mono ?_
    rintro e w9 ⟨v9, u9, rfl, how9, hou9, hst⟩
    replace m0 := hst.cell (fun h => h) m0
    replace m1 := hst.cell (fun h => h) m1
    replace m2 := hst.cell (fun h => h) m2
    replace hcu := hcu.trans hst
    refine hK _ _ ⟨m0, m1, m2⟩ ?_
    clear hK K
    repeat
      first
      | (refine scr_soft (by rfl) ?_ ?_ ?_ ?_
         rotate_left
         · simp [Region.wanted, yielded]; done
         · intro w' hS
           try obtain ⟨a1, a2, a3⟩ := hS
           go_simp
           try with_reducible rfl
         simp only [Act.put, List.setIfInBounds_toArray, List.set_cons_zero, List.set_cons_succ])
      | (refine scr_skip (by rfl) ?_ ?_
         · simp [Region.wanted, yielded]; done
         simp only [Act.put, List.setIfInBounds_toArray, List.set_cons_zero, List.set_cons_succ])
    refine scr_nil ?_
    have h9 := how9.form
    rw [List.length_map] at h9
    obtain ⟨a9, c9, rfl⟩ := h9
    have HF := Lib.hid how9
    have HU := Lib.hid hou9
    obtain ⟨au, cu, rfl⟩ := hou9.form
    clear how9 hou9 hst
    go_wp2_with fail
    go_loopw [79] (fun iv wr => ∃ (j : Nat), iv = .int .i64 j ∧ j ≤ KR.length ∧ Chg (fun _ _ => False) w9 wr) (fun iv _ => KR.length - (intOf iv).toNat)
    case atStart => exact ⟨0, rfl, Nat.zero_le _, Chg.refl _ _⟩
    case round =>
      obtain ⟨j, rfl, hj, hcr⟩ := hrel
      replace m0 := hcr.cell (fun h => h) m0
      replace m1 := hcr.cell (fun h => h) m1
      replace m2 := hcr.cell (fun h => h) m2
      have hcur := hcu.trans hcr
      by_cases hlt : j < KR.length
      · obtain ⟨y, hy⟩ : ∃ y, KR[j]? = some y := ⟨_, List.getElem?_eq_getElem hlt⟩
        obtain ⟨bf, of, gk, gv, gq, rfl, g0, g1, g2, gfl⟩ := (HF.out.chg hcr).found (j := j) (x := some y) (by rw [List.getElem?_map, hy]; rfl)
        obtain ⟨rfl, rfl, rfl⟩ : gk = y.1 ∧ gv = y.2 ∧ gq = true := by
          have e : ([.int .i64 y.1, .int .i64 y.2, .bool true] : List Value) = [.int .i64 gk, .int .i64 gv, .bool gq] := gfl
          simp at e
          exact ⟨e.1.symm, e.2.1.symm, e.2.2⟩
        have hyk := HROT.out j hlt
        rw [hy] at hyk
        obtain ⟨bk, ok, hka, k0, k1⟩ := (HKS.out.chg hcur).item hyk.symm
        obtain ⟨rfl, rfl⟩ : kb = bk ∧ ko = ok := by simpa using hka
        have jl : j < ks.length := by have := HKRL.out; omega
        have jj0 : (0 : Int) ≤ (j : Int) := by omega
        have jj1 : (j : Int) < (KR.length : Int) := by omega
        have r0 : (0 : Int) ≤ (i : Int) + (j : Int) := by omega
        have r1 : IntKind.i64.wrap ((i : Int) + (j : Int)) = (i : Int) + (j : Int) := IntWalk.i64_in _ (by have := HKL.out; omega)
        have r2 : ((i : Int) + (j : Int)) % (ks.length : Int) = (((i + j) % ks.length : Nat) : Int) := by first | (simp; done) | (push_cast; rfl) | rw [Int.natCast_emod, Int.natCast_add]
        have r3 : (0 : Int) ≤ (((i + j) % ks.length : Nat) : Int) := by omega
        have r4 : (((i + j) % ks.length : Nat) : Int) < (ks.length : Int) := by have := Nat.mod_lt (i + j) (show 0 < ks.length by omega); omega
        have R2 := r2
        generalize (i + j) % ks.length = q at r2 R2 r3 r4 k0 k1
        have r5 : ((i : Int) + (j : Int)).tmod (ks.length : Int) = (q : Int) := by rw [Int.tmod_eq_emod_of_nonneg r0]; exact r2
        have r6 : IntKind.i64.wrap (q : Int) = (q : Int) := IntWalk.i64_in _ (by have := HKL.out; omega)
        have r7 : ¬ ks = [] := fun h => by rw [h] at hkp; simp at hkp
        clear R2 gfl hka hy hyk
        go_wp2_with fail
        refine name_world (fun wx => Chg (fun _ _ => False) wr wx ∧ wx.heap[wr.heap.size]? = some (.cells #[.int .i64 y.1, .int .i64 y.2, .bool true] 36 (0, 0))) ⟨?_, ?_⟩ ?_
        · repeat (first | refine Chg.drew ?_ | refine Chg.drewN ?_ _ | refine Chg.setCellNew ?_ (by simp) _ | refine Chg.alloc ?_ _ | exact Chg.refl _ _)
        · exact ha_at _ _ rfl
        rintro wx ⟨hcx, hbx⟩
        have x0 := cell_of_block hbx 0
        have x1 := cell_of_block hbx 1
        have x2 := cell_of_block hbx 2
        simp only [List.getElem?_toArray, List.getElem?_cons_zero, List.getElem?_cons_succ] at x0 x1 x2
        replace k0 := hcx.cell (fun h => h) k0
        replace k1 := hcx.cell (fun h => h) k1
        clear hbx g0 g1 g2
        refine wp_region_scr (fun w' => w'.cell? ⟨wr.heap.size, 0, none⟩ = some (.int .i64 y.1) ∧ w'.cell? ⟨wr.heap.size, 1, none⟩ = some (.int .i64 y.2) ∧ w'.cell? ⟨wr.heap.size, 2, none⟩ = some (.bool true) ∧ w'.cell? ⟨kb, ko + q * 2, none⟩ = some (.int .i64 y.1) ∧ w'.cell? ⟨kb, ko + q * 2 + 1, none⟩ = some (.int .i64 y.2)) (.soft 0 (.soft 1 (.soft 2 (.soft 3 (.soft 4 (.soft 5 (.soft 6 (.soft 7 (.soft 8 (.soft 9 (.soft 10 (.soft 11 .nil)))))))))))) (by kernel_rfl) (by kernel_rfl) (fun _ _ _ _ _ h => h) ⟨x0, x1, x2, k0, k1⟩ ?_
        repeat
          first
          | (refine scr_soft (by rfl) ?_ ?_ ?_ ?_
             rotate_left
             · simp [Region.wanted, yielded]; done
             · intro w' hS
               try obtain ⟨a1, a2, a3, a4, a5⟩ := hS
               go_simp
               try with_reducible rfl
             simp only [Act.put, List.setIfInBounds_toArray, List.set_cons_zero, List.set_cons_succ])
          | (refine scr_skip (by rfl) ?_ ?_
             · simp [Region.wanted, yielded]; done
             simp only [Act.put, List.setIfInBounds_toArray, List.set_cons_zero, List.set_cons_succ])
        refine scr_nil ?_
        go_wp2_with fail
        go_roundw
        case rel => exact ⟨j + 1, by go_num, by omega, hcr.trans hcx.drew⟩
        case measure => simp [intOf]; omega
      · obtain rfl : j = KR.length := by omega
        have e1 : ((KR.length : Int) == (ks.length : Int)) = true := by rw [HKRL.out]; simp
        have e2 : ¬ (KR.length : Int) < (KR.length : Int) := by omega
        go_wp2_with fail
        refine (G4.out _ hcur).mono ?_
        rintro e w10 ⟨v10, rfl, how10, hst10⟩
        go_wp2_with fail
        refine (equal_item _ _ _ _ (HU.out.chg (hcr.trans hst10)) how10.sl (by have := HLN.out; rw [HLB.out]; omega)).mono ?_
        rintro e w11 ⟨rfl, hst11⟩
        go_wp2_with fail
        refine (alive_any _).mono ?_
        rintro e w12 ⟨rfl, hst12⟩
        go_wp2_with fail
        go_ret
        exact ⟨rfl, ((hcur.trans hst10).trans hst11).trans hst12⟩
end Go.Proofs.Ytgdchpinlboejaa

namespace Go.Proofs.Ytgdchpinlboejaa
set_option linter.unusedSimpArgs false
set_option linter.unusedVariables false
open Go.ChangeShapes Go.WideShapes Go.ChangeAt Go.RowKit

namespace fnGUndo
theorem own : ownKnob Try.prog.godebug = none := by kernel_rfl
theorem laid : laidOutB Try.prog = true := by kernel_rfl

set_option maxRecDepth 100000 in
theorem lifted (os : Os) (started : os.Started) (H : Type) (enc : TypeId × Value → H) :
    ReturnsInHanded {} Try.checked os 3 .any (Rows.fnGUndoSpec.pre6 enc Try.prog Try.f3 Rows.fnGUndoRow.domain false) (Rows.fnGUndoSpec.post enc Try.prog Try.f3 false true false false) := by
  refine returnsInHanded_of_change (C := Try.checked) own started (by kernel_rfl) Try.func3
    (ChangeSpec.witness6 (enc := enc) (C := Try.checked) false ⟨#[], #[.agg #[.slice none 0 0, .int .i64 0, .bool false], .slice none 0 0, .slice none 0 0, .int .u8 0], []⟩ 8 (by kernel_rfl) (by kernel_rfl) (by kernel_rfl) (by kernel_rfl)) ?_
  intro W base args ds gs before hval0 hW hcnd _
  have hval : ∀ (j : Nat) t v, Try.f3.params[j]? = some t → args[j]? = some v → Value.okWide Try.prog W .any base t v := hval0
  have hW' := hW
  obtain ⟨p, q, hA0, hV, rfl, hfz, hnd⟩ := hW
  have hA : DataW.TrodAll enc Try.prog W 0 (fun _ => true) true Try.f3.params.toList args.toList ds p := hA0
  rw [Try.params3] at hA hval
  obtain ⟨v0, v1, v2, v3, d0, d1, d2, d3, p0, p1, p2, p3, rfl, rfl, rfl, h0, h1, h2, h3⟩ := trodAll_four hA
  obtain ⟨rfl, rfl⟩ := trodVars_none hV
  obtain ⟨sv, ord, dg, nl, rfl, hs⟩ := open_make (hval 0 24 v0 rfl rfl) h0
  obtain ⟨a, l, cap, rfl, hl, hlc⟩ := open_items Try.underlying25 Try.underlying30 (by kernel_rfl) rfl rfl rfl rfl (by kernel_rfl) Try.underlying3 (hval 1 25 v1 rfl rfl) h1
  obtain ⟨a2, ks, cap2, rfl, hk, hkc⟩ := open_items Try.underlying25 Try.underlying30 (by kernel_rfl) rfl rfl rfl rfl (by kernel_rfl) Try.underlying3 (hval 2 25 v2 rfl rfl) h2
  obtain ⟨nn, rfl, rfl, rfl, hwf⟩ := open_int Try.underlying5 (hval 3 5 v3 rfl rfl) h3
  have hb : 0 ≤ nn ∧ nn ≤ 255 := by have h := hwf; simp only [Lit.wf, Bool.and_eq_true, decide_eq_true_eq] at h; exact h
  refine (law_GUndo sv ord dg nl a cap l _ ks nn hlc hb.1 hb.2 W hs hl (hk.sl hkc)).mono fun e W' ⟨he, hc⟩ => ?_
  subst he
  exact ⟨_, rfl, law_post laid (by kernel_rfl) rfl Try.underlying4 hW' rfl rfl (hc.below (Nat.le_refl _) (fun _ _ _ h => h))⟩

theorem proved : Rows.FnGUndoSaid :=
  OpenClaim.holds_of_wide 3 Try.f3 rfl rfl rfl rfl rfl rfl rfl ⟨rfl, rfl, rfl, rfl, rfl⟩ rfl rfl rfl rfl rfl (by kernel_rfl) Try.func3 (by kernel_rfl)
    (of_decide_eq_true (by kernel_rfl)) (by unfold Func.isWrapper; first | (rw [if_pos (by decide +kernel)]; kernel_rfl) | (rw [if_neg (by decide +kernel)]; exact ⟨rfl, rfl⟩))
    (fun os started H enc _ => lifted os started H enc)
end fnGUndo
end Go.Proofs.Ytgdchpinlboejaa
