/- The law's walk along a set. -/
import Derived.Test.YtjggkpmlffhjgaaIh
namespace Go.Proofs.Ytjggkpmlffhjgaa
set_option linter.unusedSimpArgs false
set_option linter.unusedVariables false
open Go.RowKit

theorem infoMv : (Try.prog.info? 55).map (fun i => (i.zero, i.size, i.bytes)) = some (some (.agg #[.int .i64 0, .int .i64 0, .int .i64 0]), 3, 24) := by kernel_rfl

set_option maxRecDepth 100000 in
set_option maxHeartbeats 1000000 in
theorem walk_fwd (v : Value) (l : List Int) (dv : Value) (bx : Nat) (w : World) (hb : w.cell? ⟨bx, 0, none⟩ = some v) (hs : SlE intE w v l) (hlen : l.length ≤ 2147483647) (hd : SlE intE w dv ((turnL false (growL (l.map itK))).map Prod.fst)) :
    Calls Try.prog 40 #[.int .i64 0, .int .i64 2, dv, .pointer (some ⟨bx, 0, none⟩)] w fun e w' => e = .returned (.bool true) ∧ Chg (fun _ _ => False) w w' := by
  have HSI := Lib.hid (fun kv w1 (c : Chg (fun _ _ => False) w w1) hk => SIter_fwd v l kv w1 (hs.chg c) hlen hk)
  have hgl := growL_lenK l l.length
  rw [List.take_of_length_le (by simp)] at hgl
  generalize growL (l.map itK) = L at HSI hgl hd
  obtain ⟨a0, cap0, rfl⟩ := hs.form
  obtain ⟨a, dcap, hdf⟩ := hd.form
  obtain ⟨n, hn⟩ : ∃ n, L.length = n := ⟨_, rfl⟩
  have hnl : ((turnL false L).map Prod.fst).length = n := by rw [List.length_map, turnL_len, hn]
  rw [hnl] at hdf
  subst hdf
  have HD := Lib.hid hd
  have HNL := Lib.hid hn
  have hn1 : n ≤ 2147483647 := by omega
  obtain ⟨m, hm⟩ : ∃ m, m = n + 1 := ⟨_, rfl⟩
  have HM1 := Lib.hid hm
  have s1 : IntKind.i64.wrap ((n : Int) + 1) = (m : Int) := (by rw [IntWalk.i64_in _ (by omega)]; omega)
  clear hs hd hn hnl
  obtain ⟨i0, hi0, hz0, hz1, hz2⟩ := info_parts infoMv
  go_enter Try.func40, Try.ntmps40
  go_upto_region 2 with fail
  refine name_world (fun w1 => OwnE mvE w1 (.slice (some ⟨w.heap.size, 0, none⟩) 1 1) [0] w.heap.size ∧ Chg (fun _ _ => False) w w1) ⟨.inr ⟨w.heap.size, 0, 1, rfl, Nat.le_refl _, Nat.le_refl _, RowAt.of_block (c := #[.int .i64 0, .int .i64 0, .int .i64 0]) (ha_at _ _ rfl) _ _ (by decide) (by decide) (by intro j hj; rw [Nat.zero_add]; exact (Array.getElem?_toList (xs := (#[.int .i64 0, .int .i64 0, .int .i64 0] : Array Value))).symm)⟩, (Chg.refl _ _).alloc _⟩ ?_
  rintro w1 ⟨how1, hc1⟩
  have hs1 := hc1.size
  have HO1 := Lib.hid how1
  clear how1
  clear hm
  go_wp2_with fail
  go_loopw [8, 17] (fun v i wr => ∃ (j : Nat), j ≤ n ∧ i = .int .i64 j ∧ OwnE mvE wr v (0 :: List.replicate j 2) w.heap.size ∧ Chg (fun _ _ => False) w wr) (fun _ i _ => n - (intOf i).toNat)
  case atStart => exact ⟨0, Nat.zero_le _, rfl, HO1.out, hc1⟩
  case round =>
    obtain ⟨j, hj, rfl, how, hc⟩ := hrel
    have hsz := hc.size
    by_cases hlt : j < n
    · have i0' : (0 : Int) ≤ (j : Int) := by omega
      have i1 : (j : Int) < (n : Int) := by omega
      have hca := (Chg.refl (fun _ _ => False) wr).alloc (.cells #[.int .i64 2, .int .i64 0, .int .i64 0] 55)
      have HOW := Lib.hid (how.keep hca)
      have hc2 := hc.trans hca
      have hll : (0 :: List.replicate j 2 : List Int).length ≤ 2147483648 := by rw [List.length_cons, List.length_replicate]; omega
      clear how hca
      go_wp2_with (refine wpList_append_E mvE (by rfl) _ _ _ (by rfl) i0 _ 24 Try.underlying56 hi0 hz0 hz1 hz2 rfl _ (by rfl) _ w.heap.size HOW.out hc2.size ⟨wr.heap.size, 0, none⟩ 1 _ (by rfl) [(2 : Int)] rfl (by decide) ?_ ?_ ?_ ?_)
      · exact El.src1 mvE (c := #[.int .i64 2, .int .i64 0, .int .i64 0]) (ha_at _ _ (by first | rfl | simp)) _ rfl
      · unfold maxLen; omega
      · omega
      intro v' w' g1 g2 _
      have hc3 : Chg (fun _ _ => False) w w' := hc2.trans' g2 (fun _ _ _ h => h) (fun b o hb h => by omega)
      have hrep : (0 :: List.replicate j 2 : List Int) ++ [2] = 0 :: List.replicate (j + 1) 2 := by rw [List.cons_append, List.replicate_succ']
      have HREP := Lib.hid hrep
      clear hrep
      go_wp2
      go_roundw
      case rel => exact ⟨j + 1, by omega, by go_num, by rw [← HREP.out]; exact g1, hc3⟩
      case measure => simp [intOf]; omega
    · obtain rfl : j = n := by omega
      have hmv := how.sl
      obtain ⟨am, cm, hmf⟩ := hmv.form
      rw [List.length_cons, List.length_replicate, ← HM1.out] at hmf
      subst hmf
      have hit := HSI.out _ wr hc (by rw [HNL.out]; exact hmv)
      have HIT := Lib.hid hit
      have cb := hc.cell (fun h => h) hb
      clear how hmv hit
      go_wp2_with fail
      refine HIT.out.mono ?_
      rintro e w4 ⟨v4, rfl, hv4, hc4⟩
      obtain ⟨a4, c4, hvf⟩ := hv4.form
      rw [outL_len, HNL.out, ← HM1.out] at hvf
      subst hvf
      have hc04 := hc.trans hc4
      have HV4 := Lib.hid hv4
      have HC04 := Lib.hid hc04
      obtain ⟨b4, o4, k4, q4, hb4, k0, k1, hk4⟩ := hv4.key (j := j) (x := none) (by
        unfold outL
        rw [List.getElem?_append_right (by rw [List.length_map, turnL_len, HNL.out]; exact Nat.le_refl _), List.length_map, turnL_len, HNL.out, Nat.sub_self]; rfl)
      subst hb4
      obtain ⟨rfl, rfl⟩ : (0 : Int) = k4 ∧ false = q4 := by simpa [keyL] using hk4
      have i0' : (0 : Int) ≤ (j : Int) := by omega
      have i1 : (j : Int) < (m : Int) := by have := HM1.out; omega
      have hcmp : ((m : Int) != (m : Int)) = false := by simp
      clear hv4 hc04 hk4 hb HIT hc4 hc
      go_wp2_with fail
      go_loopw [44] (fun i wr => ∃ (q : Nat), q ≤ j ∧ i = .int .i64 q ∧ Chg (fun _ _ => False) w4 wr) (fun i _ => j - (intOf i).toNat)
      case atStart => exact ⟨0, Nat.zero_le _, rfl, Chg.refl _ _⟩
      case round =>
        obtain ⟨q, hq, rfl, hcr⟩ := hrel
        by_cases hlt2 : q < j
        · obtain ⟨y, hy⟩ : ∃ y, (turnL false L)[q]? = some y := ⟨_, List.getElem?_eq_getElem (by rw [turnL_len, HNL.out]; exact hlt2)⟩
          obtain ⟨bd, od, hbd, d0⟩ := (HD.out.chg (HC04.out.trans hcr)).int (j := q) (x := y.1) (by rw [List.getElem?_map, hy]; rfl)
          subst hbd
          obtain ⟨b5, o5, k5, q5, hb5, e0, e1, hk5⟩ := (HV4.out.chg hcr).key (j := q) (x := some y.1) (by
            unfold outL
            rw [List.getElem?_append_left (by rw [List.length_map, turnL_len, HNL.out]; exact hlt2), List.getElem?_map, hy]; rfl)
          obtain ⟨rfl, rfl⟩ : b4 = b5 ∧ o4 = o5 := by simpa using hb5
          obtain ⟨rfl, rfl⟩ : y.1 = k5 ∧ true = q5 := by simpa [keyL] using hk5
          have x0 : (0 : Int) ≤ (q : Int) := by omega
          have x1 : (q : Int) < (j : Int) := by omega
          have x2 : (q : Int) < (m : Int) := by have := HM1.out; omega
          clear hy hk5 hb5 k0 k1
          go_wp2_with fail
          go_roundw
          case rel => exact ⟨q + 1, by omega, by go_num, hcr⟩
          case measure => simp [intOf]; omega
        · obtain rfl : q = j := by omega
          go_wp2_with fail
          go_ret
          exact ⟨rfl, HC04.out.trans hcr⟩

set_option maxRecDepth 100000 in
set_option maxHeartbeats 1000000 in
theorem walk_bwd (v : Value) (l : List Int) (dv : Value) (bx : Nat) (w : World) (hb : w.cell? ⟨bx, 0, none⟩ = some v) (hs : SlE intE w v l) (hlen : l.length ≤ 2147483647) (hd : SlE intE w dv ((turnL true (growL (l.map itK))).map Prod.fst)) :
    Calls Try.prog 40 #[.int .i64 1, .int .i64 3, dv, .pointer (some ⟨bx, 0, none⟩)] w fun e w' => e = .returned (.bool true) ∧ Chg (fun _ _ => False) w w' := by
  have HSI := Lib.hid (fun kv w1 (c : Chg (fun _ _ => False) w w1) hk => SIter_bwd v l kv w1 (hs.chg c) hlen hk)
  have hgl := growL_lenK l l.length
  rw [List.take_of_length_le (by simp)] at hgl
  generalize growL (l.map itK) = L at HSI hgl hd
  obtain ⟨a0, cap0, rfl⟩ := hs.form
  obtain ⟨a, dcap, hdf⟩ := hd.form
  obtain ⟨n, hn⟩ : ∃ n, L.length = n := ⟨_, rfl⟩
  have hnl : ((turnL true L).map Prod.fst).length = n := by rw [List.length_map, turnL_len, hn]
  rw [hnl] at hdf
  subst hdf
  have HD := Lib.hid hd
  have HNL := Lib.hid hn
  have hn1 : n ≤ 2147483647 := by omega
  obtain ⟨m, hm⟩ : ∃ m, m = n + 1 := ⟨_, rfl⟩
  have HM1 := Lib.hid hm
  have s1 : IntKind.i64.wrap ((n : Int) + 1) = (m : Int) := (by rw [IntWalk.i64_in _ (by omega)]; omega)
  clear hs hd hn hnl
  obtain ⟨i0, hi0, hz0, hz1, hz2⟩ := info_parts infoMv
  go_enter Try.func40, Try.ntmps40
  go_upto_region 2 with fail
  refine name_world (fun w1 => OwnE mvE w1 (.slice (some ⟨w.heap.size, 0, none⟩) 1 1) [1] w.heap.size ∧ Chg (fun _ _ => False) w w1) ⟨.inr ⟨w.heap.size, 0, 1, rfl, Nat.le_refl _, Nat.le_refl _, RowAt.of_block (c := #[.int .i64 1, .int .i64 0, .int .i64 0]) (ha_at _ _ rfl) _ _ (by decide) (by decide) (by intro j hj; rw [Nat.zero_add]; exact (Array.getElem?_toList (xs := (#[.int .i64 1, .int .i64 0, .int .i64 0] : Array Value))).symm)⟩, (Chg.refl _ _).alloc _⟩ ?_
  rintro w1 ⟨how1, hc1⟩
  have hs1 := hc1.size
  have HO1 := Lib.hid how1
  clear how1
  clear hm
  go_wp2_with fail
  go_loopw [8, 17] (fun v i wr => ∃ (j : Nat), j ≤ n ∧ i = .int .i64 j ∧ OwnE mvE wr v (1 :: List.replicate j 3) w.heap.size ∧ Chg (fun _ _ => False) w wr) (fun _ i _ => n - (intOf i).toNat)
  case atStart => exact ⟨0, Nat.zero_le _, rfl, HO1.out, hc1⟩
  case round =>
    obtain ⟨j, hj, rfl, how, hc⟩ := hrel
    have hsz := hc.size
    by_cases hlt : j < n
    · have i0' : (0 : Int) ≤ (j : Int) := by omega
      have i1 : (j : Int) < (n : Int) := by omega
      have hca := (Chg.refl (fun _ _ => False) wr).alloc (.cells #[.int .i64 3, .int .i64 0, .int .i64 0] 55)
      have HOW := Lib.hid (how.keep hca)
      have hc2 := hc.trans hca
      have hll : (1 :: List.replicate j 3 : List Int).length ≤ 2147483648 := by rw [List.length_cons, List.length_replicate]; omega
      clear how hca
      go_wp2_with (refine wpList_append_E mvE (by rfl) _ _ _ (by rfl) i0 _ 24 Try.underlying56 hi0 hz0 hz1 hz2 rfl _ (by rfl) _ w.heap.size HOW.out hc2.size ⟨wr.heap.size, 0, none⟩ 1 _ (by rfl) [(3 : Int)] rfl (by decide) ?_ ?_ ?_ ?_)
      · exact El.src1 mvE (c := #[.int .i64 3, .int .i64 0, .int .i64 0]) (ha_at _ _ (by first | rfl | simp)) _ rfl
      · unfold maxLen; omega
      · omega
      intro v' w' g1 g2 _
      have hc3 : Chg (fun _ _ => False) w w' := hc2.trans' g2 (fun _ _ _ h => h) (fun b o hb h => by omega)
      have hrep : (1 :: List.replicate j 3 : List Int) ++ [3] = 1 :: List.replicate (j + 1) 3 := by rw [List.cons_append, List.replicate_succ']
      have HREP := Lib.hid hrep
      clear hrep
      go_wp2
      go_roundw
      case rel => exact ⟨j + 1, by omega, by go_num, by rw [← HREP.out]; exact g1, hc3⟩
      case measure => simp [intOf]; omega
    · obtain rfl : j = n := by omega
      have hmv := how.sl
      obtain ⟨am, cm, hmf⟩ := hmv.form
      rw [List.length_cons, List.length_replicate, ← HM1.out] at hmf
      subst hmf
      have hit := HSI.out _ wr hc (by rw [HNL.out]; exact hmv)
      have HIT := Lib.hid hit
      have cb := hc.cell (fun h => h) hb
      clear how hmv hit
      go_wp2_with fail
      refine HIT.out.mono ?_
      rintro e w4 ⟨v4, rfl, hv4, hc4⟩
      obtain ⟨a4, c4, hvf⟩ := hv4.form
      rw [outL_len, HNL.out, ← HM1.out] at hvf
      subst hvf
      have hc04 := hc.trans hc4
      have HV4 := Lib.hid hv4
      have HC04 := Lib.hid hc04
      obtain ⟨b4, o4, k4, q4, hb4, k0, k1, hk4⟩ := hv4.key (j := j) (x := none) (by
        unfold outL
        rw [List.getElem?_append_right (by rw [List.length_map, turnL_len, HNL.out]; exact Nat.le_refl _), List.length_map, turnL_len, HNL.out, Nat.sub_self]; rfl)
      subst hb4
      obtain ⟨rfl, rfl⟩ : (0 : Int) = k4 ∧ false = q4 := by simpa [keyL] using hk4
      have i0' : (0 : Int) ≤ (j : Int) := by omega
      have i1 : (j : Int) < (m : Int) := by have := HM1.out; omega
      have hcmp : ((m : Int) != (m : Int)) = false := by simp
      clear hv4 hc04 hk4 hb HIT hc4 hc
      go_wp2_with fail
      go_loopw [44] (fun i wr => ∃ (q : Nat), q ≤ j ∧ i = .int .i64 q ∧ Chg (fun _ _ => False) w4 wr) (fun i _ => j - (intOf i).toNat)
      case atStart => exact ⟨0, Nat.zero_le _, rfl, Chg.refl _ _⟩
      case round =>
        obtain ⟨q, hq, rfl, hcr⟩ := hrel
        by_cases hlt2 : q < j
        · obtain ⟨y, hy⟩ : ∃ y, (turnL true L)[q]? = some y := ⟨_, List.getElem?_eq_getElem (by rw [turnL_len, HNL.out]; exact hlt2)⟩
          obtain ⟨bd, od, hbd, d0⟩ := (HD.out.chg (HC04.out.trans hcr)).int (j := q) (x := y.1) (by rw [List.getElem?_map, hy]; rfl)
          subst hbd
          obtain ⟨b5, o5, k5, q5, hb5, e0, e1, hk5⟩ := (HV4.out.chg hcr).key (j := q) (x := some y.1) (by
            unfold outL
            rw [List.getElem?_append_left (by rw [List.length_map, turnL_len, HNL.out]; exact hlt2), List.getElem?_map, hy]; rfl)
          obtain ⟨rfl, rfl⟩ : b4 = b5 ∧ o4 = o5 := by simpa using hb5
          obtain ⟨rfl, rfl⟩ : y.1 = k5 ∧ true = q5 := by simpa [keyL] using hk5
          have x0 : (0 : Int) ≤ (q : Int) := by omega
          have x1 : (q : Int) < (j : Int) := by omega
          have x2 : (q : Int) < (m : Int) := by have := HM1.out; omega
          clear hy hk5 hb5 k0 k1
          go_wp2_with fail
          go_roundw
          case rel => exact ⟨q + 1, by omega, by go_num, hcr⟩
          case measure => simp [intOf]; omega
        · obtain rfl : q = j := by omega
          go_wp2_with fail
          go_ret
          exact ⟨rfl, HC04.out.trans hcr⟩
end Go.Proofs.Ytjggkpmlffhjgaa
