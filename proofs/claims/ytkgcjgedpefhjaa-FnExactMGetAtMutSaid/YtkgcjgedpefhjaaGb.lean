/- GetAt(Mut), MGetAtMut, spec: GGetAt; FnExactMGetAtMut. -/
import Derived.Test.YtkgcjgedpefhjaaGa
import Derived.Test.YtkgcjgedpefhjaaGm
namespace Go.Proofs.Ytkgcjgedpefhjaa
open Go.RowKit

set_option maxRecDepth 100000 in
theorem getAt_out {mn mx : Nat} {w : World} {F : Nat → Prop} {t : Nat} {l : List (Int × Int)} (mt : Bool) (i : Int) (hM : MapIn mn mx w F t l) (hi : i < 0 ∨ (l.length : Int) ≤ i) :
    Calls Try.prog 100 #[.pointer (some ⟨t, 0, none⟩), .int .i64 i, .bool mt] w fun e w' => e = .returned (headV none) ∧ Chg (fun _ _ => False) w w' := by
  rcases hM with ⟨rfl, _, hB⟩ | ⟨H, h, T, hI, hB, rfl, h1⟩
  · have c2 : w.cell? ⟨t, 2, none⟩ = some (.pointer none) := hB.c2
    have c4 := hB.at_.c4
    have c5 := hB.at_.c5
    clear hi
    go_enter Try.func100, Try.ntmps100
    go_wp2
    go_quiet (fail)
    go_wp2
    go_ret3
    exact ⟨rfl, (Chg.refl _ _).drewN _⟩
  · have c2 : w.cell? ⟨t, 2, none⟩ = some (.pointer (some ⟨rid T, 0, none⟩)) := hB.c2
    have c3 := hB.c3
    have c4 := hB.at_.c4
    have c5 := hB.at_.c5
    by_cases h0 : i < 0
    · clear hi
      go_enter Try.func100, Try.ntmps100
      go_wp2
      go_quiet (fail)
      go_wp2
      go_ret3
      exact ⟨rfl, (Chg.refl _ _).drewN _⟩
    · have h2 : ((toL h T).length : Int) ≤ i := by omega
      clear hi
      go_enter Try.func100, Try.ntmps100
      go_wp2
      go_quiet (fail)
      go_wp2
      go_ret3
      exact ⟨rfl, (Chg.refl _ _).drewN _⟩

theorem getAt_any {mn mx : Nat} {w : World} {F : Nat → Prop} {t : Nat} {l : List (Int × Int)} (mt : Bool) (i : Int) (hM : MapIn mn mx w F t l) (hmn : 1 ≤ mn) (hlen : l.length ≤ 1000000000000) :
    Calls Try.prog 100 #[.pointer (some ⟨t, 0, none⟩), .int .i64 i, .bool mt] w fun e w' => e = .returned (headV (atL l i)) ∧ Chg (fun _ _ => False) w w' := by
  by_cases h : i < 0 ∨ (l.length : Int) ≤ i
  · have e : atL l i = none := by
      unfold atL
      split
      · rw [List.getElem?_eq_none (by omega)]
      · rfl
    rw [e]
    exact getAt_out mt i hM h
  · obtain ⟨j, rfl⟩ : ∃ j : Nat, i = (j : Int) := ⟨i.toNat, by omega⟩
    obtain ⟨y, hy⟩ : ∃ y, l[j]? = some y := ⟨_, List.getElem?_eq_getElem (by omega)⟩
    have e : atL l (j : Int) = some y := by unfold atL; rw [if_pos (by omega)]; simpa using hy
    rw [e]
    exact getAt_in mt j y hM hmn hy hlen

theorem GetAtMut_any {mn mx : Nat} {w : World} {F : Nat → Prop} {t : Nat} {l : List (Int × Int)} (i : Int) (hM : MapIn mn mx w F t l) (hmn : 1 ≤ mn) (hlen : l.length ≤ 1000000000000) :
    Calls Try.prog 74 #[.pointer (some ⟨t, 0, none⟩), .int .i64 i] w fun e w' => e = .returned (headV (atL l i)) ∧ Chg (fun _ _ => False) w w' := by
  have hg := getAt_any true i hM hmn hlen
  obtain ⟨k, v, b, hv, _⟩ := headV_found (atL l i)
  rw [hv] at hg ⊢
  have HG := Lib.hid hg
  clear hg hv
  go_enter Try.func74, Try.ntmps74
  go_wp2_with fail
  refine HG.out.mono ?_
  rintro e w1 ⟨rfl, h1⟩
  go_wp2_with fail
  go_ret3
  exact ⟨rfl, h1⟩

set_option maxRecDepth 100000 in
set_option maxHeartbeats 1000000 in
theorem MGetAtMut_any (d : Int) (p : Option Addr) (cap : Nat) (l : List (Int × Int)) (kv : Value) (ks : List Int) (w : World) (h1 : 2 ≤ d) (h2 : d ≤ 128) (hl : ItemsAt w p l) (hk : SlE intE w kv ks) (hlen : l.length ≤ 2147483647) (hkl : ks.length ≤ 2147483647) :
    Calls Try.prog 51 #[.int .i64 d, .slice p l.length cap, kv] w (OwnPost foundE (ks.map fun i => atL (growL l) i) w) := by
  obtain ⟨a, kcap, rfl⟩ := hk.form
  have HS := Lib.hid hk
  have hgl := growL_take_len l l.length
  rw [List.take_length] at hgl
  have HGL := Lib.hid hgl
  clear hk hgl
  obtain ⟨i0, hi0, hz0, hz1, hz2⟩ := info_parts infoFound
  go_enter Try.func51, Try.ntmps51
  go_wp2_with fail
  refine (growMap_any d p cap l _ h1 h2 hl hlen).mono ?_
  rintro e w1 ⟨t, F, rfl, _, hM, hc1, hF1⟩
  go_wp2_with fail
  go_loopw [8, 16] (fun v i wr => ∃ (j : Nat), j ≤ ks.length ∧ i = .int .i64 j ∧ OwnE foundE wr v ((ks.map fun i => atL (growL l) i).take j) w1.heap.size ∧ Chg (fun _ _ => False) w1 wr) (fun _ i _ => ks.length - (intOf i).toNat)
  case atStart => exact ⟨0, Nat.zero_le _, rfl, OwnE.nil _ _ _, Chg.refl _ _⟩
  case round =>
    obtain ⟨j, hj, rfl, how, hc⟩ := hrel
    have hsz := hc.size
    have hsz1 := hc1.size
    by_cases hlt : j < ks.length
    · obtain ⟨k, hx⟩ : ∃ k, ks[j]? = some k := ⟨_, List.getElem?_eq_getElem hlt⟩
      obtain ⟨b, o, rfl, g0⟩ := (HS.out.chg (hc1.trans hc)).int hx
      have ht : (ks.map fun i => atL (growL l) i).take (j + 1) = (ks.map fun i => atL (growL l) i).take j ++ [atL (growL l) k] := by rw [List.take_add_one, List.getElem?_map, hx]; rfl
      have hll : ((ks.map fun i => atL (growL l) i).take j).length ≤ ks.length := by simp; omega
      have hg := GetAtMut_any k (hM.chg hc) (by omega) (by have := HGL.out; omega)
      obtain ⟨k1, v, q, hv, hf⟩ := headV_found (atL (growL l) k)
      rw [hv] at hg
      obtain ⟨fk, fv, fb, hfv, hfl⟩ := foundV_agg (atL (growL l) k)
      have hp := fun w => pair_any (atL (growL l) k) w k1 v q hf
      rw [hfv] at hp
      have HT := Lib.hid ht
      have HLL := Lib.hid hll
      have HG := Lib.hid hg
      have HP := Lib.hid hp
      have HOW0 := Lib.hid how
      clear hx ht hll hg hp hv hf how hfv
      have i0' : (0 : Int) ≤ (j : Int) := by omega
      have i1 : (j : Int) < (ks.length : Int) := by omega
      go_wp2_with fail
      refine HG.out.mono ?_
      rintro e w2 ⟨rfl, hc2⟩
      go_wp2_with fail
      refine (HP.out _).mono ?_
      rintro e w3 ⟨rfl, hc3⟩
      have hc13 := (hc.trans hc2).trans hc3
      have how := HOW0.out.keep (hc2.trans hc3)
      have hcb1 : Chg (fun _ _ => False) w3 (w3.alloc (.cells #[.int .i64 fk, .int .i64 fv, .bool fb] 51)) := (Chg.refl _ _).alloc _
      have HOW1 := Lib.hid (how.keep hcb1)
      clear how
      go_wp2_with (refine wpList_append_E foundE (by rfl) _ _ _ (by rfl) i0 _ 24 Try.underlying64 hi0 hz0 hz1 hz2 rfl _ (by rfl) _ w1.heap.size HOW1.out (Nat.le_trans hc13.size hcb1.size) ⟨w3.heap.size, 0, none⟩ 1 _ (by rfl) [atL (growL l) k] rfl (by decide) ?_ ?_ ?_ ?_)
      · exact El.src1 foundE (c := #[.int .i64 fk, .int .i64 fv, .bool fb]) (ha_at _ _ (by simp)) _ hfl.symm
      · have := HLL.out; unfold maxLen; omega
      · have := HLL.out; omega
      intro v' w' h1 h2 _
      have hcz : Chg (fun _ _ => False) w1 w' := (hc13.trans hcb1).trans' h2 (fun _ _ _ h => h) (fun b o hb h => by omega)
      go_wp2
      go_roundw
      case rel => exact ⟨j + 1, by omega, by go_num, by rw [HT.out]; exact h1, hcz⟩
      case measure => simp [intOf]; omega
    · obtain rfl : j = ks.length := by omega
      go_wp2
      go_ret
      exact ⟨_, rfl, by rw [List.take_of_length_le (by simp)] at how; exact how.mono hsz1, hc1.trans hc⟩

set_option maxRecDepth 100000 in
set_option maxHeartbeats 1000000 in
theorem GGetAt_nil (p : Option Addr) (cap : Nat) (l : List (Int × Int)) (kv : Value) (ks : List Int) (w : World) (hl : ItemsAt w p l) (hk : SlE intE w kv ks) (hlen : l.length ≤ 2147483647) (hkl : ks.length ≤ 2147483647) :
    Calls Try.prog 52 #[makeV (.slice none 0 0) 0 false, .slice p l.length cap, kv] w (OwnPost foundE (ks.map fun i => atL (treeL (ltR id) l) i) w) := by
  obtain ⟨a, kcap, rfl⟩ := hk.form
  have HS := Lib.hid hk
  clear hk
  obtain ⟨i0, hi0, hz0, hz1, hz2⟩ := info_parts infoFound
  have HT := Lib.hid (fun w1 (c : Chg (fun _ _ => False) w w1) => tree_any (.slice none 0 0) id p cap l w1 (rank_nil w1) (hl.chg c) hlen)
  have hlen2 := treeL_len (ltR id) l
  clear hl
  unfold makeV
  go_enter Try.func52, Try.ntmps52
  go_wp2_with fail
  refine (HT.out _ ((Chg.refl _ _).alloc _)).mono ?_
  rintro e w2 ⟨v2, rfl, hv2, hc2⟩
  obtain ⟨q, cap2, rfl, hi, hcap⟩ := hv2.items
  have hc12 := ((Chg.refl (fun _ _ => False) w).alloc (.cells #[.slice none 0 0, .int .i64 0, .bool false] 55)).trans hc2
  have HI := Lib.hid hi
  clear hi hv2
  go_wp2_with fail
  go_loopw [8, 17] (fun v i wr => ∃ (j : Nat), j ≤ ks.length ∧ i = .int .i64 j ∧ OwnE foundE wr v ((ks.map fun i => atL (treeL (ltR id) l) i).take j) w2.heap.size ∧ Chg (fun _ _ => False) w2 wr) (fun _ i _ => ks.length - (intOf i).toNat)
  case atStart => exact ⟨0, Nat.zero_le _, rfl, OwnE.nil _ _ _, Chg.refl _ _⟩
  case round =>
    obtain ⟨j, hj, rfl, how, hc⟩ := hrel
    have hsz := hc.size
    have hsz2 := hc12.size
    by_cases hlt : j < ks.length
    · obtain ⟨x, hx⟩ : ∃ x, ks[j]? = some x := ⟨_, List.getElem?_eq_getElem hlt⟩
      obtain ⟨b, o, rfl, g0⟩ := (HS.out.chg (hc12.trans hc)).int hx
      have ht : (ks.map fun i => atL (treeL (ltR id) l) i).take (j + 1) = (ks.map fun i => atL (treeL (ltR id) l) i).take j ++ [atL (treeL (ltR id) l) x] := by rw [List.take_add_one, List.getElem?_map, hx]; rfl
      have hll : ((ks.map fun i => atL (treeL (ltR id) l) i).take j).length ≤ ks.length := by simp; omega
      have hat := at_any q cap2 (treeL (ltR id) l) x wr (HI.out.chg hc) (by omega) hcap
      obtain ⟨fk, fv, fb, hfv, hfl⟩ := foundV_agg (atL (treeL (ltR id) l) x)
      rw [hfv] at hat
      have HTT := Lib.hid ht
      have HLL := Lib.hid hll
      have HOW0 := Lib.hid how
      have HAT := Lib.hid hat
      clear hx ht hll how hat hfv
      have i0' : (0 : Int) ≤ (j : Int) := by omega
      have i1 : (j : Int) < (ks.length : Int) := by omega
      go_wp2_with fail
      refine HAT.out.mono ?_
      rintro e w5 ⟨rfl, hc5⟩
      have hc25 := hc.trans hc5
      have how := HOW0.out.keep hc5
      have hcb1 : Chg (fun _ _ => False) w5 (w5.alloc (.cells #[.int .i64 fk, .int .i64 fv, .bool fb] 51)) := (Chg.refl _ _).alloc _
      have HOW1 := Lib.hid (how.keep hcb1)
      clear how
      go_wp2_with (refine wpList_append_E foundE (by rfl) _ _ _ (by rfl) i0 _ 24 Try.underlying64 hi0 hz0 hz1 hz2 rfl _ (by rfl) _ w2.heap.size HOW1.out (Nat.le_trans hc25.size hcb1.size) ⟨w5.heap.size, 0, none⟩ 1 _ (by rfl) [atL (treeL (ltR id) l) x] rfl (by decide) ?_ ?_ ?_ ?_)
      · exact El.src1 foundE (c := #[.int .i64 fk, .int .i64 fv, .bool fb]) (ha_at _ _ (by simp)) _ hfl.symm
      · have := HLL.out; unfold maxLen; omega
      · have := HLL.out; omega
      intro v' w' h1 h2 _
      have hcz : Chg (fun _ _ => False) w2 w' := (hc25.trans hcb1).trans' h2 (fun _ _ _ h => h) (fun b o hb h => by omega)
      go_wp2
      go_roundw
      case rel => exact ⟨j + 1, by omega, by go_num, by rw [HTT.out]; exact h1, hcz⟩
      case measure => simp [intOf]; omega
    · obtain rfl : j = ks.length := by omega
      go_wp2
      go_ret
      exact ⟨_, rfl, by rw [List.take_of_length_le (by simp)] at how; exact how.mono hsz2, hc12.trans hc⟩

set_option maxRecDepth 100000 in
theorem mGetAtMut_any (d : Int) (p : Option Addr) (cap : Nat) (l : List (Int × Int)) (kv : Value) (ks : List Int) (w : World) (h1 : 2 ≤ d) (h2 : d ≤ 128) (hl : ItemsAt w p l) (hk : SlE intE w kv ks) (hlen : l.length ≤ 2147483647) (hkl : ks.length ≤ 2147483647) :
    Calls Try.prog 25 #[.int .i64 d, .slice p l.length cap, kv] w fun e w' => e = .returned (.bool true) ∧ Chg (fun _ _ => False) w w' := by
  have hM := MGetAtMut_any d p cap l kv ks w h1 h2 hl hk hlen hkl
  have hG := fun w1 (c : Chg (fun _ _ => False) w w1) => GGetAt_nil p cap l kv ks w1 (hl.chg c) (hk.chg c) hlen hkl
  have e1 : growL l = treeL (ltR id) l := rfl
  rw [e1] at hM
  unfold makeV at hG
  have HM := Lib.hid hM
  have HG := Lib.hid hG
  obtain ⟨a, kcap, rfl⟩ := hk.form
  clear hM hG hl hk e1
  go_enter Try.func25, Try.ntmps25
  go_wp2_with fail
  refine HM.out.mono ?_
  rintro e w1 ⟨v1, rfl, how1, hc1⟩
  go_wp2_with fail
  refine (HG.out _ hc1).mono ?_
  rintro e w3 ⟨v3, rfl, how3, hc3⟩
  go_wp2_with fail
  refine (equal_found _ _ _ _ (how1.sl.chg hc3) how3.sl (by simp; omega)).mono ?_
  rintro e w4 ⟨rfl, hc4⟩
  go_wp2_with fail
  go_ret
  exact ⟨rfl, (hc1.trans hc3).trans hc4⟩
end Go.Proofs.Ytkgcjgedpefhjaa
