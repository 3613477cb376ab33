/- spec: Items, GGet; MGet. -/
import Derived.Test.YtkgcjgedpefhjaaGt
import Derived.Test.YtkgcjgedpefhjaaKs
import Derived.Test.YtkgcjgedpefhjaaWr
import Derived.Test.YtkgcjgedpefhjaaSu
import Derived.Test.YtkgcjgedpefhjaaLa
namespace Go.Proofs.Ytkgcjgedpefhjaa
open Go.RowKit

theorem infoItem0 : (Try.prog.info? 39).map (fun i => (i.zero, i.size, i.bytes)) = some (some (.agg #[.int .i64 0, .int .i64 0]), 2, 16) := infoItem

set_option maxRecDepth 100000 in
theorem specItems_any (v : Value) (xs : List Int) (w : World) (h : SlE intE w v xs) (hlen : xs.length ≤ 2147483648) :
    Calls Try.prog 49 #[v] w (OwnPost itemE (xs.map fun k => (k, 0)) w) := by
  obtain ⟨a, cap, rfl⟩ := h.form
  have HS := Lib.hid h
  clear h
  obtain ⟨i0, hi0, hz0, hz1, hz2⟩ := info_parts infoItem
  go_enter Try.func49, Try.ntmps49
  go_wp2
  go_loopw [3, 8] (fun v i wr => ∃ (j : Nat), j ≤ xs.length ∧ i = .int .i64 j ∧ OwnE itemE wr v ((xs.map fun k => (k, 0)).take j) w.heap.size ∧ Chg (fun _ _ => False) w wr) (fun _ i _ => xs.length - (intOf i).toNat)
  case atStart => exact ⟨0, Nat.zero_le _, rfl, OwnE.nil _ _ _, Chg.refl _ _⟩
  case round =>
    obtain ⟨j, hj, rfl, how, hc⟩ := hrel
    have hsz := hc.size
    by_cases hlt : j < xs.length
    · obtain ⟨x, hx⟩ : ∃ x, xs[j]? = some x := ⟨_, List.getElem?_eq_getElem hlt⟩
      obtain ⟨b, o, rfl, g0⟩ := (HS.out.chg hc).int hx
      have ht : (xs.map fun k => (k, (0 : Int))).take (j + 1) = (xs.map fun k => (k, 0)).take j ++ [(x, 0)] := by rw [List.take_add_one, List.getElem?_map, hx]; rfl
      have HT := Lib.hid ht
      clear hx ht
      have i0' : (0 : Int) ≤ (j : Int) := by omega
      have i1 : (j : Int) < (xs.length : Int) := by omega
      have hc2 : Chg (fun _ _ => False) w (wr.alloc (.cells #[.int .i64 x, .int .i64 0] 39)) := hc.alloc _
      have how2 := how.keep ((Chg.refl (fun _ _ => False) wr).alloc (.cells #[.int .i64 x, .int .i64 0] 39))
      have HOW := Lib.hid how2
      clear how how2
      have hll : ((xs.map fun k => (k, (0 : Int))).take j).length ≤ xs.length := by simp; omega
      have HLL := Lib.hid hll
      clear hll
      go_wp2_with (refine wpList_append_E itemE (by rfl) _ _ _ (by rfl) i0 _ 16 Try.underlying22 hi0 hz0 hz1 hz2 rfl _ (by rfl) _ w.heap.size HOW.out hc2.size ⟨wr.heap.size, 0, none⟩ 1 _ (by rfl) [(x, 0)] rfl (by decide) ?_ ?_ ?_ ?_)
      · exact El.src1 itemE (c := #[.int .i64 x, .int .i64 0]) (ha_at _ _ (by simp)) _ rfl
      · have := HLL.out; unfold maxLen; omega
      · have := HLL.out; omega
      intro v' w' h1 h2 _
      have hc3 : Chg (fun _ _ => False) w w' := hc2.trans' h2 (fun _ _ _ h => h) (fun b o hb h => by omega)
      go_wp2
      go_roundw
      case rel => exact ⟨j + 1, by omega, by go_num, by rw [HT.out]; exact h1, hc3⟩
      case measure => simp [intOf]; omega
    · obtain rfl : j = xs.length := by omega
      go_wp2
      go_ret
      exact ⟨_, rfl, by rw [List.take_of_length_le (by simp)] at how; exact how, hc⟩

theorem fnd_key {l : List (Int × Int)} {k : Int} {y : Int × Int} (h : fndL ltM (k, 0) l = some y) : y.1 = k := by
  obtain ⟨_, h1, h2⟩ := fndL_some h
  simp [ltM] at h1 h2
  omega

theorem getV_found {l : List (Int × Int)} {k : Int} : ∃ v b, getV (fndL ltM (k, 0) l) = .tuple #[.int .i64 v, .bool b] ∧ FoundIs (fndL ltM (k, 0) l) (k, v) b := by
  cases h : fndL ltM (k, 0) l with
  | none => exact ⟨0, false, rfl, rfl⟩
  | some y => exact ⟨y.2, true, rfl, by have := fnd_key h; show y = (k, y.2) ∧ true = true; rw [← this]; exact ⟨rfl, rfl⟩⟩

theorem Get_any {mn mx : Nat} {w : World} {F : Nat → Prop} {t : Nat} {l : List (Int × Int)} (key : Int) (hM : MapIn mn mx w F t l) (hmn : 1 ≤ mn) :
    Calls Try.prog 73 #[.pointer (some ⟨t, 0, none⟩), .int .i64 key] w fun e w' => e = .returned (getV (fndL ltM (key, 0) l)) ∧ Chg (fun _ _ => False) w w' := by
  have hg := get_any false key hM hmn
  obtain ⟨v, b, hv, _⟩ := getV_found (l := l) (k := key)
  rw [hv] at hg ⊢
  have HG := Lib.hid hg
  clear hg hv
  go_enter Try.func73, Try.ntmps73
  go_wp2_with fail
  refine HG.out.mono ?_
  rintro e w1 ⟨rfl, h1⟩
  go_wp2_with fail
  go_ret2
  exact ⟨rfl, h1⟩

theorem foundV_agg (o : Option (Int × Int)) : ∃ k v b, foundV o = .agg #[.int .i64 k, .int .i64 v, .bool b] ∧ foundL o = [.int .i64 k, .int .i64 v, .bool b] := by
  cases o with
  | none => exact ⟨0, 0, false, rfl, rfl⟩
  | some y => exact ⟨y.1, y.2, true, rfl, rfl⟩


set_option maxRecDepth 100000 in
set_option maxHeartbeats 1000000 in
theorem MGet_any (d : Int) (p : Option Addr) (cap : Nat) (l : List (Int × Int)) (kv : Value) (ks : List Int) (w : World) (h1 : 2 ≤ d) (h2 : d ≤ 128) (hl : ItemsAt w p l) (hk : SlE intE w kv ks) (hlen : l.length ≤ 2147483647) (hkl : ks.length ≤ 2147483647) :
    Calls Try.prog 47 #[.int .i64 d, .slice p l.length cap, kv] w (OwnPost foundE (ks.map fun k => fndL ltM (k, 0) (growL l)) w) := by
  obtain ⟨a, kcap, rfl⟩ := hk.form
  have HS := Lib.hid hk
  clear hk
  obtain ⟨i0, hi0, hz0, hz1, hz2⟩ := info_parts infoFound
  go_enter Try.func47, Try.ntmps47
  go_wp2_with fail
  refine (growMap_any d p cap l _ h1 h2 hl hlen).mono ?_
  rintro e w1 ⟨t, F, rfl, _, hM, hc1, hF1⟩
  go_wp2_with fail
  go_loopw [8, 18] (fun v i wr => ∃ (j : Nat), j ≤ ks.length ∧ i = .int .i64 j ∧ OwnE foundE wr v ((ks.map fun k => fndL ltM (k, 0) (growL l)).take j) w1.heap.size ∧ Chg (fun _ _ => False) w1 wr) (fun _ i _ => ks.length - (intOf i).toNat)
  case atStart => exact ⟨0, Nat.zero_le _, rfl, OwnE.nil _ _ _, Chg.refl _ _⟩
  case round =>
    obtain ⟨j, hj, rfl, how, hc⟩ := hrel
    have hsz := hc.size
    have hsz1 := hc1.size
    by_cases hlt : j < ks.length
    · obtain ⟨k, hx⟩ : ∃ k, ks[j]? = some k := ⟨_, List.getElem?_eq_getElem hlt⟩
      obtain ⟨b, o, rfl, g0⟩ := (HS.out.chg (hc1.trans hc)).int hx
      have ht : (ks.map fun k => fndL ltM (k, 0) (growL l)).take (j + 1) = (ks.map fun k => fndL ltM (k, 0) (growL l)).take j ++ [fndL ltM (k, 0) (growL l)] := by rw [List.take_add_one, List.getElem?_map, hx]; rfl
      have hll : ((ks.map fun k => fndL ltM (k, 0) (growL l)).take j).length ≤ ks.length := by simp; omega
      have hg := Get_any k (hM.chg hc) (by omega)
      obtain ⟨v, q, hv, hf⟩ := getV_found (l := growL l) (k := k)
      rw [hv] at hg
      obtain ⟨fk, fv, fb, hfv, hfl⟩ := foundV_agg (fndL ltM (k, 0) (growL l))
      have hp := fun w => pair_any (fndL ltM (k, 0) (growL l)) w k v q hf
      rw [hfv] at hp
      have HT := Lib.hid ht
      have HLL := Lib.hid hll
      have HG := Lib.hid hg
      have HP := Lib.hid hp
      have HOW0 := Lib.hid how
      clear hx ht hll hg hp hv hf how hfv
      have i0' : (0 : Int) ≤ (j : Int) := by omega
      have i1 : (j : Int) < (ks.length : Int) := by omega
      go_wp2_with fail
      refine HG.out.mono ?_
      rintro e w2 ⟨rfl, hc2⟩
      go_wp2_with fail
      refine (HP.out _).mono ?_
      rintro e w3 ⟨rfl, hc3⟩
      have hc13 := (hc.trans hc2).trans hc3
      have how := HOW0.out.keep (hc2.trans hc3)
      have hcb1 : Chg (fun _ _ => False) w3 (w3.alloc (.cells #[.int .i64 fk, .int .i64 fv, .bool fb] 51)) := (Chg.refl _ _).alloc _
      have HOW1 := Lib.hid (how.keep hcb1)
      clear how
      go_wp2_with (refine wpList_append_E foundE (by rfl) _ _ _ (by rfl) i0 _ 24 Try.underlying64 hi0 hz0 hz1 hz2 rfl _ (by rfl) _ w1.heap.size HOW1.out (Nat.le_trans hc13.size hcb1.size) ⟨w3.heap.size, 0, none⟩ 1 _ (by rfl) [fndL ltM (k, 0) (growL l)] rfl (by decide) ?_ ?_ ?_ ?_)
      · exact El.src1 foundE (c := #[.int .i64 fk, .int .i64 fv, .bool fb]) (ha_at _ _ (by simp)) _ hfl.symm
      · have := HLL.out; unfold maxLen; omega
      · have := HLL.out; omega
      intro v' w' h1 h2 _
      have hcz : Chg (fun _ _ => False) w1 w' := (hc13.trans hcb1).trans' h2 (fun _ _ _ h => h) (fun b o hb h => by omega)
      go_wp2
      go_roundw
      case rel => exact ⟨j + 1, by omega, by go_num, by rw [HT.out]; exact h1, hcz⟩
      case measure => simp [intOf]; omega
    · obtain rfl : j = ks.length := by omega
      go_wp2
      go_ret
      exact ⟨_, rfl, by rw [List.take_of_length_le (by simp)] at how; exact how.mono hsz1, hc1.trans hc⟩

theorem place_fnd {l : List (Int × Int)} {x : Int × Int} {i : Nat} {b : Bool} (h : PlaceIs (ltR id) l x i b) : (if b then atL l i else none) = fndL ltM x l := by
  have h2 := (putL_ins h).2
  have e : fndL ltM x l = fndL (ltR id) x l := rfl
  rw [e, ← h2]
  unfold putF atL
  split <;> simp

set_option maxRecDepth 100000 in
set_option maxHeartbeats 1000000 in
theorem GGet_nil (p : Option Addr) (cap : Nat) (l : List (Int × Int)) (kv : Value) (ks : List (Int × Int)) (w : World) (hl : ItemsAt w p l) (hk : SlE itemE w kv ks) (hlen : l.length ≤ 2147483647) (hkl : ks.length ≤ 2147483647) :
    Calls Try.prog 48 #[makeV (.slice none 0 0) 0 false, .slice p l.length cap, kv] w (OwnPost foundE (ks.map fun x => fndL ltM x (treeL (ltR id) l)) w) := by
  obtain ⟨a, kcap, rfl⟩ := hk.form
  have HS := Lib.hid hk
  clear hk
  obtain ⟨i0, hi0, hz0, hz1, hz2⟩ := info_parts infoFound
  have HT := Lib.hid (fun w1 (c : Chg (fun _ _ => False) w w1) => tree_any (.slice none 0 0) id p cap l w1 (rank_nil w1) (hl.chg c) hlen)
  have hlen2 := treeL_len (ltR id) l
  clear hl
  unfold makeV
  go_enter Try.func48, Try.ntmps48
  go_wp2_with fail
  refine name_calls (fun w1 => Chg (fun _ _ => False) w w1 ∧ w1.heap[w.heap.size]? = some (.cells #[.slice none 0 0, .int .i64 0, .bool false] 55 (0, 0))) ⟨(Chg.refl _ _).alloc _, ha_at _ _ rfl⟩ ?_
  rintro w1 ⟨hc1, hb1⟩
  refine (HT.out _ hc1).mono ?_
  rintro e w2 ⟨v2, rfl, hv2, hc2⟩
  obtain ⟨q, cap2, rfl, hi, hcap⟩ := hv2.items
  have hc12 := hc1.trans hc2
  have hlt := heap_lt hb1
  have m0 := hc2.cell (fun h => h) (cell_of_block hb1 0)
  have HI := Lib.hid hi
  clear hb1 hi hv2
  go_wp2_with fail
  go_loopw [8, 20] (fun v i wr => ∃ (j : Nat), j ≤ ks.length ∧ i = .int .i64 j ∧ OwnE foundE wr v ((ks.map fun x => fndL ltM x (treeL (ltR id) l)).take j) w2.heap.size ∧ Chg (fun _ _ => False) w2 wr) (fun _ i _ => ks.length - (intOf i).toNat)
  case atStart => exact ⟨0, Nat.zero_le _, rfl, OwnE.nil _ _ _, Chg.refl _ _⟩
  case round =>
    obtain ⟨j, hj, rfl, how, hc⟩ := hrel
    have hsz := hc.size
    have hsz2 := hc12.size
    by_cases hlt : j < ks.length
    · obtain ⟨x, hx⟩ : ∃ x, ks[j]? = some x := ⟨_, List.getElem?_eq_getElem hlt⟩
      obtain ⟨b, o, rfl, g0, g1⟩ := (HS.out.chg (hc12.trans hc)).item hx
      have ht : (ks.map fun x => fndL ltM x (treeL (ltR id) l)).take (j + 1) = (ks.map fun x => fndL ltM x (treeL (ltR id) l)).take j ++ [fndL ltM x (treeL (ltR id) l)] := by rw [List.take_add_one, List.getElem?_map, hx]; rfl
      have hll : ((ks.map fun x => fndL ltM x (treeL (ltR id) l)).take j).length ≤ ks.length := by simp; omega
      have HTT := Lib.hid ht
      have HLL := Lib.hid hll
      have HOW0 := Lib.hid how
      clear hx ht hll how
      have m1 := hc.cell (fun h => h) m0
      have m2 : ∀ o1 o2, ((wr.alloc o1).alloc o2).cell? ⟨w.heap.size, 0, none⟩ = some (.slice none 0 0) := fun o1 o2 => (((Chg.refl (fun _ _ => False) wr).alloc o1).alloc o2).cell (fun h => h) m1
      have i0' : (0 : Int) ≤ (j : Int) := by omega
      have i1 : (j : Int) < (ks.length : Int) := by omega
      go_wp2_with fail
      refine name_calls (fun w3 => Chg (fun _ _ => False) wr w3 ∧ w3.heap[wr.heap.size]? = some (.cells #[.int .i64 x.1, .int .i64 x.2] 39 (0, 0)) ∧ w3.heap[wr.heap.size + 1]? = some (.cells #[.int .i64 0, .int .i64 0, .bool false] 51 (0, 0))) ⟨((Chg.refl _ _).alloc _).alloc _, ?_, ?_⟩ ?_
      · rw [ha_lt _ _ (by simp)]; exact ha_at _ _ rfl
      · exact ha_at _ _ (by simp)
      rintro w3 ⟨hc3, hb3, hb4⟩
      refine (place_any (.slice none 0 0) id q cap2 (treeL (ltR id) l) x _ (rank_nil _) (HI.out.chg (hc.trans hc3)) (by omega)).mono ?_
      rintro e w4 ⟨⟨i, f, rfl, hpl⟩, hc4⟩
      have hfd := place_fnd hpl
      have hb5 : w4.heap[wr.heap.size + 1]? = some (.cells #[.int .i64 0, .int .i64 0, .bool false] 51 (0, 0)) := by rw [hc4.block (heap_lt hb4) (fun _ h => h)]; exact hb4
      have hlt5 := heap_lt hb5
      clear hpl hb3 hb4 g0 g1
      cases f
      · have c0 := cell_of_block hb5 0
        have c1 := cell_of_block hb5 1
        have c2 := cell_of_block hb5 2
        simp only [List.getElem?_toArray, List.getElem?_cons_zero, List.getElem?_cons_succ] at c0 c1 c2
        have hfl : foundL (fndL ltM x (treeL (ltR id) l)) = [.int .i64 0, .int .i64 0, .bool false] := by rw [← hfd]; rfl
        have HFL := Lib.hid hfl
        clear hb5 hfd hfl
        obtain ⟨fk, fv, fb, e1, e2, e3⟩ : ∃ (fk fv : Int) (fb : Bool), fk = 0 ∧ fv = 0 ∧ fb = false := ⟨0, 0, false, rfl, rfl, rfl⟩
        have hfl : foundL (fndL ltM x (treeL (ltR id) l)) = [.int .i64 fk, .int .i64 fv, .bool fb] := by rw [HFL.out, e1, e2, e3]
        rw [← e1] at c0
        rw [← e2] at c1
        rw [← e3] at c2
        clear e1 e2 e3 HFL
        have hc24 := (hc.trans hc3).trans hc4
        have how := HOW0.out.keep (hc3.trans hc4)
        have hcb1 : Chg (fun _ _ => False) w4 (w4.alloc (.cells #[.int .i64 fk, .int .i64 fv, .bool fb] 51)) := (Chg.refl _ _).alloc _
        have HOW1 := Lib.hid (how.keep hcb1)
        clear how
        go_wp2_with (refine wpList_append_E foundE (by rfl) _ _ _ (by rfl) i0 _ 24 Try.underlying64 hi0 hz0 hz1 hz2 rfl _ (by rfl) _ w2.heap.size HOW1.out (Nat.le_trans hc24.size hcb1.size) ⟨w4.heap.size, 0, none⟩ 1 _ (by rfl) [fndL ltM x (treeL (ltR id) l)] rfl (by decide) ?_ ?_ ?_ ?_)
        · exact El.src1 foundE (c := #[.int .i64 fk, .int .i64 fv, .bool fb]) (ha_at _ _ (by simp)) _ hfl.symm
        · have := HLL.out; unfold maxLen; omega
        · have := HLL.out; omega
        intro v' w' h1 h2 _
        have hcz : Chg (fun _ _ => False) w2 w' := (hc24.trans hcb1).trans' h2 (fun _ _ _ h => h) (fun b o hb h => by omega)
        go_wp2
        go_roundw
        case rel => exact ⟨j + 1, by omega, by go_num, by rw [HTT.out]; exact h1, hcz⟩
        case measure => simp [intOf]; omega
      · have hfd' : atL (treeL (ltR id) l) (i : Int) = fndL ltM x (treeL (ltR id) l) := by rw [← hfd]; rfl
        have hat := at_any q cap2 (treeL (ltR id) l) i w4 (HI.out.chg ((hc.trans hc3).trans hc4)) (by omega) hcap
        rw [hfd'] at hat
        obtain ⟨fk, fv, fb, hfv, hfl⟩ := foundV_agg (fndL ltM x (treeL (ltR id) l))
        rw [hfv] at hat
        have HAT := Lib.hid hat
        have HB5 := Lib.hid hb5
        clear hfd hfd' hat hfv hb5
        go_wp2_with fail
        refine HAT.out.mono ?_
        rintro e w5 ⟨rfl, hc5⟩
        have hb6 : w5.heap[wr.heap.size + 1]? = some (.cells #[.int .i64 0, .int .i64 0, .bool false] 51 (0, 0)) := by rw [hc5.block (heap_lt HB5.out) (fun _ h => h)]; exact HB5.out
        have c0 := cell_of_block hb6 0
        have c1 := cell_of_block hb6 1
        have c2 := cell_of_block hb6 2
        have z0 := frozen_of_block hb6 0
        have z1 := frozen_of_block hb6 1
        have z2 := frozen_of_block hb6 2
        simp only [List.getElem?_toArray, List.getElem?_cons_zero, List.getElem?_cons_succ] at c0 c1 c2
        clear hb6
        have hc25 := ((hc.trans hc3).trans hc4).trans hc5
        have how5 := HOW0.out.keep ((hc3.trans hc4).trans hc5)
        have hst : Chg (fun b _ => b = wr.heap.size + 1) w5 (((w5.setCell ⟨wr.heap.size + 1, 0, none⟩ (.int .i64 fk)).setCell ⟨wr.heap.size + 1, 1, none⟩ (.int .i64 fv)).setCell ⟨wr.heap.size + 1, 2, none⟩ (.bool fb)) := by
          repeat (first | refine Chg.setCell ?_ (.inl rfl) _ | exact Chg.refl _ _)
        have hcs : Chg (fun _ _ => False) w2 (((w5.setCell ⟨wr.heap.size + 1, 0, none⟩ (.int .i64 fk)).setCell ⟨wr.heap.size + 1, 1, none⟩ (.int .i64 fv)).setCell ⟨wr.heap.size + 1, 2, none⟩ (.bool fb)) := hc25.trans' hst (fun _ _ _ h => h) (fun b o hb h => by omega)
        have how := how5.chgOwn hst (fun b o hb h => by have := (HOW0.out.own_lt hb).2; omega)
        clear how5 hst
        have hcb1 : Chg (fun _ _ => False) (((w5.setCell ⟨wr.heap.size + 1, 0, none⟩ (.int .i64 fk)).setCell ⟨wr.heap.size + 1, 1, none⟩ (.int .i64 fv)).setCell ⟨wr.heap.size + 1, 2, none⟩ (.bool fb)) ((((w5.setCell ⟨wr.heap.size + 1, 0, none⟩ (.int .i64 fk)).setCell ⟨wr.heap.size + 1, 1, none⟩ (.int .i64 fv)).setCell ⟨wr.heap.size + 1, 2, none⟩ (.bool fb)).alloc (.cells #[.int .i64 fk, .int .i64 fv, .bool fb] 51)) := (Chg.refl _ _).alloc _
        have HOW1 := Lib.hid (how.keep hcb1)
        clear how
        go_wp2_with (refine wpList_append_E foundE (by rfl) _ _ _ (by rfl) i0 _ 24 Try.underlying64 hi0 hz0 hz1 hz2 rfl _ (by rfl) _ w2.heap.size HOW1.out (Nat.le_trans hcs.size hcb1.size) ⟨w5.heap.size, 0, none⟩ 1 _ (by rfl) [fndL ltM x (treeL (ltR id) l)] rfl (by decide) ?_ ?_ ?_ ?_)
        · exact El.src1 foundE (c := #[.int .i64 fk, .int .i64 fv, .bool fb]) (ha_at _ _ (by simp)) _ hfl.symm
        · have := HLL.out; unfold maxLen; omega
        · have := HLL.out; omega
        intro v' w' h1 h2 _
        have hcz : Chg (fun _ _ => False) w2 w' := (hcs.trans hcb1).trans' h2 (fun _ _ _ h => h) (fun b o hb h => by omega)
        go_wp2
        go_roundw
        case rel => exact ⟨j + 1, by omega, by go_num, by rw [HTT.out]; exact h1, hcz⟩
        case measure => simp [intOf]; omega
    · obtain rfl : j = ks.length := by omega
      go_wp2
      go_ret
      exact ⟨_, rfl, by rw [List.take_of_length_le (by simp)] at how; exact how.mono hsz2, hc12.trans hc⟩
end Go.Proofs.Ytkgcjgedpefhjaa
