/- BGetMut, its reference and the law. -/
import Derived.BigQuiet
import Derived.Test.YtcabnhpnkaielaaA9
import Derived.Test.YtcabnhpnkaielaaCa
import Derived.Test.YtcabnhpnkaielaaBy
namespace Go.Proofs.Ytcabnhpnkaielaa
set_option linter.unusedSimpArgs false
set_option linter.unusedVariables false
open Go.RowKit

theorem HeapAt.chg {ord : List Int} {k : Kc ord} {w w' : World} {hp t : Nat} (h : HeapAt k w hp t) (c : Chg (fun _ _ => False) w w') : HeapAt k w' hp t := by
  unfold HeapAt at h ⊢
  rw [c.block (heap_lt h) (fun _ h => h)]; exact h

def OwnPostF (xs : List (Option (Int × Int))) (w : World) (e : Ending) (w' : World) : Prop := ∃ v, e = .returned v ∧ OwnE foundE w' v xs w.heap.size ∧ Chg (fun _ _ => False) w w'

theorem foundV_agg (o : Option (Int × Int)) : ∃ k v b, foundV o = .agg #[.int .i64 k, .int .i64 v, .bool b] ∧ foundL o = [.int .i64 k, .int .i64 v, .bool b] := by
  cases o with
  | none => exact ⟨0, 0, false, rfl, rfl⟩
  | some y => exact ⟨y.1, y.2, true, rfl, rfl⟩


set_option maxRecDepth 100000 in
set_option maxHeartbeats 1000000 in
theorem BGetMut_any {ord : List Int} (sv : Value) (d : Int) (nl : Bool) (p : Option Addr) (cap : Nat) (l : List (It ord)) (kv : Value) (ks : List (It ord)) (w : World) (hs : SlE intE w sv ord) (hol : ord.length ≤ 2147483647) (hd : FitD d) (hl : ItemsAt w p l) (hlen : l.length ≤ 2147483647) (hk : SlE itemE w kv ks) (hkl : ks.length ≤ 2147483647) :
    Calls Try.prog 36 #[.agg #[sv, .int .i64 d, .bool nl], .slice p l.length cap, kv] w (OwnPostF (ks.map fun x => fndL (ltM (ord := ord)) x (growL l)) w) := by
  have HGR := Lib.hid (fun w1 (c : Chg (fun _ _ => False) w w1) => grow_any (ord := ord) sv d nl p cap l w1 hd (hs.chg c) hol (hl.chg c) hlen)
  have hdim := hd.dims.1
  unfold GrowPost at HGR
  obtain ⟨sa, sc, rfl⟩ : ∃ a c, sv = .slice a ord.length c := hs.form
  obtain ⟨a, kcap, rfl⟩ := hk.form
  have HS := Lib.hid hk
  clear hk hs hl
  obtain ⟨i0, hi0, hz0, hz1, hz2⟩ := info_parts infoFound
  go_enter Try.func36, Try.ntmps36
  go_wp2_with fail
  refine (HGR.out _ ((Chg.refl _ _).alloc _)).mono ?_
  rintro e w1 ⟨k, hp, t, F, rfl, hH, hM, hc1', _⟩
  have hc1 := ((Chg.refl (fun _ _ => False) w).alloc (.cells #[.slice sa ord.length sc, .int .i64 d, .bool nl] 24)).trans hc1'
  clear hc1'
  go_wp2_with fail
  go_loopw [8, 16] (fun v i wr => ∃ (j : Nat), j ≤ ks.length ∧ i = .int .i64 j ∧ OwnE foundE wr v ((ks.map fun x => fndL (ltM (ord := ord)) x (growL l)).take j) w1.heap.size ∧ Chg (fun _ _ => False) w1 wr) (fun _ i _ => ks.length - (intOf i).toNat)
  case atStart => exact ⟨0, Nat.zero_le _, rfl, OwnE.nil _ _ _, Chg.refl _ _⟩
  case round =>
    obtain ⟨j, hj, rfl, how, hc⟩ := hrel
    have hsz := hc.size
    have hsz1 := hc1.size
    by_cases hlt : j < ks.length
    · obtain ⟨x, hx⟩ : ∃ x, ks[j]? = some x := ⟨_, List.getElem?_eq_getElem hlt⟩
      obtain ⟨b, o, rfl, g0, g1⟩ := (HS.out.chg (hc1.trans hc)).item hx
      have ht : (ks.map fun x => fndL (ltM (ord := ord)) x (growL l)).take (j + 1) = (ks.map fun x => fndL (ltM (ord := ord)) x (growL l)).take j ++ [fndL (ltM (ord := ord)) x (growL l)] := by rw [List.take_add_one, List.getElem?_map, hx]; rfl
      have hll : ((ks.map fun x => fndL (ltM (ord := ord)) x (growL l)).take j).length ≤ ks.length := by simp; omega
      have hca := (Chg.refl (fun _ _ => False) wr).alloc (.cells #[.int .i64 x.1, .int .i64 x.2] 26)
      have hg := GetMut_any x (HeapAt.chg hH (hc.trans hca)) (hM.chg (hc.trans hca)) hdim
      unfold aggM at hg
      obtain ⟨fk, fv, fb, hfv, hfl⟩ := foundV_agg (fndL (ltM (ord := ord)) x (growL l))
      have hp := fun w => foundAny_any (fndL (ltM (ord := ord)) x (growL l)) w
      rw [hfv] at hp
      obtain ⟨ov, hov⟩ : ∃ ov, optV (fndL (ltM (ord := ord)) x (growL l)) = ov := ⟨_, rfl⟩
      rw [hov] at hg hp
      clear hov
      have HT := Lib.hid ht
      have HLL := Lib.hid hll
      have HG := Lib.hid hg
      have HP := Lib.hid hp
      have HOW0 := Lib.hid how
      clear hx ht hll hg hp how hfv
      have i0' : (0 : Int) ≤ (j : Int) := by omega
      have i1 : (j : Int) < (ks.length : Int) := by omega
      go_wp2_with fail
      refine HG.out.mono ?_
      rintro e w2 ⟨rfl, hc2'⟩
      have hc2 := hca.trans hc2'
      go_wp2_with fail
      refine (HP.out _).mono ?_
      rintro e w3 ⟨rfl, hc3⟩
      have hc13 := (hc.trans hc2).trans hc3
      have how := HOW0.out.keep (hc2.trans hc3)
      have hcb1 : Chg (fun _ _ => False) w3 (w3.alloc (.cells #[.int .i64 fk, .int .i64 fv, .bool fb] 45)) := (Chg.refl _ _).alloc _
      have HOW1 := Lib.hid (how.keep hcb1)
      clear how
      go_wp2_with (refine wpList_append_E foundE (by rfl) _ _ _ (by rfl) i0 _ 24 Try.underlying47 hi0 hz0 hz1 hz2 rfl _ (by rfl) _ w1.heap.size HOW1.out (Nat.le_trans hc13.size hcb1.size) ⟨w3.heap.size, 0, none⟩ 1 _ (by rfl) [fndL (ltM (ord := ord)) x (growL l)] rfl (by decide) ?_ ?_ ?_ ?_)
      · exact El.src1 foundE (c := #[.int .i64 fk, .int .i64 fv, .bool fb]) (ha_at _ _ (by simp)) _ hfl.symm
      · have := HLL.out; unfold maxLen; omega
      · have := HLL.out; omega
      intro v' w' h1 h2 _
      have hcz : Chg (fun _ _ => False) w1 w' := (hc13.trans hcb1).trans' h2 (fun _ _ _ h => h) (fun b o hb h => by omega)
      go_wp2
      go_roundw
      case rel => exact ⟨j + 1, by omega, by go_num, by rw [HT.out]; exact h1, hcz⟩
      case measure => simp [intOf]; omega
    · obtain rfl : j = ks.length := by omega
      go_wp2
      go_ret
      exact ⟨_, rfl, by rw [List.take_of_length_le (by simp)] at how; exact how.mono hsz1, hc1.trans hc⟩

theorem place_fnd {ord : List Int} {l : List (Int × Int)} {x : Int × Int} {i : Nat} {b : Bool} (h : PlaceIs (ltR (rkL ord)) l x i b) : (if b then atL l i else none) = fndL (ltR (rkL ord)) x l := by
  have h2 := (putL_ins h).2
  have e : fndL (ltR (rkL ord)) x l = fndL (ltR (rkL ord)) x l := rfl
  rw [e, ← h2]
  unfold putF atL
  split <;> simp

set_option maxRecDepth 100000 in
set_option maxHeartbeats 1000000 in
theorem specGGet_any {ord : List Int} (sv : Value) (d : Int) (nl : Bool) (p : Option Addr) (cap : Nat) (l : List (Int × Int)) (kv : Value) (ks : List (Int × Int)) (w : World) (hs : SlE intE w sv ord) (hol : ord.length ≤ 2147483647) (hl : ItemsAt w p l) (hk : SlE itemE w kv ks) (hlen : l.length ≤ 2147483647) (hkl : ks.length ≤ 2147483647) :
    Calls Try.prog 37 #[.agg #[sv, .int .i64 d, .bool nl], .slice p l.length cap, kv] w (OwnPostF (ks.map fun x => fndL (ltR (rkL ord)) x (treeL (ltR (rkL ord)) l)) w) := by
  obtain ⟨a, kcap, rfl⟩ := hk.form
  have HS := Lib.hid hk
  clear hk
  obtain ⟨i0, hi0, hz0, hz1, hz2⟩ := info_parts infoFound
  have HT := Lib.hid (fun w1 (c : Chg (fun _ _ => False) w w1) => tree_any sv (rkL ord) p cap l w1 (rank_list sv ord w1 (hs.chg c) hol) (hl.chg c) hlen)
  have hlen2 := treeL_len (ltR (rkL ord)) l
  have HR := Lib.hid (fun w1 (c : Chg (fun _ _ => False) w w1) => rank_list sv ord w1 (hs.chg c) hol)
  obtain ⟨sa, sc, rfl⟩ : ∃ a c, sv = .slice a ord.length c := hs.form
  clear hl hs
  go_enter Try.func37, Try.ntmps37
  go_wp2_with fail
  refine name_calls (fun w1 => Chg (fun _ _ => False) w w1 ∧ w1.heap[w.heap.size]? = some (.cells #[.slice sa ord.length sc, .int .i64 d, .bool nl] 24 (0, 0))) ⟨(Chg.refl _ _).alloc _, ha_at _ _ rfl⟩ ?_
  rintro w1 ⟨hc1, hb1⟩
  refine (HT.out _ hc1).mono ?_
  rintro e w2 ⟨v2, rfl, hv2, hc2⟩
  obtain ⟨q, cap2, rfl, hi, hcap⟩ := hv2.items
  have hc12 := hc1.trans hc2
  have hlt := heap_lt hb1
  have m0 := hc2.cell (fun h => h) (cell_of_block hb1 0)
  have HI := Lib.hid hi
  clear hb1 hi hv2
  go_wp2_with fail
  go_loopw [8, 20] (fun v i wr => ∃ (j : Nat), j ≤ ks.length ∧ i = .int .i64 j ∧ OwnE foundE wr v ((ks.map fun x => fndL (ltR (rkL ord)) x (treeL (ltR (rkL ord)) l)).take j) w2.heap.size ∧ Chg (fun _ _ => False) w2 wr) (fun _ i _ => ks.length - (intOf i).toNat)
  case atStart => exact ⟨0, Nat.zero_le _, rfl, OwnE.nil _ _ _, Chg.refl _ _⟩
  case round =>
    obtain ⟨j, hj, rfl, how, hc⟩ := hrel
    have hsz := hc.size
    have hsz2 := hc12.size
    by_cases hlt : j < ks.length
    · obtain ⟨x, hx⟩ : ∃ x, ks[j]? = some x := ⟨_, List.getElem?_eq_getElem hlt⟩
      obtain ⟨b, o, rfl, g0, g1⟩ := (HS.out.chg (hc12.trans hc)).item hx
      have ht : (ks.map fun x => fndL (ltR (rkL ord)) x (treeL (ltR (rkL ord)) l)).take (j + 1) = (ks.map fun x => fndL (ltR (rkL ord)) x (treeL (ltR (rkL ord)) l)).take j ++ [fndL (ltR (rkL ord)) x (treeL (ltR (rkL ord)) l)] := by rw [List.take_add_one, List.getElem?_map, hx]; rfl
      have hll : ((ks.map fun x => fndL (ltR (rkL ord)) x (treeL (ltR (rkL ord)) l)).take j).length ≤ ks.length := by simp; omega
      have HTT := Lib.hid ht
      have HLL := Lib.hid hll
      have HOW0 := Lib.hid how
      clear hx ht hll how
      have m1 := hc.cell (fun h => h) m0
      have m2 : ∀ o1 o2, ((wr.alloc o1).alloc o2).cell? ⟨w.heap.size, 0, none⟩ = some (.slice sa ord.length sc) := fun o1 o2 => (((Chg.refl (fun _ _ => False) wr).alloc o1).alloc o2).cell (fun h => h) m1
      have i0' : (0 : Int) ≤ (j : Int) := by omega
      have i1 : (j : Int) < (ks.length : Int) := by omega
      go_wp2_with fail
      refine name_calls (fun w3 => Chg (fun _ _ => False) wr w3 ∧ w3.heap[wr.heap.size]? = some (.cells #[.int .i64 x.1, .int .i64 x.2] 26 (0, 0)) ∧ w3.heap[wr.heap.size + 1]? = some (.cells #[.int .i64 0, .int .i64 0, .bool false] 45 (0, 0))) ⟨((Chg.refl _ _).alloc _).alloc _, ?_, ?_⟩ ?_
      · rw [ha_lt _ _ (by simp)]; exact ha_at _ _ rfl
      · exact ha_at _ _ (by simp)
      rintro w3 ⟨hc3, hb3, hb4⟩
      refine (place_any (.slice sa ord.length sc) (rkL ord) q cap2 (treeL (ltR (rkL ord)) l) x _ (HR.out _ (hc12.trans (hc.trans hc3))) (HI.out.chg (hc.trans hc3)) (by omega)).mono ?_
      rintro e w4 ⟨⟨i, f, rfl, hpl⟩, hc4⟩
      have hfd := place_fnd hpl
      have hb5 : w4.heap[wr.heap.size + 1]? = some (.cells #[.int .i64 0, .int .i64 0, .bool false] 45 (0, 0)) := by rw [hc4.block (heap_lt hb4) (fun _ h => h)]; exact hb4
      have hlt5 := heap_lt hb5
      clear hpl hb3 hb4 g0 g1
      cases f
      · have c0 := cell_of_block hb5 0
        have c1 := cell_of_block hb5 1
        have c2 := cell_of_block hb5 2
        simp only [List.getElem?_toArray, List.getElem?_cons_zero, List.getElem?_cons_succ] at c0 c1 c2
        have hfl : foundL (fndL (ltR (rkL ord)) x (treeL (ltR (rkL ord)) l)) = [.int .i64 0, .int .i64 0, .bool false] := by rw [← hfd]; rfl
        have HFL := Lib.hid hfl
        clear hb5 hfd hfl
        obtain ⟨fk, fv, fb, e1, e2, e3⟩ : ∃ (fk fv : Int) (fb : Bool), fk = 0 ∧ fv = 0 ∧ fb = false := ⟨0, 0, false, rfl, rfl, rfl⟩
        have hfl : foundL (fndL (ltR (rkL ord)) x (treeL (ltR (rkL ord)) l)) = [.int .i64 fk, .int .i64 fv, .bool fb] := by rw [HFL.out, e1, e2, e3]
        rw [← e1] at c0
        rw [← e2] at c1
        rw [← e3] at c2
        clear e1 e2 e3 HFL
        have hc24 := (hc.trans hc3).trans hc4
        have how := HOW0.out.keep (hc3.trans hc4)
        have hcb1 : Chg (fun _ _ => False) w4 (w4.alloc (.cells #[.int .i64 fk, .int .i64 fv, .bool fb] 45)) := (Chg.refl _ _).alloc _
        have HOW1 := Lib.hid (how.keep hcb1)
        clear how
        go_wp2_with (refine wpList_append_E foundE (by rfl) _ _ _ (by rfl) i0 _ 24 Try.underlying47 hi0 hz0 hz1 hz2 rfl _ (by rfl) _ w2.heap.size HOW1.out (Nat.le_trans hc24.size hcb1.size) ⟨w4.heap.size, 0, none⟩ 1 _ (by rfl) [fndL (ltR (rkL ord)) x (treeL (ltR (rkL ord)) l)] rfl (by decide) ?_ ?_ ?_ ?_)
        · exact El.src1 foundE (c := #[.int .i64 fk, .int .i64 fv, .bool fb]) (ha_at _ _ (by simp)) _ hfl.symm
        · have := HLL.out; unfold maxLen; omega
        · have := HLL.out; omega
        intro v' w' h1 h2 _
        have hcz : Chg (fun _ _ => False) w2 w' := (hc24.trans hcb1).trans' h2 (fun _ _ _ h => h) (fun b o hb h => by omega)
        go_wp2
        go_roundw
        case rel => exact ⟨j + 1, by omega, by go_num, by rw [HTT.out]; exact h1, hcz⟩
        case measure => simp [intOf]; omega
      · have hfd' : atL (treeL (ltR (rkL ord)) l) (i : Int) = fndL (ltR (rkL ord)) x (treeL (ltR (rkL ord)) l) := by rw [← hfd]; rfl
        have hat := at_any q cap2 (treeL (ltR (rkL ord)) l) i w4 (HI.out.chg ((hc.trans hc3).trans hc4)) (by omega) hcap
        rw [hfd'] at hat
        obtain ⟨fk, fv, fb, hfv, hfl⟩ := foundV_agg (fndL (ltR (rkL ord)) x (treeL (ltR (rkL ord)) l))
        rw [hfv] at hat
        have HAT := Lib.hid hat
        have HB5 := Lib.hid hb5
        clear hfd hfd' hat hfv hb5
        go_wp2_with fail
        refine HAT.out.mono ?_
        rintro e w5 ⟨rfl, hc5⟩
        have hb6 : w5.heap[wr.heap.size + 1]? = some (.cells #[.int .i64 0, .int .i64 0, .bool false] 45 (0, 0)) := by rw [hc5.block (heap_lt HB5.out) (fun _ h => h)]; exact HB5.out
        have c0 := cell_of_block hb6 0
        have c1 := cell_of_block hb6 1
        have c2 := cell_of_block hb6 2
        have z0 := frozen_of_block hb6 0
        have z1 := frozen_of_block hb6 1
        have z2 := frozen_of_block hb6 2
        simp only [List.getElem?_toArray, List.getElem?_cons_zero, List.getElem?_cons_succ] at c0 c1 c2
        clear hb6
        have hc25 := ((hc.trans hc3).trans hc4).trans hc5
        have how5 := HOW0.out.keep ((hc3.trans hc4).trans hc5)
        have hst : Chg (fun b _ => b = wr.heap.size + 1) w5 (((w5.setCell ⟨wr.heap.size + 1, 0, none⟩ (.int .i64 fk)).setCell ⟨wr.heap.size + 1, 1, none⟩ (.int .i64 fv)).setCell ⟨wr.heap.size + 1, 2, none⟩ (.bool fb)) := by
          repeat (first | refine Chg.setCell ?_ (.inl rfl) _ | exact Chg.refl _ _)
        have hcs : Chg (fun _ _ => False) w2 (((w5.setCell ⟨wr.heap.size + 1, 0, none⟩ (.int .i64 fk)).setCell ⟨wr.heap.size + 1, 1, none⟩ (.int .i64 fv)).setCell ⟨wr.heap.size + 1, 2, none⟩ (.bool fb)) := hc25.trans' hst (fun _ _ _ h => h) (fun b o hb h => by omega)
        have how := how5.chgOwn hst (fun b o hb h => by have := (HOW0.out.own_lt hb).2; omega)
        clear how5 hst
        have hcb1 : Chg (fun _ _ => False) (((w5.setCell ⟨wr.heap.size + 1, 0, none⟩ (.int .i64 fk)).setCell ⟨wr.heap.size + 1, 1, none⟩ (.int .i64 fv)).setCell ⟨wr.heap.size + 1, 2, none⟩ (.bool fb)) ((((w5.setCell ⟨wr.heap.size + 1, 0, none⟩ (.int .i64 fk)).setCell ⟨wr.heap.size + 1, 1, none⟩ (.int .i64 fv)).setCell ⟨wr.heap.size + 1, 2, none⟩ (.bool fb)).alloc (.cells #[.int .i64 fk, .int .i64 fv, .bool fb] 45)) := (Chg.refl _ _).alloc _
        have HOW1 := Lib.hid (how.keep hcb1)
        clear how
        go_wp2_with (refine wpList_append_E foundE (by rfl) _ _ _ (by rfl) i0 _ 24 Try.underlying47 hi0 hz0 hz1 hz2 rfl _ (by rfl) _ w2.heap.size HOW1.out (Nat.le_trans hcs.size hcb1.size) ⟨w5.heap.size, 0, none⟩ 1 _ (by rfl) [fndL (ltR (rkL ord)) x (treeL (ltR (rkL ord)) l)] rfl (by decide) ?_ ?_ ?_ ?_)
        · exact El.src1 foundE (c := #[.int .i64 fk, .int .i64 fv, .bool fb]) (ha_at _ _ (by simp)) _ hfl.symm
        · have := HLL.out; unfold maxLen; omega
        · have := HLL.out; omega
        intro v' w' h1 h2 _
        have hcz : Chg (fun _ _ => False) w2 w' := (hcs.trans hcb1).trans' h2 (fun _ _ _ h => h) (fun b o hb h => by omega)
        go_wp2
        go_roundw
        case rel => exact ⟨j + 1, by omega, by go_num, by rw [HTT.out]; exact h1, hcz⟩
        case measure => simp [intOf]; omega
    · obtain rfl : j = ks.length := by omega
      go_wp2
      go_ret
      exact ⟨_, rfl, by rw [List.take_of_length_le (by simp)] at how; exact how.mono hsz2, hc12.trans hc⟩

set_option maxRecDepth 100000 in
theorem bGetMut_any {ord : List Int} (sv : Value) (d : Int) (nl : Bool) (p : Option Addr) (cap : Nat) (l : List (It ord)) (kv : Value) (ks : List (It ord)) (w : World) (hs : SlE intE w sv ord) (hol : ord.length ≤ 2147483647) (hd : FitD d) (hl : ItemsAt w p l) (hlen : l.length ≤ 2147483647) (hk : SlE itemE w kv ks) (hkl : ks.length ≤ 2147483647) :
    Calls Try.prog 19 #[.agg #[sv, .int .i64 d, .bool nl], .slice p l.length cap, kv] w fun e w' => e = .returned (.bool true) ∧ Chg (fun _ _ => False) w w' := by
  have HM := Lib.hid (fun w1 (c : Chg (fun _ _ => False) w w1) => BGetMut_any sv d nl p cap l kv ks w1 (hs.chg c) hol hd (hl.chg c) hlen (hk.chg c) hkl)
  have HG := Lib.hid (fun w1 (c : Chg (fun _ _ => False) w w1) => specGGet_any sv d nl p cap l kv ks w1 (hs.chg c) hol (hl.chg c) (hk.chg c) hlen hkl)
  have e1 : (ks.map fun x => fndL (ltM (ord := ord)) x (growL l)) = ks.map fun x => fndL (ltR (rkL ord)) x (treeL (ltR (rkL ord)) l) := rfl
  rw [e1] at HM
  have hxl : (ks.map fun x => fndL (ltR (rkL ord)) x (treeL (ltR (rkL ord)) l)).length ≤ 9223372036854775806 := by simp; omega
  unfold OwnPostF at HM HG
  generalize (ks.map fun x => fndL (ltR (rkL ord)) x (treeL (ltR (rkL ord)) l)) = L at HM HG hxl
  obtain ⟨sa, sc, rfl⟩ : ∃ a c, sv = .slice a ord.length c := hs.form
  obtain ⟨a, kcap, rfl⟩ := hk.form
  clear hs hl hk e1
  go_enter Try.func19, Try.ntmps19
  go_wp2_with fail
  refine (HM.out _ ((Chg.refl _ _).alloc _)).mono ?_
  rintro e w1 ⟨v1, rfl, how1, hc1⟩
  have hb0 : w1.heap[w.heap.size]? = some (.cells #[.slice sa ord.length sc, .int .i64 d, .bool nl] 24 (0, 0)) := by rw [hc1.block (by simp) (fun _ h => h)]; exact ha_at _ _ rfl
  have m0 := cell_of_block hb0 0
  have m1 := cell_of_block hb0 1
  have m2 := cell_of_block hb0 2
  simp only [List.getElem?_toArray, List.getElem?_cons_zero, List.getElem?_cons_succ] at m0 m1 m2
  have hc01 := ((Chg.refl (fun _ _ => False) w).alloc (.cells #[.slice sa ord.length sc, .int .i64 d, .bool nl] 24)).trans hc1
  clear hb0
  go_wp2_with fail
  refine (HG.out _ hc01).mono ?_
  rintro e w2 ⟨v2, rfl, how2, hc2⟩
  go_wp2_with fail
  refine (equal_found _ _ _ _ (how1.sl.chg hc2) how2.sl hxl).mono ?_
  rintro e w3 ⟨rfl, hc3⟩
  go_wp2_with fail
  go_ret
  exact ⟨rfl, (hc01.trans hc2).trans hc3⟩

def exKL : List (Int × Int) := [(3, 0), (4, 0), (9, 1)]

def exKCells : Array Value := #[.int .i64 3, .int .i64 0, .int .i64 4, .int .i64 0, .int .i64 9, .int .i64 1]

def ExKPost (w : World) (e : Ending) (w' : World) : Prop := ∃ p, e = .returned (.slice p exKL.length 3) ∧ ItemsAt w' p exKL ∧ Chg (fun _ _ => False) w w'

theorem exKeys_any (w : World) : Calls Try.prog 20 #[] w (ExKPost w) := by
  have fin : ExKPost w (.returned (.slice (some ⟨w.heap.size, 0, none⟩) 3 3)) (w.alloc (.cells exKCells 26)) := by
    refine ⟨_, rfl, .inr ⟨w.heap.size, 0, rfl, fun i x hx => ?_⟩, (Chg.refl _ _).alloc _⟩
    have hb : (w.alloc (.cells exKCells 26)).heap[w.heap.size]? = some (.cells exKCells 26 (0, 0)) := ha_at _ _ rfl
    rw [cell_of_block hb, cell_of_block hb]
    match i, hx with
    | 0, hx => simp [exKL] at hx; subst hx; exact ⟨rfl, rfl⟩
    | 1, hx => simp [exKL] at hx; subst hx; exact ⟨rfl, rfl⟩
    | 2, hx => simp [exKL] at hx; subst hx; exact ⟨rfl, rfl⟩
    | n + 3, hx => simp [exKL] at hx
  have FIN := Lib.hid fin
  clear fin
  go_enter Try.func20, Try.ntmps20
  go_wp2
  go_ret
  exact FIN.out

set_option maxRecDepth 100000 in
theorem law_ExactBGetMut (sv : Value) (os : List Int) (d : Int) (nl : Bool) (p : Option Addr) (cap : Nat) (l : List (Int × Int)) (kv : Value) (ks : List (Int × Int)) (w : World) (hs : SlE intE w sv os) (hl : ItemsAt w p l) (hk : SlE itemE w kv ks) :
    Calls Try.prog 5 #[.agg #[sv, .int .i64 d, .bool nl], .slice p l.length cap, kv] w fun e w' => e = .returned (.bool true) ∧ Chg (fun _ _ => False) w w' := by
  obtain ⟨sa, sc, rfl⟩ : ∃ a c, sv = .slice a os.length c := hs.form
  obtain ⟨ka, kcap, rfl⟩ := hk.form
  have hz := fun w1 => zzFits1_any sa os.length sc d nl w1
  by_cases hol : os.length ≤ 2147483647
  rotate_left
  · rw [decide_eq_false hol] at hz
    go_enter Try.func5, Try.ntmps5
    go_wp2_with fail
    refine name_calls (fun w1 => Chg (fun _ _ => False) w w1) (((Chg.refl _ _).alloc _)) ?_
    intro w1 hc1
    refine (hz w1).mono ?_
    rintro e w2 ⟨rfl, hc2⟩
    go_wp2_with fail
    go_ret
    exact ⟨rfl, hc1.trans hc2⟩
  rw [decide_eq_true hol] at hz
  by_cases hlen : l.length ≤ 2147483647
  rotate_left
  · have hlen' : 2147483647 < l.length := by omega
    go_enter Try.func5, Try.ntmps5
    go_wp2_with fail
    refine name_calls (fun w1 => Chg (fun _ _ => False) w w1) (((Chg.refl _ _).alloc _)) ?_
    intro w1 hc1
    refine (hz w1).mono ?_
    rintro e w2 ⟨rfl, hc2⟩
    go_wp2_with fail
    go_ret
    exact ⟨rfl, hc1.trans hc2⟩
  by_cases hkl : ks.length ≤ 2147483647
  rotate_left
  · have hn : ¬ 2147483647 < l.length := by omega
    have hlen' : 2147483647 < ks.length := by omega
    go_enter Try.func5, Try.ntmps5
    go_wp2_with fail
    refine name_calls (fun w1 => Chg (fun _ _ => False) w w1) (((Chg.refl _ _).alloc _)) ?_
    intro w1 hc1
    refine (hz w1).mono ?_
    rintro e w2 ⟨rfl, hc2⟩
    go_wp2_with fail
    go_ret
    exact ⟨rfl, hc1.trans hc2⟩
  have hn : ¬ 2147483647 < l.length := by omega
  have hnk : ¬ 2147483647 < ks.length := by omega
  have HEX := Lib.hid (fun q q' w1 (hq : ItemsAt w1 q exL) (hq' : ItemsAt w1 q' exKL) => bGetMut_any (ord := []) (.slice none 0 0) 2 false q 7 exL (.slice q' exKL.length 3) exKL w1 ⟨none, 0, rfl, Nat.le_refl _, .inl rfl⟩ (by simp) (.inr ⟨by omega, by omega⟩) hq (by decide) (hq'.sl (by decide)) (by decide))
  have HG := Lib.hid (fun hd w1 (c : Chg (fun _ _ => False) w w1) => bGetMut_any (ord := os) (.slice sa os.length sc) d nl p cap l (.slice ka ks.length kcap) ks w1 (hs.chg c) hol hd (hl.chg c) hlen (hk.chg c) hkl)
  clear hs hl hk
  have q1 : exL.length = 7 := rfl
  have q2 : exKL.length = 3 := rfl
  go_enter Try.func5, Try.ntmps5
  go_wp2_with fail
  refine name_calls (fun w1 => Chg (fun _ _ => False) w w1 ∧ w1.heap[w.heap.size]? = some (.cells #[.slice sa os.length sc, .int .i64 d, .bool nl] 24 (0, 0))) ⟨((Chg.refl _ _).alloc _), ha_at _ _ rfl⟩ ?_
  rintro w1 ⟨hc1, hb0⟩
  have m0 := cell_of_block hb0 0
  have m1 := cell_of_block hb0 1
  have m2 := cell_of_block hb0 2
  simp only [List.getElem?_toArray, List.getElem?_cons_zero, List.getElem?_cons_succ] at m0 m1 m2
  clear hb0
  refine (hz w1).mono ?_
  rintro e w2 ⟨rfl, hc2⟩
  replace m0 := hc2.cell (fun h => h) m0
  replace m1 := hc2.cell (fun h => h) m1
  replace m2 := hc2.cell (fun h => h) m2
  go_wp2_with fail
  refine (exMake_any _).mono ?_
  rintro e w3 ⟨rfl, hc3⟩
  replace m0 := hc3.cell (fun h => h) m0
  replace m1 := hc3.cell (fun h => h) m1
  replace m2 := hc3.cell (fun h => h) m2
  go_wp2_with fail
  refine (exItems_any _).mono ?_
  rintro e w4 ⟨q, rfl, hq, hc4⟩
  replace m0 := hc4.cell (fun h => h) m0
  replace m1 := hc4.cell (fun h => h) m1
  replace m2 := hc4.cell (fun h => h) m2
  go_wp2_with fail
  refine (exKeys_any _).mono ?_
  rintro e w5 ⟨q', rfl, hq', hc5⟩
  replace m0 := hc5.cell (fun h => h) m0
  replace m1 := hc5.cell (fun h => h) m1
  replace m2 := hc5.cell (fun h => h) m2
  go_wp2_with fail
  refine (HEX.out q q' _ (hq.chg hc5) hq').mono ?_
  rintro e w6 ⟨rfl, hc6⟩
  replace m0 := hc6.cell (fun h => h) m0
  replace m1 := hc6.cell (fun h => h) m1
  replace m2 := hc6.cell (fun h => h) m2
  have hc04 := ((((hc1.trans hc2).trans hc3).trans hc4).trans hc5).trans hc6
  by_cases hd : FitD d
  · go_wp2_with fail
    refine (fits_fit d _ hd).mono ?_
    rintro e w' ⟨rfl, rfl⟩
    go_wp2_with fail
    refine (HG.out hd _ hc04).mono ?_
    rintro e w5 ⟨rfl, hc5⟩
    go_wp2_with fail
    go_ret
    exact ⟨rfl, hc04.trans hc5⟩
  · go_wp2_with fail
    refine (fits_not d _ hd).mono ?_
    rintro e w' ⟨rfl, rfl⟩
    go_wp2_with fail
    go_ret
    exact ⟨rfl, hc04⟩
end Go.Proofs.Ytcabnhpnkaielaa
