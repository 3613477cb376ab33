/- Keys that were found; GetAt of sets, SGetAt, its reference and the law. -/
import Derived.Test.YtjggkpmlffhjgaaGa
import Derived.Test.YtjggkpmlffhjgaaZb
namespace Go.Proofs.Ytjggkpmlffhjgaa
set_option linter.unusedSimpArgs false
set_option linter.unusedVariables false
open Go.RowKit

def keyL (o : Option Int) : List Value := match o with
  | some k => [.int .i64 k, .bool true]
  | none => [.int .i64 0, .bool false]

def keyV (o : Option Int) : Value := match o with
  | some k => .agg #[.int .i64 k, .bool true]
  | none => .agg #[.int .i64 0, .bool false]

def keyE : El (Option Int) where
  es := 2
  enc := keyL
  T := 60
  epos := by omega
  elen := by intro x; cases x <;> rfl
  eone := by intro x v hv; cases x <;> simp [keyL] at hv <;> rcases hv with rfl | rfl <;> rfl

theorem infoKey : (Try.prog.info? 60).map (fun i => (i.zero, i.size, i.bytes)) = some (some (.agg #[.int .i64 0, .bool false]), 2, 16) := by kernel_rfl

theorem keyV_agg (o : Option Int) : ∃ k b, keyV o = .agg #[.int .i64 k, .bool b] ∧ keyL o = [.int .i64 k, .bool b] := by
  cases o with
  | none => exact ⟨0, false, rfl, rfl⟩
  | some y => exact ⟨y, true, rfl, rfl⟩

theorem SlE.key {w : World} {a : Option Addr} {n cap : Nat} {xs : List (Option Int)} (h : SlE keyE w (.slice a n cap) xs) {j : Nat} {x : Option Int} (hj : xs[j]? = some x) : ∃ b o k q, a = some ⟨b, o, none⟩ ∧ w.cell? ⟨b, o + j * 2, none⟩ = some (.int .i64 k) ∧ w.cell? ⟨b, o + j * 2 + 1, none⟩ = some (.bool q) ∧ keyL x = [.int .i64 k, .bool q] := by
  obtain ⟨b, o, h1, h2⟩ := h.cell hj
  cases x with
  | none => exact ⟨b, o, 0, false, h1, by have := h2 0 _ rfl; simpa [keyE] using this, by have := h2 1 _ rfl; rw [Nat.add_assoc]; simpa [keyE] using this, rfl⟩
  | some y => exact ⟨b, o, y, true, h1, by have := h2 0 _ rfl; simpa [keyE] using this, by have := h2 1 _ rfl; rw [Nat.add_assoc]; simpa [keyE] using this, rfl⟩


set_option maxRecDepth 100000 in
theorem equal_key (v v' : Value) (xs : List (Option Int)) (w : World) (h : SlE keyE w v xs) (h' : SlE keyE w v' xs) (hlen : xs.length ≤ 9223372036854775806) :
    Calls Try.prog 53 #[v, v'] w fun e w' => e = .returned (.bool true) ∧ Chg (fun _ _ => False) w w' := by
  obtain ⟨a, cap, rfl⟩ := h.form
  obtain ⟨a', cap', rfl⟩ := h'.form
  have HS := Lib.hid h
  have HS' := Lib.hid h'
  clear h h'
  go_enter Try.func53, Try.ntmps53
  go_wp2
  go_loopw [13] (fun i wr => ∃ (j : Nat), j ≤ xs.length ∧ i = .int .i64 j ∧ Chg (fun _ _ => False) w wr) (fun i _ => xs.length - (intOf i).toNat)
  case atStart => exact ⟨0, Nat.zero_le _, rfl, Chg.refl _ _⟩
  case round =>
    obtain ⟨j, hj, rfl, hc⟩ := hrel
    by_cases hlt : j < xs.length
    · obtain ⟨x, hx⟩ : ∃ x, xs[j]? = some x := ⟨_, List.getElem?_eq_getElem hlt⟩
      obtain ⟨b, o, k, q, rfl, g0, g1, e1⟩ := (HS.out.chg hc).key hx
      obtain ⟨b', o', k', q', rfl, g0', g1', e2⟩ := (HS'.out.chg hc).key hx
      obtain ⟨rfl, rfl⟩ : k = k' ∧ q = q' := by rw [e1] at e2; simpa using e2
      clear hx
      have i0 : (0 : Int) ≤ (j : Int) := by omega
      have i1 : (j : Int) < (xs.length : Int) := by omega
      go_wp2
      go_quiet (fail)
      go_wp2
      go_roundw
      case rel => exact ⟨j + 1, by omega, by go_num, hc.drewN _⟩
      case measure => simp [intOf]; omega
    · obtain rfl : j = xs.length := by omega
      go_wp2
      go_ret
      exact ⟨rfl, hc⟩

/-- key: what was found, as a Key. -/
theorem key_any (k : Int) (b : Bool) (w : World) :
    Calls Try.prog 81 #[.int .i64 k, .bool b] w fun e w' => e = .returned (.agg #[.int .i64 (if b then k else 0), .bool b]) ∧ Chg (fun _ _ => False) w w' := by
  cases b
  all_goals
    go_enter Try.func81, Try.ntmps81
    go_wp2
    first
    | (go_ret; refine ⟨rfl, ?_⟩)
    | (refine bodyPost_ret (v := .agg #[.int .i64 0, .bool false]) (by simp [results, Try.results81, go_sem]) rfl ?_; refine ⟨rfl, ?_⟩)
    | (refine bodyPost_ret (v := .agg #[.int .i64 k, .bool true]) (by simp [results, Try.results81, go_sem]) rfl ?_; refine ⟨rfl, ?_⟩)
    repeat (first | exact Chg.refl _ _ | refine Chg.setCell ?_ (.inr (by simp)) _ | refine Chg.alloc ?_ _ | refine Chg.drew ?_)

theorem GetAt_any {mn mx : Nat} {w : World} {F : Nat → Prop} {t : Nat} {l : List (Int × Int)} (i : Int) (hM : MapIn mn mx w F t l) (hmn : 1 ≤ mn) (hlen : l.length ≤ 1000000000000) :
    Calls Try.prog 134 #[.pointer (some ⟨t, 0, none⟩), .int .i64 i] w fun e w' => e = .returned (headS (atL l i)) ∧ Chg (fun _ _ => False) w w' := by
  have HC := Lib.hid (fun w1 (c : Chg (fun _ _ => False) w w1) => getAt_any false i (hM.chg c) hmn hlen)
  clear hM
  generalize atL l i = o at HC ⊢
  rcases o with _ | y
  · unfold headS at HC ⊢
    go_enter Try.func134, Try.ntmps134
    go_wp2_with fail
    refine (HC.out _ (by repeat (first | exact Chg.refl _ _ | refine Chg.alloc ?_ _))).mono ?_
    rintro e w2 ⟨rfl, hc⟩
    go_wp2_with fail
    refine bodyPost_ret (v := .tuple #[.int .i64 0, .agg #[], .bool false]) (by simp [results, Try.results134, go_sem]) rfl ?_
    refine ⟨rfl, ?_⟩
    first
    | exact hc
    | exact ((Chg.refl _ _).alloc _).trans hc
    | exact (((Chg.refl _ _).alloc _).trans hc).alloc _
  · unfold headS at HC ⊢
    go_enter Try.func134, Try.ntmps134
    go_wp2_with fail
    refine (HC.out _ (by repeat (first | exact Chg.refl _ _ | refine Chg.alloc ?_ _))).mono ?_
    rintro e w2 ⟨rfl, hc⟩
    go_wp2_with fail
    refine bodyPost_ret (v := .tuple #[.int .i64 y.1, .agg #[], .bool true]) (by simp [results, Try.results134, go_sem]) rfl ?_
    refine ⟨rfl, ?_⟩
    first
    | exact hc
    | exact ((Chg.refl _ _).alloc _).trans hc
    | exact (((Chg.refl _ _).alloc _).trans hc).alloc _

def kgV (o : Option (Int × Int)) : Value := match o with
  | some x => .tuple #[.int .i64 x.1, .bool true]
  | none => .tuple #[.int .i64 0, .bool false]

theorem SetGetAt_any {mn mx : Nat} {w : World} {F : Nat → Prop} {t : Nat} {l : List (Int × Int)} (i : Int) (hM : MapIn mn mx w F t l) (hmn : 1 ≤ mn) (hlen : l.length ≤ 1000000000000) :
    Calls Try.prog 90 #[.pointer (some ⟨t, 0, none⟩), .int .i64 i] w fun e w' => e = .returned (kgV (atL l i)) ∧ Chg (fun _ _ => False) w w' := by
  have HC := Lib.hid (fun w1 (c : Chg (fun _ _ => False) w w1) => GetAt_any i (hM.chg c) hmn hlen)
  clear hM
  generalize atL l i = o at HC ⊢
  rcases o with _ | y
  all_goals
    unfold headS at HC
    unfold kgV
    go_enter Try.func90, Try.ntmps90
    go_wp2_with fail
    refine (HC.out _ (by repeat (first | exact Chg.refl _ _ | refine Chg.alloc ?_ _))).mono ?_
    rintro e w2 ⟨rfl, hc⟩
    go_wp2_with fail
    go_ret2
    refine ⟨rfl, ?_⟩
    first
    | exact hc
    | exact ((Chg.refl _ _).alloc _).trans hc
    | exact hc.alloc _
    | exact (((Chg.refl _ _).alloc _).trans hc).alloc _

set_option maxRecDepth 100000 in
set_option maxHeartbeats 1000000 in
theorem SGetAt_any (v : Value) (l : List Int) (kv : Value) (ks : List Int) (w : World) (hs : SlE intE w v l) (hk : SlE intE w kv ks) (hlen : l.length ≤ 2147483647) (hkl : ks.length ≤ 2147483647) :
    Calls Try.prog 50 #[v, kv] w (OwnPost keyE (ks.map fun i => (atL (growL (l.map itK)) i).map Prod.fst) w) := by
  have HG := Lib.hid (growSet_any v l w hs hlen)
  unfold GrowPost at HG
  have hgl := growL_lenK l l.length
  rw [List.take_of_length_le (by simp)] at hgl
  generalize growL (l.map itK) = L at HG hgl ⊢
  obtain ⟨a0, cap0, rfl⟩ := hs.form
  obtain ⟨a, kcap, rfl⟩ := hk.form
  have HS := Lib.hid hk
  clear hk hs
  obtain ⟨i0, hi0, hz0, hz1, hz2⟩ := info_parts infoKey
  go_enter Try.func50, Try.ntmps50
  go_wp2_with fail
  refine HG.out.mono ?_
  rintro e w1 ⟨t, F, rfl, _, hM, hc1, _⟩
  have HM := Lib.hid hM
  clear hM HG
  go_wp2_with fail
  go_loopw [6, 13] (fun v i wr => ∃ (j : Nat), j ≤ ks.length ∧ i = .int .i64 j ∧ OwnE keyE wr v ((ks.map fun i => (atL L i).map Prod.fst).take j) w1.heap.size ∧ Chg (fun _ _ => False) w1 wr) (fun _ i _ => ks.length - (intOf i).toNat)
  case atStart => exact ⟨0, Nat.zero_le _, rfl, OwnE.nil _ _ _, Chg.refl _ _⟩
  case round =>
    obtain ⟨j, hj, rfl, how, hc⟩ := hrel
    have hsz := hc.size
    have hsz1 := hc1.size
    by_cases hlt : j < ks.length
    · obtain ⟨x, hx⟩ : ∃ x, ks[j]? = some x := ⟨_, List.getElem?_eq_getElem hlt⟩
      obtain ⟨b, o, rfl, g0⟩ := (HS.out.chg (hc1.trans hc)).int hx
      have ht : (ks.map fun i => (atL L i).map Prod.fst).take (j + 1) = (ks.map fun i => (atL L i).map Prod.fst).take j ++ [(atL L x).map Prod.fst] := by rw [List.take_add_one, List.getElem?_map, hx]; rfl
      have hll : ((ks.map fun i => (atL L i).map Prod.fst).take j).length ≤ ks.length := by simp; omega
      have hat := SetGetAt_any x (HM.out.chg hc) (by omega) (by omega)
      obtain ⟨fk, fb, hfv, hfl, hkg⟩ : ∃ fk fb, keyV ((atL L x).map Prod.fst) = .agg #[.int .i64 fk, .bool fb] ∧ keyL ((atL L x).map Prod.fst) = [.int .i64 fk, .bool fb] ∧ kgV (atL L x) = .tuple #[.int .i64 fk, .bool fb] ∧ (if fb then fk else 0) = fk := by
        cases atL L x with
        | none => exact ⟨0, false, rfl, rfl, rfl, rfl⟩
        | some y => exact ⟨y.1, true, rfl, rfl, rfl, rfl⟩
      obtain ⟨hkg, hif⟩ := hkg
      rw [hkg] at hat
      have hky := fun w2 => key_any fk fb w2
      rw [hif] at hky
      have HTT := Lib.hid ht
      have HLL := Lib.hid hll
      have HOW0 := Lib.hid how
      have HAT := Lib.hid hat
      have HKY := Lib.hid hky
      clear hx ht hll how hat hfv hkg hif hky
      have i0' : (0 : Int) ≤ (j : Int) := by omega
      have i1 : (j : Int) < (ks.length : Int) := by omega
      go_wp2_with fail
      refine HAT.out.mono ?_
      rintro e w4 ⟨rfl, hc4⟩
      go_wp2_with fail
      refine (HKY.out w4).mono ?_
      rintro e w5 ⟨rfl, hc45⟩
      have hc5 := hc4.trans hc45
      have hc25 := hc.trans hc5
      have how := HOW0.out.keep hc5
      have hcb1 : Chg (fun _ _ => False) w5 (w5.alloc (.cells #[.int .i64 fk, .bool fb] 60)) := (Chg.refl _ _).alloc _
      have HOW1 := Lib.hid (how.keep hcb1)
      clear how
      go_wp2_with (refine wpList_append_E2 keyE (by rfl) _ _ _ (by rfl) i0 _ 16 Try.underlying57 hi0 hz0 hz1 hz2 rfl _ (by rfl) _ w1.heap.size HOW1.out (Nat.le_trans hc25.size hcb1.size) ⟨w5.heap.size, 0, none⟩ 1 _ (by rfl) [(atL L x).map Prod.fst] rfl (by decide) ?_ ?_ ?_ ?_)
      · exact El.src1 keyE (c := #[.int .i64 fk, .bool fb]) (ha_at _ _ (by simp)) _ hfl.symm
      · have := HLL.out; unfold maxLen; omega
      · have := HLL.out; omega
      intro v' w' h1 h2 _
      have hcz : Chg (fun _ _ => False) w1 w' := (hc25.trans hcb1).trans' h2 (fun _ _ _ h => h) (fun b o hb h => by have := (HOW1.out.own_lt h).1; omega)
      go_wp2
      go_roundw
      case rel => exact ⟨j + 1, by omega, by go_num, by rw [HTT.out]; exact h1, hcz⟩
      case measure => simp [intOf]; omega
    · obtain rfl : j = ks.length := by omega
      go_wp2
      go_ret
      exact ⟨_, rfl, by rw [List.take_of_length_le (by simp)] at how; exact how.mono hsz1, hc1.trans hc⟩

theorem foundV_agg (o : Option (Int × Int)) : ∃ k v b, foundV o = .agg #[.int .i64 k, .int .i64 v, .bool b] ∧ foundL o = [.int .i64 k, .int .i64 v, .bool b] := by
  cases o with
  | none => exact ⟨0, 0, false, rfl, rfl⟩
  | some y => exact ⟨y.1, y.2, true, rfl, rfl⟩

set_option maxRecDepth 100000 in
set_option maxHeartbeats 1000000 in
theorem GGetAt_nil (p : Option Addr) (cap : Nat) (l : List (Int × Int)) (kv : Value) (ks : List Int) (w : World) (hl : ItemsAt w p l) (hk : SlE intE w kv ks) (hlen : l.length ≤ 2147483647) (hkl : ks.length ≤ 2147483647) :
    Calls Try.prog 52 #[makeV (.slice none 0 0) 0 false, .slice p l.length cap, kv] w (OwnPost foundE (ks.map fun i => atL (treeL (ltR id) l) i) w) := by
  obtain ⟨a, kcap, rfl⟩ := hk.form
  have HS := Lib.hid hk
  clear hk
  obtain ⟨i0, hi0, hz0, hz1, hz2⟩ := info_parts infoFound
  have HT := Lib.hid (fun w1 (c : Chg (fun _ _ => False) w w1) => tree_any (.slice none 0 0) id p cap l w1 (rank_nil w1) (hl.chg c) hlen)
  have hlen2 := treeL_len (ltR id) l
  clear hl
  unfold makeV
  go_enter Try.func52, Try.ntmps52
  go_wp2_with fail
  refine (HT.out _ ((Chg.refl _ _).alloc _)).mono ?_
  rintro e w2 ⟨v2, rfl, hv2, hc2⟩
  obtain ⟨q, cap2, rfl, hi, hcap⟩ := hv2.items
  have hc12 := ((Chg.refl (fun _ _ => False) w).alloc (.cells #[.slice none 0 0, .int .i64 0, .bool false] 76)).trans hc2
  have HI := Lib.hid hi
  clear hi hv2
  go_wp2_with fail
  go_loopw [8, 17] (fun v i wr => ∃ (j : Nat), j ≤ ks.length ∧ i = .int .i64 j ∧ OwnE foundE wr v ((ks.map fun i => atL (treeL (ltR id) l) i).take j) w2.heap.size ∧ Chg (fun _ _ => False) w2 wr) (fun _ i _ => ks.length - (intOf i).toNat)
  case atStart => exact ⟨0, Nat.zero_le _, rfl, OwnE.nil _ _ _, Chg.refl _ _⟩
  case round =>
    obtain ⟨j, hj, rfl, how, hc⟩ := hrel
    have hsz := hc.size
    have hsz2 := hc12.size
    by_cases hlt : j < ks.length
    · obtain ⟨x, hx⟩ : ∃ x, ks[j]? = some x := ⟨_, List.getElem?_eq_getElem hlt⟩
      obtain ⟨b, o, rfl, g0⟩ := (HS.out.chg (hc12.trans hc)).int hx
      have ht : (ks.map fun i => atL (treeL (ltR id) l) i).take (j + 1) = (ks.map fun i => atL (treeL (ltR id) l) i).take j ++ [atL (treeL (ltR id) l) x] := by rw [List.take_add_one, List.getElem?_map, hx]; rfl
      have hll : ((ks.map fun i => atL (treeL (ltR id) l) i).take j).length ≤ ks.length := by simp; omega
      have hat := at_any q cap2 (treeL (ltR id) l) x wr (HI.out.chg hc) (by omega) hcap
      obtain ⟨fk, fv, fb, hfv, hfl⟩ := foundV_agg (atL (treeL (ltR id) l) x)
      rw [hfv] at hat
      have HTT := Lib.hid ht
      have HLL := Lib.hid hll
      have HOW0 := Lib.hid how
      have HAT := Lib.hid hat
      clear hx ht hll how hat hfv
      have i0' : (0 : Int) ≤ (j : Int) := by omega
      have i1 : (j : Int) < (ks.length : Int) := by omega
      go_wp2_with fail
      refine HAT.out.mono ?_
      rintro e w5 ⟨rfl, hc5⟩
      have hc25 := hc.trans hc5
      have how := HOW0.out.keep hc5
      have hcb1 : Chg (fun _ _ => False) w5 (w5.alloc (.cells #[.int .i64 fk, .int .i64 fv, .bool fb] 121)) := (Chg.refl _ _).alloc _
      have HOW1 := Lib.hid (how.keep hcb1)
      clear how
      go_wp2_with (refine wpList_append_E foundE (by rfl) _ _ _ (by rfl) i0 _ 24 Try.underlying73 hi0 hz0 hz1 hz2 rfl _ (by rfl) _ w2.heap.size HOW1.out (Nat.le_trans hc25.size hcb1.size) ⟨w5.heap.size, 0, none⟩ 1 _ (by rfl) [atL (treeL (ltR id) l) x] rfl (by decide) ?_ ?_ ?_ ?_)
      · exact El.src1 foundE (c := #[.int .i64 fk, .int .i64 fv, .bool fb]) (ha_at _ _ (by simp)) _ hfl.symm
      · have := HLL.out; unfold maxLen; omega
      · have := HLL.out; omega
      intro v' w' h1 h2 _
      have hcz : Chg (fun _ _ => False) w2 w' := (hc25.trans hcb1).trans' h2 (fun _ _ _ h => h) (fun b o hb h => by omega)
      go_wp2
      go_roundw
      case rel => exact ⟨j + 1, by omega, by go_num, by rw [HTT.out]; exact h1, hcz⟩
      case measure => simp [intOf]; omega
    · obtain rfl : j = ks.length := by omega
      go_wp2
      go_ret
      exact ⟨_, rfl, by rw [List.take_of_length_le (by simp)] at how; exact how.mono hsz2, hc12.trans hc⟩

theorem keyOf_any (k v : Int) (b : Bool) (w : World) :
    Calls Try.prog 91 #[.agg #[.int .i64 k, .int .i64 v, .bool b]] w fun e w' => e = .returned (.agg #[.int .i64 k, .bool b]) ∧ Chg (fun _ _ => False) w w' := by
  go_enter Try.func91, Try.ntmps91
  go_wp2
  first
  | go_ret
  | (refine bodyPost_ret (v := .agg #[.int .i64 k, .bool b]) (by simp [results, Try.results91, go_sem]) rfl ?_)
  refine ⟨rfl, ?_⟩
  repeat (first | exact Chg.refl _ _ | refine Chg.setCell ?_ (.inr (by simp)) _ | refine Chg.alloc ?_ _ | refine Chg.drew ?_)

set_option maxRecDepth 100000 in
theorem keysOf_any (v : Value) (xs : List (Option (Int × Int))) (w : World) (h : SlE foundE w v xs) (hlen : xs.length ≤ 2147483648) :
    Calls Try.prog 51 #[v] w (OwnPost keyE (xs.map fun o => o.map Prod.fst) w) := by
  obtain ⟨a, cap, rfl⟩ := h.form
  have HS := Lib.hid h
  clear h
  obtain ⟨i0, hi0, hz0, hz1, hz2⟩ := info_parts infoKey
  go_enter Try.func51, Try.ntmps51
  go_wp2
  go_loopw [3, 8] (fun v i wr => ∃ (j : Nat), j ≤ xs.length ∧ i = .int .i64 j ∧ OwnE keyE wr v ((xs.map fun o => o.map Prod.fst).take j) w.heap.size ∧ Chg (fun _ _ => False) w wr) (fun _ i _ => xs.length - (intOf i).toNat)
  case atStart => exact ⟨0, Nat.zero_le _, rfl, OwnE.nil _ _ _, Chg.refl _ _⟩
  case round =>
    obtain ⟨j, hj, rfl, how, hc⟩ := hrel
    have hsz := hc.size
    by_cases hlt : j < xs.length
    · obtain ⟨x, hx⟩ : ∃ x, xs[j]? = some x := ⟨_, List.getElem?_eq_getElem hlt⟩
      obtain ⟨b, o, fk, fv, fb, rfl, g0, g1, g2, e1⟩ := (HS.out.chg hc).found hx
      have hfl : keyL (x.map Prod.fst) = [.int .i64 fk, .bool fb] := by
        cases x with
        | none => simp [foundL] at e1; obtain ⟨rfl, rfl, rfl⟩ := e1; rfl
        | some y => simp [foundL] at e1; obtain ⟨rfl, rfl, rfl⟩ := e1; rfl
      have ht : (xs.map fun o => o.map Prod.fst).take (j + 1) = (xs.map fun o => o.map Prod.fst).take j ++ [x.map Prod.fst] := by rw [List.take_add_one, List.getElem?_map, hx]; rfl
      have hll : ((xs.map fun o => o.map Prod.fst).take j).length ≤ xs.length := by simp; omega
      have HT := Lib.hid ht
      have HLL := Lib.hid hll
      have HOW0 := Lib.hid how
      have HKO := Lib.hid (fun w1 => keyOf_any fk fv fb w1)
      clear hx ht hll how e1
      have i0' : (0 : Int) ≤ (j : Int) := by omega
      have i1 : (j : Int) < (xs.length : Int) := by omega
      go_wp2_with fail
      refine (HKO.out _).mono ?_
      rintro e w5 ⟨rfl, hc5'⟩
      have hc5 : Chg (fun _ _ => False) wr w5 := ((Chg.refl _ _).alloc (.cells #[.int .i64 fk, .int .i64 fv, .bool fb] 121)).trans hc5'
      have hc25 := hc.trans hc5
      have how := HOW0.out.keep hc5
      have hcb1 : Chg (fun _ _ => False) w5 (w5.alloc (.cells #[.int .i64 fk, .bool fb] 60)) := (Chg.refl _ _).alloc _
      have HOW1 := Lib.hid (how.keep hcb1)
      clear how
      go_wp2_with (refine wpList_append_E2 keyE (by rfl) _ _ _ (by rfl) i0 _ 16 Try.underlying57 hi0 hz0 hz1 hz2 rfl _ (by rfl) _ w.heap.size HOW1.out (Nat.le_trans hc25.size hcb1.size) ⟨w5.heap.size, 0, none⟩ 1 _ (by rfl) [x.map Prod.fst] rfl (by decide) ?_ ?_ ?_ ?_)
      · exact El.src1 keyE (c := #[.int .i64 fk, .bool fb]) (ha_at _ _ (by simp)) _ hfl.symm
      · have := HLL.out; unfold maxLen; omega
      · have := HLL.out; omega
      intro v' w' h1 h2 _
      have hcz : Chg (fun _ _ => False) w w' := (hc25.trans hcb1).trans' h2 (fun _ _ _ h => h) (fun b o hb h => by have := (HOW1.out.own_lt h).1; omega)
      go_wp2
      go_roundw
      case rel => exact ⟨j + 1, by omega, by go_num, by rw [HT.out]; exact h1, hcz⟩
      case measure => simp [intOf]; omega
    · obtain rfl : j = xs.length := by omega
      go_wp2
      go_ret
      exact ⟨_, rfl, by rw [List.take_of_length_le (by simp)] at how; exact how, hc⟩
end Go.Proofs.Ytjggkpmlffhjgaa
