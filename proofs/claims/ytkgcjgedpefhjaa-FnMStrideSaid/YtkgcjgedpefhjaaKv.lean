/- The keys and values of a tree: nodeKeyValues, keyValues. -/
import Derived.Test.YtkgcjgedpefhjaaKm
namespace Go.Proofs.Ytkgcjgedpefhjaa
open Go.RowKit

structure TwoOwn (w : World) (v1 v2 : Value) (k1 k2 : List Int) (base : Nat) : Prop where
  o1 : OwnE intE w v1 k1 base
  o2 : OwnE intE w v2 k2 base
  ap : Apart v1 v2

theorem TwoOwn.keep {w w' : World} {v1 v2 : Value} {k1 k2 : List Int} {base : Nat} (h : TwoOwn w v1 v2 k1 k2 base) (c : Chg (fun _ _ => False) w w') : TwoOwn w' v1 v2 k1 k2 base := ⟨h.o1.keep c, h.o2.keep c, h.ap⟩

theorem own_touch {w w' : World} {v : Value} {k : List Int} {base : Nat} (h : OwnE intE w v k base) (c : Chg (fun b _ => v.ownBlock = some b) w w') : Chg (fun b _ => base ≤ b) w w' := c.mono fun _ _ _ hb => (h.own_lt hb).1

/-- Each of the two grows by one number. -/
theorem TwoOwn.grow1 {w w' : World} {v1 v2 v' : Value} {k1 k2 k' : List Int} {base : Nat} (h : TwoOwn w v1 v2 k1 k2 base) (h1 : OwnE intE w' v' k' base) (c : Chg (fun b _ => v1.ownBlock = some b) w w') (hv : v'.ownBlock = v1.ownBlock ∨ ∃ nb, v'.ownBlock = some nb ∧ w.heap.size ≤ nb) : TwoOwn w' v' v2 k' k2 base :=
  ⟨h1, h.o2.chgOwn c (fun b _ hb hb1 => h.ap b hb1 hb), h.ap.grow hv (fun b hb => (h.o2.own_lt hb).2)⟩

theorem TwoOwn.grow2 {w w' : World} {v1 v2 v' : Value} {k1 k2 k' : List Int} {base : Nat} (h : TwoOwn w v1 v2 k1 k2 base) (h1 : OwnE intE w' v' k' base) (c : Chg (fun b _ => v2.ownBlock = some b) w w') (hv : v'.ownBlock = v2.ownBlock ∨ ∃ nb, v'.ownBlock = some nb ∧ w.heap.size ≤ nb) : TwoOwn w' v1 v' k1 k' base :=
  ⟨h.o1.chgOwn c (fun b _ hb hb1 => h.ap b hb hb1), h1, (h.ap.symm.grow hv (fun b hb => (h.o1.own_lt hb).2)).symm⟩

def KvSpec (h : Nat) : Prop := ∀ (mn mx : Nat) (w : World) (F : Nat → Prop) (H : Nat → Option (NodeR (Int × Int))) (T : BT (Int × Int) h) (t : Nat) (pa : Addr) (mt : Bool) (v1 v2 : Value) (k1 k2 : List Int) (base : Nat),
  Fam (parM 0) w F H → IsT H h T → Sh mn mx h T → w.cell? pa = some (.pointer (some ⟨rid T, 0, none⟩)) → w.cell? ⟨t, 0, none⟩ = some (.int .u64 0) → TwoOwn w v1 v2 k1 k2 base → base ≤ w.heap.size → (∀ b, F b → b < base) → t < base → k1.length + (toL h T).length ≤ 1000000000000 → k2.length + (toL h T).length ≤ 1000000000000 →
  Calls Try.prog 101 #[.pointer (some ⟨t, 0, none⟩), .pointer (some pa), v1, v2, .bool mt] w fun e w' => ∃ v1' v2', e = .returned (.tuple #[v1', v2']) ∧ TwoOwn w' v1' v2' (k1 ++ (toL h T).map Prod.fst) (k2 ++ (toL h T).map Prod.snd) base ∧ Chg (fun b _ => base ≤ b) w w'


set_option maxRecDepth 100000 in
set_option maxHeartbeats 1000000 in
theorem kv_leaf : KvSpec 0 := by
  intro mn mx w F H T t pa mt v1 v2 k1 k2 base hF hT hs hpa ht0 htwo hbase hFb htb hlen1 hlen2
  obtain ⟨i0, hi0, hz0, hz1, hz2⟩ := info_parts infoInt
  obtain ⟨l0, hn0⟩ := hF.node hT.root
  have n0 := hn0.c0
  have hlen1' : k1.length + T.2.length ≤ 1000000000000 := hlen1
  have hlen2' : k2.length + T.2.length ≤ 1000000000000 := hlen2
  have HTWO := Lib.hid htwo
  clear htwo hlen1 hlen2
  go_enter Try.func101, Try.ntmps101
  go_wp2_with fail
  refine (isoLoad_any t (rid T) 0 pa mt _ hpa n0 ht0).mono ?_
  rintro e w1 ⟨rfl, m1, hw1⟩
  have hc1 : Chg (fun _ _ => False) w w1 := by rw [hw1]; exact (Chg.refl _ _).drewN _
  clear hw1 n0 hpa ht0
  have n3 := hc1.cell (fun h => h) (hn0.c3n rfl)
  go_wp2_with (go_at_call 70; refine (leaf_any _ none _ ?_).mono ?_; (focus go_simp); rintro e w' ⟨rfl, rfl⟩)
  go_loopw [2, 3, 13] (fun v1 v2 i wr => ∃ (j : Nat), j ≤ T.2.length ∧ i = .int .i64 j ∧ TwoOwn wr v1 v2 (k1 ++ (T.2.map Prod.fst).take j) (k2 ++ (T.2.map Prod.snd).take j) base ∧ Chg (fun b _ => base ≤ b) w wr) (fun _ _ i _ => T.2.length - (intOf i).toNat)
  case atStart => exact ⟨0, Nat.zero_le _, rfl, by simpa using HTWO.out.keep hc1, hc1.mono (fun _ _ _ h => h.elim)⟩
  case round =>
    obtain ⟨j, hj, rfl, two, hc⟩ := hrel
    obtain ⟨l, hn⟩ := (hF.chg hc (fun b o hb h => by have := hFb b hb; omega)).node hT.root
    have n2 : wr.cell? ⟨rid T, 2, none⟩ = some (.slice (some ⟨l.ib, l.io, none⟩) T.2.length l.ic) := hn.c2
    by_cases hlt : j < T.2.length
    · obtain ⟨x, hx⟩ : ∃ x, T.2[j]? = some x := ⟨_, List.getElem?_eq_getElem hlt⟩
      have ik := hn.mkey (j := j) hx
      have ht1 : (T.2.map Prod.fst).take (j + 1) = (T.2.map Prod.fst).take j ++ [x.1] := by rw [List.take_add_one, List.getElem?_map, hx]; rfl
      have ht2 : (T.2.map Prod.snd).take (j + 1) = (T.2.map Prod.snd).take j ++ [x.2] := by rw [List.take_add_one, List.getElem?_map, hx]; rfl
      have HT1 := Lib.hid ht1
      have HT2 := Lib.hid ht2
      have HX := Lib.hid hx
      clear hx ht1 ht2
      have i0' : (0 : Int) ≤ (j : Int) := by omega
      have i1 : (j : Int) < (T.2.length : Int) := by omega
      have hl1 : (k1 ++ (T.2.map Prod.fst).take j).length ≤ 1000000000000 := by rw [List.length_append]; simp; omega
      have hl2 : (k2 ++ (T.2.map Prod.snd).take j).length ≤ 1000000000000 := by rw [List.length_append]; simp; omega
      have HL1 := Lib.hid hl1
      have HL2 := Lib.hid hl2
      clear hl1 hl2
      have hca1 : Chg (fun _ _ => False) wr (wr.alloc (.cells #[.int .i64 x.1] 3)) := (Chg.refl _ _).alloc _
      have two1 := two.keep hca1
      have TWO1 := Lib.hid two1
      clear two two1
      go_wp2_with (refine wpList_append_E2 intE (by rfl) _ _ _ (by rfl) i0 _ 8 Try.underlying30 hi0 hz0 hz1 hz2 rfl _ (by rfl) _ base TWO1.out.o1 (Nat.le_trans hbase (Nat.le_trans hc.size hca1.size)) ⟨wr.heap.size, 0, none⟩ 1 _ (by rfl) [x.1] rfl (by decide) ?_ ?_ ?_ ?_)
      · exact El.src1 intE (c := #[.int .i64 x.1]) (ha_at _ _ (by simp)) _ rfl
      · have := HL1.out; unfold maxLen; omega
      · have := HL1.out; omega
      intro v3 w3 h1 h2 h3
      have two3 := TWO1.out.grow1 h1 h2 (by simpa using h3)
      have hc3 : Chg (fun b _ => base ≤ b) w w3 := (hc.trans (hca1.mono (fun _ _ _ h => h.elim))).trans (own_touch TWO1.out.o1 h2)
      clear h1 h2 h3
      obtain ⟨l3, hn3⟩ := (hF.chg hc3 (fun b o hb h => by have := hFb b hb; omega)).node hT.root
      have n2' : w3.cell? ⟨rid T, 2, none⟩ = some (.slice (some ⟨l3.ib, l3.io, none⟩) T.2.length l3.ic) := hn3.c2
      have iv := hn3.mval (j := j) HX.out
      clear n2 ik
      have hca2 : Chg (fun _ _ => False) w3 (w3.alloc (.cells #[.int .i64 x.2] 3)) := (Chg.refl _ _).alloc _
      have two2 := two3.keep hca2
      have TWO2 := Lib.hid two2
      clear two3 two2
      go_wp2_with (refine wpList_append_E2 intE (by rfl) _ _ _ (by rfl) i0 _ 8 Try.underlying30 hi0 hz0 hz1 hz2 rfl _ (by rfl) _ base TWO2.out.o2 (Nat.le_trans hbase (Nat.le_trans hc3.size hca2.size)) ⟨w3.heap.size, 0, none⟩ 1 _ (by rfl) [x.2] rfl (by decide) ?_ ?_ ?_ ?_)
      · exact El.src1 intE (c := #[.int .i64 x.2]) (ha_at _ _ (by simp)) _ rfl
      · have := HL2.out; unfold maxLen; omega
      · have := HL2.out; omega
      intro v4 w4 h1 h2 h3
      have two4 := TWO2.out.grow2 h1 h2 (by simpa using h3)
      have hc4 : Chg (fun b _ => base ≤ b) w w4 := (hc3.trans (hca2.mono (fun _ _ _ h => h.elim))).trans (own_touch TWO2.out.o2 h2)
      clear h1 h2 h3
      go_wp2
      go_roundw
      case rel => exact ⟨j + 1, by omega, by go_num, by rw [HT1.out, HT2.out, ← List.append_assoc, ← List.append_assoc]; simpa only [List.append_assoc] using two4, hc4⟩
      case measure => simp [intOf]; omega
    · obtain rfl : j = T.2.length := by omega
      go_wp2
      go_ret2
      rw [List.take_of_length_le (by simp), List.take_of_length_le (by simp)] at two
      exact ⟨_, _, rfl, two, hc⟩

set_option maxRecDepth 100000 in
set_option maxHeartbeats 1000000 in
theorem kv_branch {h : Nat} (ih : KvSpec h) : KvSpec (h + 1) := by
  intro mn mx w F H T t pa mt v1 v2 k1 k2 base hF hT hs hpa ht0 htwo hbase hFb htb hlen1 hlen2
  obtain ⟨i0, hi0, hz0, hz1, hz2⟩ := info_parts infoInt
  obtain ⟨l0, hn0⟩ := hF.node hT.root
  have n0 := hn0.c0
  have hk : (recOf (h + 1) T).kids = some (T.2.2.map fun c => some (rid c)) := rfl
  have hkl : T.2.2.length = T.2.1.length + 1 := hs.2.1
  have hml : (T.2.2.map (toL h)).length = T.2.1.length + 1 := by simpa using hkl
  have hlen1' : k1.length + (inter T.2.1 (T.2.2.map (toL h))).length ≤ 1000000000000 := hlen1
  have hlen2' : k2.length + (inter T.2.1 (T.2.2.map (toL h))).length ≤ 1000000000000 := hlen2
  have HLEN1 := Lib.hid hlen1'
  have HLEN2 := Lib.hid hlen2'
  have HTWO := Lib.hid htwo
  have HKL := Lib.hid hkl
  have HML := Lib.hid hml
  have HT0 := Lib.hid ht0
  have hit : T.2.1.length ≤ (inter T.2.1 (T.2.2.map (toL h))).length := (its_sub hs).length_le
  have hitl : T.2.1.length ≤ 1000000000000 := by omega
  clear htwo hkl hlen1' hlen2' hml hlen1 hlen2 hit
  go_enter Try.func101, Try.ntmps101
  go_wp2_with fail
  refine (isoLoad_any t (rid T) 0 pa mt _ hpa n0 ht0).mono ?_
  rintro e w1 ⟨rfl, m1, hw1⟩
  have hc1 : Chg (fun _ _ => False) w w1 := by rw [hw1]; exact (Chg.refl _ _).drewN _
  clear hw1 n0 hpa ht0
  have n3 := hc1.cell (fun h => h) (hn0.c3s hk)
  go_wp2_with (go_at_call 70; refine (leaf_any _ (some ⟨l0.cc, 0, none⟩) _ ?_).mono ?_; (focus go_simp); rintro e w' ⟨rfl, rfl⟩)
  go_loopw [2, 3, 14] (fun v1 v2 i wr => ∃ (j : Nat), j ≤ T.2.1.length ∧ i = .int .i64 j ∧ TwoOwn wr v1 v2 (k1 ++ (pre (T.2.1.take j) ((T.2.2.map (toL h)).take j)).map Prod.fst) (k2 ++ (pre (T.2.1.take j) ((T.2.2.map (toL h)).take j)).map Prod.snd) base ∧ Chg (fun b _ => base ≤ b) w wr) (fun _ _ i _ => T.2.1.length - (intOf i).toNat)
  case atStart => exact ⟨0, Nat.zero_le _, rfl, by simpa [pre] using HTWO.out.keep hc1, hc1.mono (fun _ _ _ h => h.elim)⟩
  case round =>
    obtain ⟨j, hj, rfl, two, hc⟩ := hrel
    clear n3
    obtain ⟨l, hn⟩ := (hF.chg hc (fun b o hb h => by have := hFb b hb; omega)).node hT.root
    have n2 : wr.cell? ⟨rid T, 2, none⟩ = some (.slice (some ⟨l.ib, l.io, none⟩) T.2.1.length l.ic) := hn.c2
    have n3 := hn.c3s hk
    have nc := hn.cc hk
    rw [List.length_map] at nc
    obtain ⟨c, hcj⟩ : ∃ c, T.2.2[j]? = some c := ⟨_, List.getElem?_eq_getElem (by have := HKL.out; omega)⟩
    have kc : wr.cell? ⟨l.cb, l.co + j, none⟩ = some (.pointer (some ⟨rid c, 0, none⟩)) := hn.kidc hk (j := j) (o := some (rid c)) (by simp [hcj])
    have hcm : c ∈ T.2.2 := List.mem_of_getElem? hcj
    have hkc := (List.getElem?_eq_some_iff.1 hcj).1
    have htj : (T.2.2.map (toL h))[j]? = some (toL h c) := by simp [hcj]
    have hpl := pre_len HML.out htj
    have hpl1 := HLEN1.out
    have hpl2 := HLEN2.out
    have i0' : (0 : Int) ≤ (j : Int) := by omega
    have kk1 : (j : Int) < (T.2.2.length : Int) := by omega
    have hih := fun (w1 : World) (pa1 : Addr) (u1 u2 : Value) (a1 a2 : List Int) (hc1 : Chg (fun b _ => base ≤ b) w w1) (hp1 : w1.cell? pa1 = some (.pointer (some ⟨rid c, 0, none⟩))) (h1 : TwoOwn w1 u1 u2 a1 a2 base) (h2 : a1.length + (toL h c).length ≤ 1000000000000) (h3 : a2.length + (toL h c).length ≤ 1000000000000) =>
      ih mn mx w1 F H c t pa1 mt u1 u2 a1 a2 base (hF.chg hc1 (fun b o hb h => by have := hFb b hb; omega)) (hT.kid hcm) (hs.2.2 c hcm).2 hp1 (hc1.cell (a := ⟨t, 0, none⟩) (fun h => by have h2 : base ≤ t := h; omega) HT0.out) h1 (Nat.le_trans hbase hc1.size) hFb htb h2 h3
    have HIH := Lib.hid hih
    clear hih
    have hml1 : (k1 ++ (pre (T.2.1.take j) ((T.2.2.map (toL h)).take j)).map Prod.fst).length + (toL h c).length ≤ 1000000000000 := by
      rw [List.length_append, List.length_map]; omega
    have hml2 : (k2 ++ (pre (T.2.1.take j) ((T.2.2.map (toL h)).take j)).map Prod.snd).length + (toL h c).length ≤ 1000000000000 := by
      rw [List.length_append, List.length_map]; omega
    have HL1 := Lib.hid hml1
    have HL2 := Lib.hid hml2
    clear hml1 hml2
    by_cases hlt : j < T.2.1.length
    · obtain ⟨x, hx⟩ : ∃ x, T.2.1[j]? = some x := ⟨_, List.getElem?_eq_getElem hlt⟩
      have hstep := pre_step hx htj
      have ht1 : k1 ++ (pre (T.2.1.take (j + 1)) ((T.2.2.map (toL h)).take (j + 1))).map Prod.fst = k1 ++ (pre (T.2.1.take j) ((T.2.2.map (toL h)).take j)).map Prod.fst ++ (toL h c).map Prod.fst ++ [x.1] := by
        rw [hstep]; simp
      have ht2 : k2 ++ (pre (T.2.1.take (j + 1)) ((T.2.2.map (toL h)).take (j + 1))).map Prod.snd = k2 ++ (pre (T.2.1.take j) ((T.2.2.map (toL h)).take j)).map Prod.snd ++ (toL h c).map Prod.snd ++ [x.2] := by
        rw [hstep]; simp
      have HT1 := Lib.hid ht1
      have HT2 := Lib.hid ht2
      have HX := Lib.hid hx
      have HTWO2 := Lib.hid two
      clear hx ht1 ht2 hstep two htj hcj hpl hpl1 hpl2
      have i1 : (j : Int) < (T.2.1.length : Int) := by omega
      go_wp2_with fail
      refine (HIH.out _ ⟨l.cb, l.co + j, none⟩ _ _ _ _ hc kc HTWO2.out HL1.out HL2.out).mono ?_
      rintro e w2 ⟨u3, u4, rfl, two2, hc2⟩
      have hc02 := hc.trans hc2
      clear n2 n3 nc kc
      obtain ⟨l2, hn2⟩ := (hF.chg hc02 (fun b o hb h => by have := hFb b hb; omega)).node hT.root
      have n2' : w2.cell? ⟨rid T, 2, none⟩ = some (.slice (some ⟨l2.ib, l2.io, none⟩) T.2.1.length l2.ic) := hn2.c2
      have ik := hn2.mkey (j := j) HX.out
      have hll1 : (k1 ++ (pre (T.2.1.take j) ((T.2.2.map (toL h)).take j)).map Prod.fst ++ (toL h c).map Prod.fst).length ≤ 1000000000000 := by
        have := HL1.out
        rw [List.length_append, List.length_map]; exact this
      have hll2 : (k2 ++ (pre (T.2.1.take j) ((T.2.2.map (toL h)).take j)).map Prod.snd ++ (toL h c).map Prod.snd).length ≤ 1000000000000 := by
        have := HL2.out
        rw [List.length_append, List.length_map]; exact this
      have HLL1 := Lib.hid hll1
      have HLL2 := Lib.hid hll2
      clear hll1 hll2
      have hca1 : Chg (fun _ _ => False) w2 (w2.alloc (.cells #[.int .i64 x.1] 3)) := (Chg.refl _ _).alloc _
      have two1 := two2.keep hca1
      have TWO1 := Lib.hid two1
      clear two2 two1
      go_wp2_with (refine wpList_append_E2 intE (by rfl) _ _ _ (by rfl) i0 _ 8 Try.underlying30 hi0 hz0 hz1 hz2 rfl _ (by rfl) _ base TWO1.out.o1 (Nat.le_trans hbase (Nat.le_trans hc02.size hca1.size)) ⟨w2.heap.size, 0, none⟩ 1 _ (by rfl) [x.1] rfl (by decide) ?_ ?_ ?_ ?_)
      · exact El.src1 intE (c := #[.int .i64 x.1]) (ha_at _ _ (by simp)) _ rfl
      · have := HLL1.out; unfold maxLen; omega
      · have := HLL1.out; omega
      intro v3 w3 h1 h2 h3
      have two3 := TWO1.out.grow1 h1 h2 (by simpa using h3)
      have hc3 : Chg (fun b _ => base ≤ b) w w3 := (hc02.trans (hca1.mono (fun _ _ _ h => h.elim))).trans (own_touch TWO1.out.o1 h2)
      clear h1 h2 h3
      obtain ⟨l3, hn3⟩ := (hF.chg hc3 (fun b o hb h => by have := hFb b hb; omega)).node hT.root
      have n2'' : w3.cell? ⟨rid T, 2, none⟩ = some (.slice (some ⟨l3.ib, l3.io, none⟩) T.2.1.length l3.ic) := hn3.c2
      have iv := hn3.mval (j := j) HX.out
      clear n2' ik
      have hca2 : Chg (fun _ _ => False) w3 (w3.alloc (.cells #[.int .i64 x.2] 3)) := (Chg.refl _ _).alloc _
      have two2 := two3.keep hca2
      have TWO2 := Lib.hid two2
      clear two3 two2
      go_wp2_with (refine wpList_append_E2 intE (by rfl) _ _ _ (by rfl) i0 _ 8 Try.underlying30 hi0 hz0 hz1 hz2 rfl _ (by rfl) _ base TWO2.out.o2 (Nat.le_trans hbase (Nat.le_trans hc3.size hca2.size)) ⟨w3.heap.size, 0, none⟩ 1 _ (by rfl) [x.2] rfl (by decide) ?_ ?_ ?_ ?_)
      · exact El.src1 intE (c := #[.int .i64 x.2]) (ha_at _ _ (by simp)) _ rfl
      · have := HLL2.out; unfold maxLen; omega
      · have := HLL2.out; omega
      intro v4 w4 h1 h2 h3
      have two4 := TWO2.out.grow2 h1 h2 (by simpa using h3)
      have hc4 : Chg (fun b _ => base ≤ b) w w4 := (hc3.trans (hca2.mono (fun _ _ _ h => h.elim))).trans (own_touch TWO2.out.o2 h2)
      clear h1 h2 h3
      go_wp2
      go_roundw
      case rel => exact ⟨j + 1, by omega, by go_num, by rw [HT1.out, HT2.out]; simpa only [List.append_assoc] using two4, hc4⟩
      case measure => simp [intOf]; omega
    · obtain rfl : j = T.2.1.length := by omega
      have hend := inter_end HML.out htj
      have ht1 : k1 ++ (toL (h + 1) T).map Prod.fst = k1 ++ (pre (T.2.1.take T.2.1.length) ((T.2.2.map (toL h)).take T.2.1.length)).map Prod.fst ++ (toL h c).map Prod.fst := by
        show k1 ++ (inter T.2.1 (T.2.2.map (toL h))).map Prod.fst = _
        rw [hend]; simp
      have ht2 : k2 ++ (toL (h + 1) T).map Prod.snd = k2 ++ (pre (T.2.1.take T.2.1.length) ((T.2.2.map (toL h)).take T.2.1.length)).map Prod.snd ++ (toL h c).map Prod.snd := by
        show k2 ++ (inter T.2.1 (T.2.2.map (toL h))).map Prod.snd = _
        rw [hend]; simp
      have HT1 := Lib.hid ht1
      have HT2 := Lib.hid ht2
      have HTWO2 := Lib.hid two
      clear ht1 ht2 hend two htj hcj hpl hpl1 hpl2
      have s1 : IntKind.i64.wrap (T.2.1.length : Int) = (T.2.1.length : Int) := IntWalk.i64_in _ (by omega)
      have s2 : ((T.2.2.length : Int) - 1) = (T.2.1.length : Int) := by have := HKL.out; omega
      have HKC := Lib.hid kc
      clear kc
      go_wp2_with fail
      refine wp_region_call (fun w' => w'.cell? ⟨rid T, 3, none⟩ = some (.pointer (some ⟨l.cc, 0, none⟩)) ∧ w'.cell? ⟨l.cc, 0, none⟩ = some (.slice (some ⟨l.cb, l.co, none⟩) T.2.2.length l.ck))
        19 [0, 1, 2, 3, 4, 5, 6, 7, 8, 9, 10, 11, 12, 13, 14, 15, 16, 17, 18] _ [20, 21, 22, 23] (by kernel_rfl) (by kernel_rfl) (fun _ _ _ _ _ h => h) rfl rfl rfl ⟨n3, nc⟩ ?_
      simp only [pickOps, List.filterMap_cons, List.filterMap_nil, List.getElem?_cons_zero, List.getElem?_cons_succ]
      refine wpSoft_step ?_ rfl ?_ ?_
      rotate_left
      · intro w' hS
        try obtain ⟨a1, a2⟩ := hS
        go_simp
        try with_reducible rfl
      simp only [Act.put, List.setIfInBounds_toArray, List.set_cons_zero, List.set_cons_succ]
      refine wpSoft_step ?_ rfl ?_ ?_
      rotate_left
      · intro w' hS
        try obtain ⟨a1, a2⟩ := hS
        go_simp
        try with_reducible rfl
      simp only [Act.put, List.setIfInBounds_toArray, List.set_cons_zero, List.set_cons_succ]
      refine wpSoft_step ?_ rfl ?_ ?_
      rotate_left
      · intro w' hS
        try obtain ⟨a1, a2⟩ := hS
        go_simp
        try with_reducible rfl
      simp only [Act.put, List.setIfInBounds_toArray, List.set_cons_zero, List.set_cons_succ]
      refine wpSoft_step ?_ rfl ?_ ?_
      rotate_left
      · intro w' hS
        try obtain ⟨a1, a2⟩ := hS
        go_simp
        try with_reducible rfl
      simp only [Act.put, List.setIfInBounds_toArray, List.set_cons_zero, List.set_cons_succ]
      refine wpSoft_step ?_ rfl ?_ ?_
      rotate_left
      · intro w' hS
        try obtain ⟨a1, a2⟩ := hS
        go_simp
        try with_reducible rfl
      simp only [Act.put, List.setIfInBounds_toArray, List.set_cons_zero, List.set_cons_succ]
      refine wpSoft_step ?_ rfl ?_ ?_
      rotate_left
      · intro w' hS
        try obtain ⟨a1, a2⟩ := hS
        go_simp
        try with_reducible rfl
      simp only [Act.put, List.setIfInBounds_toArray, List.set_cons_zero, List.set_cons_succ]
      refine wpSoft_step ?_ rfl ?_ ?_
      rotate_left
      · intro w' hS
        try obtain ⟨a1, a2⟩ := hS
        go_simp
        try with_reducible rfl
      simp only [Act.put, List.setIfInBounds_toArray, List.set_cons_zero, List.set_cons_succ]
      refine wpSoft_step ?_ rfl ?_ ?_
      rotate_left
      · intro w' hS
        try obtain ⟨a1, a2⟩ := hS
        go_simp
        try with_reducible rfl
      simp only [Act.put, List.setIfInBounds_toArray, List.set_cons_zero, List.set_cons_succ]
      refine wpSoft_step ?_ rfl ?_ ?_
      rotate_left
      · intro w' hS
        try obtain ⟨a1, a2⟩ := hS
        go_simp
        try with_reducible rfl
      simp only [Act.put, List.setIfInBounds_toArray, List.set_cons_zero, List.set_cons_succ]
      refine wpSoft_step ?_ rfl ?_ ?_
      rotate_left
      · intro w' hS
        try obtain ⟨a1, a2⟩ := hS
        go_simp
        try with_reducible rfl
      simp only [Act.put, List.setIfInBounds_toArray, List.set_cons_zero, List.set_cons_succ]
      refine wpSoft_step ?_ rfl ?_ ?_
      rotate_left
      · intro w' hS
        try obtain ⟨a1, a2⟩ := hS
        go_simp
        try with_reducible rfl
      simp only [Act.put, List.setIfInBounds_toArray, List.set_cons_zero, List.set_cons_succ]
      refine wpSoft_step ?_ rfl ?_ ?_
      rotate_left
      · intro w' hS
        try obtain ⟨a1, a2⟩ := hS
        go_simp
        try with_reducible rfl
      simp only [Act.put, List.setIfInBounds_toArray, List.set_cons_zero, List.set_cons_succ]
      refine wpSoft_step ?_ rfl ?_ ?_
      rotate_left
      · intro w' hS
        try obtain ⟨a1, a2⟩ := hS
        go_simp
        try with_reducible rfl
      simp only [Act.put, List.setIfInBounds_toArray, List.set_cons_zero, List.set_cons_succ]
      refine wpSoft_step ?_ rfl ?_ ?_
      rotate_left
      · intro w' hS
        try obtain ⟨a1, a2⟩ := hS
        go_simp
        try with_reducible rfl
      simp only [Act.put, List.setIfInBounds_toArray, List.set_cons_zero, List.set_cons_succ]
      refine wpSoft_step ?_ rfl ?_ ?_
      rotate_left
      · intro w' hS
        try obtain ⟨a1, a2⟩ := hS
        go_simp
        try with_reducible rfl
      simp only [Act.put, List.setIfInBounds_toArray, List.set_cons_zero, List.set_cons_succ]
      refine wpSoft_step ?_ rfl ?_ ?_
      rotate_left
      · intro w' hS
        try obtain ⟨a1, a2⟩ := hS
        go_simp
        try with_reducible rfl
      simp only [Act.put, List.setIfInBounds_toArray, List.set_cons_zero, List.set_cons_succ]
      refine wpSoft_step ?_ rfl ?_ ?_
      rotate_left
      · intro w' hS
        try obtain ⟨a1, a2⟩ := hS
        go_simp
        try with_reducible rfl
      simp only [Act.put, List.setIfInBounds_toArray, List.set_cons_zero, List.set_cons_succ]
      refine wpSoft_step ?_ rfl ?_ ?_
      rotate_left
      · intro w' hS
        try obtain ⟨a1, a2⟩ := hS
        go_simp
        try with_reducible rfl
      simp only [Act.put, List.setIfInBounds_toArray, List.set_cons_zero, List.set_cons_succ]
      refine wpSoft_step ?_ rfl ?_ ?_
      rotate_left
      · intro w' hS
        try obtain ⟨a1, a2⟩ := hS
        go_simp
        try with_reducible rfl
      simp only [Act.put, List.setIfInBounds_toArray, List.set_cons_zero, List.set_cons_succ]
      refine wpSoft_nil ?_
      refine wp_hide (fun K hK => ?_)
      go_simp
      refine (HIH.out _ ⟨l.cb, l.co + T.2.1.length, none⟩ _ _ _ _ hc.drew HKC.out (HTWO2.out.keep (Chg.refl _ _).drew) HL1.out HL2.out).mono ?_
      rintro e w2 ⟨u3, u4, rfl, two2, hc2⟩
      refine hK _ _ ?_
      clear hK K
      refine wpSoft_step ?_ rfl ?_ ?_
      rotate_left
      · intro w' hS
        try obtain ⟨a1⟩ := hS
        go_simp
        try with_reducible rfl
      simp only [Act.put, List.setIfInBounds_toArray, List.set_cons_zero, List.set_cons_succ]
      refine wpSoft_step ?_ rfl ?_ ?_
      rotate_left
      · intro w' hS
        try obtain ⟨a1⟩ := hS
        go_simp
        try with_reducible rfl
      simp only [Act.put, List.setIfInBounds_toArray, List.set_cons_zero, List.set_cons_succ]
      refine wpSoft_step ?_ rfl ?_ ?_
      rotate_left
      · intro w' hS
        try obtain ⟨a1⟩ := hS
        go_simp
        try with_reducible rfl
      simp only [Act.put, List.setIfInBounds_toArray, List.set_cons_zero, List.set_cons_succ]
      refine wpSoft_step ?_ rfl ?_ ?_
      rotate_left
      · intro w' hS
        try obtain ⟨a1⟩ := hS
        go_simp
        try with_reducible rfl
      simp only [Act.put, List.setIfInBounds_toArray, List.set_cons_zero, List.set_cons_succ]
      refine wpSoft_nil ?_
      go_wp2
      go_ret2
      exact ⟨u3, u4, rfl, by rw [HT1.out, HT2.out]; simpa only [List.append_assoc] using two2, hc.drew.trans hc2⟩

theorem kv_all : (h : Nat) → KvSpec h
  | 0 => kv_leaf
  | h + 1 => kv_branch (kv_all h)
end Go.Proofs.Ytkgcjgedpefhjaa
