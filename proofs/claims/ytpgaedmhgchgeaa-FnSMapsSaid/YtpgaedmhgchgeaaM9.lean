/- getAt. -/
import Derived.Laws.MakeOwn
import Derived.BigQuiet
import Derived.Test.YtpgaedmhgchgeaaM3
import Derived.Test.YtpgaedmhgchgeaaM8
namespace Go.Proofs.Ytpgaedmhgchgeaa.M
set_option linter.unusedSimpArgs false
set_option linter.unusedVariables false
open Go.RowKit

theorem pre_step {α : Type} {xs : List α} {ts : List (List α)} {i : Nat} {x : α} {t : List α} (hx : xs[i]? = some x) (ht : ts[i]? = some t) : pre (xs.take (i + 1)) (ts.take (i + 1)) = pre (xs.take i) (ts.take i) ++ (t ++ [x]) := by
  have hi := (List.getElem?_eq_some_iff.1 hx).1
  have hj := (List.getElem?_eq_some_iff.1 ht).1
  rw [List.take_add_one, List.take_add_one, hx, ht]
  have h : (xs.take i).length = (ts.take i).length := by simp; omega
  have := pre_app (xs.take i) [x] (ts.take i) [t] h
  simpa [pre] using this

theorem inter_end {α : Type} {xs : List α} {ts : List (List α)} {t : List α} (h : ts.length = xs.length + 1) (ht : ts[xs.length]? = some t) : inter xs ts = pre (xs.take xs.length) (ts.take xs.length) ++ t := by
  rw [inter_split xs.length xs ts t h ht, List.drop_of_length_le (Nat.le_refl _)]
  simp [post]

/-- A piece of the list ahead of the i-th child, and up to it. -/
theorem pre_len {α : Type} {xs : List α} {ts : List (List α)} (h : ts.length = xs.length + 1) {i : Nat} {t : List α} (ht : ts[i]? = some t) : (pre (xs.take i) (ts.take i)).length + t.length ≤ (inter xs ts).length := by
  rw [inter_split i xs ts t h ht]
  simp only [List.length_append]; omega

def KeysSpec (h : Nat) : Prop := ∀ (mn mx : Nat) (w : World) (F : Nat → Prop) (H : Nat → Option (NodeR (Int × Int))) (T : BT (Int × Int) h) (v : Value) (acc : List Int) (base : Nat),
  Fam (parM 0) w F H → IsT H h T → Sh mn mx h T → OwnE intE w v acc base → base ≤ w.heap.size → (∀ b, F b → b < base) → acc.length + (toL h T).length ≤ 1000000000000 →
  Calls Try.prog 29 #[.pointer (some ⟨rid T, 0, none⟩), v] w fun e w' => ∃ v', e = .returned v' ∧ OwnE intE w' v' (acc ++ (toL h T).map Prod.fst) base ∧ Chg (fun b _ => base ≤ b) w w'

set_option maxRecDepth 100000 in
set_option maxHeartbeats 1000000 in
theorem keys_leaf : KeysSpec 0 := by
  intro mn mx w F H T v acc base hF hT hs how hbase hFb hlen
  obtain ⟨i0, hi0, hz0, hz1, hz2⟩ := info_parts infoInt
  obtain ⟨l0, hn0⟩ := hF.node hT.root
  have n3 := hn0.c3n rfl
  have hlen' : acc.length + T.2.length ≤ 1000000000000 := hlen
  have HOW := Lib.hid how
  clear how
  go_enter Try.func29, Try.ntmps29
  go_wp2_with (go_at_call 47; refine (leaf_any _ none _ ?_).mono ?_; (focus go_simp); rintro e w' ⟨rfl, rfl⟩)
  go_loopw [1, 5] (fun v i wr => ∃ (j : Nat), j ≤ T.2.length ∧ i = .int .i64 j ∧ OwnE intE wr v (acc ++ (T.2.map Prod.fst).take j) base ∧ Chg (fun b _ => base ≤ b) w wr) (fun _ i _ => T.2.length - (intOf i).toNat)
  case atStart => exact ⟨0, Nat.zero_le _, rfl, by simpa using HOW.out, Chg.refl _ _⟩
  case round =>
    obtain ⟨j, hj, rfl, how, hc⟩ := hrel
    have hsz := hc.size
    obtain ⟨l, hn⟩ := (hF.chg hc (fun b o hb h => by have := hFb b hb; omega)).node hT.root
    have n2 : wr.cell? ⟨rid T, 2, none⟩ = some (.slice (some ⟨l.ib, l.io, none⟩) T.2.length l.ic) := hn.c2
    by_cases hlt : j < T.2.length
    · obtain ⟨x, hx⟩ : ∃ x, T.2[j]? = some x := ⟨_, List.getElem?_eq_getElem hlt⟩
      have ik := hn.mkey (j := j) hx
      have ht : (T.2.map Prod.fst).take (j + 1) = (T.2.map Prod.fst).take j ++ [x.1] := by rw [List.take_add_one, List.getElem?_map, hx]; rfl
      have HT := Lib.hid ht
      clear hx ht
      have i0' : (0 : Int) ≤ (j : Int) := by omega
      have i1 : (j : Int) < (T.2.length : Int) := by omega
      have hca : Chg (fun _ _ => False) wr (wr.alloc (.cells #[.int .i64 x.1] 3)) := (Chg.refl _ _).alloc _
      have how2 := how.keep hca
      have HOW2 := Lib.hid how2
      clear how how2
      have hll : ((T.2.map Prod.fst).take j).length ≤ T.2.length := by simp; omega
      go_wp2_with (refine wpList_append_E intE (by rfl) _ _ _ (by rfl) i0 _ 8 Try.underlying22 hi0 hz0 hz1 hz2 rfl _ (by rfl) _ base HOW2.out (Nat.le_trans hbase (Nat.le_trans hsz hca.size)) ⟨wr.heap.size, 0, none⟩ 1 _ (by rfl) [x.1] rfl (by decide) ?_ ?_ ?_ ?_)
      · exact El.src1 intE (c := #[.int .i64 x.1]) (ha_at _ _ (by simp)) _ rfl
      · rw [List.length_append]; unfold maxLen; omega
      · rw [List.length_append]; omega
      intro v' w' h1 h2 _
      have hc3 : Chg (fun b _ => base ≤ b) w w' := (hc.trans (hca.mono (fun _ _ _ h => h.elim))).trans h2
      go_wp2
      go_roundw
      case rel => exact ⟨j + 1, by omega, by go_num, by rw [HT.out]; exact h1, hc3⟩
      case measure => simp [intOf]; omega
    · obtain rfl : j = T.2.length := by omega
      go_wp2
      go_ret
      exact ⟨_, rfl, by rw [List.take_of_length_le (by simp)] at how; exact how, hc⟩

set_option maxRecDepth 100000 in
set_option maxHeartbeats 1000000 in
theorem keys_branch {h : Nat} (ih : KeysSpec h) : KeysSpec (h + 1) := by
  intro mn mx w F H T v acc base hF hT hs how hbase hFb hlen
  obtain ⟨i0, hi0, hz0, hz1, hz2⟩ := info_parts infoInt
  obtain ⟨l0, hn0⟩ := hF.node hT.root
  have hk : (recOf (h + 1) T).kids = some (T.2.2.map fun c => some (rid c)) := rfl
  have n3 := hn0.c3s hk
  have hkl : T.2.2.length = T.2.1.length + 1 := hs.2.1
  have hml : (T.2.2.map (toL h)).length = T.2.1.length + 1 := by simpa using hkl
  have hlen' : acc.length + (inter T.2.1 (T.2.2.map (toL h))).length ≤ 1000000000000 := hlen
  have HLEN := Lib.hid hlen'
  have HOW := Lib.hid how
  have HKL := Lib.hid hkl
  have HML := Lib.hid hml
  have hit : T.2.1.length ≤ (inter T.2.1 (T.2.2.map (toL h))).length := (its_sub hs).length_le
  have hitl : T.2.1.length ≤ 1000000000000 := by omega
  clear how hkl hlen' hml hlen hit
  go_enter Try.func29, Try.ntmps29
  go_wp2_with (go_at_call 47; refine (leaf_any _ (some ⟨l0.cc, 0, none⟩) _ ?_).mono ?_; (focus go_simp); rintro e w' ⟨rfl, rfl⟩)
  go_loopw [1, 6] (fun v i wr => ∃ (j : Nat), j ≤ T.2.1.length ∧ i = .int .i64 j ∧ OwnE intE wr v (acc ++ (pre (T.2.1.take j) ((T.2.2.map (toL h)).take j)).map Prod.fst) base ∧ Chg (fun b _ => base ≤ b) w wr) (fun _ i _ => T.2.1.length - (intOf i).toNat)
  case atStart => exact ⟨0, Nat.zero_le _, rfl, by simpa [pre] using HOW.out, Chg.refl _ _⟩
  case round =>
    obtain ⟨j, hj, rfl, how, hc⟩ := hrel
    have hsz := hc.size
    have hFr := hF.chg hc (fun b o hb h => by have := hFb b hb; omega)
    obtain ⟨l, hn⟩ := hFr.node hT.root
    have n2 : wr.cell? ⟨rid T, 2, none⟩ = some (.slice (some ⟨l.ib, l.io, none⟩) T.2.1.length l.ic) := hn.c2
    have n3 := hn.c3s hk
    have nc := hn.cc hk
    rw [List.length_map] at nc
    obtain ⟨c, hcj⟩ : ∃ c, T.2.2[j]? = some c := ⟨_, List.getElem?_eq_getElem (by have := HKL.out; omega)⟩
    have kc : wr.cell? ⟨l.cb, l.co + j, none⟩ = some (.pointer (some ⟨rid c, 0, none⟩)) := hn.kidc hk (j := j) (o := some (rid c)) (by simp [hcj])
    have hcm : c ∈ T.2.2 := List.mem_of_getElem? hcj
    have hkc := (List.getElem?_eq_some_iff.1 hcj).1
    have htj : (T.2.2.map (toL h))[j]? = some (toL h c) := by simp [hcj]
    have hpl := pre_len HML.out htj
    have hpl2 := HLEN.out
    have i0' : (0 : Int) ≤ (j : Int) := by omega
    have k1 : (j : Int) < (T.2.2.length : Int) := by omega
    have hih := fun (w1 : World) (v1 : Value) (acc1 : List Int) (hc1 : Chg (fun b _ => base ≤ b) w w1) (h1 : OwnE intE w1 v1 acc1 base) (h2 : acc1.length + (toL h c).length ≤ 1000000000000) =>
      ih mn mx w1 F H c v1 acc1 base (hF.chg hc1 (fun b o hb h => by have := hFb b hb; omega)) (hT.kid hcm) (hs.2.2 c hcm).2 h1 (Nat.le_trans hbase hc1.size) hFb h2
    have HIH := Lib.hid hih
    clear hih
    have hml1 : (acc ++ (pre (T.2.1.take j) ((T.2.2.map (toL h)).take j)).map Prod.fst).length + (toL h c).length ≤ 1000000000000 := by
      rw [List.length_append, List.length_map]; omega
    have HL1 := Lib.hid hml1
    clear hml1
    by_cases hlt : j < T.2.1.length
    · obtain ⟨x, hx⟩ : ∃ x, T.2.1[j]? = some x := ⟨_, List.getElem?_eq_getElem hlt⟩
      have hstep := pre_step hx htj
      have ht : acc ++ (pre (T.2.1.take (j + 1)) ((T.2.2.map (toL h)).take (j + 1))).map Prod.fst = acc ++ (pre (T.2.1.take j) ((T.2.2.map (toL h)).take j)).map Prod.fst ++ (toL h c).map Prod.fst ++ [x.1] := by
        rw [hstep]; simp
      have HT := Lib.hid ht
      have HX := Lib.hid hx
      have HOW2 := Lib.hid how
      clear hx ht hstep how htj hcj hpl hpl2
      have i1 : (j : Int) < (T.2.1.length : Int) := by omega
      go_wp2_with fail
      refine (HIH.out _ _ _ hc HOW2.out HL1.out).mono ?_
      rintro e w2 ⟨v2, rfl, how2, hc2⟩
      have hc02 := hc.trans hc2
      obtain ⟨l2, hn2⟩ := (hF.chg hc02 (fun b o hb h => by have := hFb b hb; omega)).node hT.root
      have n2' : w2.cell? ⟨rid T, 2, none⟩ = some (.slice (some ⟨l2.ib, l2.io, none⟩) T.2.1.length l2.ic) := hn2.c2
      have ik := hn2.mkey (j := j) HX.out
      have hca : Chg (fun _ _ => False) w2 (w2.alloc (.cells #[.int .i64 x.1] 3)) := (Chg.refl _ _).alloc _
      have HOW3 := Lib.hid (how2.keep hca)
      clear how2
      have hsz2 := hc02.size
      have hll : (acc ++ (pre (T.2.1.take j) ((T.2.2.map (toL h)).take j)).map Prod.fst ++ (toL h c).map Prod.fst).length ≤ 1000000000000 := by
        have := HL1.out
        rw [List.length_append, List.length_map]; exact this
      have HLL := Lib.hid hll
      clear hll
      go_wp2_with (refine wpList_append_E intE (by rfl) _ _ _ (by rfl) i0 _ 8 Try.underlying22 hi0 hz0 hz1 hz2 rfl _ (by rfl) _ base HOW3.out (Nat.le_trans hbase (Nat.le_trans hsz2 hca.size)) ⟨w2.heap.size, 0, none⟩ 1 _ (by rfl) [x.1] rfl (by decide) ?_ ?_ ?_ ?_)
      · exact El.src1 intE (c := #[.int .i64 x.1]) (ha_at _ _ (by simp)) _ rfl
      · have := HLL.out; unfold maxLen; omega
      · have := HLL.out; omega
      intro v' w' h1 h2 _
      have hc3 : Chg (fun b _ => base ≤ b) w w' := (hc02.trans (hca.mono (fun _ _ _ h => h.elim))).trans h2
      go_wp2
      go_roundw
      case rel => exact ⟨j + 1, by omega, by go_num, by rw [HT.out]; simpa only [List.append_assoc] using h1, hc3⟩
      case measure => simp [intOf]; omega
    · obtain rfl : j = T.2.1.length := by omega
      have hend := inter_end HML.out htj
      have ht : acc ++ (toL (h + 1) T).map Prod.fst = acc ++ (pre (T.2.1.take T.2.1.length) ((T.2.2.map (toL h)).take T.2.1.length)).map Prod.fst ++ (toL h c).map Prod.fst := by
        show acc ++ (inter T.2.1 (T.2.2.map (toL h))).map Prod.fst = _
        rw [hend]; simp
      have HT := Lib.hid ht
      have HOW2 := Lib.hid how
      clear ht hend how htj hcj hpl hpl2
      have s1 : IntKind.i64.wrap (T.2.1.length : Int) = (T.2.1.length : Int) := IntWalk.i64_in _ (by omega)
      have s2 : ((T.2.2.length : Int) - 1) = (T.2.1.length : Int) := by have := HKL.out; omega
      go_wp2_with fail
      refine wp_region_call (fun w' => w'.cell? ⟨rid T, 3, none⟩ = some (.pointer (some ⟨l.cc, 0, none⟩)) ∧ w'.cell? ⟨l.cc, 0, none⟩ = some (.slice (some ⟨l.cb, l.co, none⟩) T.2.2.length l.ck) ∧ w'.cell? ⟨l.cb, l.co + T.2.1.length, none⟩ = some (.pointer (some ⟨rid c, 0, none⟩)))
        17 [0, 1, 2, 3, 4, 5, 6, 7, 8, 9, 10, 11, 12, 13, 14, 15, 16] _ [18] (by kernel_rfl) (by kernel_rfl) (fun _ _ _ _ _ h => h) rfl rfl rfl ⟨n3, nc, kc⟩ ?_
      simp only [pickOps, List.filterMap_cons, List.filterMap_nil, List.getElem?_cons_zero, List.getElem?_cons_succ]
      refine wpSoft_step ?_ rfl ?_ ?_
      rotate_left
      · intro w' hS
        try obtain ⟨a1, a2, a3⟩ := hS
        go_simp
        try with_reducible rfl
      simp only [Act.put, List.setIfInBounds_toArray, List.set_cons_zero, List.set_cons_succ]
      refine wpSoft_step ?_ rfl ?_ ?_
      rotate_left
      · intro w' hS
        try obtain ⟨a1, a2, a3⟩ := hS
        go_simp
        try with_reducible rfl
      simp only [Act.put, List.setIfInBounds_toArray, List.set_cons_zero, List.set_cons_succ]
      refine wpSoft_step ?_ rfl ?_ ?_
      rotate_left
      · intro w' hS
        try obtain ⟨a1, a2, a3⟩ := hS
        go_simp
        try with_reducible rfl
      simp only [Act.put, List.setIfInBounds_toArray, List.set_cons_zero, List.set_cons_succ]
      refine wpSoft_step ?_ rfl ?_ ?_
      rotate_left
      · intro w' hS
        try obtain ⟨a1, a2, a3⟩ := hS
        go_simp
        try with_reducible rfl
      simp only [Act.put, List.setIfInBounds_toArray, List.set_cons_zero, List.set_cons_succ]
      refine wpSoft_step ?_ rfl ?_ ?_
      rotate_left
      · intro w' hS
        try obtain ⟨a1, a2, a3⟩ := hS
        go_simp
        try with_reducible rfl
      simp only [Act.put, List.setIfInBounds_toArray, List.set_cons_zero, List.set_cons_succ]
      refine wpSoft_step ?_ rfl ?_ ?_
      rotate_left
      · intro w' hS
        try obtain ⟨a1, a2, a3⟩ := hS
        go_simp
        try with_reducible rfl
      simp only [Act.put, List.setIfInBounds_toArray, List.set_cons_zero, List.set_cons_succ]
      refine wpSoft_step ?_ rfl ?_ ?_
      rotate_left
      · intro w' hS
        try obtain ⟨a1, a2, a3⟩ := hS
        go_simp
        try with_reducible rfl
      simp only [Act.put, List.setIfInBounds_toArray, List.set_cons_zero, List.set_cons_succ]
      refine wpSoft_step ?_ rfl ?_ ?_
      rotate_left
      · intro w' hS
        try obtain ⟨a1, a2, a3⟩ := hS
        go_simp
        try with_reducible rfl
      simp only [Act.put, List.setIfInBounds_toArray, List.set_cons_zero, List.set_cons_succ]
      refine wpSoft_step ?_ rfl ?_ ?_
      rotate_left
      · intro w' hS
        try obtain ⟨a1, a2, a3⟩ := hS
        go_simp
        try with_reducible rfl
      simp only [Act.put, List.setIfInBounds_toArray, List.set_cons_zero, List.set_cons_succ]
      refine wpSoft_step ?_ rfl ?_ ?_
      rotate_left
      · intro w' hS
        try obtain ⟨a1, a2, a3⟩ := hS
        go_simp
        try with_reducible rfl
      simp only [Act.put, List.setIfInBounds_toArray, List.set_cons_zero, List.set_cons_succ]
      refine wpSoft_step ?_ rfl ?_ ?_
      rotate_left
      · intro w' hS
        try obtain ⟨a1, a2, a3⟩ := hS
        go_simp
        try with_reducible rfl
      simp only [Act.put, List.setIfInBounds_toArray, List.set_cons_zero, List.set_cons_succ]
      refine wpSoft_step ?_ rfl ?_ ?_
      rotate_left
      · intro w' hS
        try obtain ⟨a1, a2, a3⟩ := hS
        go_simp
        try with_reducible rfl
      simp only [Act.put, List.setIfInBounds_toArray, List.set_cons_zero, List.set_cons_succ]
      refine wpSoft_step ?_ rfl ?_ ?_
      rotate_left
      · intro w' hS
        try obtain ⟨a1, a2, a3⟩ := hS
        go_simp
        try with_reducible rfl
      simp only [Act.put, List.setIfInBounds_toArray, List.set_cons_zero, List.set_cons_succ]
      refine wpSoft_step ?_ rfl ?_ ?_
      rotate_left
      · intro w' hS
        try obtain ⟨a1, a2, a3⟩ := hS
        go_simp
        try with_reducible rfl
      simp only [Act.put, List.setIfInBounds_toArray, List.set_cons_zero, List.set_cons_succ]
      refine wpSoft_step ?_ rfl ?_ ?_
      rotate_left
      · intro w' hS
        try obtain ⟨a1, a2, a3⟩ := hS
        go_simp
        try with_reducible rfl
      simp only [Act.put, List.setIfInBounds_toArray, List.set_cons_zero, List.set_cons_succ]
      refine wpSoft_step ?_ rfl ?_ ?_
      rotate_left
      · intro w' hS
        try obtain ⟨a1, a2, a3⟩ := hS
        go_simp
        try with_reducible rfl
      simp only [Act.put, List.setIfInBounds_toArray, List.set_cons_zero, List.set_cons_succ]
      refine wpSoft_step ?_ rfl ?_ ?_
      rotate_left
      · intro w' hS
        try obtain ⟨a1, a2, a3⟩ := hS
        go_simp
        try with_reducible rfl
      simp only [Act.put, List.setIfInBounds_toArray, List.set_cons_zero, List.set_cons_succ]
      refine wpSoft_nil ?_
      refine wp_hide (fun K hK => ?_)
      go_simp
      refine (HIH.out _ _ _ hc.drew (HOW2.out.keep (Chg.refl _ _).drew) HL1.out).mono ?_
      rintro e w2 ⟨v2, rfl, how2, hc2⟩
      refine hK _ _ ?_
      clear hK K
      refine wpSoft_step ?_ rfl ?_ ?_
      rotate_left
      · intro w' hS
        try obtain ⟨a1⟩ := hS
        go_simp
        try with_reducible rfl
      simp only [Act.put, List.setIfInBounds_toArray, List.set_cons_zero, List.set_cons_succ]
      refine wpSoft_nil ?_
      go_wp2
      go_ret
      exact ⟨v2, rfl, by rw [HT.out]; simpa only [List.append_assoc] using how2, hc.drew.trans hc2⟩

theorem keys_all : (h : Nat) → KeysSpec h
  | 0 => keys_leaf
  | h + 1 => keys_branch (keys_all h)
end Go.Proofs.Ytpgaedmhgchgeaa.M

namespace Go.Proofs.Ytpgaedmhgchgeaa.M
set_option linter.unusedSimpArgs false
set_option linter.unusedVariables false
open Go.RowKit

theorem MapIn.blk {mn mx : Nat} {w : World} {F : Nat → Prop} {t : Nat} {l : List (Int × Int)} (h : MapIn mn mx w F t l) : ∃ root, MapBlk 0 mn mx w t root l.length := by
  rcases h with ⟨rfl, _, hB⟩ | ⟨H, h, T, _, hB, rfl, _⟩
  · exact ⟨none, hB⟩
  · exact ⟨_, hB⟩

theorem Len_any {mn mx : Nat} {w : World} {F : Nat → Prop} {t : Nat} {l : List (Int × Int)} (hM : MapIn mn mx w F t l) :
    Calls Try.prog 28 #[.pointer (some ⟨t, 0, none⟩)] w fun e w' => e = .returned (.int .i64 l.length) ∧ w = w' := by
  obtain ⟨root, hB⟩ := hM.blk
  have c3 := hB.c3
  go_enter Try.func28, Try.ntmps28
  go_wp2
  go_ret
  exact ⟨rfl, rfl⟩

theorem made_ints (n : Nat) (w : World) (hn : n ≤ 1000000000000) : (Instr.makeSlice 22 (.int .i64 0) (.int .i64 n)).run Try.prog w = .ok (.slice (some ⟨w.heap.size, 0, none⟩) 0 n) (w.alloc (.cells (madeCells #[.int .i64 0] n) 3)) := by
  obtain ⟨i0, hi0, hz0, hz1, hz2⟩ := info_parts infoInt
  have h := run_make (P := Try.prog) w 22 3 i0 _ Try.underlying22 hi0 hz0 .i64 .i64 0 (n : Int) (by omega) (by omega) (by rw [hz2]; omega) (by omega)
  rw [h, hz1]
  simp [Value.cells]

theorem own_made (n : Nat) (w : World) : OwnE intE (w.alloc (.cells (madeCells #[.int .i64 0] n) 3)) (.slice (some ⟨w.heap.size, 0, none⟩) 0 n) [] w.heap.size := by
  refine .inr ⟨w.heap.size, 0, n, rfl, Nat.zero_le _, Nat.le_refl _, RowAt.of_block (ha_at _ _ rfl) _ _ (by simp [flat]) ?_ (by simp [flat])⟩
  simp [madeCells, intE]

set_option maxRecDepth 100000 in
theorem Keys_any {mn mx : Nat} {w : World} {F : Nat → Prop} {t : Nat} {l : List (Int × Int)} (hM : MapIn mn mx w F t l) (hF : ∀ b, F b → b < w.heap.size) (hlen : l.length ≤ 1000000000000) :
    Calls Try.prog 17 #[.pointer (some ⟨t, 0, none⟩)] w (OwnPost intE (l.map Prod.fst) w) := by
  have hL := Len_any hM
  obtain ⟨n, hn⟩ : ∃ n, l.length = n := ⟨_, rfl⟩
  rw [hn] at hL hlen
  have HN := Lib.hid hn
  clear hn
  have hmk := fun w' => made_ints n w' hlen
  have hca : Chg (fun _ _ => False) w (w.alloc (.cells (madeCells #[.int .i64 0] n) 3)) := (Chg.refl _ _).alloc _
  have hown := own_made n w
  have HOWN := Lib.hid hown
  clear hown
  rcases hM.chg hca with ⟨rfl, _, hB⟩ | ⟨H, h, T, hI, hB, rfl, h1⟩
  · have c2 : (w.alloc (.cells (madeCells #[.int .i64 0] n) 3)).cell? ⟨t, 2, none⟩ = some (.pointer none) := hB.c2
    go_enter Try.func17, Try.ntmps17
    go_wp2_with fail
    refine hL.mono ?_
    rintro e w' ⟨rfl, rfl⟩
    go_wp2_with fail
    go_ret
    exact ⟨_, rfl, HOWN.out, hca⟩
  · have c2 : (w.alloc (.cells (madeCells #[.int .i64 0] n) 3)).cell? ⟨t, 2, none⟩ = some (.pointer (some ⟨rid T, 0, none⟩)) := hB.c2
    have hk := keys_all h mn mx _ F H T _ [] w.heap.size hI.fam hI.isT hI.sh HOWN.out hca.size hF (by rw [HN.out]; simpa using hlen)
    have HK := Lib.hid hk
    clear hk
    go_enter Try.func17, Try.ntmps17
    go_wp2_with fail
    refine hL.mono ?_
    rintro e w' ⟨rfl, rfl⟩
    go_wp2_with fail
    refine HK.out.mono ?_
    rintro e w2 ⟨v2, rfl, how2, hc2⟩
    go_wp2_with fail
    go_ret
    exact ⟨v2, rfl, how2, hca.trans' hc2 (fun _ _ _ h => h) (fun b o hb h => by omega)⟩

end Go.Proofs.Ytpgaedmhgchgeaa.M

namespace Go.Proofs.Ytpgaedmhgchgeaa.M
set_option linter.unusedSimpArgs false
set_option linter.unusedVariables false
open Go.RowKit

theorem kid_lt {α : Type} {h : Nat} {T : BT α (h + 1)} {mn mx : Nat} {c : BT α h} (hs : Sh mn mx (h + 1) T) (hc : c ∈ T.2.2) (h1 : 1 ≤ T.2.1.length) : (toL h c).length < (toL (h + 1) T).length := by
  have e := inter_len T.2.1 (T.2.2.map (toL h)) (by simpa using hs.2.1)
  obtain ⟨A, B, hAB⟩ := List.append_of_mem hc
  have e2 : (toL (h + 1) T).length = T.2.1.length + ((T.2.2.map (toL h)).map (·.length)).sum := e
  rw [e2, hAB]
  simp only [List.map_append, List.map_cons, List.sum_append, List.sum_cons]
  omega

theorem pre_step_len {α : Type} {xs : List α} {ts : List (List α)} {i : Nat} {x : α} {t : List α} (hx : xs[i]? = some x) (ht : ts[i]? = some t) : (pre (xs.take (i + 1)) (ts.take (i + 1))).length = (pre (xs.take i) (ts.take i)).length + (t.length + 1) := by
  rw [pre_step hx ht]; simp

/-- At an index: in the child, .. -/
theorem at_kid {α : Type} {xs : List α} {ts : List (List α)} {j q : Nat} {t : List α} (h : ts.length = xs.length + 1) (ht : ts[j]? = some t) (hq : q < t.length) : (inter xs ts)[(pre (xs.take j) (ts.take j)).length + q]? = t[q]? := by
  rw [inter_split j xs ts t h ht, List.append_assoc, List.getElem?_append_right (by omega), List.getElem?_append_left (by omega)]
  rw [Nat.add_sub_cancel_left]

/-- .. or the item behind it. -/
theorem at_item {α : Type} {xs : List α} {ts : List (List α)} {j : Nat} {x : α} {t : List α} (h : ts.length = xs.length + 1) (hx : xs[j]? = some x) (ht : ts[j]? = some t) : (inter xs ts)[(pre (xs.take j) (ts.take j)).length + t.length]? = some x := by
  have hj := (List.getElem?_eq_some_iff.1 hx).1
  have e : inter xs ts = (pre (xs.take (j + 1)) (ts.take (j + 1))) ++ (inter (xs.drop (j + 1)) (ts.drop (j + 1))) := by
    have hp : ∀ (xs : List α) (ts : List (List α)) (n : Nat), ts.length = xs.length + 1 → n ≤ xs.length → inter xs ts = pre (xs.take n) (ts.take n) ++ inter (xs.drop n) (ts.drop n) := by
      intro xs ts n
      induction n generalizing xs ts with
      | zero => intro _ _; simp [pre]
      | succ n ih =>
        intro h1 h2
        match xs, ts, h1, h2 with
        | x :: xs, t :: ts, h1, h2 =>
          simp only [List.take_succ_cons, List.drop_succ_cons, pre, inter, List.append_assoc, List.cons_append]
          rw [ih xs ts (by simpa using h1) (by simpa using h2)]
    exact hp xs ts (j + 1) h (by omega)
  rw [e, pre_step hx ht, List.getElem?_append_left (by simp), List.getElem?_append_right (by omega)]
  simp

end Go.Proofs.Ytpgaedmhgchgeaa.M
