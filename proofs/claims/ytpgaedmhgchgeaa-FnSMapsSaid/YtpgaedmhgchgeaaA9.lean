/- Insert; growSet; spec.Items of numbers. -/
import Derived.Deep.Cut
import Derived.Deep.CutRange
import Derived.Test.YtpgaedmhgchgeaaA2
import Derived.Test.YtpgaedmhgchgeaaA3
import Derived.Test.YtpgaedmhgchgeaaA8
namespace Go.Proofs.Ytpgaedmhgchgeaa
set_option linter.unusedSimpArgs false
set_option linter.unusedVariables false
open Go.RowKit

theorem pre_step {α : Type} {xs : List α} {ts : List (List α)} {i : Nat} {x : α} {t : List α} (hx : xs[i]? = some x) (ht : ts[i]? = some t) : pre (xs.take (i + 1)) (ts.take (i + 1)) = pre (xs.take i) (ts.take i) ++ (t ++ [x]) := by
  have hi := (List.getElem?_eq_some_iff.1 hx).1
  have hj := (List.getElem?_eq_some_iff.1 ht).1
  rw [List.take_add_one, List.take_add_one, hx, ht]
  have h : (xs.take i).length = (ts.take i).length := by simp; omega
  have := pre_app (xs.take i) [x] (ts.take i) [t] h
  simpa [pre] using this

theorem inter_end {α : Type} {xs : List α} {ts : List (List α)} {t : List α} (h : ts.length = xs.length + 1) (ht : ts[xs.length]? = some t) : inter xs ts = pre (xs.take xs.length) (ts.take xs.length) ++ t := by
  rw [inter_split xs.length xs ts t h ht, List.drop_of_length_le (Nat.le_refl _)]
  simp [post]

/-- A piece of the list ahead of the i-th child, and up to it. -/
theorem pre_len {α : Type} {xs : List α} {ts : List (List α)} (h : ts.length = xs.length + 1) {i : Nat} {t : List α} (ht : ts[i]? = some t) : (pre (xs.take i) (ts.take i)).length + t.length ≤ (inter xs ts).length := by
  rw [inter_split i xs ts t h ht]
  simp only [List.length_append]; omega

def KeysSpec (h : Nat) : Prop := ∀ (mn mx : Nat) (w : World) (F : Nat → Prop) (H : Nat → Option (NodeR (Int × Int))) (T : BT (Int × Int) h) (v : Value) (acc : List Int) (base : Nat),
  Fam (parM 0) w F H → IsT H h T → Sh mn mx h T → OwnE intE w v acc base → base ≤ w.heap.size → (∀ b, F b → b < base) → acc.length + (toL h T).length ≤ 1000000000000 →
  Calls Try.prog 41 #[.pointer (some ⟨rid T, 0, none⟩), v] w fun e w' => ∃ v', e = .returned v' ∧ OwnE intE w' v' (acc ++ (toL h T).map Prod.fst) base ∧ Chg (fun b _ => base ≤ b) w w'

set_option maxRecDepth 100000 in
set_option maxHeartbeats 1000000 in
theorem keys_leaf : KeysSpec 0 := by
  intro mn mx w F H T v acc base hF hT hs how hbase hFb hlen
  obtain ⟨i0, hi0, hz0, hz1, hz2⟩ := info_parts infoInt
  obtain ⟨l0, hn0⟩ := hF.node hT.root
  have n3 := hn0.c3n rfl
  have hlen' : acc.length + T.2.length ≤ 1000000000000 := hlen
  have HOW := Lib.hid how
  clear how
  go_enter Try.func41, Try.ntmps41
  go_wp2_with (go_at_call 58; refine (leaf_any _ none _ ?_).mono ?_; (focus go_simp); rintro e w' ⟨rfl, rfl⟩)
  go_loopw [1, 5] (fun v i wr => ∃ (j : Nat), j ≤ T.2.length ∧ i = .int .i64 j ∧ OwnE intE wr v (acc ++ (T.2.map Prod.fst).take j) base ∧ Chg (fun b _ => base ≤ b) w wr) (fun _ i _ => T.2.length - (intOf i).toNat)
  case atStart => exact ⟨0, Nat.zero_le _, rfl, by simpa using HOW.out, Chg.refl _ _⟩
  case round =>
    obtain ⟨j, hj, rfl, how, hc⟩ := hrel
    have hsz := hc.size
    obtain ⟨l, hn⟩ := (hF.chg hc (fun b o hb h => by have := hFb b hb; omega)).node hT.root
    have n2 : wr.cell? ⟨rid T, 2, none⟩ = some (.slice (some ⟨l.ib, l.io, none⟩) T.2.length l.ic) := hn.c2
    by_cases hlt : j < T.2.length
    · obtain ⟨x, hx⟩ : ∃ x, T.2[j]? = some x := ⟨_, List.getElem?_eq_getElem hlt⟩
      have ik := hn.mkey (j := j) hx
      have ht : (T.2.map Prod.fst).take (j + 1) = (T.2.map Prod.fst).take j ++ [x.1] := by rw [List.take_add_one, List.getElem?_map, hx]; rfl
      have HT := Lib.hid ht
      clear hx ht
      have i0' : (0 : Int) ≤ (j : Int) := by omega
      have i1 : (j : Int) < (T.2.length : Int) := by omega
      have hca : Chg (fun _ _ => False) wr (wr.alloc (.cells #[.int .i64 x.1] 3)) := (Chg.refl _ _).alloc _
      have how2 := how.keep hca
      have HOW2 := Lib.hid how2
      clear how how2
      have hll : ((T.2.map Prod.fst).take j).length ≤ T.2.length := by simp; omega
      go_wp2_with (refine wpList_append_E intE (by rfl) _ _ _ (by rfl) i0 _ 8 Try.underlying22 hi0 hz0 hz1 hz2 rfl _ (by rfl) _ base HOW2.out (Nat.le_trans hbase (Nat.le_trans hsz hca.size)) ⟨wr.heap.size, 0, none⟩ 1 _ (by rfl) [x.1] rfl (by decide) ?_ ?_ ?_ ?_)
      · exact El.src1 intE (c := #[.int .i64 x.1]) (ha_at _ _ (by simp)) _ rfl
      · rw [List.length_append]; unfold maxLen; omega
      · rw [List.length_append]; omega
      intro v' w' h1 h2 _
      have hc3 : Chg (fun b _ => base ≤ b) w w' := (hc.trans (hca.mono (fun _ _ _ h => h.elim))).trans h2
      go_wp2
      go_roundw
      case rel => exact ⟨j + 1, by omega, by go_num, by rw [HT.out]; exact h1, hc3⟩
      case measure => simp [intOf]; omega
    · obtain rfl : j = T.2.length := by omega
      go_wp2
      go_ret
      exact ⟨_, rfl, by rw [List.take_of_length_le (by simp)] at how; exact how, hc⟩

set_option maxRecDepth 100000 in
set_option maxHeartbeats 1000000 in
theorem keys_branch {h : Nat} (ih : KeysSpec h) : KeysSpec (h + 1) := by
  intro mn mx w F H T v acc base hF hT hs how hbase hFb hlen
  obtain ⟨i0, hi0, hz0, hz1, hz2⟩ := info_parts infoInt
  obtain ⟨l0, hn0⟩ := hF.node hT.root
  have hk : (recOf (h + 1) T).kids = some (T.2.2.map fun c => some (rid c)) := rfl
  have n3 := hn0.c3s hk
  have hkl : T.2.2.length = T.2.1.length + 1 := hs.2.1
  have hml : (T.2.2.map (toL h)).length = T.2.1.length + 1 := by simpa using hkl
  have hlen' : acc.length + (inter T.2.1 (T.2.2.map (toL h))).length ≤ 1000000000000 := hlen
  have HLEN := Lib.hid hlen'
  have HOW := Lib.hid how
  have HKL := Lib.hid hkl
  have HML := Lib.hid hml
  have hit : T.2.1.length ≤ (inter T.2.1 (T.2.2.map (toL h))).length := (its_sub hs).length_le
  have hitl : T.2.1.length ≤ 1000000000000 := by omega
  clear how hkl hlen' hml hlen hit
  go_enter Try.func41, Try.ntmps41
  go_wp2_with (go_at_call 58; refine (leaf_any _ (some ⟨l0.cc, 0, none⟩) _ ?_).mono ?_; (focus go_simp); rintro e w' ⟨rfl, rfl⟩)
  go_loopw [1, 6] (fun v i wr => ∃ (j : Nat), j ≤ T.2.1.length ∧ i = .int .i64 j ∧ OwnE intE wr v (acc ++ (pre (T.2.1.take j) ((T.2.2.map (toL h)).take j)).map Prod.fst) base ∧ Chg (fun b _ => base ≤ b) w wr) (fun _ i _ => T.2.1.length - (intOf i).toNat)
  case atStart => exact ⟨0, Nat.zero_le _, rfl, by simpa [pre] using HOW.out, Chg.refl _ _⟩
  case round =>
    obtain ⟨j, hj, rfl, how, hc⟩ := hrel
    have hsz := hc.size
    have hFr := hF.chg hc (fun b o hb h => by have := hFb b hb; omega)
    obtain ⟨l, hn⟩ := hFr.node hT.root
    have n2 : wr.cell? ⟨rid T, 2, none⟩ = some (.slice (some ⟨l.ib, l.io, none⟩) T.2.1.length l.ic) := hn.c2
    have n3 := hn.c3s hk
    have nc := hn.cc hk
    rw [List.length_map] at nc
    obtain ⟨c, hcj⟩ : ∃ c, T.2.2[j]? = some c := ⟨_, List.getElem?_eq_getElem (by have := HKL.out; omega)⟩
    have kc : wr.cell? ⟨l.cb, l.co + j, none⟩ = some (.pointer (some ⟨rid c, 0, none⟩)) := hn.kidc hk (j := j) (o := some (rid c)) (by simp [hcj])
    have hcm : c ∈ T.2.2 := List.mem_of_getElem? hcj
    have hkc := (List.getElem?_eq_some_iff.1 hcj).1
    have htj : (T.2.2.map (toL h))[j]? = some (toL h c) := by simp [hcj]
    have hpl := pre_len HML.out htj
    have hpl2 := HLEN.out
    have i0' : (0 : Int) ≤ (j : Int) := by omega
    have k1 : (j : Int) < (T.2.2.length : Int) := by omega
    have hih := fun (w1 : World) (v1 : Value) (acc1 : List Int) (hc1 : Chg (fun b _ => base ≤ b) w w1) (h1 : OwnE intE w1 v1 acc1 base) (h2 : acc1.length + (toL h c).length ≤ 1000000000000) =>
      ih mn mx w1 F H c v1 acc1 base (hF.chg hc1 (fun b o hb h => by have := hFb b hb; omega)) (hT.kid hcm) (hs.2.2 c hcm).2 h1 (Nat.le_trans hbase hc1.size) hFb h2
    have HIH := Lib.hid hih
    clear hih
    have hml1 : (acc ++ (pre (T.2.1.take j) ((T.2.2.map (toL h)).take j)).map Prod.fst).length + (toL h c).length ≤ 1000000000000 := by
      rw [List.length_append, List.length_map]; omega
    have HL1 := Lib.hid hml1
    clear hml1
    by_cases hlt : j < T.2.1.length
    · obtain ⟨x, hx⟩ : ∃ x, T.2.1[j]? = some x := ⟨_, List.getElem?_eq_getElem hlt⟩
      have hstep := pre_step hx htj
      have ht : acc ++ (pre (T.2.1.take (j + 1)) ((T.2.2.map (toL h)).take (j + 1))).map Prod.fst = acc ++ (pre (T.2.1.take j) ((T.2.2.map (toL h)).take j)).map Prod.fst ++ (toL h c).map Prod.fst ++ [x.1] := by
        rw [hstep]; simp
      have HT := Lib.hid ht
      have HX := Lib.hid hx
      have HOW2 := Lib.hid how
      clear hx ht hstep how htj hcj hpl hpl2
      have i1 : (j : Int) < (T.2.1.length : Int) := by omega
      go_wp2_with fail
      refine (HIH.out _ _ _ hc HOW2.out HL1.out).mono ?_
      rintro e w2 ⟨v2, rfl, how2, hc2⟩
      have hc02 := hc.trans hc2
      obtain ⟨l2, hn2⟩ := (hF.chg hc02 (fun b o hb h => by have := hFb b hb; omega)).node hT.root
      have n2' : w2.cell? ⟨rid T, 2, none⟩ = some (.slice (some ⟨l2.ib, l2.io, none⟩) T.2.1.length l2.ic) := hn2.c2
      have ik := hn2.mkey (j := j) HX.out
      have hca : Chg (fun _ _ => False) w2 (w2.alloc (.cells #[.int .i64 x.1] 3)) := (Chg.refl _ _).alloc _
      have HOW3 := Lib.hid (how2.keep hca)
      clear how2
      have hsz2 := hc02.size
      have hll : (acc ++ (pre (T.2.1.take j) ((T.2.2.map (toL h)).take j)).map Prod.fst ++ (toL h c).map Prod.fst).length ≤ 1000000000000 := by
        have := HL1.out
        rw [List.length_append, List.length_map]; exact this
      have HLL := Lib.hid hll
      clear hll
      go_wp2_with (refine wpList_append_E intE (by rfl) _ _ _ (by rfl) i0 _ 8 Try.underlying22 hi0 hz0 hz1 hz2 rfl _ (by rfl) _ base HOW3.out (Nat.le_trans hbase (Nat.le_trans hsz2 hca.size)) ⟨w2.heap.size, 0, none⟩ 1 _ (by rfl) [x.1] rfl (by decide) ?_ ?_ ?_ ?_)
      · exact El.src1 intE (c := #[.int .i64 x.1]) (ha_at _ _ (by simp)) _ rfl
      · have := HLL.out; unfold maxLen; omega
      · have := HLL.out; omega
      intro v' w' h1 h2 _
      have hc3 : Chg (fun b _ => base ≤ b) w w' := (hc02.trans (hca.mono (fun _ _ _ h => h.elim))).trans h2
      go_wp2
      go_roundw
      case rel => exact ⟨j + 1, by omega, by go_num, by rw [HT.out]; simpa only [List.append_assoc] using h1, hc3⟩
      case measure => simp [intOf]; omega
    · obtain rfl : j = T.2.1.length := by omega
      have hend := inter_end HML.out htj
      have ht : acc ++ (toL (h + 1) T).map Prod.fst = acc ++ (pre (T.2.1.take T.2.1.length) ((T.2.2.map (toL h)).take T.2.1.length)).map Prod.fst ++ (toL h c).map Prod.fst := by
        show acc ++ (inter T.2.1 (T.2.2.map (toL h))).map Prod.fst = _
        rw [hend]; simp
      have HT := Lib.hid ht
      have HOW2 := Lib.hid how
      clear ht hend how htj hcj hpl hpl2
      have s1 : IntKind.i64.wrap (T.2.1.length : Int) = (T.2.1.length : Int) := IntWalk.i64_in _ (by omega)
      have s2 : ((T.2.2.length : Int) - 1) = (T.2.1.length : Int) := by have := HKL.out; omega
      go_wp2_with fail
      refine wp_region_call (fun w' => w'.cell? ⟨rid T, 3, none⟩ = some (.pointer (some ⟨l.cc, 0, none⟩)) ∧ w'.cell? ⟨l.cc, 0, none⟩ = some (.slice (some ⟨l.cb, l.co, none⟩) T.2.2.length l.ck) ∧ w'.cell? ⟨l.cb, l.co + T.2.1.length, none⟩ = some (.pointer (some ⟨rid c, 0, none⟩)))
        17 [0, 1, 2, 3, 4, 5, 6, 7, 8, 9, 10, 11, 12, 13, 14, 15, 16] _ [18] (by kernel_rfl) (by kernel_rfl) (fun _ _ _ _ _ h => h) rfl rfl rfl ⟨n3, nc, kc⟩ ?_
      simp only [pickOps, List.filterMap_cons, List.filterMap_nil, List.getElem?_cons_zero, List.getElem?_cons_succ]
      refine wpSoft_step ?_ rfl ?_ ?_
      rotate_left
      · intro w' hS
        try obtain ⟨a1, a2, a3⟩ := hS
        go_simp
        try with_reducible rfl
      simp only [Act.put, List.setIfInBounds_toArray, List.set_cons_zero, List.set_cons_succ]
      refine wpSoft_step ?_ rfl ?_ ?_
      rotate_left
      · intro w' hS
        try obtain ⟨a1, a2, a3⟩ := hS
        go_simp
        try with_reducible rfl
      simp only [Act.put, List.setIfInBounds_toArray, List.set_cons_zero, List.set_cons_succ]
      refine wpSoft_step ?_ rfl ?_ ?_
      rotate_left
      · intro w' hS
        try obtain ⟨a1, a2, a3⟩ := hS
        go_simp
        try with_reducible rfl
      simp only [Act.put, List.setIfInBounds_toArray, List.set_cons_zero, List.set_cons_succ]
      refine wpSoft_step ?_ rfl ?_ ?_
      rotate_left
      · intro w' hS
        try obtain ⟨a1, a2, a3⟩ := hS
        go_simp
        try with_reducible rfl
      simp only [Act.put, List.setIfInBounds_toArray, List.set_cons_zero, List.set_cons_succ]
      refine wpSoft_step ?_ rfl ?_ ?_
      rotate_left
      · intro w' hS
        try obtain ⟨a1, a2, a3⟩ := hS
        go_simp
        try with_reducible rfl
      simp only [Act.put, List.setIfInBounds_toArray, List.set_cons_zero, List.set_cons_succ]
      refine wpSoft_step ?_ rfl ?_ ?_
      rotate_left
      · intro w' hS
        try obtain ⟨a1, a2, a3⟩ := hS
        go_simp
        try with_reducible rfl
      simp only [Act.put, List.setIfInBounds_toArray, List.set_cons_zero, List.set_cons_succ]
      refine wpSoft_step ?_ rfl ?_ ?_
      rotate_left
      · intro w' hS
        try obtain ⟨a1, a2, a3⟩ := hS
        go_simp
        try with_reducible rfl
      simp only [Act.put, List.setIfInBounds_toArray, List.set_cons_zero, List.set_cons_succ]
      refine wpSoft_step ?_ rfl ?_ ?_
      rotate_left
      · intro w' hS
        try obtain ⟨a1, a2, a3⟩ := hS
        go_simp
        try with_reducible rfl
      simp only [Act.put, List.setIfInBounds_toArray, List.set_cons_zero, List.set_cons_succ]
      refine wpSoft_step ?_ rfl ?_ ?_
      rotate_left
      · intro w' hS
        try obtain ⟨a1, a2, a3⟩ := hS
        go_simp
        try with_reducible rfl
      simp only [Act.put, List.setIfInBounds_toArray, List.set_cons_zero, List.set_cons_succ]
      refine wpSoft_step ?_ rfl ?_ ?_
      rotate_left
      · intro w' hS
        try obtain ⟨a1, a2, a3⟩ := hS
        go_simp
        try with_reducible rfl
      simp only [Act.put, List.setIfInBounds_toArray, List.set_cons_zero, List.set_cons_succ]
      refine wpSoft_step ?_ rfl ?_ ?_
      rotate_left
      · intro w' hS
        try obtain ⟨a1, a2, a3⟩ := hS
        go_simp
        try with_reducible rfl
      simp only [Act.put, List.setIfInBounds_toArray, List.set_cons_zero, List.set_cons_succ]
      refine wpSoft_step ?_ rfl ?_ ?_
      rotate_left
      · intro w' hS
        try obtain ⟨a1, a2, a3⟩ := hS
        go_simp
        try with_reducible rfl
      simp only [Act.put, List.setIfInBounds_toArray, List.set_cons_zero, List.set_cons_succ]
      refine wpSoft_step ?_ rfl ?_ ?_
      rotate_left
      · intro w' hS
        try obtain ⟨a1, a2, a3⟩ := hS
        go_simp
        try with_reducible rfl
      simp only [Act.put, List.setIfInBounds_toArray, List.set_cons_zero, List.set_cons_succ]
      refine wpSoft_step ?_ rfl ?_ ?_
      rotate_left
      · intro w' hS
        try obtain ⟨a1, a2, a3⟩ := hS
        go_simp
        try with_reducible rfl
      simp only [Act.put, List.setIfInBounds_toArray, List.set_cons_zero, List.set_cons_succ]
      refine wpSoft_step ?_ rfl ?_ ?_
      rotate_left
      · intro w' hS
        try obtain ⟨a1, a2, a3⟩ := hS
        go_simp
        try with_reducible rfl
      simp only [Act.put, List.setIfInBounds_toArray, List.set_cons_zero, List.set_cons_succ]
      refine wpSoft_step ?_ rfl ?_ ?_
      rotate_left
      · intro w' hS
        try obtain ⟨a1, a2, a3⟩ := hS
        go_simp
        try with_reducible rfl
      simp only [Act.put, List.setIfInBounds_toArray, List.set_cons_zero, List.set_cons_succ]
      refine wpSoft_step ?_ rfl ?_ ?_
      rotate_left
      · intro w' hS
        try obtain ⟨a1, a2, a3⟩ := hS
        go_simp
        try with_reducible rfl
      simp only [Act.put, List.setIfInBounds_toArray, List.set_cons_zero, List.set_cons_succ]
      refine wpSoft_nil ?_
      refine wp_hide (fun K hK => ?_)
      go_simp
      refine (HIH.out _ _ _ hc.drew (HOW2.out.keep (Chg.refl _ _).drew) HL1.out).mono ?_
      rintro e w2 ⟨v2, rfl, how2, hc2⟩
      refine hK _ _ ?_
      clear hK K
      refine wpSoft_step ?_ rfl ?_ ?_
      rotate_left
      · intro w' hS
        try obtain ⟨a1⟩ := hS
        go_simp
        try with_reducible rfl
      simp only [Act.put, List.setIfInBounds_toArray, List.set_cons_zero, List.set_cons_succ]
      refine wpSoft_nil ?_
      go_wp2
      go_ret
      exact ⟨v2, rfl, by rw [HT.out]; simpa only [List.append_assoc] using how2, hc.drew.trans hc2⟩

theorem keys_all : (h : Nat) → KeysSpec h
  | 0 => keys_leaf
  | h + 1 => keys_branch (keys_all h)
end Go.Proofs.Ytpgaedmhgchgeaa

namespace Go.Proofs.Ytpgaedmhgchgeaa
set_option linter.unusedSimpArgs false
set_option linter.unusedVariables false
open Go.RowKit

theorem kid_lt {α : Type} {h : Nat} {T : BT α (h + 1)} {mn mx : Nat} {c : BT α h} (hs : Sh mn mx (h + 1) T) (hc : c ∈ T.2.2) (h1 : 1 ≤ T.2.1.length) : (toL h c).length < (toL (h + 1) T).length := by
  have e := inter_len T.2.1 (T.2.2.map (toL h)) (by simpa using hs.2.1)
  obtain ⟨A, B, hAB⟩ := List.append_of_mem hc
  have e2 : (toL (h + 1) T).length = T.2.1.length + ((T.2.2.map (toL h)).map (·.length)).sum := e
  rw [e2, hAB]
  simp only [List.map_append, List.map_cons, List.sum_append, List.sum_cons]
  omega

def headS (o : Option (Int × Int)) : Value := match o with
  | some x => .tuple #[.int .i64 x.1, .agg #[], .bool true]
  | none => .tuple #[.int .i64 0, .agg #[], .bool false]

theorem pre_step_len {α : Type} {xs : List α} {ts : List (List α)} {i : Nat} {x : α} {t : List α} (hx : xs[i]? = some x) (ht : ts[i]? = some t) : (pre (xs.take (i + 1)) (ts.take (i + 1))).length = (pre (xs.take i) (ts.take i)).length + (t.length + 1) := by
  rw [pre_step hx ht]; simp

/-- At an index: in the child, .. -/
theorem at_kid {α : Type} {xs : List α} {ts : List (List α)} {j q : Nat} {t : List α} (h : ts.length = xs.length + 1) (ht : ts[j]? = some t) (hq : q < t.length) : (inter xs ts)[(pre (xs.take j) (ts.take j)).length + q]? = t[q]? := by
  rw [inter_split j xs ts t h ht, List.append_assoc, List.getElem?_append_right (by omega), List.getElem?_append_left (by omega)]
  rw [Nat.add_sub_cancel_left]

/-- .. or the item behind it. -/
theorem at_item {α : Type} {xs : List α} {ts : List (List α)} {j : Nat} {x : α} {t : List α} (h : ts.length = xs.length + 1) (hx : xs[j]? = some x) (ht : ts[j]? = some t) : (inter xs ts)[(pre (xs.take j) (ts.take j)).length + t.length]? = some x := by
  have hj := (List.getElem?_eq_some_iff.1 hx).1
  have e : inter xs ts = (pre (xs.take (j + 1)) (ts.take (j + 1))) ++ (inter (xs.drop (j + 1)) (ts.drop (j + 1))) := by
    have hp : ∀ (xs : List α) (ts : List (List α)) (n : Nat), ts.length = xs.length + 1 → n ≤ xs.length → inter xs ts = pre (xs.take n) (ts.take n) ++ inter (xs.drop n) (ts.drop n) := by
      intro xs ts n
      induction n generalizing xs ts with
      | zero => intro _ _; simp [pre]
      | succ n ih =>
        intro h1 h2
        match xs, ts, h1, h2 with
        | x :: xs, t :: ts, h1, h2 =>
          simp only [List.take_succ_cons, List.drop_succ_cons, pre, inter, List.append_assoc, List.cons_append]
          rw [ih xs ts (by simpa using h1) (by simpa using h2)]
    exact hp xs ts (j + 1) h (by omega)
  rw [e, pre_step hx ht, List.getElem?_append_left (by simp), List.getElem?_append_right (by omega)]
  simp







end Go.Proofs.Ytpgaedmhgchgeaa

namespace Go.Proofs.Ytpgaedmhgchgeaa
set_option linter.unusedSimpArgs false
set_option linter.unusedVariables false
open Go.RowKit

/-- A number as an item. -/
def itK (k : Int) : Int × Int := (k, 0)

def InsPost (w : World) (F : Nat → Prop) (t : Nat) (l : List (Int × Int)) (k : Int) (e : Ending) (w' : World) : Prop :=
  e = .returned (.tuple #[]) ∧ ∃ F', MapIn 31 63 w' F' t (insL ltM (itK k) l) ∧ Chg (fun b _ => F b ∨ b = t) w w' ∧ ∀ b, F' b → F b ∨ w.heap.size ≤ b

theorem Insert_any {w : World} {F : Nat → Prop} {t : Nat} {l : List (Int × Int)} (h : MapIn 31 63 w F t l) (k : Int) (hl : l.length < 100000000000000) :
    Calls Try.prog 24 #[.pointer (some ⟨t, 0, none⟩), .int .i64 k] w (InsPost w F t l k) := by
  have HS := Lib.hid (set_any h (itK k) hl)
  have htl := h.own MOwn.self
  have ht0 : Hid (∃ c, w.heap[t]? = some (.cells c 57 (0, 0))) := Lib.hid (by
    rcases h with ⟨_, _, hB⟩ | ⟨H, hh, T, _, hB, _⟩
    · exact ⟨_, hB⟩
    · exact ⟨_, hB⟩)
  clear h
  unfold itK at HS
  go_enter Try.func24, Try.ntmps24
  go_wp2_with fail
  refine HS.out.mono ?_
  rintro e w2 ⟨hr, F', h2, h3, h4⟩
  have FIN := Lib.hid (show InsPost w F t l k (.returned (.tuple #[])) w2 from ⟨rfl, F', h2, h3, h4⟩)
  clear h2 h3 h4
  rcases hr with ⟨y, _, rfl⟩ | ⟨_, rfl⟩
  all_goals
    go_wp2_with fail
    refine bodyPost_end (v := .tuple #[]) (by simp [results, Try.results24, go_sem]) rfl ?_
    exact FIN.out

def GrowPost (w : World) (l : List Int) (e : Ending) (w' : World) : Prop :=
  ∃ t F, e = .returned (.pointer (some ⟨t, 0, none⟩)) ∧ w.heap.size ≤ t ∧ MapIn 31 63 w' F t (growL (l.map itK)) ∧ Chg (fun _ _ => False) w w' ∧ ∀ b, F b → w.heap.size ≤ b

theorem growL_lenK (l : List Int) (j : Nat) : (growL ((l.map itK).take j)).length ≤ l.length := by
  have := growL_take_len (l.map itK) j
  simpa using this

set_option maxRecDepth 100000 in
theorem growSet_any (v : Value) (l : List Int) (w : World) (hs : SlE intE w v l) (hlen : l.length ≤ 2147483647) :
    Calls Try.prog 14 #[v] w (GrowPost w l) := by
  obtain ⟨a, cap, rfl⟩ := hs.form
  have HS := Lib.hid hs
  clear hs
  go_enter Try.func14, Try.ntmps14
  go_wp2_with fail
  refine name_world (fun w1 => Chg (fun _ _ => False) w w1 ∧ MapBlk 0 0 0 w1 w.heap.size none 0) ⟨(Chg.refl _ _).alloc _, ha_at _ _ rfl⟩ ?_
  rintro w1 ⟨hc1, hB1⟩
  have hlt1 := hB1.lt
  have HB1 := Lib.hid hB1
  clear hB1
  go_wp2_with fail
  go_loopw [9] (fun i wr => ∃ (j : Nat) (F : Nat → Prop), j ≤ l.length ∧ i = .int .i64 j ∧ MapIn 31 63 wr F w.heap.size (growL ((l.map itK).take j)) ∧ Chg (fun _ _ => False) w wr ∧ (∀ b, F b → w.heap.size ≤ b)) (fun i _ => l.length - (intOf i).toNat)
  case atStart => exact ⟨0, fun _ => False, Nat.zero_le _, rfl, .inl ⟨rfl, fun _ h => h, HB1.out⟩, hc1, fun _ h => h.elim⟩
  case round =>
    obtain ⟨j, F, hj, rfl, hM, hc, hF⟩ := hrel
    have hsz := hc.size
    by_cases hlt : j < l.length
    · obtain ⟨x, hx⟩ : ∃ x, l[j]? = some x := ⟨_, List.getElem?_eq_getElem hlt⟩
      obtain ⟨b, o, rfl, g0⟩ := (HS.out.chg hc).int hx
      have i0 : (0 : Int) ≤ (j : Int) := by omega
      have i1 : (j : Int) < (l.length : Int) := by omega
      have hgl := growL_lenK l j
      have hgt := growL_take (l := l.map itK) (j := j) (x := itK x) (by rw [List.getElem?_map, hx]; rfl)
      have HGT := Lib.hid hgt
      have HI := Lib.hid (Insert_any hM x (by omega))
      unfold InsPost at HI
      clear hx hgt hM
      go_wp2_with fail
      refine HI.out.mono ?_
      rintro e w2 ⟨rfl, F', hM2, hc2, hF2⟩
      have hc02 : Chg (fun _ _ => False) w w2 := hc.trans' hc2 (fun _ _ _ h => h) (fun b o hb h => by
        rcases h with h | h
        · have := hF b h; omega
        · omega)
      have hF2' : ∀ b, F' b → w.heap.size ≤ b := fun b hb => by
        rcases hF2 b hb with h | h
        · exact hF b h
        · omega
      have HM2 := Lib.hid hM2
      clear hM2 HI
      go_wp2_with fail
      go_roundw
      case rel => exact ⟨j + 1, F', by omega, by go_num, by rw [HGT.out]; exact HM2.out, hc02, hF2'⟩
      case measure => simp [intOf]; omega
    · obtain rfl : j = l.length := by omega
      have HM := Lib.hid hM
      clear hM
      go_wp2_with fail
      go_ret
      exact ⟨w.heap.size, F, rfl, Nat.le_refl _, by have h := HM.out; rw [List.take_of_length_le (by simp)] at h; exact h, hc, hF⟩

set_option maxRecDepth 100000 in
theorem specItems_any (v : Value) (xs : List Int) (w : World) (h : SlE intE w v xs) (hlen : xs.length ≤ 2147483648) :
    Calls Try.prog 4 #[v] w (OwnPost itemE (xs.map itK) w) := by
  obtain ⟨a, cap, rfl⟩ := h.form
  have HS := Lib.hid h
  clear h
  obtain ⟨i0, hi0, hz0, hz1, hz2⟩ := info_parts infoItem
  go_enter Try.func4, Try.ntmps4
  go_wp2
  go_loopw [3, 8] (fun v i wr => ∃ (j : Nat), j ≤ xs.length ∧ i = .int .i64 j ∧ OwnE itemE wr v ((xs.map itK).take j) w.heap.size ∧ Chg (fun _ _ => False) w wr) (fun _ i _ => xs.length - (intOf i).toNat)
  case atStart => exact ⟨0, Nat.zero_le _, rfl, OwnE.nil _ _ _, Chg.refl _ _⟩
  case round =>
    obtain ⟨j, hj, rfl, how, hc⟩ := hrel
    have hsz := hc.size
    by_cases hlt : j < xs.length
    · obtain ⟨x, hx⟩ : ∃ x, xs[j]? = some x := ⟨_, List.getElem?_eq_getElem hlt⟩
      obtain ⟨b, o, rfl, g0⟩ := (HS.out.chg hc).int hx
      have ht : (xs.map itK).take (j + 1) = (xs.map itK).take j ++ [itK x] := by rw [List.take_add_one, List.getElem?_map, hx]; rfl
      have HT := Lib.hid ht
      clear hx ht
      have i0' : (0 : Int) ≤ (j : Int) := by omega
      have i1 : (j : Int) < (xs.length : Int) := by omega
      have hc2 : Chg (fun _ _ => False) w (wr.alloc (.cells #[.int .i64 x, .int .i64 0] 34)) := hc.alloc _
      have how2 := how.keep ((Chg.refl (fun _ _ => False) wr).alloc (.cells #[.int .i64 x, .int .i64 0] 34))
      have HOW := Lib.hid how2
      have hll : ((xs.map itK).take j).length ≤ xs.length := by simp; omega
      clear how how2
      go_wp2_with (refine wpList_append_E2 itemE (by rfl) _ _ _ (by rfl) i0 _ 16 Try.underlying23 hi0 hz0 hz1 hz2 rfl _ (by rfl) _ w.heap.size HOW.out hc2.size ⟨wr.heap.size, 0, none⟩ 1 _ (by rfl) [itK x] rfl (by decide) ?_ ?_ ?_ ?_)
      · exact El.src1 itemE (c := #[.int .i64 x, .int .i64 0]) (ha_at _ _ (by simp)) _ rfl
      · unfold maxLen; omega
      · omega
      intro v' w' h1 h2 _
      have hc3 : Chg (fun _ _ => False) w w' := hc2.trans' h2 (fun _ _ _ h => h) (fun b o hb h => by have := (HOW.out.own_lt h).1; omega)
      go_wp2
      go_roundw
      case rel => exact ⟨j + 1, by omega, by go_num, by rw [HT.out]; exact h1, hc3⟩
      case measure => simp [intOf]; omega
    · obtain rfl : j = xs.length := by omega
      go_wp2
      go_ret
      exact ⟨_, rfl, by rw [List.take_of_length_le (by simp)] at how; exact how, hc⟩
end Go.Proofs.Ytpgaedmhgchgeaa
