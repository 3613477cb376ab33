/- nodeScan over trees. -/
import Derived.Test.YtpgaedmhgchgeaaM2
import Derived.Test.YtpgaedmhgchgeaaM3
import Derived.Test.YtpgaedmhgchgeaaM8
import Derived.Test.YtpgaedmhgchgeaaM9
namespace Go.Proofs.Ytpgaedmhgchgeaa.M
set_option linter.unusedSimpArgs false
set_option linter.unusedVariables false
open Go.RowKit

theorem runL_cons {α : Type} {cont : List α → Bool} {acc : List α} {x : α} {l : List α} (h : cont (acc ++ [x]) = true) : runL cont acc (x :: l) = runL cont (acc ++ [x]) l := by rw [runL, if_pos h]
theorem runL_stop {α : Type} {cont : List α → Bool} {acc : List α} {x : α} {l : List α} (h : cont (acc ++ [x]) = false) : runL cont acc (x :: l) = (acc ++ [x], false) := by rw [runL, if_neg (by rw [h]; simp)]
theorem runL_app_true {α : Type} {cont : List α → Bool} {acc : List α} {l1 l2 : List α} (h : (runL cont acc l1).2 = true) : runL cont acc (l1 ++ l2) = runL cont (runL cont acc l1).1 l2 := by rw [runL_append, if_pos h]
theorem runL_app_false {α : Type} {cont : List α → Bool} {acc : List α} {l1 l2 : List α} (h : (runL cont acc l1).2 = false) : runL cont acc (l1 ++ l2) = runL cont acc l1 := by rw [runL_append, if_neg (by rw [h]; simp)]

def fnP (cb : Nat) : Value := .func (.func 35) #[] #[.pointer (some ⟨cb, 0, none⟩)]

/-- What a walk over items with the keeping function leaves. -/
def RunPost (n : Int) (ob b2 b3 cb rb : Nat) (acc l : List (Int × Int)) (w : World) (e : Ending) (w' : World) : Prop :=
  e = .returned (.bool (runL (contN n) acc l).2) ∧ Kept n ob b2 b3 cb rb w' (runL (contN n) acc l).1 ∧ Chg (fun b _ => TakeB ob rb b) w w'

def RevSpec (h : Nat) : Prop := ∀ (mn mx : Nat) (w : World) (F : Nat → Prop) (H : Nat → Option (NodeR (Int × Int))) (T : BT (Int × Int) h) (t : Nat) (pa : Addr) (mt : Bool) (n : Int) (ob b2 b3 cb rb : Nat) (acc : List (Int × Int)),
  Fam (parM 0) w F H → IsT H h T → Sh mn mx h T → w.cell? pa = some (.pointer (some ⟨rid T, 0, none⟩)) → w.cell? ⟨t, 0, none⟩ = some (.int .u64 0) → Kept n ob b2 b3 cb rb w acc → (∀ b, F b → ¬ TakeB ob rb b) → ¬ TakeB ob rb t → acc.length + (toL h T).length ≤ 1000000000000 →
  Calls Try.prog 65 #[.pointer (some ⟨t, 0, none⟩), .pointer (some pa), fnP cb, .bool mt] w (RunPost n ob b2 b3 cb rb acc (toL h T).reverse w)


set_option maxRecDepth 100000 in
set_option maxHeartbeats 1000000 in
theorem rev_leaf : RevSpec 0 := by
  intro mn mx w F H T t pa mt n ob b2 b3 cb rb acc hF hT hs hpa ht0 hK hFb htb hlen
  obtain ⟨l0, hn0⟩ := hF.node hT.root
  have n0 := hn0.c0
  have hlen' : acc.length + T.2.length ≤ 1000000000000 := hlen
  have HK := Lib.hid hK
  clear hK hlen
  unfold fnP
  go_enter Try.func65, Try.ntmps65
  go_wp2_with fail
  refine (isoLoad_any t (rid T) 0 pa mt _ hpa n0 ht0).mono ?_
  rintro e w1 ⟨rfl, m1, hw1⟩
  have hc1 : Chg (fun _ _ => False) w w1 := by rw [hw1]; exact (Chg.refl _ _).drewN _
  clear hw1 n0 hpa ht0
  have n3 := hc1.cell (fun h => h) (hn0.c3n rfl)
  have n2 : w1.cell? ⟨rid T, 2, none⟩ = some (.slice (some ⟨l0.ib, l0.io, none⟩) T.2.length l0.ic) := hc1.cell (fun h => h) hn0.c2
  go_wp2_with (go_at_call 47; refine (leaf_any _ none _ ?_).mono ?_; (focus go_simp); rintro e w' ⟨rfl, rfl⟩)
  go_loopw [10] (fun i wr => ∃ (k : Nat) (z : Int) (acc' : List (Int × Int)), i = .int .i64 z ∧ z = (k : Int) - 1 ∧ k ≤ T.2.length ∧ Kept n ob b2 b3 cb rb wr acc' ∧ runL (contN n) acc T.2.reverse = runL (contN n) acc' (T.2.take k).reverse ∧ acc'.length + k = acc.length + T.2.length ∧ Chg (fun b _ => TakeB ob rb b) w wr) (fun i _ => (intOf i + 1).toNat)
  case atStart => exact ⟨T.2.length, _, acc, rfl, rfl, Nat.le_refl _, HK.out.keep hc1, by rw [List.take_length], rfl, hc1.mono (fun _ _ _ h => h.elim)⟩
  case round =>
    obtain ⟨k, z, acc', rfl, hz, hk, hkp, hrun, hal, hc⟩ := hrel
    clear n2 n3
    rcases k with _ | k
    · have hz0 : ¬ (0 : Int) ≤ z := by omega
      clear hz
      have HR := Lib.hid hrun
      have HKP := Lib.hid hkp
      clear hrun hkp
      go_wp2
      go_ret
      unfold RunPost
      show _ = Ending.returned (.bool (runL (contN n) acc T.2.reverse).2) ∧ Kept n ob b2 b3 cb rb wr (runL (contN n) acc T.2.reverse).1 ∧ _
      rw [HR.out]
      exact ⟨rfl, HKP.out, hc⟩
    · obtain rfl : z = (k : Int) := by omega
      obtain ⟨x, hx⟩ : ∃ x, T.2[k]? = some x := ⟨_, List.getElem?_eq_getElem (by omega)⟩
      obtain ⟨l, hn⟩ := (hF.chg hc (fun b o hb h => hFb b hb h)).node hT.root
      have n2 : wr.cell? ⟨rid T, 2, none⟩ = some (.slice (some ⟨l.ib, l.io, none⟩) T.2.length l.ic) := hn.c2
      have ik := hn.mkey (j := k) hx
      have iv := hn.mval (j := k) hx
      have htk : (T.2.take (k + 1)).reverse = x :: (T.2.take k).reverse := by rw [List.take_add_one, hx]; simp
      rw [htk] at hrun
      have hp := fun w1 (h : Kept n ob b2 b3 cb rb w1 acc') => pairs1_any x h (by omega)
      have HR := Lib.hid hrun
      have HKP := Lib.hid hkp
      have i0 : (0 : Int) ≤ (k : Int) := by omega
      have i1 : (k : Int) < (T.2.length : Int) := by omega
      clear hrun hkp htk hx hz
      cases hb : contN n (acc' ++ [x])
      all_goals
        rw [hb] at hp
        have HP := Lib.hid hp
        have HB := Lib.hid hb
        clear hp hb
        go_wp2_with fail
        refine wp_region_call (fun w' => w'.cell? ⟨rid T, 2, none⟩ = some (.slice (some ⟨l.ib, l.io, none⟩) T.2.length l.ic) ∧ w'.cell? ⟨l.ib, l.io + k * 2 + 1, none⟩ = some (.int .i64 x.1) ∧ w'.cell? ⟨l.ib, l.io + k * 2, none⟩ = some (.int .i64 x.2))
          17 [0, 1, 2, 3, 4, 5, 6, 7, 8, 9, 10, 11, 12, 13, 14, 15, 16] _ [18] (by kernel_rfl) (by kernel_rfl) (fun _ _ _ _ _ h => h) rfl rfl rfl ⟨n2, ik, iv⟩ ?_
        simp only [pickOps, List.filterMap_cons, List.filterMap_nil, List.getElem?_cons_zero, List.getElem?_cons_succ]
        refine wpSoft_step ?_ rfl ?_ ?_
        rotate_left
        · intro w' hS
          try obtain ⟨a1, a2, a3⟩ := hS
          go_simp
          try with_reducible rfl
        simp only [Act.put, List.setIfInBounds_toArray, List.set_cons_zero, List.set_cons_succ]
        refine wpSoft_step ?_ rfl ?_ ?_
        rotate_left
        · intro w' hS
          try obtain ⟨a1, a2, a3⟩ := hS
          go_simp
          try with_reducible rfl
        simp only [Act.put, List.setIfInBounds_toArray, List.set_cons_zero, List.set_cons_succ]
        refine wpSoft_step ?_ rfl ?_ ?_
        rotate_left
        · intro w' hS
          try obtain ⟨a1, a2, a3⟩ := hS
          go_simp
          try with_reducible rfl
        simp only [Act.put, List.setIfInBounds_toArray, List.set_cons_zero, List.set_cons_succ]
        refine wpSoft_step ?_ rfl ?_ ?_
        rotate_left
        · intro w' hS
          try obtain ⟨a1, a2, a3⟩ := hS
          go_simp
          try with_reducible rfl
        simp only [Act.put, List.setIfInBounds_toArray, List.set_cons_zero, List.set_cons_succ]
        refine wpSoft_step ?_ rfl ?_ ?_
        rotate_left
        · intro w' hS
          try obtain ⟨a1, a2, a3⟩ := hS
          go_simp
          try with_reducible rfl
        simp only [Act.put, List.setIfInBounds_toArray, List.set_cons_zero, List.set_cons_succ]
        refine wpSoft_step ?_ rfl ?_ ?_
        rotate_left
        · intro w' hS
          try obtain ⟨a1, a2, a3⟩ := hS
          go_simp
          try with_reducible rfl
        simp only [Act.put, List.setIfInBounds_toArray, List.set_cons_zero, List.set_cons_succ]
        refine wpSoft_step ?_ rfl ?_ ?_
        rotate_left
        · intro w' hS
          try obtain ⟨a1, a2, a3⟩ := hS
          go_simp
          try with_reducible rfl
        simp only [Act.put, List.setIfInBounds_toArray, List.set_cons_zero, List.set_cons_succ]
        refine wpSoft_step ?_ rfl ?_ ?_
        rotate_left
        · intro w' hS
          try obtain ⟨a1, a2, a3⟩ := hS
          go_simp
          try with_reducible rfl
        simp only [Act.put, List.setIfInBounds_toArray, List.set_cons_zero, List.set_cons_succ]
        refine wpSoft_step ?_ rfl ?_ ?_
        rotate_left
        · intro w' hS
          try obtain ⟨a1, a2, a3⟩ := hS
          go_simp
          try with_reducible rfl
        simp only [Act.put, List.setIfInBounds_toArray, List.set_cons_zero, List.set_cons_succ]
        refine wpSoft_step ?_ rfl ?_ ?_
        rotate_left
        · intro w' hS
          try obtain ⟨a1, a2, a3⟩ := hS
          go_simp
          try with_reducible rfl
        simp only [Act.put, List.setIfInBounds_toArray, List.set_cons_zero, List.set_cons_succ]
        refine wpSoft_step ?_ rfl ?_ ?_
        rotate_left
        · intro w' hS
          try obtain ⟨a1, a2, a3⟩ := hS
          go_simp
          try with_reducible rfl
        simp only [Act.put, List.setIfInBounds_toArray, List.set_cons_zero, List.set_cons_succ]
        refine wpSoft_step ?_ rfl ?_ ?_
        rotate_left
        · intro w' hS
          try obtain ⟨a1, a2, a3⟩ := hS
          go_simp
          try with_reducible rfl
        simp only [Act.put, List.setIfInBounds_toArray, List.set_cons_zero, List.set_cons_succ]
        refine wpSoft_step ?_ rfl ?_ ?_
        rotate_left
        · intro w' hS
          try obtain ⟨a1, a2, a3⟩ := hS
          go_simp
          try with_reducible rfl
        simp only [Act.put, List.setIfInBounds_toArray, List.set_cons_zero, List.set_cons_succ]
        refine wpSoft_step ?_ rfl ?_ ?_
        rotate_left
        · intro w' hS
          try obtain ⟨a1, a2, a3⟩ := hS
          go_simp
          try with_reducible rfl
        simp only [Act.put, List.setIfInBounds_toArray, List.set_cons_zero, List.set_cons_succ]
        refine wpSoft_step ?_ rfl ?_ ?_
        rotate_left
        · intro w' hS
          try obtain ⟨a1, a2, a3⟩ := hS
          go_simp
          try with_reducible rfl
        simp only [Act.put, List.setIfInBounds_toArray, List.set_cons_zero, List.set_cons_succ]
        refine wpSoft_step ?_ rfl ?_ ?_
        rotate_left
        · intro w' hS
          try obtain ⟨a1, a2, a3⟩ := hS
          go_simp
          try with_reducible rfl
        simp only [Act.put, List.setIfInBounds_toArray, List.set_cons_zero, List.set_cons_succ]
        refine wpSoft_step ?_ rfl ?_ ?_
        rotate_left
        · intro w' hS
          try obtain ⟨a1, a2, a3⟩ := hS
          go_simp
          try with_reducible rfl
        simp only [Act.put, List.setIfInBounds_toArray, List.set_cons_zero, List.set_cons_succ]
        refine wpSoft_nil ?_
        refine wp_hide (fun K hK => ?_)
        go_simp
        refine (HP.out _ (HKP.out.keep (Chg.refl _ _).drew)).mono ?_
        rintro e w2 ⟨rfl, hk2, hc2⟩
        refine hK _ _ ?_
        clear hK K
        refine wpSoft_step ?_ rfl ?_ ?_
        rotate_left
        · intro w' hS
          try obtain ⟨a1⟩ := hS
          go_simp
          try with_reducible rfl
        simp only [Act.put, List.setIfInBounds_toArray, List.set_cons_zero, List.set_cons_succ]
        refine wpSoft_nil ?_
        have hc02 := hc.drew.trans hc2
      · go_wp2
        go_ret
        unfold RunPost
        show _ = Ending.returned (.bool (runL (contN n) acc T.2.reverse).2) ∧ Kept n ob b2 b3 cb rb w2 (runL (contN n) acc T.2.reverse).1 ∧ _
        rw [HR.out, runL_stop HB.out]
        exact ⟨rfl, hk2, hc02⟩
      · go_wp2
        go_roundw
        case rel => exact ⟨k, (k : Int) - 1, acc' ++ [x], by go_num, rfl, by omega, hk2, by rw [HR.out, runL_cons HB.out], by simp; omega, hc02⟩
        case measure => simp [intOf]

theorem pre_rev {α : Type} {xs : List α} {ts : List (List α)} {i : Nat} {x : α} {t : List α} (hx : xs[i]? = some x) (ht : ts[i]? = some t) : (pre (xs.take (i + 1)) (ts.take (i + 1))).reverse = x :: (t.reverse ++ (pre (xs.take i) (ts.take i)).reverse) := by
  rw [pre_step hx ht]; simp

theorem pre_take_len {α : Type} {xs : List α} {ts : List (List α)} (h : ts.length = xs.length + 1) {i : Nat} {t : List α} (ht : ts[i]? = some t) (hi : i < xs.length) : (pre (xs.take (i + 1)) (ts.take (i + 1))).length = (pre (xs.take i) (ts.take i)).length + t.length + 1 := by
  rw [pre_step (List.getElem?_eq_getElem hi) ht]; simp; omega

set_option maxRecDepth 100000 in
set_option maxHeartbeats 2000000 in
theorem rev_branch {h : Nat} (ih : RevSpec h) : RevSpec (h + 1) := by
  intro mn mx w F H T t pa mt n ob b2 b3 cb rb acc hF hT hs hpa ht0 hK hFb htb hlen
  obtain ⟨l0, hn0⟩ := hF.node hT.root
  have n0 := hn0.c0
  have hk : (recOf (h + 1) T).kids = some (T.2.2.map fun c => some (rid c)) := rfl
  have hkl : T.2.2.length = T.2.1.length + 1 := hs.2.1
  have hml : (T.2.2.map (toL h)).length = T.2.1.length + 1 := by simpa using hkl
  have hlen' : acc.length + (inter T.2.1 (T.2.2.map (toL h))).length ≤ 1000000000000 := hlen
  have hits : T.2.1.length ≤ 1000000000000 := by have := (its_sub hs).length_le; have h2 : (its T).length = T.2.1.length := rfl; omega
  have HKL := Lib.hid hkl
  have HML := Lib.hid hml
  have HLEN := Lib.hid hlen'
  have HK := Lib.hid hK
  have HT0 := Lib.hid ht0
  have hih := fun (c : BT (Int × Int) h) (hcm : c ∈ T.2.2) (w1 : World) (pa1 : Addr) (acc1 : List (Int × Int)) (hc1 : Chg (fun b _ => TakeB ob rb b) w w1) (hp1 : w1.cell? pa1 = some (.pointer (some ⟨rid c, 0, none⟩))) (h1 : Kept n ob b2 b3 cb rb w1 acc1) (h2 : acc1.length + (toL h c).length ≤ 1000000000000) =>
    ih mn mx w1 F H c t pa1 mt n ob b2 b3 cb rb acc1 (hF.chg hc1 (fun b o hb h => hFb b hb h)) (hT.kid hcm) (hs.2.2 c hcm).2 hp1 (hc1.cell (a := ⟨t, 0, none⟩) (fun h => htb h) HT0.out) h1 hFb htb h2
  unfold fnP at hih
  have HIH := Lib.hid hih
  obtain ⟨cl, hcl⟩ : ∃ c, T.2.2[T.2.1.length]? = some c := ⟨_, List.getElem?_eq_getElem (by omega)⟩
  have hclm : cl ∈ T.2.2 := List.mem_of_getElem? hcl
  have htl : (T.2.2.map (toL h))[T.2.1.length]? = some (toL h cl) := by simp [hcl]
  have hend := inter_end hml htl
  have hall : (toL (h + 1) T).reverse = (toL h cl).reverse ++ (pre (T.2.1.take T.2.1.length) ((T.2.2.map (toL h)).take T.2.1.length)).reverse := by
    show (inter T.2.1 (T.2.2.map (toL h))).reverse = _
    rw [hend]; simp
  have hleq : (inter T.2.1 (T.2.2.map (toL h))).length = (pre (T.2.1.take T.2.1.length) ((T.2.2.map (toL h)).take T.2.1.length)).length + (toL h cl).length := by rw [hend]; simp
  have HALL := Lib.hid hall
  have HCL := Lib.hid hcl
  have HLEQ := Lib.hid hleq
  clear hK hlen hkl hml hlen' hih hall hcl htl hend hleq
  unfold fnP
  go_enter Try.func65, Try.ntmps65
  go_wp2_with fail
  refine (isoLoad_any t (rid T) 0 pa mt _ hpa n0 ht0).mono ?_
  rintro e w1 ⟨rfl, m1, hw1⟩
  have hc1 : Chg (fun _ _ => False) w w1 := by rw [hw1]; exact (Chg.refl _ _).drewN _
  clear hw1 n0 hpa ht0
  have hn1 := hn0.chg hc1 (fun _ _ _ h => h)
  have n3 := hn1.c3s hk
  have nc := hn1.cc hk
  rw [List.length_map] at nc
  have kc : w1.cell? ⟨l0.cb, l0.co + T.2.1.length, none⟩ = some (.pointer (some ⟨rid cl, 0, none⟩)) := hn1.kidc hk (j := T.2.1.length) (o := some (rid cl)) (by simp [HCL.out])
  have s1 : IntKind.i64.wrap (T.2.1.length : Int) = (T.2.1.length : Int) := IntWalk.i64_in _ (by omega)
  have s2 : ((T.2.2.length : Int) - 1) = (T.2.1.length : Int) := by have := HKL.out; omega
  have k1 : ((T.2.1.length : Nat) : Int) < (T.2.2.length : Int) := by have := HKL.out; omega
  have HKC := Lib.hid kc
  clear kc
  go_wp2_with (go_at_call 47; refine (leaf_any _ (some ⟨l0.cc, 0, none⟩) _ ?_).mono ?_; (focus go_simp); rintro e w' ⟨rfl, rfl⟩)
  refine name_world (fun w2 => Chg (fun _ _ => False) w1 w2) (Chg.refl _ _) ?_
  rintro w2 hc2
  replace n3 := hc2.cell (fun h => h) n3
  replace nc := hc2.cell (fun h => h) nc
  have hcc := hc1.trans hc2
  cases hb : (runL (contN n) acc (toL h cl).reverse).2
  all_goals
    have hlast := HIH.out cl hclm w2.drew ⟨l0.cb, l0.co + T.2.1.length, none⟩ acc (hcc.drew.mono (fun _ _ _ h => h.elim)) (hc2.drew.cell (fun h => h) HKC.out) (HK.out.keep hcc.drew) (by have := HLEN.out; have := HLEQ.out; omega)
    unfold RunPost at hlast
    rw [hb] at hlast
    have HLAST := Lib.hid hlast
    have HB := Lib.hid hb
    clear hlast hb
    refine wp_region_call (fun w' => w'.cell? ⟨rid T, 3, none⟩ = some (.pointer (some ⟨l0.cc, 0, none⟩)) ∧ w'.cell? ⟨l0.cc, 0, none⟩ = some (.slice (some ⟨l0.cb, l0.co, none⟩) T.2.2.length l0.ck))
      18 [0, 1, 2, 3, 4, 5, 6, 7, 8, 9, 10, 11, 12, 13, 14, 15, 16, 17] _ [19] (by kernel_rfl) (by kernel_rfl) (fun _ _ _ _ _ h => h) rfl rfl rfl ⟨n3, nc⟩ ?_
    simp only [pickOps, List.filterMap_cons, List.filterMap_nil, List.getElem?_cons_zero, List.getElem?_cons_succ]
    refine wpSoft_step ?_ rfl ?_ ?_
    rotate_left
    · intro w' hS
      try obtain ⟨a1, a2⟩ := hS
      go_simp
      try with_reducible rfl
    simp only [Act.put, List.setIfInBounds_toArray, List.set_cons_zero, List.set_cons_succ]
    refine wpSoft_step ?_ rfl ?_ ?_
    rotate_left
    · intro w' hS
      try obtain ⟨a1, a2⟩ := hS
      go_simp
      try with_reducible rfl
    simp only [Act.put, List.setIfInBounds_toArray, List.set_cons_zero, List.set_cons_succ]
    refine wpSoft_step ?_ rfl ?_ ?_
    rotate_left
    · intro w' hS
      try obtain ⟨a1, a2⟩ := hS
      go_simp
      try with_reducible rfl
    simp only [Act.put, List.setIfInBounds_toArray, List.set_cons_zero, List.set_cons_succ]
    refine wpSoft_step ?_ rfl ?_ ?_
    rotate_left
    · intro w' hS
      try obtain ⟨a1, a2⟩ := hS
      go_simp
      try with_reducible rfl
    simp only [Act.put, List.setIfInBounds_toArray, List.set_cons_zero, List.set_cons_succ]
    refine wpSoft_step ?_ rfl ?_ ?_
    rotate_left
    · intro w' hS
      try obtain ⟨a1, a2⟩ := hS
      go_simp
      try with_reducible rfl
    simp only [Act.put, List.setIfInBounds_toArray, List.set_cons_zero, List.set_cons_succ]
    refine wpSoft_step ?_ rfl ?_ ?_
    rotate_left
    · intro w' hS
      try obtain ⟨a1, a2⟩ := hS
      go_simp
      try with_reducible rfl
    simp only [Act.put, List.setIfInBounds_toArray, List.set_cons_zero, List.set_cons_succ]
    refine wpSoft_step ?_ rfl ?_ ?_
    rotate_left
    · intro w' hS
      try obtain ⟨a1, a2⟩ := hS
      go_simp
      try with_reducible rfl
    simp only [Act.put, List.setIfInBounds_toArray, List.set_cons_zero, List.set_cons_succ]
    refine wpSoft_step ?_ rfl ?_ ?_
    rotate_left
    · intro w' hS
      try obtain ⟨a1, a2⟩ := hS
      go_simp
      try with_reducible rfl
    simp only [Act.put, List.setIfInBounds_toArray, List.set_cons_zero, List.set_cons_succ]
    refine wpSoft_step ?_ rfl ?_ ?_
    rotate_left
    · intro w' hS
      try obtain ⟨a1, a2⟩ := hS
      go_simp
      try with_reducible rfl
    simp only [Act.put, List.setIfInBounds_toArray, List.set_cons_zero, List.set_cons_succ]
    refine wpSoft_step ?_ rfl ?_ ?_
    rotate_left
    · intro w' hS
      try obtain ⟨a1, a2⟩ := hS
      go_simp
      try with_reducible rfl
    simp only [Act.put, List.setIfInBounds_toArray, List.set_cons_zero, List.set_cons_succ]
    refine wpSoft_step ?_ rfl ?_ ?_
    rotate_left
    · intro w' hS
      try obtain ⟨a1, a2⟩ := hS
      go_simp
      try with_reducible rfl
    simp only [Act.put, List.setIfInBounds_toArray, List.set_cons_zero, List.set_cons_succ]
    refine wpSoft_step ?_ rfl ?_ ?_
    rotate_left
    · intro w' hS
      try obtain ⟨a1, a2⟩ := hS
      go_simp
      try with_reducible rfl
    simp only [Act.put, List.setIfInBounds_toArray, List.set_cons_zero, List.set_cons_succ]
    refine wpSoft_step ?_ rfl ?_ ?_
    rotate_left
    · intro w' hS
      try obtain ⟨a1, a2⟩ := hS
      go_simp
      try with_reducible rfl
    simp only [Act.put, List.setIfInBounds_toArray, List.set_cons_zero, List.set_cons_succ]
    refine wpSoft_step ?_ rfl ?_ ?_
    rotate_left
    · intro w' hS
      try obtain ⟨a1, a2⟩ := hS
      go_simp
      try with_reducible rfl
    simp only [Act.put, List.setIfInBounds_toArray, List.set_cons_zero, List.set_cons_succ]
    refine wpSoft_step ?_ rfl ?_ ?_
    rotate_left
    · intro w' hS
      try obtain ⟨a1, a2⟩ := hS
      go_simp
      try with_reducible rfl
    simp only [Act.put, List.setIfInBounds_toArray, List.set_cons_zero, List.set_cons_succ]
    refine wpSoft_step ?_ rfl ?_ ?_
    rotate_left
    · intro w' hS
      try obtain ⟨a1, a2⟩ := hS
      go_simp
      try with_reducible rfl
    simp only [Act.put, List.setIfInBounds_toArray, List.set_cons_zero, List.set_cons_succ]
    refine wpSoft_step ?_ rfl ?_ ?_
    rotate_left
    · intro w' hS
      try obtain ⟨a1, a2⟩ := hS
      go_simp
      try with_reducible rfl
    simp only [Act.put, List.setIfInBounds_toArray, List.set_cons_zero, List.set_cons_succ]
    refine wpSoft_step ?_ rfl ?_ ?_
    rotate_left
    · intro w' hS
      try obtain ⟨a1, a2⟩ := hS
      go_simp
      try with_reducible rfl
    simp only [Act.put, List.setIfInBounds_toArray, List.set_cons_zero, List.set_cons_succ]
    refine wpSoft_nil ?_
    refine wp_hide (fun K hK => ?_)
    go_simp
    refine HLAST.out.mono ?_
    rintro e w3 ⟨rfl, hk3, hc3⟩
    refine hK _ _ ?_
    clear hK K
    refine wpSoft_step ?_ rfl ?_ ?_
    rotate_left
    · intro w' hS
      try obtain ⟨a1⟩ := hS
      go_simp
      try with_reducible rfl
    simp only [Act.put, List.setIfInBounds_toArray, List.set_cons_zero, List.set_cons_succ]
    refine wpSoft_nil ?_
    have hc03 := (hcc.drew.mono (B := fun b _ => TakeB ob rb b) (fun _ _ _ h => h.elim)).trans hc3
    have HK3 := Lib.hid hk3
    clear hk3
  · go_wp2
    go_ret
    unfold RunPost
    show _ = Ending.returned (.bool (runL (contN n) acc (toL (h + 1) T).reverse).2) ∧ Kept n ob b2 b3 cb rb w3 (runL (contN n) acc (toL (h + 1) T).reverse).1 ∧ _
    rw [HALL.out, runL_app_false HB.out, HB.out]
    exact ⟨rfl, HK3.out, hc03⟩
  · have hn3 := (hF.chg hc03 (fun b o hb h => hFb b hb h)).node hT.root
    obtain ⟨l3, hn3⟩ := hn3
    have n2 : w3.cell? ⟨rid T, 2, none⟩ = some (.slice (some ⟨l3.ib, l3.io, none⟩) T.2.1.length l3.ic) := hn3.c2
    have hrt := runL_true _ _ _ HB.out
    have HRT := Lib.hid hrt
    clear n3 nc hrt
    go_wp2
    go_loopw [11] (fun i wr => ∃ (k : Nat) (z : Int) (acc' : List (Int × Int)), i = .int .i64 z ∧ z = (k : Int) - 1 ∧ k ≤ T.2.1.length ∧ Kept n ob b2 b3 cb rb wr acc' ∧ runL (contN n) acc (toL (h + 1) T).reverse = runL (contN n) acc' (pre (T.2.1.take k) ((T.2.2.map (toL h)).take k)).reverse ∧ acc'.length + (pre (T.2.1.take k) ((T.2.2.map (toL h)).take k)).length ≤ 1000000000000 ∧ Chg (fun b _ => TakeB ob rb b) w wr) (fun i _ => (intOf i + 1).toNat)
    case atStart => exact ⟨T.2.1.length, _, _, rfl, rfl, Nat.le_refl _, HK3.out, by rw [HALL.out, runL_app_true HB.out], by rw [HRT.out]; have := HLEN.out; have := HLEQ.out; simp only [List.length_append, List.length_reverse]; omega, hc03⟩
    case round =>
      obtain ⟨k, z, acc', rfl, hz, hkk, hkp, hrun, hal, hc⟩ := hrel
      clear n2
      rcases k with _ | k
      · have hz0 : ¬ (0 : Int) ≤ z := by omega
        have HR := Lib.hid hrun
        have HKP := Lib.hid hkp
        clear hz hrun hkp
        go_wp2
        go_ret
        unfold RunPost
        show _ = Ending.returned (.bool (runL (contN n) acc (toL (h + 1) T).reverse).2) ∧ Kept n ob b2 b3 cb rb wr (runL (contN n) acc (toL (h + 1) T).reverse).1 ∧ _
        rw [HR.out]
        exact ⟨rfl, HKP.out, hc⟩
      · obtain rfl : z = (k : Int) := by omega
        obtain ⟨x, hx⟩ : ∃ x, T.2.1[k]? = some x := ⟨_, List.getElem?_eq_getElem (by omega)⟩
        obtain ⟨c, hcj⟩ : ∃ c, T.2.2[k]? = some c := ⟨_, List.getElem?_eq_getElem (by have := HKL.out; omega)⟩
        have hcm : c ∈ T.2.2 := List.mem_of_getElem? hcj
        have hkc := (List.getElem?_eq_some_iff.1 hcj).1
        have htj : (T.2.2.map (toL h))[k]? = some (toL h c) := by simp [hcj]
        obtain ⟨l, hn⟩ := (hF.chg hc (fun b o hb h => hFb b hb h)).node hT.root
        have n2 : wr.cell? ⟨rid T, 2, none⟩ = some (.slice (some ⟨l.ib, l.io, none⟩) T.2.1.length l.ic) := hn.c2
        have ik := hn.mkey (j := k) hx
        have iv := hn.mval (j := k) hx
        have hpr := pre_rev hx htj
        have hptl := pre_take_len HML.out htj (by omega)
        rw [hpr] at hrun
        have hp := fun w1 (h : Kept n ob b2 b3 cb rb w1 acc') => pairs1_any x h (by omega)
        have HR := Lib.hid hrun
        have HKP := Lib.hid hkp
        have HCJ := Lib.hid hcj
        have HPTL := Lib.hid hptl
        have i0 : (0 : Int) ≤ (k : Int) := by omega
        have i1 : (k : Int) < (T.2.1.length : Int) := by omega
        have i2 : (k : Int) < (T.2.2.length : Int) := by omega
        clear hrun hkp hpr hx hz htj hcj hptl
        cases hb : contN n (acc' ++ [x])
        all_goals
          rw [hb] at hp
          have HP := Lib.hid hp
          have HB1 := Lib.hid hb
          clear hp hb
          go_wp2_with fail
          refine wp_region_call (fun w' => w'.cell? ⟨rid T, 2, none⟩ = some (.slice (some ⟨l.ib, l.io, none⟩) T.2.1.length l.ic) ∧ w'.cell? ⟨l.ib, l.io + k * 2 + 1, none⟩ = some (.int .i64 x.1) ∧ w'.cell? ⟨l.ib, l.io + k * 2, none⟩ = some (.int .i64 x.2))
            17 [0, 1, 2, 3, 4, 5, 6, 7, 8, 9, 10, 11, 12, 13, 14, 15, 16] _ [18] (by kernel_rfl) (by kernel_rfl) (fun _ _ _ _ _ h => h) rfl rfl rfl ⟨n2, ik, iv⟩ ?_
          simp only [pickOps, List.filterMap_cons, List.filterMap_nil, List.getElem?_cons_zero, List.getElem?_cons_succ]
          refine wpSoft_step ?_ rfl ?_ ?_
          rotate_left
          · intro w' hS
            try obtain ⟨a1, a2, a3⟩ := hS
            go_simp
            try with_reducible rfl
          simp only [Act.put, List.setIfInBounds_toArray, List.set_cons_zero, List.set_cons_succ]
          refine wpSoft_step ?_ rfl ?_ ?_
          rotate_left
          · intro w' hS
            try obtain ⟨a1, a2, a3⟩ := hS
            go_simp
            try with_reducible rfl
          simp only [Act.put, List.setIfInBounds_toArray, List.set_cons_zero, List.set_cons_succ]
          refine wpSoft_step ?_ rfl ?_ ?_
          rotate_left
          · intro w' hS
            try obtain ⟨a1, a2, a3⟩ := hS
            go_simp
            try with_reducible rfl
          simp only [Act.put, List.setIfInBounds_toArray, List.set_cons_zero, List.set_cons_succ]
          refine wpSoft_step ?_ rfl ?_ ?_
          rotate_left
          · intro w' hS
            try obtain ⟨a1, a2, a3⟩ := hS
            go_simp
            try with_reducible rfl
          simp only [Act.put, List.setIfInBounds_toArray, List.set_cons_zero, List.set_cons_succ]
          refine wpSoft_step ?_ rfl ?_ ?_
          rotate_left
          · intro w' hS
            try obtain ⟨a1, a2, a3⟩ := hS
            go_simp
            try with_reducible rfl
          simp only [Act.put, List.setIfInBounds_toArray, List.set_cons_zero, List.set_cons_succ]
          refine wpSoft_step ?_ rfl ?_ ?_
          rotate_left
          · intro w' hS
            try obtain ⟨a1, a2, a3⟩ := hS
            go_simp
            try with_reducible rfl
          simp only [Act.put, List.setIfInBounds_toArray, List.set_cons_zero, List.set_cons_succ]
          refine wpSoft_step ?_ rfl ?_ ?_
          rotate_left
          · intro w' hS
            try obtain ⟨a1, a2, a3⟩ := hS
            go_simp
            try with_reducible rfl
          simp only [Act.put, List.setIfInBounds_toArray, List.set_cons_zero, List.set_cons_succ]
          refine wpSoft_step ?_ rfl ?_ ?_
          rotate_left
          · intro w' hS
            try obtain ⟨a1, a2, a3⟩ := hS
            go_simp
            try with_reducible rfl
          simp only [Act.put, List.setIfInBounds_toArray, List.set_cons_zero, List.set_cons_succ]
          refine wpSoft_step ?_ rfl ?_ ?_
          rotate_left
          · intro w' hS
            try obtain ⟨a1, a2, a3⟩ := hS
            go_simp
            try with_reducible rfl
          simp only [Act.put, List.setIfInBounds_toArray, List.set_cons_zero, List.set_cons_succ]
          refine wpSoft_step ?_ rfl ?_ ?_
          rotate_left
          · intro w' hS
            try obtain ⟨a1, a2, a3⟩ := hS
            go_simp
            try with_reducible rfl
          simp only [Act.put, List.setIfInBounds_toArray, List.set_cons_zero, List.set_cons_succ]
          refine wpSoft_step ?_ rfl ?_ ?_
          rotate_left
          · intro w' hS
            try obtain ⟨a1, a2, a3⟩ := hS
            go_simp
            try with_reducible rfl
          simp only [Act.put, List.setIfInBounds_toArray, List.set_cons_zero, List.set_cons_succ]
          refine wpSoft_step ?_ rfl ?_ ?_
          rotate_left
          · intro w' hS
            try obtain ⟨a1, a2, a3⟩ := hS
            go_simp
            try with_reducible rfl
          simp only [Act.put, List.setIfInBounds_toArray, List.set_cons_zero, List.set_cons_succ]
          refine wpSoft_step ?_ rfl ?_ ?_
          rotate_left
          · intro w' hS
            try obtain ⟨a1, a2, a3⟩ := hS
            go_simp
            try with_reducible rfl
          simp only [Act.put, List.setIfInBounds_toArray, List.set_cons_zero, List.set_cons_succ]
          refine wpSoft_step ?_ rfl ?_ ?_
          rotate_left
          · intro w' hS
            try obtain ⟨a1, a2, a3⟩ := hS
            go_simp
            try with_reducible rfl
          simp only [Act.put, List.setIfInBounds_toArray, List.set_cons_zero, List.set_cons_succ]
          refine wpSoft_step ?_ rfl ?_ ?_
          rotate_left
          · intro w' hS
            try obtain ⟨a1, a2, a3⟩ := hS
            go_simp
            try with_reducible rfl
          simp only [Act.put, List.setIfInBounds_toArray, List.set_cons_zero, List.set_cons_succ]
          refine wpSoft_step ?_ rfl ?_ ?_
          rotate_left
          · intro w' hS
            try obtain ⟨a1, a2, a3⟩ := hS
            go_simp
            try with_reducible rfl
          simp only [Act.put, List.setIfInBounds_toArray, List.set_cons_zero, List.set_cons_succ]
          refine wpSoft_step ?_ rfl ?_ ?_
          rotate_left
          · intro w' hS
            try obtain ⟨a1, a2, a3⟩ := hS
            go_simp
            try with_reducible rfl
          simp only [Act.put, List.setIfInBounds_toArray, List.set_cons_zero, List.set_cons_succ]
          refine wpSoft_nil ?_
          refine wp_hide (fun K hK => ?_)
          go_simp
          refine (HP.out _ (HKP.out.keep (Chg.refl _ _).drew)).mono ?_
          rintro e w4 ⟨rfl, hk4, hc4⟩
          refine hK _ _ ?_
          clear hK K
          refine wpSoft_step ?_ rfl ?_ ?_
          rotate_left
          · intro w' hS
            try obtain ⟨a1⟩ := hS
            go_simp
            try with_reducible rfl
          simp only [Act.put, List.setIfInBounds_toArray, List.set_cons_zero, List.set_cons_succ]
          refine wpSoft_nil ?_
          have hc04 := hc.drew.trans hc4
          have HK4 := Lib.hid hk4
          clear hk4
        · go_wp2
          go_ret
          unfold RunPost
          show _ = Ending.returned (.bool (runL (contN n) acc (toL (h + 1) T).reverse).2) ∧ Kept n ob b2 b3 cb rb w4 (runL (contN n) acc (toL (h + 1) T).reverse).1 ∧ _
          rw [HR.out, runL_stop HB1.out]
          exact ⟨rfl, HK4.out, hc04⟩
        · obtain ⟨l4, hn4⟩ := (hF.chg hc04 (fun b o hb h => hFb b hb h)).node hT.root
          have n3 := hn4.c3s hk
          have nc := hn4.cc hk
          rw [List.length_map] at nc
          have kc : w4.cell? ⟨l4.cb, l4.co + k, none⟩ = some (.pointer (some ⟨rid c, 0, none⟩)) := hn4.kidc hk (j := k) (o := some (rid c)) (by simp [HCJ.out])
          clear n2 ik iv
          cases hb2 : (runL (contN n) (acc' ++ [x]) (toL h c).reverse).2
          all_goals
            have hkid := HIH.out c hcm w4 ⟨l4.cb, l4.co + k, none⟩ (acc' ++ [x]) hc04 kc HK4.out (by have := HPTL.out; simp only [List.length_append, List.length_cons, List.length_nil]; omega)
            unfold RunPost at hkid
            rw [hb2] at hkid
            have HKID := Lib.hid hkid
            have HB2 := Lib.hid hb2
            clear hkid hb2
            go_wp2_with fail
            refine HKID.out.mono ?_
            rintro e w5 ⟨rfl, hk5, hc5⟩
            have hc05 := hc04.trans hc5
            have HK5 := Lib.hid hk5
            clear hk5
          · go_wp2
            go_ret
            unfold RunPost
            show _ = Ending.returned (.bool (runL (contN n) acc (toL (h + 1) T).reverse).2) ∧ Kept n ob b2 b3 cb rb w5 (runL (contN n) acc (toL (h + 1) T).reverse).1 ∧ _
            rw [HR.out, runL_cons HB1.out, runL_app_false HB2.out, HB2.out]
            exact ⟨rfl, HK5.out, hc05⟩
          · have hrt2 := runL_true _ _ _ HB2.out
            have HRT2 := Lib.hid hrt2
            clear hrt2
            go_wp2
            go_roundw
            case rel => exact ⟨k, (k : Int) - 1, _, by go_num, rfl, by omega, HK5.out, by rw [HR.out, runL_cons HB1.out, runL_app_true HB2.out], by rw [HRT2.out]; have := HPTL.out; simp only [List.length_append, List.length_reverse, List.length_cons, List.length_nil]; omega, hc05⟩
            case measure => simp [intOf]

theorem rev_all : (h : Nat) → RevSpec h
  | 0 => rev_leaf
  | h + 1 => rev_branch (rev_all h)
end Go.Proofs.Ytpgaedmhgchgeaa.M

namespace Go.Proofs.Ytpgaedmhgchgeaa.M
set_option linter.unusedSimpArgs false
set_option linter.unusedVariables false
open Go.RowKit

theorem Fam.nodeB {α : Type} {p : Par α} {w : World} {F : Nat → Prop} {H : Nat → Option (NodeR α)} (h : Fam p w F H) {n : Nat} {r : NodeR α} (hn : H n = some r) : ∃ l, NodeAt p w n r l ∧ ∀ b, Blk n r l b → F b := by
  obtain ⟨l, h1, h2, _⟩ := h.work hn
  exact ⟨l, h1, h2⟩


def ScanSpec (h : Nat) : Prop := ∀ (k0 : Int) (mn mx : Nat) (w : World) (F : Nat → Prop) (H : Nat → Option (NodeR (Int × Int))) (T : BT (Int × Int) h) (t : Nat) (pa : Addr) (mt : Bool) (n : Int) (ob b2 b3 cb rb : Nat) (acc : List (Int × Int)),
  Fam (parM k0) w F H → IsT H h T → Sh mn mx h T → w.cell? pa = some (.pointer (some ⟨rid T, 0, none⟩)) → w.cell? ⟨t, 0, none⟩ = some (.int .u64 k0) → Kept n ob b2 b3 cb rb w acc → (∀ b, F b → ¬ TakeB ob rb b) → ¬ TakeB ob rb t → acc.length + (toL h T).length ≤ 1000000000000 →
  Calls Try.prog 63 #[.pointer (some ⟨t, 0, none⟩), .pointer (some pa), fnP cb, .bool mt] w (RunPost n ob b2 b3 cb rb acc (toL h T) w)

theorem drop_cons {α : Type} {l : List α} {k : Nat} {x : α} (h : l[k]? = some x) : l.drop k = x :: l.drop (k + 1) := by
  obtain ⟨h1, rfl⟩ := List.getElem?_eq_some_iff.1 h
  exact List.drop_eq_getElem_cons h1

theorem inter_drop {α : Type} {xs : List α} {ts : List (List α)} {k : Nat} {x : α} {t : List α} (hx : xs[k]? = some x) (ht : ts[k]? = some t) : inter (xs.drop k) (ts.drop k) = t ++ x :: inter (xs.drop (k + 1)) (ts.drop (k + 1)) := by
  rw [drop_cons hx, drop_cons ht, inter]


set_option maxRecDepth 100000 in
set_option maxHeartbeats 1000000 in
theorem scan_leaf : ScanSpec 0 := by
  intro k0 mn mx w F H T t pa mt n ob b2 b3 cb rb acc hF hT hs hpa ht0 hK hFb htb hlen
  obtain ⟨l0, hn0⟩ := hF.node hT.root
  have n0 := hn0.c0
  have hlen' : acc.length + T.2.length ≤ 1000000000000 := hlen
  have HK := Lib.hid hK
  clear hK hlen
  unfold fnP
  go_enter Try.func63, Try.ntmps63
  go_wp2_with fail
  refine (isoLoad_any t (rid T) k0 pa mt _ hpa n0 ht0).mono ?_
  rintro e w1 ⟨rfl, m1, hw1⟩
  have hc1 : Chg (fun _ _ => False) w w1 := by rw [hw1]; exact (Chg.refl _ _).drewN _
  clear hw1 n0 hpa ht0
  have n3 := hc1.cell (fun h => h) (hn0.c3n rfl)
  go_wp2_with (go_at_call 47; refine (leaf_any _ none _ ?_).mono ?_; (focus go_simp); rintro e w' ⟨rfl, rfl⟩)
  go_loopw [10] (fun i wr => ∃ (k : Nat) (acc' : List (Int × Int)), i = .int .i64 k ∧ k ≤ T.2.length ∧ Kept n ob b2 b3 cb rb wr acc' ∧ runL (contN n) acc T.2 = runL (contN n) acc' (T.2.drop k) ∧ acc'.length + (T.2.length - k) ≤ 1000000000000 ∧ Chg (fun b _ => TakeB ob rb b) w wr) (fun i _ => T.2.length - (intOf i).toNat)
  case atStart => exact ⟨0, acc, rfl, Nat.zero_le _, HK.out.keep hc1, rfl, by omega, hc1.mono (fun _ _ _ h => h.elim)⟩
  case round =>
    obtain ⟨k, acc', rfl, hk, hkp, hrun, hal, hc⟩ := hrel
    clear n3
    obtain ⟨l, hn⟩ := (hF.chg hc (fun b o hb h => hFb b hb h)).node hT.root
    have n2 : wr.cell? ⟨rid T, 2, none⟩ = some (.slice (some ⟨l.ib, l.io, none⟩) T.2.length l.ic) := hn.c2
    by_cases hlt : k < T.2.length
    rotate_left
    · have hnlt : ¬ (k : Int) < (T.2.length : Int) := by omega
      rw [List.drop_eq_nil_of_le (by omega)] at hrun
      have HR := Lib.hid hrun
      have HKP := Lib.hid hkp
      clear hrun hkp
      go_wp2
      go_ret
      unfold RunPost
      show _ = Ending.returned (.bool (runL (contN n) acc T.2).2) ∧ Kept n ob b2 b3 cb rb wr (runL (contN n) acc T.2).1 ∧ _
      rw [HR.out]
      exact ⟨rfl, HKP.out, hc⟩
    · obtain ⟨x, hx⟩ : ∃ x, T.2[k]? = some x := ⟨_, List.getElem?_eq_getElem (by omega)⟩
      have ik := hn.mkey (j := k) hx
      have iv := hn.mval (j := k) hx
      rw [drop_cons hx] at hrun
      have hp := fun w1 (h : Kept n ob b2 b3 cb rb w1 acc') => pairs1_any x h (by omega)
      have HR := Lib.hid hrun
      have HKP := Lib.hid hkp
      have i0 : (0 : Int) ≤ (k : Int) := by omega
      have i1 : (k : Int) < (T.2.length : Int) := by omega
      clear hrun hkp hx
      cases hb : contN n (acc' ++ [x])
      all_goals
        rw [hb] at hp
        have HP := Lib.hid hp
        have HB := Lib.hid hb
        clear hp hb
        go_wp2_with fail
        refine wp_region_call (fun w' => w'.cell? ⟨rid T, 2, none⟩ = some (.slice (some ⟨l.ib, l.io, none⟩) T.2.length l.ic) ∧ w'.cell? ⟨l.ib, l.io + k * 2 + 1, none⟩ = some (.int .i64 x.1) ∧ w'.cell? ⟨l.ib, l.io + k * 2, none⟩ = some (.int .i64 x.2))
          17 [0, 1, 2, 3, 4, 5, 6, 7, 8, 9, 10, 11, 12, 13, 14, 15, 16] _ [18] (by kernel_rfl) (by kernel_rfl) (fun _ _ _ _ _ h => h) rfl rfl rfl ⟨n2, ik, iv⟩ ?_
        simp only [pickOps, List.filterMap_cons, List.filterMap_nil, List.getElem?_cons_zero, List.getElem?_cons_succ]
        refine wpSoft_step ?_ rfl ?_ ?_
        rotate_left
        · intro w' hS
          try obtain ⟨a1, a2, a3⟩ := hS
          go_simp
          try with_reducible rfl
        simp only [Act.put, List.setIfInBounds_toArray, List.set_cons_zero, List.set_cons_succ]
        refine wpSoft_step ?_ rfl ?_ ?_
        rotate_left
        · intro w' hS
          try obtain ⟨a1, a2, a3⟩ := hS
          go_simp
          try with_reducible rfl
        simp only [Act.put, List.setIfInBounds_toArray, List.set_cons_zero, List.set_cons_succ]
        refine wpSoft_step ?_ rfl ?_ ?_
        rotate_left
        · intro w' hS
          try obtain ⟨a1, a2, a3⟩ := hS
          go_simp
          try with_reducible rfl
        simp only [Act.put, List.setIfInBounds_toArray, List.set_cons_zero, List.set_cons_succ]
        refine wpSoft_step ?_ rfl ?_ ?_
        rotate_left
        · intro w' hS
          try obtain ⟨a1, a2, a3⟩ := hS
          go_simp
          try with_reducible rfl
        simp only [Act.put, List.setIfInBounds_toArray, List.set_cons_zero, List.set_cons_succ]
        refine wpSoft_step ?_ rfl ?_ ?_
        rotate_left
        · intro w' hS
          try obtain ⟨a1, a2, a3⟩ := hS
          go_simp
          try with_reducible rfl
        simp only [Act.put, List.setIfInBounds_toArray, List.set_cons_zero, List.set_cons_succ]
        refine wpSoft_step ?_ rfl ?_ ?_
        rotate_left
        · intro w' hS
          try obtain ⟨a1, a2, a3⟩ := hS
          go_simp
          try with_reducible rfl
        simp only [Act.put, List.setIfInBounds_toArray, List.set_cons_zero, List.set_cons_succ]
        refine wpSoft_step ?_ rfl ?_ ?_
        rotate_left
        · intro w' hS
          try obtain ⟨a1, a2, a3⟩ := hS
          go_simp
          try with_reducible rfl
        simp only [Act.put, List.setIfInBounds_toArray, List.set_cons_zero, List.set_cons_succ]
        refine wpSoft_step ?_ rfl ?_ ?_
        rotate_left
        · intro w' hS
          try obtain ⟨a1, a2, a3⟩ := hS
          go_simp
          try with_reducible rfl
        simp only [Act.put, List.setIfInBounds_toArray, List.set_cons_zero, List.set_cons_succ]
        refine wpSoft_step ?_ rfl ?_ ?_
        rotate_left
        · intro w' hS
          try obtain ⟨a1, a2, a3⟩ := hS
          go_simp
          try with_reducible rfl
        simp only [Act.put, List.setIfInBounds_toArray, List.set_cons_zero, List.set_cons_succ]
        refine wpSoft_step ?_ rfl ?_ ?_
        rotate_left
        · intro w' hS
          try obtain ⟨a1, a2, a3⟩ := hS
          go_simp
          try with_reducible rfl
        simp only [Act.put, List.setIfInBounds_toArray, List.set_cons_zero, List.set_cons_succ]
        refine wpSoft_step ?_ rfl ?_ ?_
        rotate_left
        · intro w' hS
          try obtain ⟨a1, a2, a3⟩ := hS
          go_simp
          try with_reducible rfl
        simp only [Act.put, List.setIfInBounds_toArray, List.set_cons_zero, List.set_cons_succ]
        refine wpSoft_step ?_ rfl ?_ ?_
        rotate_left
        · intro w' hS
          try obtain ⟨a1, a2, a3⟩ := hS
          go_simp
          try with_reducible rfl
        simp only [Act.put, List.setIfInBounds_toArray, List.set_cons_zero, List.set_cons_succ]
        refine wpSoft_step ?_ rfl ?_ ?_
        rotate_left
        · intro w' hS
          try obtain ⟨a1, a2, a3⟩ := hS
          go_simp
          try with_reducible rfl
        simp only [Act.put, List.setIfInBounds_toArray, List.set_cons_zero, List.set_cons_succ]
        refine wpSoft_step ?_ rfl ?_ ?_
        rotate_left
        · intro w' hS
          try obtain ⟨a1, a2, a3⟩ := hS
          go_simp
          try with_reducible rfl
        simp only [Act.put, List.setIfInBounds_toArray, List.set_cons_zero, List.set_cons_succ]
        refine wpSoft_step ?_ rfl ?_ ?_
        rotate_left
        · intro w' hS
          try obtain ⟨a1, a2, a3⟩ := hS
          go_simp
          try with_reducible rfl
        simp only [Act.put, List.setIfInBounds_toArray, List.set_cons_zero, List.set_cons_succ]
        refine wpSoft_step ?_ rfl ?_ ?_
        rotate_left
        · intro w' hS
          try obtain ⟨a1, a2, a3⟩ := hS
          go_simp
          try with_reducible rfl
        simp only [Act.put, List.setIfInBounds_toArray, List.set_cons_zero, List.set_cons_succ]
        refine wpSoft_step ?_ rfl ?_ ?_
        rotate_left
        · intro w' hS
          try obtain ⟨a1, a2, a3⟩ := hS
          go_simp
          try with_reducible rfl
        simp only [Act.put, List.setIfInBounds_toArray, List.set_cons_zero, List.set_cons_succ]
        refine wpSoft_nil ?_
        refine wp_hide (fun K hK => ?_)
        go_simp
        refine (HP.out wr.drew (HKP.out.keep (Chg.refl (fun _ _ => False) wr).drew)).mono ?_
        rintro e w2 ⟨rfl, hk2, hcX⟩
        have hc2 : Chg (fun b _ => TakeB ob rb b) wr w2 := ((Chg.refl _ _).drew).trans hcX
        refine hK _ _ ?_
        clear hK K hcX
        refine wpSoft_step ?_ rfl ?_ ?_
        rotate_left
        · intro w' hS
          try obtain ⟨a1⟩ := hS
          go_simp
          try with_reducible rfl
        simp only [Act.put, List.setIfInBounds_toArray, List.set_cons_zero, List.set_cons_succ]
        refine wpSoft_nil ?_
        have hc02 := hc.trans hc2
      · go_wp2
        go_ret
        unfold RunPost
        show _ = Ending.returned (.bool (runL (contN n) acc T.2).2) ∧ Kept n ob b2 b3 cb rb w2 (runL (contN n) acc T.2).1 ∧ _
        rw [HR.out, runL_stop HB.out]
        exact ⟨rfl, hk2, hc02⟩
      · go_wp2
        go_roundw
        case rel => exact ⟨k + 1, acc' ++ [x], by go_num, by omega, hk2, by rw [HR.out, runL_cons HB.out], by simp; omega, hc02⟩
        case measure => simp [intOf]; omega

set_option maxRecDepth 100000 in
set_option maxHeartbeats 2000000 in
theorem scan_branch {h : Nat} (ih : ScanSpec h) : ScanSpec (h + 1) := by
  intro k0 mn mx w F H T t pa mt n ob b2 b3 cb rb acc hF hT hs hpa ht0 hK hFb htb hlen
  obtain ⟨l0, hn0, hblk⟩ := hF.nodeB hT.root
  have n0 := hn0.c0
  have hk : (recOf (h + 1) T).kids = some (T.2.2.map fun c => some (rid c)) := rfl
  have hrb : ¬ TakeB ob rb (rid T) := hFb _ (hblk _ (.inl rfl))
  have hkl : T.2.2.length = T.2.1.length + 1 := hs.2.1
  have hml : (T.2.2.map (toL h)).length = T.2.1.length + 1 := by simpa using hkl
  have hlen' : acc.length + (inter T.2.1 (T.2.2.map (toL h))).length ≤ 1000000000000 := hlen
  have hits : T.2.1.length ≤ 1000000000000 := by have := (its_sub hs).length_le; have h2 : (its T).length = T.2.1.length := rfl; omega
  have HKL := Lib.hid hkl
  have HML := Lib.hid hml
  have HLEN := Lib.hid hlen'
  have HK := Lib.hid hK
  have HT0 := Lib.hid ht0
  have hih := fun (c : BT (Int × Int) h) (hcm : c ∈ T.2.2) (w1 : World) (pa1 : Addr) (acc1 : List (Int × Int)) (hc1 : Chg (fun b _ => TakeB ob rb b) w w1) (hp1 : w1.cell? pa1 = some (.pointer (some ⟨rid c, 0, none⟩))) (h1 : Kept n ob b2 b3 cb rb w1 acc1) (h2 : acc1.length + (toL h c).length ≤ 1000000000000) =>
    ih k0 mn mx w1 F H c t pa1 mt n ob b2 b3 cb rb acc1 (hF.chg hc1 (fun b o hb h => hFb b hb h)) (hT.kid hcm) (hs.2.2 c hcm).2 hp1 (hc1.cell (a := ⟨t, 0, none⟩) (fun h => htb h) HT0.out) h1 hFb htb h2
  unfold fnP at hih
  have HIH := Lib.hid hih
  clear hK hlen hkl hml hlen' hih
  unfold fnP
  go_enter Try.func63, Try.ntmps63
  go_wp2_with fail
  refine (isoLoad_any t (rid T) k0 pa mt _ hpa n0 ht0).mono ?_
  rintro e w1 ⟨rfl, m1, hw1⟩
  have hc1 : Chg (fun _ _ => False) w w1 := by rw [hw1]; exact (Chg.refl _ _).drewN _
  clear hw1 n0 hpa ht0
  have n3 := hc1.cell (fun h => h) (hn0.c3s hk)
  go_wp2_with (go_at_call 47; refine (leaf_any _ (some ⟨l0.cc, 0, none⟩) _ ?_).mono ?_; (focus go_simp); rintro e w' ⟨rfl, rfl⟩)
  go_loopw [11] (fun i wr => ∃ (k : Nat) (acc' : List (Int × Int)), i = .int .i64 k ∧ k ≤ T.2.1.length ∧ Kept n ob b2 b3 cb rb wr acc' ∧ runL (contN n) acc (toL (h + 1) T) = runL (contN n) acc' (inter (T.2.1.drop k) ((T.2.2.map (toL h)).drop k)) ∧ acc'.length + (inter (T.2.1.drop k) ((T.2.2.map (toL h)).drop k)).length ≤ 1000000000000 ∧ Chg (fun b _ => TakeB ob rb b) w wr) (fun i _ => T.2.1.length - (intOf i).toNat)
  case atStart => exact ⟨0, acc, rfl, Nat.zero_le _, HK.out.keep hc1, rfl, HLEN.out, hc1.mono (fun _ _ _ h => h.elim)⟩
  case round =>
    obtain ⟨k, acc', rfl, hkk, hkp, hrun, hal, hc⟩ := hrel
    clear n3
    obtain ⟨c, hcj⟩ : ∃ c, T.2.2[k]? = some c := ⟨_, List.getElem?_eq_getElem (by have := HKL.out; omega)⟩
    have hcm : c ∈ T.2.2 := List.mem_of_getElem? hcj
    have hkc := (List.getElem?_eq_some_iff.1 hcj).1
    have htj : (T.2.2.map (toL h))[k]? = some (toL h c) := by simp [hcj]
    obtain ⟨l, hn⟩ := (hF.chg hc (fun b o hb h => hFb b hb h)).node hT.root
    have n2 : wr.cell? ⟨rid T, 2, none⟩ = some (.slice (some ⟨l.ib, l.io, none⟩) T.2.1.length l.ic) := hn.c2
    have n3 := hn.c3s hk
    have nc := hn.cc hk
    rw [List.length_map] at nc
    have kc : wr.cell? ⟨l.cb, l.co + k, none⟩ = some (.pointer (some ⟨rid c, 0, none⟩)) := hn.kidc hk (j := k) (o := some (rid c)) (by simp [hcj])
    have HKP := Lib.hid hkp
    have i0 : (0 : Int) ≤ (k : Int) := by omega
    have i2 : (k : Int) < (T.2.2.length : Int) := by omega
    by_cases hlt : k < T.2.1.length
    · obtain ⟨x, hx⟩ : ∃ x, T.2.1[k]? = some x := ⟨_, List.getElem?_eq_getElem (by omega)⟩
      rw [inter_drop hx htj] at hrun hal
      have HR := Lib.hid hrun
      have HX := Lib.hid hx
      have HAL := Lib.hid hal
      have i1 : (k : Int) < (T.2.1.length : Int) := by omega
      clear hrun hkp hx hcj htj hal
      cases hb2 : (runL (contN n) acc' (toL h c)).2
      all_goals
        have hkid := HIH.out c hcm wr ⟨l.cb, l.co + k, none⟩ acc' hc kc HKP.out (by have := HAL.out; simp only [List.length_append] at this; omega)
        unfold RunPost at hkid
        rw [hb2] at hkid
        have HKID := Lib.hid hkid
        have HB2 := Lib.hid hb2
        clear hkid hb2
        go_wp2_with fail
        refine HKID.out.mono ?_
        rintro e w5 ⟨rfl, hk5, hc5⟩
        have hc05 := hc.trans hc5
        have HK5 := Lib.hid hk5
        clear hk5 n2 n3 nc kc
      · go_wp2
        go_ret
        unfold RunPost
        show _ = Ending.returned (.bool (runL (contN n) acc (toL (h + 1) T)).2) ∧ Kept n ob b2 b3 cb rb w5 (runL (contN n) acc (toL (h + 1) T)).1 ∧ _
        rw [HR.out, runL_app_false HB2.out, HB2.out]
        exact ⟨rfl, HK5.out, hc05⟩
      · have hrt2 := runL_true _ _ _ HB2.out
        have HRT2 := Lib.hid hrt2
        have hk5 := HK5.out
        rw [hrt2] at hk5
        obtain ⟨l5, hn5⟩ := (hF.chg hc05 (fun b o hb h => hFb b hb h)).node hT.root
        have n2 : w5.cell? ⟨rid T, 2, none⟩ = some (.slice (some ⟨l5.ib, l5.io, none⟩) T.2.1.length l5.ic) := hn5.c2
        have ik := hn5.mkey (j := k) HX.out
        have iv := hn5.mval (j := k) HX.out
        have hp := fun w1 (h : Kept n ob b2 b3 cb rb w1 (acc' ++ toL _ c)) => pairs1_any x h (by have := HAL.out; simp only [List.length_append] at this ⊢; omega)
        have HK6 := Lib.hid hk5
        clear hrt2 hk5
        cases hb : contN n ((acc' ++ toL h c) ++ [x])
        all_goals
          rw [hb] at hp
          have HP := Lib.hid hp
          have HB1 := Lib.hid hb
          clear hp hb
          go_wp2_with fail
          refine wp_region_call (fun w' => w'.cell? ⟨rid T, 2, none⟩ = some (.slice (some ⟨l5.ib, l5.io, none⟩) T.2.1.length l5.ic) ∧ w'.cell? ⟨l5.ib, l5.io + k * 2 + 1, none⟩ = some (.int .i64 x.1) ∧ w'.cell? ⟨l5.ib, l5.io + k * 2, none⟩ = some (.int .i64 x.2))
            17 [0, 1, 2, 3, 4, 5, 6, 7, 8, 9, 10, 11, 12, 13, 14, 15, 16] _ [18] (by kernel_rfl) (by kernel_rfl) (fun _ _ _ _ _ h => h) rfl rfl rfl ⟨n2, ik, iv⟩ ?_
          simp only [pickOps, List.filterMap_cons, List.filterMap_nil, List.getElem?_cons_zero, List.getElem?_cons_succ]
          refine wpSoft_step ?_ rfl ?_ ?_
          rotate_left
          · intro w' hS
            try obtain ⟨a1, a2, a3⟩ := hS
            go_simp
            try with_reducible rfl
          simp only [Act.put, List.setIfInBounds_toArray, List.set_cons_zero, List.set_cons_succ]
          refine wpSoft_step ?_ rfl ?_ ?_
          rotate_left
          · intro w' hS
            try obtain ⟨a1, a2, a3⟩ := hS
            go_simp
            try with_reducible rfl
          simp only [Act.put, List.setIfInBounds_toArray, List.set_cons_zero, List.set_cons_succ]
          refine wpSoft_step ?_ rfl ?_ ?_
          rotate_left
          · intro w' hS
            try obtain ⟨a1, a2, a3⟩ := hS
            go_simp
            try with_reducible rfl
          simp only [Act.put, List.setIfInBounds_toArray, List.set_cons_zero, List.set_cons_succ]
          refine wpSoft_step ?_ rfl ?_ ?_
          rotate_left
          · intro w' hS
            try obtain ⟨a1, a2, a3⟩ := hS
            go_simp
            try with_reducible rfl
          simp only [Act.put, List.setIfInBounds_toArray, List.set_cons_zero, List.set_cons_succ]
          refine wpSoft_step ?_ rfl ?_ ?_
          rotate_left
          · intro w' hS
            try obtain ⟨a1, a2, a3⟩ := hS
            go_simp
            try with_reducible rfl
          simp only [Act.put, List.setIfInBounds_toArray, List.set_cons_zero, List.set_cons_succ]
          refine wpSoft_step ?_ rfl ?_ ?_
          rotate_left
          · intro w' hS
            try obtain ⟨a1, a2, a3⟩ := hS
            go_simp
            try with_reducible rfl
          simp only [Act.put, List.setIfInBounds_toArray, List.set_cons_zero, List.set_cons_succ]
          refine wpSoft_step ?_ rfl ?_ ?_
          rotate_left
          · intro w' hS
            try obtain ⟨a1, a2, a3⟩ := hS
            go_simp
            try with_reducible rfl
          simp only [Act.put, List.setIfInBounds_toArray, List.set_cons_zero, List.set_cons_succ]
          refine wpSoft_step ?_ rfl ?_ ?_
          rotate_left
          · intro w' hS
            try obtain ⟨a1, a2, a3⟩ := hS
            go_simp
            try with_reducible rfl
          simp only [Act.put, List.setIfInBounds_toArray, List.set_cons_zero, List.set_cons_succ]
          refine wpSoft_step ?_ rfl ?_ ?_
          rotate_left
          · intro w' hS
            try obtain ⟨a1, a2, a3⟩ := hS
            go_simp
            try with_reducible rfl
          simp only [Act.put, List.setIfInBounds_toArray, List.set_cons_zero, List.set_cons_succ]
          refine wpSoft_step ?_ rfl ?_ ?_
          rotate_left
          · intro w' hS
            try obtain ⟨a1, a2, a3⟩ := hS
            go_simp
            try with_reducible rfl
          simp only [Act.put, List.setIfInBounds_toArray, List.set_cons_zero, List.set_cons_succ]
          refine wpSoft_step ?_ rfl ?_ ?_
          rotate_left
          · intro w' hS
            try obtain ⟨a1, a2, a3⟩ := hS
            go_simp
            try with_reducible rfl
          simp only [Act.put, List.setIfInBounds_toArray, List.set_cons_zero, List.set_cons_succ]
          refine wpSoft_step ?_ rfl ?_ ?_
          rotate_left
          · intro w' hS
            try obtain ⟨a1, a2, a3⟩ := hS
            go_simp
            try with_reducible rfl
          simp only [Act.put, List.setIfInBounds_toArray, List.set_cons_zero, List.set_cons_succ]
          refine wpSoft_step ?_ rfl ?_ ?_
          rotate_left
          · intro w' hS
            try obtain ⟨a1, a2, a3⟩ := hS
            go_simp
            try with_reducible rfl
          simp only [Act.put, List.setIfInBounds_toArray, List.set_cons_zero, List.set_cons_succ]
          refine wpSoft_step ?_ rfl ?_ ?_
          rotate_left
          · intro w' hS
            try obtain ⟨a1, a2, a3⟩ := hS
            go_simp
            try with_reducible rfl
          simp only [Act.put, List.setIfInBounds_toArray, List.set_cons_zero, List.set_cons_succ]
          refine wpSoft_step ?_ rfl ?_ ?_
          rotate_left
          · intro w' hS
            try obtain ⟨a1, a2, a3⟩ := hS
            go_simp
            try with_reducible rfl
          simp only [Act.put, List.setIfInBounds_toArray, List.set_cons_zero, List.set_cons_succ]
          refine wpSoft_step ?_ rfl ?_ ?_
          rotate_left
          · intro w' hS
            try obtain ⟨a1, a2, a3⟩ := hS
            go_simp
            try with_reducible rfl
          simp only [Act.put, List.setIfInBounds_toArray, List.set_cons_zero, List.set_cons_succ]
          refine wpSoft_step ?_ rfl ?_ ?_
          rotate_left
          · intro w' hS
            try obtain ⟨a1, a2, a3⟩ := hS
            go_simp
            try with_reducible rfl
          simp only [Act.put, List.setIfInBounds_toArray, List.set_cons_zero, List.set_cons_succ]
          refine wpSoft_nil ?_
          refine wp_hide (fun K hK => ?_)
          go_simp
          refine (HP.out w5.drew (HK6.out.keep (Chg.refl (fun _ _ => False) w5).drew)).mono ?_
          rintro e w4 ⟨rfl, hk4, hcX⟩
          have hc4 : Chg (fun b _ => TakeB ob rb b) w5 w4 := ((Chg.refl _ _).drew).trans hcX
          refine hK _ _ ?_
          clear hK K hcX
          refine wpSoft_step ?_ rfl ?_ ?_
          rotate_left
          · intro w' hS
            try obtain ⟨a1⟩ := hS
            go_simp
            try with_reducible rfl
          simp only [Act.put, List.setIfInBounds_toArray, List.set_cons_zero, List.set_cons_succ]
          refine wpSoft_nil ?_
          have hc04 := hc05.trans hc4
          have HK4 := Lib.hid hk4
          clear hk4
        · go_wp2
          go_ret
          unfold RunPost
          show _ = Ending.returned (.bool (runL (contN n) acc (toL (h + 1) T)).2) ∧ Kept n ob b2 b3 cb rb w4 (runL (contN n) acc (toL (h + 1) T)).1 ∧ _
          rw [HR.out, runL_app_true HB2.out, HRT2.out, runL_stop HB1.out]
          exact ⟨rfl, HK4.out, hc04⟩
        · go_wp2
          go_roundw
          case rel => exact ⟨k + 1, _, by go_num, by omega, HK4.out, by rw [HR.out, runL_app_true HB2.out, HRT2.out, runL_cons HB1.out], by have := HAL.out; simp only [List.length_append, List.length_cons, List.length_nil] at this ⊢; omega, hc04⟩
          case measure => simp [intOf]; omega
    · obtain rfl : k = T.2.1.length := by omega
      have hdr : inter (T.2.1.drop T.2.1.length) ((T.2.2.map (toL h)).drop T.2.1.length) = toL h c := by
        rw [List.drop_length, drop_cons htj, List.drop_eq_nil_of_le (by have := HML.out; omega), inter_last]
      rw [hdr] at hrun hal
      have HR := Lib.hid hrun
      have hkid := HIH.out c hcm wr.drew ⟨l.cb, l.co + T.2.1.length, none⟩ acc' hc.drew kc (HKP.out.keep (Chg.refl _ _).drew) hal
      unfold RunPost at hkid
      have HKID := Lib.hid hkid
      have HCB := Lib.hid (show ¬ TakeB ob rb l.cc from hFb _ (by
        obtain ⟨lx, hx1, hx2⟩ := (hF.chg hc (fun b o hb h => hFb b hb h)).nodeB hT.root
        have e1 := hn.c3s hk
        rw [hx1.c3s hk] at e1
        have e2 : lx.cc = l.cc := by simpa using e1
        rw [← e2]
        exact hx2 _ (.inr (.inr ⟨by rw [hk]; simp, .inl rfl⟩))))
      have s1 : IntKind.i64.wrap (T.2.1.length : Int) = (T.2.1.length : Int) := IntWalk.i64_in _ (by omega)
      have s2 : ((T.2.2.length : Int) - 1) = (T.2.1.length : Int) := by have := HKL.out; omega
      have hnlt : ¬ ((T.2.1.length : Nat) : Int) < (T.2.1.length : Int) := by omega
      clear hrun hkp hcj htj hal hdr hkid kc
      cases hb2 : (runL (contN n) acc' (toL h c)).2
      all_goals
        rw [hb2] at HKID
        have HB2 := Lib.hid hb2
        clear hb2
        go_wp2_with fail
        refine wp_region_scr (fun w' => w'.cell? ⟨rid T, 3, none⟩ = some (.pointer (some ⟨l.cc, 0, none⟩)) ∧ w'.cell? ⟨l.cc, 0, none⟩ = some (.slice (some ⟨l.cb, l.co, none⟩) T.2.2.length l.ck)) (.soft 0 (.soft 1 (.soft 2 (.soft 3 (.soft 4 (.soft 5 (.soft 6 (.soft 7 (.soft 8 (.soft 9 (.soft 10 (.soft 11 (.soft 12 (.soft 13 (.soft 14 (.soft 15 (.soft 16 (.soft 17 (.hard 18 (.soft 19 .nil)))))))))))))))))))) (by kernel_rfl) (by kernel_rfl) (fun _ _ _ _ _ h => h) ⟨n3, nc⟩ ?_
        repeat
          first
          | (refine scr_soft (by rfl) ?_ ?_ ?_ ?_
             rotate_left
             · simp [Region.wanted, yielded]; done
             · intro w' hS
               try obtain ⟨a1, a2⟩ := hS
               go_simp
               try with_reducible rfl
             simp only [Act.put, List.setIfInBounds_toArray, List.set_cons_zero, List.set_cons_succ])
          | (refine scr_skip (by rfl) ?_ ?_
             · simp [Region.wanted, yielded]; done
             simp only [Act.put, List.setIfInBounds_toArray, List.set_cons_zero, List.set_cons_succ])
        refine scr_hard (by rfl) (by simp [Region.wanted, yielded]) (fun K hK => ?_)
        go_simp
        refine HKID.out.mono ?_
        rintro e w3 ⟨rfl, hk3, hc3⟩
        refine hK _ _ ⟨hc3.cell hrb n3, hc3.cell HCB.out nc⟩ ?_
        clear hK K
        repeat
          first
          | (refine scr_soft (by rfl) ?_ ?_ ?_ ?_
             rotate_left
             · simp [Region.wanted, yielded]; done
             · intro w' hS
               try obtain ⟨a1, a2⟩ := hS
               go_simp
               try with_reducible rfl
             simp only [Act.put, List.setIfInBounds_toArray, List.set_cons_zero, List.set_cons_succ])
          | (refine scr_skip (by rfl) ?_ ?_
             · simp [Region.wanted, yielded]; done
             simp only [Act.put, List.setIfInBounds_toArray, List.set_cons_zero, List.set_cons_succ])
        refine scr_nil ?_
        have hc03 := hc.drew.trans hc3
        have HK3 := Lib.hid hk3
        clear hk3 n3 nc
        go_wp2_with fail
        go_ret
        unfold RunPost
        show _ = Ending.returned (.bool (runL (contN n) acc (toL (h + 1) T)).2) ∧ Kept n ob b2 b3 cb rb w3 (runL (contN n) acc (toL (h + 1) T)).1 ∧ _
        rw [HR.out, HB2.out]
        exact ⟨rfl, HK3.out, hc03⟩

theorem scan_all : (h : Nat) → ScanSpec h
  | 0 => scan_leaf
  | h + 1 => scan_branch (scan_all h)
end Go.Proofs.Ytpgaedmhgchgeaa.M
