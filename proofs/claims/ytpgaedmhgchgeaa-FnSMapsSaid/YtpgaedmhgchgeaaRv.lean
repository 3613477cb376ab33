/- nodeReverse over trees. -/
import Derived.Test.YtpgaedmhgchgeaaA10
import Derived.Test.YtpgaedmhgchgeaaAg
namespace Go.Proofs.Ytpgaedmhgchgeaa
set_option linter.unusedSimpArgs false
set_option linter.unusedVariables false
open Go.RowKit

def RevSpec (h : Nat) : Prop := ∀ (mn mx : Nat) (w : World) (F : Nat → Prop) (H : Nat → Option (NodeR (Int × Int))) (T : BT (Int × Int) h) (t : Nat) (pa : Addr) (mt : Bool) (n : Int) (ob b2 b3 rb : Nat) (acc : List (Int × Int)),
  Fam (parM 0) w F H → IsT H h T → Sh mn mx h T → w.cell? pa = some (.pointer (some ⟨rid T, 0, none⟩)) → w.cell? ⟨t, 0, none⟩ = some (.int .u64 0) → KeptM n ob b2 b3 rb w acc → (∀ b, F b → ¬ TakeB ob rb b) → ¬ TakeB ob rb t → acc.length + (toL h T).length ≤ 1000000000000 →
  Calls Try.prog 70 #[.pointer (some ⟨t, 0, none⟩), .pointer (some pa), fnGD b2 b3, .bool mt] w (RunPostM n ob b2 b3 rb acc (toL h T).reverse w)


set_option maxRecDepth 100000 in
set_option maxHeartbeats 1000000 in
theorem rev_leaf : RevSpec 0 := by
  intro mn mx w F H T t pa mt n ob b2 b3 rb acc hF hT hs hpa ht0 hK hFb htb hlen
  obtain ⟨l0, hn0⟩ := hF.node hT.root
  have n0 := hn0.c0
  have hlen' : acc.length + T.2.length ≤ 1000000000000 := hlen
  have HK := Lib.hid hK
  clear hK hlen
  unfold fnGD
  go_enter Try.func70, Try.ntmps70
  go_wp2_with fail
  refine (isoLoad_any t (rid T) 0 pa mt _ hpa n0 ht0).mono ?_
  rintro e w1 ⟨rfl, m1, hw1⟩
  have hc1 : Chg (fun _ _ => False) w w1 := by rw [hw1]; exact (Chg.refl _ _).drewN _
  clear hw1 n0 hpa ht0
  have n3 := hc1.cell (fun h => h) (hn0.c3n rfl)
  have n2 : w1.cell? ⟨rid T, 2, none⟩ = some (.slice (some ⟨l0.ib, l0.io, none⟩) T.2.length l0.ic) := hc1.cell (fun h => h) hn0.c2
  go_wp2_with (go_at_call 58; refine (leaf_any _ none _ ?_).mono ?_; (focus go_simp); rintro e w' ⟨rfl, rfl⟩)
  go_loopw [10] (fun i wr => ∃ (k : Nat) (z : Int) (acc' : List (Int × Int)), i = .int .i64 z ∧ z = (k : Int) - 1 ∧ k ≤ T.2.length ∧ KeptM n ob b2 b3 rb wr acc' ∧ runL (contN n) acc T.2.reverse = runL (contN n) acc' (T.2.take k).reverse ∧ acc'.length + k = acc.length + T.2.length ∧ Chg (fun b _ => TakeB ob rb b) w wr) (fun i _ => (intOf i + 1).toNat)
  case atStart => exact ⟨T.2.length, _, acc, rfl, rfl, Nat.le_refl _, KeptM.keep HK.out hc1, by rw [List.take_length], rfl, hc1.mono (fun _ _ _ h => h.elim)⟩
  case round =>
    obtain ⟨k, z, acc', rfl, hz, hk, hkp, hrun, hal, hc⟩ := hrel
    clear n2 n3
    rcases k with _ | k
    · have hz0 : ¬ (0 : Int) ≤ z := by omega
      clear hz
      have HR := Lib.hid hrun
      have HKP := Lib.hid hkp
      clear hrun hkp
      go_wp2
      go_ret
      unfold RunPostM
      show _ = Ending.returned (.bool (runL (contN n) acc T.2.reverse).2) ∧ KeptM n ob b2 b3 rb wr (runL (contN n) acc T.2.reverse).1 ∧ _
      rw [HR.out]
      exact ⟨rfl, HKP.out, hc⟩
    · obtain rfl : z = (k : Int) := by omega
      obtain ⟨x, hx⟩ : ∃ x, T.2[k]? = some x := ⟨_, List.getElem?_eq_getElem (by omega)⟩
      obtain ⟨l, hn⟩ := (hF.chg hc (fun b o hb h => hFb b hb h)).node hT.root
      have n2 : wr.cell? ⟨rid T, 2, none⟩ = some (.slice (some ⟨l.ib, l.io, none⟩) T.2.length l.ic) := hn.c2
      have ik := hn.mkey (j := k) hx
      have htk : (T.2.take (k + 1)).reverse = x :: (T.2.take k).reverse := by rw [List.take_add_one, hx]; simp
      rw [htk] at hrun
      have hp := fun w1 (h : KeptM n ob b2 b3 rb w1 acc') => taker1MD_any x h (by omega)
      have HR := Lib.hid hrun
      have HKP := Lib.hid hkp
      have i0 : (0 : Int) ≤ (k : Int) := by omega
      have i1 : (k : Int) < (T.2.length : Int) := by omega
      clear hrun hkp htk hx hz
      cases hb : contN n (acc' ++ [x])
      all_goals
        rw [hb] at hp
        have HP := Lib.hid hp
        have HB := Lib.hid hb
        clear hp hb
        go_wp2_with fail
        refine wp_region_call (fun w' => w'.cell? ⟨rid T, 2, none⟩ = some (.slice (some ⟨l.ib, l.io, none⟩) T.2.length l.ic) ∧ w'.cell? ⟨l.ib, l.io + k, none⟩ = some (.int .i64 x.1) ∧ (partAt ⟨l.ib, l.io + k, none⟩ 0 0).run Try.prog w' = .ok ⟨l.ib, l.io + k, none⟩ w')
          17 [0, 1, 2, 3, 4, 5, 6, 7, 8, 9, 10, 11, 12, 13, 14, 15, 16] _ [18] (by kernel_rfl) (by kernel_rfl) (fun _ _ _ _ _ h => h) rfl rfl rfl ⟨n2, ik, (hn.chg (Chg.refl (fun _ _ => False) _).drew (fun _ _ _ h => h)).pz _⟩ ?_
        simp only [pickOps, List.filterMap_cons, List.filterMap_nil, List.getElem?_cons_zero, List.getElem?_cons_succ]
        refine wpSoft_step ?_ rfl ?_ ?_
        rotate_left
        · intro w' hS
          try obtain ⟨a1, a2, a3⟩ := hS
          go_simp
          try with_reducible rfl
        simp only [Act.put, List.setIfInBounds_toArray, List.set_cons_zero, List.set_cons_succ]
        refine wpSoft_step ?_ rfl ?_ ?_
        rotate_left
        · intro w' hS
          try obtain ⟨a1, a2, a3⟩ := hS
          go_simp
          try with_reducible rfl
        simp only [Act.put, List.setIfInBounds_toArray, List.set_cons_zero, List.set_cons_succ]
        refine wpSoft_step ?_ rfl ?_ ?_
        rotate_left
        · intro w' hS
          try obtain ⟨a1, a2, a3⟩ := hS
          go_simp
          try with_reducible rfl
        simp only [Act.put, List.setIfInBounds_toArray, List.set_cons_zero, List.set_cons_succ]
        refine wpSoft_step ?_ rfl ?_ ?_
        rotate_left
        · intro w' hS
          try obtain ⟨a1, a2, a3⟩ := hS
          go_simp
          try with_reducible rfl
        simp only [Act.put, List.setIfInBounds_toArray, List.set_cons_zero, List.set_cons_succ]
        refine wpSoft_step ?_ rfl ?_ ?_
        rotate_left
        · intro w' hS
          try obtain ⟨a1, a2, a3⟩ := hS
          go_simp
          try with_reducible rfl
        simp only [Act.put, List.setIfInBounds_toArray, List.set_cons_zero, List.set_cons_succ]
        refine wpSoft_step ?_ rfl ?_ ?_
        rotate_left
        · intro w' hS
          try obtain ⟨a1, a2, a3⟩ := hS
          go_simp
          try with_reducible rfl
        simp only [Act.put, List.setIfInBounds_toArray, List.set_cons_zero, List.set_cons_succ]
        refine wpSoft_step ?_ rfl ?_ ?_
        rotate_left
        · intro w' hS
          try obtain ⟨a1, a2, a3⟩ := hS
          go_simp
          try with_reducible rfl
        simp only [Act.put, List.setIfInBounds_toArray, List.set_cons_zero, List.set_cons_succ]
        refine wpSoft_step ?_ rfl ?_ ?_
        rotate_left
        · intro w' hS
          try obtain ⟨a1, a2, a3⟩ := hS
          go_simp
          try with_reducible rfl
        simp only [Act.put, List.setIfInBounds_toArray, List.set_cons_zero, List.set_cons_succ]
        refine wpSoft_step ?_ rfl ?_ ?_
        rotate_left
        · intro w' hS
          try obtain ⟨a1, a2, a3⟩ := hS
          go_simp
          try with_reducible rfl
        simp only [Act.put, List.setIfInBounds_toArray, List.set_cons_zero, List.set_cons_succ]
        refine wpSoft_step ?_ rfl ?_ ?_
        rotate_left
        · intro w' hS
          try obtain ⟨a1, a2, a3⟩ := hS
          go_simp
          try with_reducible rfl
        simp only [Act.put, List.setIfInBounds_toArray, List.set_cons_zero, List.set_cons_succ]
        refine wpSoft_step ?_ rfl ?_ ?_
        rotate_left
        · intro w' hS
          try obtain ⟨a1, a2, a3⟩ := hS
          go_simp
          try with_reducible rfl
        simp only [Act.put, List.setIfInBounds_toArray, List.set_cons_zero, List.set_cons_succ]
        refine wpSoft_step ?_ rfl ?_ ?_
        rotate_left
        · intro w' hS
          try obtain ⟨a1, a2, a3⟩ := hS
          go_simp
          try with_reducible rfl
        simp only [Act.put, List.setIfInBounds_toArray, List.set_cons_zero, List.set_cons_succ]
        refine wpSoft_step ?_ rfl ?_ ?_
        rotate_left
        · intro w' hS
          try obtain ⟨a1, a2, a3⟩ := hS
          go_simp
          try with_reducible rfl
        simp only [Act.put, List.setIfInBounds_toArray, List.set_cons_zero, List.set_cons_succ]
        refine wpSoft_step ?_ rfl ?_ ?_
        rotate_left
        · intro w' hS
          try obtain ⟨a1, a2, a3⟩ := hS
          go_simp
          try with_reducible rfl
        simp only [Act.put, List.setIfInBounds_toArray, List.set_cons_zero, List.set_cons_succ]
        refine wpSoft_step ?_ rfl ?_ ?_
        rotate_left
        · intro w' hS
          try obtain ⟨a1, a2, a3⟩ := hS
          go_simp
          try with_reducible rfl
        simp only [Act.put, List.setIfInBounds_toArray, List.set_cons_zero, List.set_cons_succ]
        refine wpSoft_step ?_ rfl ?_ ?_
        rotate_left
        · intro w' hS
          try obtain ⟨a1, a2, a3⟩ := hS
          go_simp
          try with_reducible rfl
        simp only [Act.put, List.setIfInBounds_toArray, List.set_cons_zero, List.set_cons_succ]
        refine wpSoft_step ?_ rfl ?_ ?_
        rotate_left
        · intro w' hS
          try obtain ⟨a1, a2, a3⟩ := hS
          go_simp
          try with_reducible rfl
        simp only [Act.put, List.setIfInBounds_toArray, List.set_cons_zero, List.set_cons_succ]
        refine wpSoft_nil ?_
        refine wp_hide (fun K hK => ?_)
        go_simp
        refine (HP.out _ (KeptM.keep HKP.out (Chg.refl _ _).drew)).mono ?_
        rintro e w2 ⟨rfl, hk2, hc2⟩
        refine hK _ _ ?_
        clear hK K
        refine wpSoft_step ?_ rfl ?_ ?_
        rotate_left
        · intro w' hS
          try obtain ⟨a1⟩ := hS
          go_simp
          try with_reducible rfl
        simp only [Act.put, List.setIfInBounds_toArray, List.set_cons_zero, List.set_cons_succ]
        refine wpSoft_nil ?_
        have hc02 := hc.drew.trans hc2
      · go_wp2
        go_ret
        unfold RunPostM
        show _ = Ending.returned (.bool (runL (contN n) acc T.2.reverse).2) ∧ KeptM n ob b2 b3 rb w2 (runL (contN n) acc T.2.reverse).1 ∧ _
        rw [HR.out, runL_stop HB.out]
        exact ⟨rfl, hk2, hc02⟩
      · go_wp2
        go_roundw
        case rel => exact ⟨k, (k : Int) - 1, acc' ++ [x], by go_num, rfl, by omega, hk2, by rw [HR.out, runL_cons HB.out], by simp; omega, hc02⟩
        case measure => simp [intOf]

theorem pre_rev {α : Type} {xs : List α} {ts : List (List α)} {i : Nat} {x : α} {t : List α} (hx : xs[i]? = some x) (ht : ts[i]? = some t) : (pre (xs.take (i + 1)) (ts.take (i + 1))).reverse = x :: (t.reverse ++ (pre (xs.take i) (ts.take i)).reverse) := by
  rw [pre_step hx ht]; simp

theorem pre_take_len {α : Type} {xs : List α} {ts : List (List α)} (h : ts.length = xs.length + 1) {i : Nat} {t : List α} (ht : ts[i]? = some t) (hi : i < xs.length) : (pre (xs.take (i + 1)) (ts.take (i + 1))).length = (pre (xs.take i) (ts.take i)).length + t.length + 1 := by
  rw [pre_step (List.getElem?_eq_getElem hi) ht]; simp; omega

set_option maxRecDepth 100000 in
set_option maxHeartbeats 2000000 in
theorem rev_branch {h : Nat} (ih : RevSpec h) : RevSpec (h + 1) := by
  intro mn mx w F H T t pa mt n ob b2 b3 rb acc hF hT hs hpa ht0 hK hFb htb hlen
  obtain ⟨l0, hn0⟩ := hF.node hT.root
  have n0 := hn0.c0
  have hk : (recOf (h + 1) T).kids = some (T.2.2.map fun c => some (rid c)) := rfl
  have hkl : T.2.2.length = T.2.1.length + 1 := hs.2.1
  have hml : (T.2.2.map (toL h)).length = T.2.1.length + 1 := by simpa using hkl
  have hlen' : acc.length + (inter T.2.1 (T.2.2.map (toL h))).length ≤ 1000000000000 := hlen
  have hits : T.2.1.length ≤ 1000000000000 := by have := (its_sub hs).length_le; have h2 : (its T).length = T.2.1.length := rfl; omega
  have HKL := Lib.hid hkl
  have HML := Lib.hid hml
  have HLEN := Lib.hid hlen'
  have HK := Lib.hid hK
  have HT0 := Lib.hid ht0
  have hih := fun (c : BT (Int × Int) h) (hcm : c ∈ T.2.2) (w1 : World) (pa1 : Addr) (acc1 : List (Int × Int)) (hc1 : Chg (fun b _ => TakeB ob rb b) w w1) (hp1 : w1.cell? pa1 = some (.pointer (some ⟨rid c, 0, none⟩))) (h1 : KeptM n ob b2 b3 rb w1 acc1) (h2 : acc1.length + (toL h c).length ≤ 1000000000000) =>
    ih mn mx w1 F H c t pa1 mt n ob b2 b3 rb acc1 (hF.chg hc1 (fun b o hb h => hFb b hb h)) (hT.kid hcm) (hs.2.2 c hcm).2 hp1 (hc1.cell (a := ⟨t, 0, none⟩) (fun h => htb h) HT0.out) h1 hFb htb h2
  unfold fnGD at hih
  have HIH := Lib.hid hih
  obtain ⟨cl, hcl⟩ : ∃ c, T.2.2[T.2.1.length]? = some c := ⟨_, List.getElem?_eq_getElem (by omega)⟩
  have hclm : cl ∈ T.2.2 := List.mem_of_getElem? hcl
  have htl : (T.2.2.map (toL h))[T.2.1.length]? = some (toL h cl) := by simp [hcl]
  have hend := inter_end hml htl
  have hall : (toL (h + 1) T).reverse = (toL h cl).reverse ++ (pre (T.2.1.take T.2.1.length) ((T.2.2.map (toL h)).take T.2.1.length)).reverse := by
    show (inter T.2.1 (T.2.2.map (toL h))).reverse = _
    rw [hend]; simp
  have hleq : (inter T.2.1 (T.2.2.map (toL h))).length = (pre (T.2.1.take T.2.1.length) ((T.2.2.map (toL h)).take T.2.1.length)).length + (toL h cl).length := by rw [hend]; simp
  have HALL := Lib.hid hall
  have HCL := Lib.hid hcl
  have HLEQ := Lib.hid hleq
  clear hK hlen hkl hml hlen' hih hall hcl htl hend hleq
  unfold fnGD
  go_enter Try.func70, Try.ntmps70
  go_wp2_with fail
  refine (isoLoad_any t (rid T) 0 pa mt _ hpa n0 ht0).mono ?_
  rintro e w1 ⟨rfl, m1, hw1⟩
  have hc1 : Chg (fun _ _ => False) w w1 := by rw [hw1]; exact (Chg.refl _ _).drewN _
  clear hw1 n0 hpa ht0
  have hn1 := hn0.chg hc1 (fun _ _ _ h => h)
  have n3 := hn1.c3s hk
  have nc := hn1.cc hk
  rw [List.length_map] at nc
  have kc : w1.cell? ⟨l0.cb, l0.co + T.2.1.length, none⟩ = some (.pointer (some ⟨rid cl, 0, none⟩)) := hn1.kidc hk (j := T.2.1.length) (o := some (rid cl)) (by simp [HCL.out])
  have s1 : IntKind.i64.wrap (T.2.1.length : Int) = (T.2.1.length : Int) := IntWalk.i64_in _ (by omega)
  have s2 : ((T.2.2.length : Int) - 1) = (T.2.1.length : Int) := by have := HKL.out; omega
  have k1 : ((T.2.1.length : Nat) : Int) < (T.2.2.length : Int) := by have := HKL.out; omega
  have HKC := Lib.hid kc
  clear kc
  go_wp2_with (go_at_call 58; refine (leaf_any _ (some ⟨l0.cc, 0, none⟩) _ ?_).mono ?_; (focus go_simp); rintro e w' ⟨rfl, rfl⟩)
  refine name_world (fun w2 => Chg (fun _ _ => False) w1 w2) (Chg.refl _ _) ?_
  rintro w2 hc2
  replace n3 := hc2.cell (fun h => h) n3
  replace nc := hc2.cell (fun h => h) nc
  have hcc := hc1.trans hc2
  cases hb : (runL (contN n) acc (toL h cl).reverse).2
  all_goals
    have hlast := HIH.out cl hclm w2.drew ⟨l0.cb, l0.co + T.2.1.length, none⟩ acc (hcc.drew.mono (fun _ _ _ h => h.elim)) (hc2.drew.cell (fun h => h) HKC.out) (HK.out.keep hcc.drew) (by have := HLEN.out; have := HLEQ.out; omega)
    unfold RunPostM at hlast
    rw [hb] at hlast
    have HLAST := Lib.hid hlast
    have HB := Lib.hid hb
    clear hlast hb
    refine wp_region_call (fun w' => w'.cell? ⟨rid T, 3, none⟩ = some (.pointer (some ⟨l0.cc, 0, none⟩)) ∧ w'.cell? ⟨l0.cc, 0, none⟩ = some (.slice (some ⟨l0.cb, l0.co, none⟩) T.2.2.length l0.ck))
      18 [0, 1, 2, 3, 4, 5, 6, 7, 8, 9, 10, 11, 12, 13, 14, 15, 16, 17] _ [19] (by kernel_rfl) (by kernel_rfl) (fun _ _ _ _ _ h => h) rfl rfl rfl ⟨n3, nc⟩ ?_
    simp only [pickOps, List.filterMap_cons, List.filterMap_nil, List.getElem?_cons_zero, List.getElem?_cons_succ]
    refine wpSoft_step ?_ rfl ?_ ?_
    rotate_left
    · intro w' hS
      try obtain ⟨a1, a2⟩ := hS
      go_simp
      try with_reducible rfl
    simp only [Act.put, List.setIfInBounds_toArray, List.set_cons_zero, List.set_cons_succ]
    refine wpSoft_step ?_ rfl ?_ ?_
    rotate_left
    · intro w' hS
      try obtain ⟨a1, a2⟩ := hS
      go_simp
      try with_reducible rfl
    simp only [Act.put, List.setIfInBounds_toArray, List.set_cons_zero, List.set_cons_succ]
    refine wpSoft_step ?_ rfl ?_ ?_
    rotate_left
    · intro w' hS
      try obtain ⟨a1, a2⟩ := hS
      go_simp
      try with_reducible rfl
    simp only [Act.put, List.setIfInBounds_toArray, List.set_cons_zero, List.set_cons_succ]
    refine wpSoft_step ?_ rfl ?_ ?_
    rotate_left
    · intro w' hS
      try obtain ⟨a1, a2⟩ := hS
      go_simp
      try with_reducible rfl
    simp only [Act.put, List.setIfInBounds_toArray, List.set_cons_zero, List.set_cons_succ]
    refine wpSoft_step ?_ rfl ?_ ?_
    rotate_left
    · intro w' hS
      try obtain ⟨a1, a2⟩ := hS
      go_simp
      try with_reducible rfl
    simp only [Act.put, List.setIfInBounds_toArray, List.set_cons_zero, List.set_cons_succ]
    refine wpSoft_step ?_ rfl ?_ ?_
    rotate_left
    · intro w' hS
      try obtain ⟨a1, a2⟩ := hS
      go_simp
      try with_reducible rfl
    simp only [Act.put, List.setIfInBounds_toArray, List.set_cons_zero, List.set_cons_succ]
    refine wpSoft_step ?_ rfl ?_ ?_
    rotate_left
    · intro w' hS
      try obtain ⟨a1, a2⟩ := hS
      go_simp
      try with_reducible rfl
    simp only [Act.put, List.setIfInBounds_toArray, List.set_cons_zero, List.set_cons_succ]
    refine wpSoft_step ?_ rfl ?_ ?_
    rotate_left
    · intro w' hS
      try obtain ⟨a1, a2⟩ := hS
      go_simp
      try with_reducible rfl
    simp only [Act.put, List.setIfInBounds_toArray, List.set_cons_zero, List.set_cons_succ]
    refine wpSoft_step ?_ rfl ?_ ?_
    rotate_left
    · intro w' hS
      try obtain ⟨a1, a2⟩ := hS
      go_simp
      try with_reducible rfl
    simp only [Act.put, List.setIfInBounds_toArray, List.set_cons_zero, List.set_cons_succ]
    refine wpSoft_step ?_ rfl ?_ ?_
    rotate_left
    · intro w' hS
      try obtain ⟨a1, a2⟩ := hS
      go_simp
      try with_reducible rfl
    simp only [Act.put, List.setIfInBounds_toArray, List.set_cons_zero, List.set_cons_succ]
    refine wpSoft_step ?_ rfl ?_ ?_
    rotate_left
    · intro w' hS
      try obtain ⟨a1, a2⟩ := hS
      go_simp
      try with_reducible rfl
    simp only [Act.put, List.setIfInBounds_toArray, List.set_cons_zero, List.set_cons_succ]
    refine wpSoft_step ?_ rfl ?_ ?_
    rotate_left
    · intro w' hS
      try obtain ⟨a1, a2⟩ := hS
      go_simp
      try with_reducible rfl
    simp only [Act.put, List.setIfInBounds_toArray, List.set_cons_zero, List.set_cons_succ]
    refine wpSoft_step ?_ rfl ?_ ?_
    rotate_left
    · intro w' hS
      try obtain ⟨a1, a2⟩ := hS
      go_simp
      try with_reducible rfl
    simp only [Act.put, List.setIfInBounds_toArray, List.set_cons_zero, List.set_cons_succ]
    refine wpSoft_step ?_ rfl ?_ ?_
    rotate_left
    · intro w' hS
      try obtain ⟨a1, a2⟩ := hS
      go_simp
      try with_reducible rfl
    simp only [Act.put, List.setIfInBounds_toArray, List.set_cons_zero, List.set_cons_succ]
    refine wpSoft_step ?_ rfl ?_ ?_
    rotate_left
    · intro w' hS
      try obtain ⟨a1, a2⟩ := hS
      go_simp
      try with_reducible rfl
    simp only [Act.put, List.setIfInBounds_toArray, List.set_cons_zero, List.set_cons_succ]
    refine wpSoft_step ?_ rfl ?_ ?_
    rotate_left
    · intro w' hS
      try obtain ⟨a1, a2⟩ := hS
      go_simp
      try with_reducible rfl
    simp only [Act.put, List.setIfInBounds_toArray, List.set_cons_zero, List.set_cons_succ]
    refine wpSoft_step ?_ rfl ?_ ?_
    rotate_left
    · intro w' hS
      try obtain ⟨a1, a2⟩ := hS
      go_simp
      try with_reducible rfl
    simp only [Act.put, List.setIfInBounds_toArray, List.set_cons_zero, List.set_cons_succ]
    refine wpSoft_step ?_ rfl ?_ ?_
    rotate_left
    · intro w' hS
      try obtain ⟨a1, a2⟩ := hS
      go_simp
      try with_reducible rfl
    simp only [Act.put, List.setIfInBounds_toArray, List.set_cons_zero, List.set_cons_succ]
    refine wpSoft_nil ?_
    refine wp_hide (fun K hK => ?_)
    go_simp
    refine HLAST.out.mono ?_
    rintro e w3 ⟨rfl, hk3, hc3⟩
    refine hK _ _ ?_
    clear hK K
    refine wpSoft_step ?_ rfl ?_ ?_
    rotate_left
    · intro w' hS
      try obtain ⟨a1⟩ := hS
      go_simp
      try with_reducible rfl
    simp only [Act.put, List.setIfInBounds_toArray, List.set_cons_zero, List.set_cons_succ]
    refine wpSoft_nil ?_
    have hc03 := (hcc.drew.mono (B := fun b _ => TakeB ob rb b) (fun _ _ _ h => h.elim)).trans hc3
    have HK3 := Lib.hid hk3
    clear hk3
  · go_wp2
    go_ret
    unfold RunPostM
    show _ = Ending.returned (.bool (runL (contN n) acc (toL (h + 1) T).reverse).2) ∧ KeptM n ob b2 b3 rb w3 (runL (contN n) acc (toL (h + 1) T).reverse).1 ∧ _
    rw [HALL.out, runL_app_false HB.out, HB.out]
    exact ⟨rfl, HK3.out, hc03⟩
  · have hn3 := (hF.chg hc03 (fun b o hb h => hFb b hb h)).node hT.root
    obtain ⟨l3, hn3⟩ := hn3
    have n2 : w3.cell? ⟨rid T, 2, none⟩ = some (.slice (some ⟨l3.ib, l3.io, none⟩) T.2.1.length l3.ic) := hn3.c2
    have hrt := runL_true _ _ _ HB.out
    have HRT := Lib.hid hrt
    clear n3 nc hrt
    go_wp2
    go_loopw [11] (fun i wr => ∃ (k : Nat) (z : Int) (acc' : List (Int × Int)), i = .int .i64 z ∧ z = (k : Int) - 1 ∧ k ≤ T.2.1.length ∧ KeptM n ob b2 b3 rb wr acc' ∧ runL (contN n) acc (toL (h + 1) T).reverse = runL (contN n) acc' (pre (T.2.1.take k) ((T.2.2.map (toL h)).take k)).reverse ∧ acc'.length + (pre (T.2.1.take k) ((T.2.2.map (toL h)).take k)).length ≤ 1000000000000 ∧ Chg (fun b _ => TakeB ob rb b) w wr) (fun i _ => (intOf i + 1).toNat)
    case atStart => exact ⟨T.2.1.length, _, _, rfl, rfl, Nat.le_refl _, HK3.out, by rw [HALL.out, runL_app_true HB.out], by rw [HRT.out]; have := HLEN.out; have := HLEQ.out; simp only [List.length_append, List.length_reverse]; omega, hc03⟩
    case round =>
      obtain ⟨k, z, acc', rfl, hz, hkk, hkp, hrun, hal, hc⟩ := hrel
      clear n2
      rcases k with _ | k
      · have hz0 : ¬ (0 : Int) ≤ z := by omega
        have HR := Lib.hid hrun
        have HKP := Lib.hid hkp
        clear hz hrun hkp
        go_wp2
        go_ret
        unfold RunPostM
        show _ = Ending.returned (.bool (runL (contN n) acc (toL (h + 1) T).reverse).2) ∧ KeptM n ob b2 b3 rb wr (runL (contN n) acc (toL (h + 1) T).reverse).1 ∧ _
        rw [HR.out]
        exact ⟨rfl, HKP.out, hc⟩
      · obtain rfl : z = (k : Int) := by omega
        obtain ⟨x, hx⟩ : ∃ x, T.2.1[k]? = some x := ⟨_, List.getElem?_eq_getElem (by omega)⟩
        obtain ⟨c, hcj⟩ : ∃ c, T.2.2[k]? = some c := ⟨_, List.getElem?_eq_getElem (by have := HKL.out; omega)⟩
        have hcm : c ∈ T.2.2 := List.mem_of_getElem? hcj
        have hkc := (List.getElem?_eq_some_iff.1 hcj).1
        have htj : (T.2.2.map (toL h))[k]? = some (toL h c) := by simp [hcj]
        obtain ⟨l, hn⟩ := (hF.chg hc (fun b o hb h => hFb b hb h)).node hT.root
        have n2 : wr.cell? ⟨rid T, 2, none⟩ = some (.slice (some ⟨l.ib, l.io, none⟩) T.2.1.length l.ic) := hn.c2
        have ik := hn.mkey (j := k) hx
        have hpr := pre_rev hx htj
        have hptl := pre_take_len HML.out htj (by omega)
        rw [hpr] at hrun
        have hp := fun w1 (h : KeptM n ob b2 b3 rb w1 acc') => taker1MD_any x h (by omega)
        have HR := Lib.hid hrun
        have HKP := Lib.hid hkp
        have HCJ := Lib.hid hcj
        have HPTL := Lib.hid hptl
        have i0 : (0 : Int) ≤ (k : Int) := by omega
        have i1 : (k : Int) < (T.2.1.length : Int) := by omega
        have i2 : (k : Int) < (T.2.2.length : Int) := by omega
        clear hrun hkp hpr hx hz htj hcj hptl
        cases hb : contN n (acc' ++ [x])
        all_goals
          rw [hb] at hp
          have HP := Lib.hid hp
          have HB1 := Lib.hid hb
          clear hp hb
          go_wp2_with fail
          refine wp_region_call (fun w' => w'.cell? ⟨rid T, 2, none⟩ = some (.slice (some ⟨l.ib, l.io, none⟩) T.2.1.length l.ic) ∧ w'.cell? ⟨l.ib, l.io + k, none⟩ = some (.int .i64 x.1) ∧ (partAt ⟨l.ib, l.io + k, none⟩ 0 0).run Try.prog w' = .ok ⟨l.ib, l.io + k, none⟩ w')
            17 [0, 1, 2, 3, 4, 5, 6, 7, 8, 9, 10, 11, 12, 13, 14, 15, 16] _ [18] (by kernel_rfl) (by kernel_rfl) (fun _ _ _ _ _ h => h) rfl rfl rfl ⟨n2, ik, (hn.chg (Chg.refl (fun _ _ => False) _).drew (fun _ _ _ h => h)).pz _⟩ ?_
          simp only [pickOps, List.filterMap_cons, List.filterMap_nil, List.getElem?_cons_zero, List.getElem?_cons_succ]
          refine wpSoft_step ?_ rfl ?_ ?_
          rotate_left
          · intro w' hS
            try obtain ⟨a1, a2, a3⟩ := hS
            go_simp
            try with_reducible rfl
          simp only [Act.put, List.setIfInBounds_toArray, List.set_cons_zero, List.set_cons_succ]
          refine wpSoft_step ?_ rfl ?_ ?_
          rotate_left
          · intro w' hS
            try obtain ⟨a1, a2, a3⟩ := hS
            go_simp
            try with_reducible rfl
          simp only [Act.put, List.setIfInBounds_toArray, List.set_cons_zero, List.set_cons_succ]
          refine wpSoft_step ?_ rfl ?_ ?_
          rotate_left
          · intro w' hS
            try obtain ⟨a1, a2, a3⟩ := hS
            go_simp
            try with_reducible rfl
          simp only [Act.put, List.setIfInBounds_toArray, List.set_cons_zero, List.set_cons_succ]
          refine wpSoft_step ?_ rfl ?_ ?_
          rotate_left
          · intro w' hS
            try obtain ⟨a1, a2, a3⟩ := hS
            go_simp
            try with_reducible rfl
          simp only [Act.put, List.setIfInBounds_toArray, List.set_cons_zero, List.set_cons_succ]
          refine wpSoft_step ?_ rfl ?_ ?_
          rotate_left
          · intro w' hS
            try obtain ⟨a1, a2, a3⟩ := hS
            go_simp
            try with_reducible rfl
          simp only [Act.put, List.setIfInBounds_toArray, List.set_cons_zero, List.set_cons_succ]
          refine wpSoft_step ?_ rfl ?_ ?_
          rotate_left
          · intro w' hS
            try obtain ⟨a1, a2, a3⟩ := hS
            go_simp
            try with_reducible rfl
          simp only [Act.put, List.setIfInBounds_toArray, List.set_cons_zero, List.set_cons_succ]
          refine wpSoft_step ?_ rfl ?_ ?_
          rotate_left
          · intro w' hS
            try obtain ⟨a1, a2, a3⟩ := hS
            go_simp
            try with_reducible rfl
          simp only [Act.put, List.setIfInBounds_toArray, List.set_cons_zero, List.set_cons_succ]
          refine wpSoft_step ?_ rfl ?_ ?_
          rotate_left
          · intro w' hS
            try obtain ⟨a1, a2, a3⟩ := hS
            go_simp
            try with_reducible rfl
          simp only [Act.put, List.setIfInBounds_toArray, List.set_cons_zero, List.set_cons_succ]
          refine wpSoft_step ?_ rfl ?_ ?_
          rotate_left
          · intro w' hS
            try obtain ⟨a1, a2, a3⟩ := hS
            go_simp
            try with_reducible rfl
          simp only [Act.put, List.setIfInBounds_toArray, List.set_cons_zero, List.set_cons_succ]
          refine wpSoft_step ?_ rfl ?_ ?_
          rotate_left
          · intro w' hS
            try obtain ⟨a1, a2, a3⟩ := hS
            go_simp
            try with_reducible rfl
          simp only [Act.put, List.setIfInBounds_toArray, List.set_cons_zero, List.set_cons_succ]
          refine wpSoft_step ?_ rfl ?_ ?_
          rotate_left
          · intro w' hS
            try obtain ⟨a1, a2, a3⟩ := hS
            go_simp
            try with_reducible rfl
          simp only [Act.put, List.setIfInBounds_toArray, List.set_cons_zero, List.set_cons_succ]
          refine wpSoft_step ?_ rfl ?_ ?_
          rotate_left
          · intro w' hS
            try obtain ⟨a1, a2, a3⟩ := hS
            go_simp
            try with_reducible rfl
          simp only [Act.put, List.setIfInBounds_toArray, List.set_cons_zero, List.set_cons_succ]
          refine wpSoft_step ?_ rfl ?_ ?_
          rotate_left
          · intro w' hS
            try obtain ⟨a1, a2, a3⟩ := hS
            go_simp
            try with_reducible rfl
          simp only [Act.put, List.setIfInBounds_toArray, List.set_cons_zero, List.set_cons_succ]
          refine wpSoft_step ?_ rfl ?_ ?_
          rotate_left
          · intro w' hS
            try obtain ⟨a1, a2, a3⟩ := hS
            go_simp
            try with_reducible rfl
          simp only [Act.put, List.setIfInBounds_toArray, List.set_cons_zero, List.set_cons_succ]
          refine wpSoft_step ?_ rfl ?_ ?_
          rotate_left
          · intro w' hS
            try obtain ⟨a1, a2, a3⟩ := hS
            go_simp
            try with_reducible rfl
          simp only [Act.put, List.setIfInBounds_toArray, List.set_cons_zero, List.set_cons_succ]
          refine wpSoft_step ?_ rfl ?_ ?_
          rotate_left
          · intro w' hS
            try obtain ⟨a1, a2, a3⟩ := hS
            go_simp
            try with_reducible rfl
          simp only [Act.put, List.setIfInBounds_toArray, List.set_cons_zero, List.set_cons_succ]
          refine wpSoft_step ?_ rfl ?_ ?_
          rotate_left
          · intro w' hS
            try obtain ⟨a1, a2, a3⟩ := hS
            go_simp
            try with_reducible rfl
          simp only [Act.put, List.setIfInBounds_toArray, List.set_cons_zero, List.set_cons_succ]
          refine wpSoft_nil ?_
          refine wp_hide (fun K hK => ?_)
          go_simp
          refine (HP.out _ (KeptM.keep HKP.out (Chg.refl _ _).drew)).mono ?_
          rintro e w4 ⟨rfl, hk4, hc4⟩
          refine hK _ _ ?_
          clear hK K
          refine wpSoft_step ?_ rfl ?_ ?_
          rotate_left
          · intro w' hS
            try obtain ⟨a1⟩ := hS
            go_simp
            try with_reducible rfl
          simp only [Act.put, List.setIfInBounds_toArray, List.set_cons_zero, List.set_cons_succ]
          refine wpSoft_nil ?_
          have hc04 := hc.drew.trans hc4
          have HK4 := Lib.hid hk4
          clear hk4
        · go_wp2
          go_ret
          unfold RunPostM
          show _ = Ending.returned (.bool (runL (contN n) acc (toL (h + 1) T).reverse).2) ∧ KeptM n ob b2 b3 rb w4 (runL (contN n) acc (toL (h + 1) T).reverse).1 ∧ _
          rw [HR.out, runL_stop HB1.out]
          exact ⟨rfl, HK4.out, hc04⟩
        · obtain ⟨l4, hn4⟩ := (hF.chg hc04 (fun b o hb h => hFb b hb h)).node hT.root
          have n3 := hn4.c3s hk
          have nc := hn4.cc hk
          rw [List.length_map] at nc
          have kc : w4.cell? ⟨l4.cb, l4.co + k, none⟩ = some (.pointer (some ⟨rid c, 0, none⟩)) := hn4.kidc hk (j := k) (o := some (rid c)) (by simp [HCJ.out])
          clear n2 ik
          cases hb2 : (runL (contN n) (acc' ++ [x]) (toL h c).reverse).2
          all_goals
            have hkid := HIH.out c hcm w4 ⟨l4.cb, l4.co + k, none⟩ (acc' ++ [x]) hc04 kc HK4.out (by have := HPTL.out; simp only [List.length_append, List.length_cons, List.length_nil]; omega)
            unfold RunPostM at hkid
            rw [hb2] at hkid
            have HKID := Lib.hid hkid
            have HB2 := Lib.hid hb2
            clear hkid hb2
            go_wp2_with fail
            refine HKID.out.mono ?_
            rintro e w5 ⟨rfl, hk5, hc5⟩
            have hc05 := hc04.trans hc5
            have HK5 := Lib.hid hk5
            clear hk5
          · go_wp2
            go_ret
            unfold RunPostM
            show _ = Ending.returned (.bool (runL (contN n) acc (toL (h + 1) T).reverse).2) ∧ KeptM n ob b2 b3 rb w5 (runL (contN n) acc (toL (h + 1) T).reverse).1 ∧ _
            rw [HR.out, runL_cons HB1.out, runL_app_false HB2.out, HB2.out]
            exact ⟨rfl, HK5.out, hc05⟩
          · have hrt2 := runL_true _ _ _ HB2.out
            have HRT2 := Lib.hid hrt2
            clear hrt2
            go_wp2
            go_roundw
            case rel => exact ⟨k, (k : Int) - 1, _, by go_num, rfl, by omega, HK5.out, by rw [HR.out, runL_cons HB1.out, runL_app_true HB2.out], by rw [HRT2.out]; have := HPTL.out; simp only [List.length_append, List.length_reverse, List.length_cons, List.length_nil]; omega, hc05⟩
            case measure => simp [intOf]

theorem rev_all : (h : Nat) → RevSpec h
  | 0 => rev_leaf
  | h + 1 => rev_branch (rev_all h)
end Go.Proofs.Ytpgaedmhgchgeaa
