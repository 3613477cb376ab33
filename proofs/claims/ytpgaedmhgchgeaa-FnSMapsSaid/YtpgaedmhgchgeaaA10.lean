/- The function that Set.Descend hands on. -/
import Derived.Test.YtpgaedmhgchgeaaA2
import Derived.Test.YtpgaedmhgchgeaaA3
import Derived.Test.YtpgaedmhgchgeaaA4
import Derived.Test.YtpgaedmhgchgeaaA8
namespace Go.Proofs.Ytpgaedmhgchgeaa
set_option linter.unusedSimpArgs false
set_option linter.unusedVariables false
open Go.RowKit

theorem Fam.nodeB {α : Type} {p : Par α} {w : World} {F : Nat → Prop} {H : Nat → Option (NodeR α)} (h : Fam p w F H) {n : Nat} {r : NodeR α} (hn : H n = some r) : ∃ l, NodeAt p w n r l ∧ ∀ b, Blk n r l b → F b := by
  obtain ⟨l, h1, h2, _⟩ := h.work hn
  exact ⟨l, h1, h2⟩

/-- What is kept of items: their numbers. -/
def KeptM (n : Int) (ob b2 b3 rb : Nat) (w : World) (acc : List (Int × Int)) : Prop := Kept n ob b2 b3 rb w (acc.map Prod.fst)

theorem KeptM.keep {n : Int} {ob b2 b3 rb : Nat} {w w' : World} {acc : List (Int × Int)} (h : KeptM n ob b2 b3 rb w acc) (c : Chg (fun _ _ => False) w w') : KeptM n ob b2 b3 rb w' acc := Kept.keep h c

theorem contN_map (n : Int) (l : List (Int × Int)) : contN n (l.map Prod.fst) = contN n l := by unfold contN; rw [List.length_map]

theorem taker1M_any {n : Int} {ob b2 b3 rb : Nat} {w : World} {acc : List (Int × Int)} (x : Int × Int) (h : KeptM n ob b2 b3 rb w acc) (hlen : acc.length ≤ 1000000000000) :
    Calls Try.prog 31 #[.int .i64 x.1, .agg #[], .pointer (some ⟨b2, 0, none⟩)] w fun e w' =>
      e = .returned (.bool (contN n (acc ++ [x]))) ∧ KeptM n ob b2 b3 rb w' (acc ++ [x]) ∧ Chg (fun b _ => TakeB ob rb b) w w' := by
  refine (taker1_any x.1 h (by rw [List.length_map]; exact hlen)).mono ?_
  rintro e w' ⟨rfl, h1, h2⟩
  have e1 : acc.map Prod.fst ++ [x.1] = (acc ++ [x]).map Prod.fst := by simp
  rw [e1] at h1 ⊢
  rw [contN_map]
  exact ⟨rfl, h1, h2⟩

def RunPostM (n : Int) (ob b2 b3 rb : Nat) (acc l : List (Int × Int)) (w : World) (e : Ending) (w' : World) : Prop :=
  e = .returned (.bool (runL (contN n) acc l).2) ∧ KeptM n ob b2 b3 rb w' (runL (contN n) acc l).1 ∧ Chg (fun b _ => TakeB ob rb b) w w'


def ScanSpec (h : Nat) : Prop := ∀ (k0 : Int) (mn mx : Nat) (w : World) (F : Nat → Prop) (H : Nat → Option (NodeR (Int × Int))) (T : BT (Int × Int) h) (t : Nat) (pa : Addr) (mt : Bool) (n : Int) (ob b2 b3 rb : Nat) (acc : List (Int × Int)),
  Fam (parM k0) w F H → IsT H h T → Sh mn mx h T → w.cell? pa = some (.pointer (some ⟨rid T, 0, none⟩)) → w.cell? ⟨t, 0, none⟩ = some (.int .u64 k0) → KeptM n ob b2 b3 rb w acc → (∀ b, F b → ¬ TakeB ob rb b) → ¬ TakeB ob rb t → acc.length + (toL h T).length ≤ 1000000000000 →
  Calls Try.prog 69 #[.pointer (some ⟨t, 0, none⟩), .pointer (some pa), fnG b2 b3, .bool mt] w (RunPostM n ob b2 b3 rb acc (toL h T) w)

theorem drop_cons {α : Type} {l : List α} {k : Nat} {x : α} (h : l[k]? = some x) : l.drop k = x :: l.drop (k + 1) := by
  obtain ⟨h1, rfl⟩ := List.getElem?_eq_some_iff.1 h
  exact List.drop_eq_getElem_cons h1

theorem inter_drop {α : Type} {xs : List α} {ts : List (List α)} {k : Nat} {x : α} {t : List α} (hx : xs[k]? = some x) (ht : ts[k]? = some t) : inter (xs.drop k) (ts.drop k) = t ++ x :: inter (xs.drop (k + 1)) (ts.drop (k + 1)) := by
  rw [drop_cons hx, drop_cons ht, inter]


set_option maxRecDepth 100000 in
set_option maxHeartbeats 1000000 in
theorem scan_leaf : ScanSpec 0 := by
  intro k0 mn mx w F H T t pa mt n ob b2 b3 rb acc hF hT hs hpa ht0 hK hFb htb hlen
  obtain ⟨l0, hn0⟩ := hF.node hT.root
  have n0 := hn0.c0
  have hlen' : acc.length + T.2.length ≤ 1000000000000 := hlen
  have HK := Lib.hid hK
  clear hK hlen
  unfold fnG
  go_enter Try.func69, Try.ntmps69
  go_wp2_with fail
  refine (isoLoad_any t (rid T) k0 pa mt _ hpa n0 ht0).mono ?_
  rintro e w1 ⟨rfl, m1, hw1⟩
  have hc1 : Chg (fun _ _ => False) w w1 := by rw [hw1]; exact (Chg.refl _ _).drewN _
  clear hw1 n0 hpa ht0
  have n3 := hc1.cell (fun h => h) (hn0.c3n rfl)
  go_wp2_with (go_at_call 58; refine (leaf_any _ none _ ?_).mono ?_; (focus go_simp); rintro e w' ⟨rfl, rfl⟩)
  go_loopw [10] (fun i wr => ∃ (k : Nat) (acc' : List (Int × Int)), i = .int .i64 k ∧ k ≤ T.2.length ∧ KeptM n ob b2 b3 rb wr acc' ∧ runL (contN n) acc T.2 = runL (contN n) acc' (T.2.drop k) ∧ acc'.length + (T.2.length - k) ≤ 1000000000000 ∧ Chg (fun b _ => TakeB ob rb b) w wr) (fun i _ => T.2.length - (intOf i).toNat)
  case atStart => exact ⟨0, acc, rfl, Nat.zero_le _, HK.out.keep hc1, rfl, by omega, hc1.mono (fun _ _ _ h => h.elim)⟩
  case round =>
    obtain ⟨k, acc', rfl, hk, hkp, hrun, hal, hc⟩ := hrel
    clear n3
    obtain ⟨l, hn⟩ := (hF.chg hc (fun b o hb h => hFb b hb h)).node hT.root
    have n2 : wr.cell? ⟨rid T, 2, none⟩ = some (.slice (some ⟨l.ib, l.io, none⟩) T.2.length l.ic) := hn.c2
    by_cases hlt : k < T.2.length
    rotate_left
    · have hnlt : ¬ (k : Int) < (T.2.length : Int) := by omega
      rw [List.drop_eq_nil_of_le (by omega)] at hrun
      have HR := Lib.hid hrun
      have HKP := Lib.hid hkp
      clear hrun hkp
      go_wp2
      go_ret
      unfold RunPostM
      show _ = Ending.returned (.bool (runL (contN n) acc T.2).2) ∧ KeptM n ob b2 b3 rb wr (runL (contN n) acc T.2).1 ∧ _
      rw [HR.out]
      exact ⟨rfl, HKP.out, hc⟩
    · obtain ⟨x, hx⟩ : ∃ x, T.2[k]? = some x := ⟨_, List.getElem?_eq_getElem (by omega)⟩
      have ik := hn.mkey (j := k) hx
      have iv := hn.mval (j := k) hx
      rw [drop_cons hx] at hrun
      have hp := fun w1 (h : KeptM n ob b2 b3 rb w1 acc') => taker1M_any x h (by omega)
      have HR := Lib.hid hrun
      have HKP := Lib.hid hkp
      have i0 : (0 : Int) ≤ (k : Int) := by omega
      have i1 : (k : Int) < (T.2.length : Int) := by omega
      clear hrun hkp hx
      cases hb : contN n (acc' ++ [x])
      all_goals
        rw [hb] at hp
        have HP := Lib.hid hp
        have HB := Lib.hid hb
        clear hp hb
        go_wp2_with fail
        refine wp_region_call (fun w' => w'.cell? ⟨rid T, 2, none⟩ = some (.slice (some ⟨l.ib, l.io, none⟩) T.2.length l.ic) ∧ w'.cell? ⟨l.ib, l.io + k, none⟩ = some (.int .i64 x.1) ∧ (partAt ⟨l.ib, l.io + k, none⟩ 0 0).run Try.prog w' = .ok ⟨l.ib, l.io + k, none⟩ w')
          17 [0, 1, 2, 3, 4, 5, 6, 7, 8, 9, 10, 11, 12, 13, 14, 15, 16] _ [18] (by kernel_rfl) (by kernel_rfl) (fun _ _ _ _ _ h => h) rfl rfl rfl ⟨n2, ik, (hn.chg (Chg.refl (fun _ _ => False) wr).drew (fun _ _ _ h => h)).pz _⟩ ?_
        simp only [pickOps, List.filterMap_cons, List.filterMap_nil, List.getElem?_cons_zero, List.getElem?_cons_succ]
        refine wpSoft_step ?_ rfl ?_ ?_
        rotate_left
        · intro w' hS
          try obtain ⟨a1, a2, a3⟩ := hS
          go_simp
          try with_reducible rfl
        simp only [Act.put, List.setIfInBounds_toArray, List.set_cons_zero, List.set_cons_succ]
        refine wpSoft_step ?_ rfl ?_ ?_
        rotate_left
        · intro w' hS
          try obtain ⟨a1, a2, a3⟩ := hS
          go_simp
          try with_reducible rfl
        simp only [Act.put, List.setIfInBounds_toArray, List.set_cons_zero, List.set_cons_succ]
        refine wpSoft_step ?_ rfl ?_ ?_
        rotate_left
        · intro w' hS
          try obtain ⟨a1, a2, a3⟩ := hS
          go_simp
          try with_reducible rfl
        simp only [Act.put, List.setIfInBounds_toArray, List.set_cons_zero, List.set_cons_succ]
        refine wpSoft_step ?_ rfl ?_ ?_
        rotate_left
        · intro w' hS
          try obtain ⟨a1, a2, a3⟩ := hS
          go_simp
          try with_reducible rfl
        simp only [Act.put, List.setIfInBounds_toArray, List.set_cons_zero, List.set_cons_succ]
        refine wpSoft_step ?_ rfl ?_ ?_
        rotate_left
        · intro w' hS
          try obtain ⟨a1, a2, a3⟩ := hS
          go_simp
          try with_reducible rfl
        simp only [Act.put, List.setIfInBounds_toArray, List.set_cons_zero, List.set_cons_succ]
        refine wpSoft_step ?_ rfl ?_ ?_
        rotate_left
        · intro w' hS
          try obtain ⟨a1, a2, a3⟩ := hS
          go_simp
          try with_reducible rfl
        simp only [Act.put, List.setIfInBounds_toArray, List.set_cons_zero, List.set_cons_succ]
        refine wpSoft_step ?_ rfl ?_ ?_
        rotate_left
        · intro w' hS
          try obtain ⟨a1, a2, a3⟩ := hS
          go_simp
          try with_reducible rfl
        simp only [Act.put, List.setIfInBounds_toArray, List.set_cons_zero, List.set_cons_succ]
        refine wpSoft_step ?_ rfl ?_ ?_
        rotate_left
        · intro w' hS
          try obtain ⟨a1, a2, a3⟩ := hS
          go_simp
          try with_reducible rfl
        simp only [Act.put, List.setIfInBounds_toArray, List.set_cons_zero, List.set_cons_succ]
        refine wpSoft_step ?_ rfl ?_ ?_
        rotate_left
        · intro w' hS
          try obtain ⟨a1, a2, a3⟩ := hS
          go_simp
          try with_reducible rfl
        simp only [Act.put, List.setIfInBounds_toArray, List.set_cons_zero, List.set_cons_succ]
        refine wpSoft_step ?_ rfl ?_ ?_
        rotate_left
        · intro w' hS
          try obtain ⟨a1, a2, a3⟩ := hS
          go_simp
          try with_reducible rfl
        simp only [Act.put, List.setIfInBounds_toArray, List.set_cons_zero, List.set_cons_succ]
        refine wpSoft_step ?_ rfl ?_ ?_
        rotate_left
        · intro w' hS
          try obtain ⟨a1, a2, a3⟩ := hS
          go_simp
          try with_reducible rfl
        simp only [Act.put, List.setIfInBounds_toArray, List.set_cons_zero, List.set_cons_succ]
        refine wpSoft_step ?_ rfl ?_ ?_
        rotate_left
        · intro w' hS
          try obtain ⟨a1, a2, a3⟩ := hS
          go_simp
          try with_reducible rfl
        simp only [Act.put, List.setIfInBounds_toArray, List.set_cons_zero, List.set_cons_succ]
        refine wpSoft_step ?_ rfl ?_ ?_
        rotate_left
        · intro w' hS
          try obtain ⟨a1, a2, a3⟩ := hS
          go_simp
          try with_reducible rfl
        simp only [Act.put, List.setIfInBounds_toArray, List.set_cons_zero, List.set_cons_succ]
        refine wpSoft_step ?_ rfl ?_ ?_
        rotate_left
        · intro w' hS
          try obtain ⟨a1, a2, a3⟩ := hS
          go_simp
          try with_reducible rfl
        simp only [Act.put, List.setIfInBounds_toArray, List.set_cons_zero, List.set_cons_succ]
        refine wpSoft_step ?_ rfl ?_ ?_
        rotate_left
        · intro w' hS
          try obtain ⟨a1, a2, a3⟩ := hS
          go_simp
          try with_reducible rfl
        simp only [Act.put, List.setIfInBounds_toArray, List.set_cons_zero, List.set_cons_succ]
        refine wpSoft_step ?_ rfl ?_ ?_
        rotate_left
        · intro w' hS
          try obtain ⟨a1, a2, a3⟩ := hS
          go_simp
          try with_reducible rfl
        simp only [Act.put, List.setIfInBounds_toArray, List.set_cons_zero, List.set_cons_succ]
        refine wpSoft_step ?_ rfl ?_ ?_
        rotate_left
        · intro w' hS
          try obtain ⟨a1, a2, a3⟩ := hS
          go_simp
          try with_reducible rfl
        simp only [Act.put, List.setIfInBounds_toArray, List.set_cons_zero, List.set_cons_succ]
        refine wpSoft_nil ?_
        refine wp_hide (fun K hK => ?_)
        go_simp
        refine (HP.out wr.drew (HKP.out.keep (Chg.refl (fun _ _ => False) wr).drew)).mono ?_
        rintro e w2 ⟨rfl, hk2, hcX⟩
        have hc2 : Chg (fun b _ => TakeB ob rb b) wr w2 := ((Chg.refl _ _).drew).trans hcX
        refine hK _ _ ?_
        clear hK K hcX
        refine wpSoft_step ?_ rfl ?_ ?_
        rotate_left
        · intro w' hS
          try obtain ⟨a1⟩ := hS
          go_simp
          try with_reducible rfl
        simp only [Act.put, List.setIfInBounds_toArray, List.set_cons_zero, List.set_cons_succ]
        refine wpSoft_nil ?_
        have hc02 := hc.trans hc2
      · go_wp2
        go_ret
        unfold RunPostM
        show _ = Ending.returned (.bool (runL (contN n) acc T.2).2) ∧ KeptM n ob b2 b3 rb w2 (runL (contN n) acc T.2).1 ∧ _
        rw [HR.out, runL_stop HB.out]
        exact ⟨rfl, hk2, hc02⟩
      · go_wp2
        go_roundw
        case rel => exact ⟨k + 1, acc' ++ [x], by go_num, by omega, hk2, by rw [HR.out, runL_cons HB.out], by simp; omega, hc02⟩
        case measure => simp [intOf]; omega

set_option maxRecDepth 100000 in
set_option maxHeartbeats 2000000 in
theorem scan_branch {h : Nat} (ih : ScanSpec h) : ScanSpec (h + 1) := by
  intro k0 mn mx w F H T t pa mt n ob b2 b3 rb acc hF hT hs hpa ht0 hK hFb htb hlen
  obtain ⟨l0, hn0, hblk⟩ := hF.nodeB hT.root
  have n0 := hn0.c0
  have hk : (recOf (h + 1) T).kids = some (T.2.2.map fun c => some (rid c)) := rfl
  have hrb : ¬ TakeB ob rb (rid T) := hFb _ (hblk _ (.inl rfl))
  have hkl : T.2.2.length = T.2.1.length + 1 := hs.2.1
  have hml : (T.2.2.map (toL h)).length = T.2.1.length + 1 := by simpa using hkl
  have hlen' : acc.length + (inter T.2.1 (T.2.2.map (toL h))).length ≤ 1000000000000 := hlen
  have hits : T.2.1.length ≤ 1000000000000 := by have := (its_sub hs).length_le; have h2 : (its T).length = T.2.1.length := rfl; omega
  have HKL := Lib.hid hkl
  have HML := Lib.hid hml
  have HLEN := Lib.hid hlen'
  have HK := Lib.hid hK
  have HT0 := Lib.hid ht0
  have hih := fun (c : BT (Int × Int) h) (hcm : c ∈ T.2.2) (w1 : World) (pa1 : Addr) (acc1 : List (Int × Int)) (hc1 : Chg (fun b _ => TakeB ob rb b) w w1) (hp1 : w1.cell? pa1 = some (.pointer (some ⟨rid c, 0, none⟩))) (h1 : KeptM n ob b2 b3 rb w1 acc1) (h2 : acc1.length + (toL h c).length ≤ 1000000000000) =>
    ih k0 mn mx w1 F H c t pa1 mt n ob b2 b3 rb acc1 (hF.chg hc1 (fun b o hb h => hFb b hb h)) (hT.kid hcm) (hs.2.2 c hcm).2 hp1 (hc1.cell (a := ⟨t, 0, none⟩) (fun h => htb h) HT0.out) h1 hFb htb h2
  unfold fnG at hih
  have HIH := Lib.hid hih
  clear hK hlen hkl hml hlen' hih
  unfold fnG
  go_enter Try.func69, Try.ntmps69
  go_wp2_with fail
  refine (isoLoad_any t (rid T) k0 pa mt _ hpa n0 ht0).mono ?_
  rintro e w1 ⟨rfl, m1, hw1⟩
  have hc1 : Chg (fun _ _ => False) w w1 := by rw [hw1]; exact (Chg.refl _ _).drewN _
  clear hw1 n0 hpa ht0
  have n3 := hc1.cell (fun h => h) (hn0.c3s hk)
  go_wp2_with (go_at_call 58; refine (leaf_any _ (some ⟨l0.cc, 0, none⟩) _ ?_).mono ?_; (focus go_simp); rintro e w' ⟨rfl, rfl⟩)
  go_loopw [11] (fun i wr => ∃ (k : Nat) (acc' : List (Int × Int)), i = .int .i64 k ∧ k ≤ T.2.1.length ∧ KeptM n ob b2 b3 rb wr acc' ∧ runL (contN n) acc (toL (h + 1) T) = runL (contN n) acc' (inter (T.2.1.drop k) ((T.2.2.map (toL h)).drop k)) ∧ acc'.length + (inter (T.2.1.drop k) ((T.2.2.map (toL h)).drop k)).length ≤ 1000000000000 ∧ Chg (fun b _ => TakeB ob rb b) w wr) (fun i _ => T.2.1.length - (intOf i).toNat)
  case atStart => exact ⟨0, acc, rfl, Nat.zero_le _, HK.out.keep hc1, rfl, HLEN.out, hc1.mono (fun _ _ _ h => h.elim)⟩
  case round =>
    obtain ⟨k, acc', rfl, hkk, hkp, hrun, hal, hc⟩ := hrel
    clear n3
    obtain ⟨c, hcj⟩ : ∃ c, T.2.2[k]? = some c := ⟨_, List.getElem?_eq_getElem (by have := HKL.out; omega)⟩
    have hcm : c ∈ T.2.2 := List.mem_of_getElem? hcj
    have hkc := (List.getElem?_eq_some_iff.1 hcj).1
    have htj : (T.2.2.map (toL h))[k]? = some (toL h c) := by simp [hcj]
    obtain ⟨l, hn⟩ := (hF.chg hc (fun b o hb h => hFb b hb h)).node hT.root
    have n2 : wr.cell? ⟨rid T, 2, none⟩ = some (.slice (some ⟨l.ib, l.io, none⟩) T.2.1.length l.ic) := hn.c2
    have n3 := hn.c3s hk
    have nc := hn.cc hk
    rw [List.length_map] at nc
    have kc : wr.cell? ⟨l.cb, l.co + k, none⟩ = some (.pointer (some ⟨rid c, 0, none⟩)) := hn.kidc hk (j := k) (o := some (rid c)) (by simp [hcj])
    have HKP := Lib.hid hkp
    have i0 : (0 : Int) ≤ (k : Int) := by omega
    have i2 : (k : Int) < (T.2.2.length : Int) := by omega
    by_cases hlt : k < T.2.1.length
    · obtain ⟨x, hx⟩ : ∃ x, T.2.1[k]? = some x := ⟨_, List.getElem?_eq_getElem (by omega)⟩
      rw [inter_drop hx htj] at hrun hal
      have HR := Lib.hid hrun
      have HX := Lib.hid hx
      have HAL := Lib.hid hal
      have i1 : (k : Int) < (T.2.1.length : Int) := by omega
      clear hrun hkp hx hcj htj hal
      cases hb2 : (runL (contN n) acc' (toL h c)).2
      all_goals
        have hkid := HIH.out c hcm wr ⟨l.cb, l.co + k, none⟩ acc' hc kc HKP.out (by have := HAL.out; simp only [List.length_append] at this; omega)
        unfold RunPostM at hkid
        rw [hb2] at hkid
        have HKID := Lib.hid hkid
        have HB2 := Lib.hid hb2
        clear hkid hb2
        go_wp2_with fail
        refine HKID.out.mono ?_
        rintro e w5 ⟨rfl, hk5, hc5⟩
        have hc05 := hc.trans hc5
        have HK5 := Lib.hid hk5
        clear hk5 n2 n3 nc kc
      · go_wp2
        go_ret
        unfold RunPostM
        show _ = Ending.returned (.bool (runL (contN n) acc (toL (h + 1) T)).2) ∧ KeptM n ob b2 b3 rb w5 (runL (contN n) acc (toL (h + 1) T)).1 ∧ _
        rw [HR.out, runL_app_false HB2.out, HB2.out]
        exact ⟨rfl, HK5.out, hc05⟩
      · have hrt2 := runL_true _ _ _ HB2.out
        have HRT2 := Lib.hid hrt2
        have hk5 := HK5.out
        rw [hrt2] at hk5
        obtain ⟨l5, hn5⟩ := (hF.chg hc05 (fun b o hb h => hFb b hb h)).node hT.root
        have n2 : w5.cell? ⟨rid T, 2, none⟩ = some (.slice (some ⟨l5.ib, l5.io, none⟩) T.2.1.length l5.ic) := hn5.c2
        have ik := hn5.mkey (j := k) HX.out
        have iv := hn5.mval (j := k) HX.out
        have hp := fun w1 (h : KeptM n ob b2 b3 rb w1 (acc' ++ toL _ c)) => taker1M_any x h (by have := HAL.out; simp only [List.length_append] at this ⊢; omega)
        have HK6 := Lib.hid hk5
        clear hrt2 hk5
        cases hb : contN n ((acc' ++ toL h c) ++ [x])
        all_goals
          rw [hb] at hp
          have HP := Lib.hid hp
          have HB1 := Lib.hid hb
          clear hp hb
          go_wp2_with fail
          refine wp_region_call (fun w' => w'.cell? ⟨rid T, 2, none⟩ = some (.slice (some ⟨l5.ib, l5.io, none⟩) T.2.1.length l5.ic) ∧ w'.cell? ⟨l5.ib, l5.io + k, none⟩ = some (.int .i64 x.1) ∧ (partAt ⟨l5.ib, l5.io + k, none⟩ 0 0).run Try.prog w' = .ok ⟨l5.ib, l5.io + k, none⟩ w')
            17 [0, 1, 2, 3, 4, 5, 6, 7, 8, 9, 10, 11, 12, 13, 14, 15, 16] _ [18] (by kernel_rfl) (by kernel_rfl) (fun _ _ _ _ _ h => h) rfl rfl rfl ⟨n2, ik, (hn5.chg (Chg.refl (fun _ _ => False) w5).drew (fun _ _ _ h => h)).pz _⟩ ?_
          simp only [pickOps, List.filterMap_cons, List.filterMap_nil, List.getElem?_cons_zero, List.getElem?_cons_succ]
          refine wpSoft_step ?_ rfl ?_ ?_
          rotate_left
          · intro w' hS
            try obtain ⟨a1, a2, a3⟩ := hS
            go_simp
            try with_reducible rfl
          simp only [Act.put, List.setIfInBounds_toArray, List.set_cons_zero, List.set_cons_succ]
          refine wpSoft_step ?_ rfl ?_ ?_
          rotate_left
          · intro w' hS
            try obtain ⟨a1, a2, a3⟩ := hS
            go_simp
            try with_reducible rfl
          simp only [Act.put, List.setIfInBounds_toArray, List.set_cons_zero, List.set_cons_succ]
          refine wpSoft_step ?_ rfl ?_ ?_
          rotate_left
          · intro w' hS
            try obtain ⟨a1, a2, a3⟩ := hS
            go_simp
            try with_reducible rfl
          simp only [Act.put, List.setIfInBounds_toArray, List.set_cons_zero, List.set_cons_succ]
          refine wpSoft_step ?_ rfl ?_ ?_
          rotate_left
          · intro w' hS
            try obtain ⟨a1, a2, a3⟩ := hS
            go_simp
            try with_reducible rfl
          simp only [Act.put, List.setIfInBounds_toArray, List.set_cons_zero, List.set_cons_succ]
          refine wpSoft_step ?_ rfl ?_ ?_
          rotate_left
          · intro w' hS
            try obtain ⟨a1, a2, a3⟩ := hS
            go_simp
            try with_reducible rfl
          simp only [Act.put, List.setIfInBounds_toArray, List.set_cons_zero, List.set_cons_succ]
          refine wpSoft_step ?_ rfl ?_ ?_
          rotate_left
          · intro w' hS
            try obtain ⟨a1, a2, a3⟩ := hS
            go_simp
            try with_reducible rfl
          simp only [Act.put, List.setIfInBounds_toArray, List.set_cons_zero, List.set_cons_succ]
          refine wpSoft_step ?_ rfl ?_ ?_
          rotate_left
          · intro w' hS
            try obtain ⟨a1, a2, a3⟩ := hS
            go_simp
            try with_reducible rfl
          simp only [Act.put, List.setIfInBounds_toArray, List.set_cons_zero, List.set_cons_succ]
          refine wpSoft_step ?_ rfl ?_ ?_
          rotate_left
          · intro w' hS
            try obtain ⟨a1, a2, a3⟩ := hS
            go_simp
            try with_reducible rfl
          simp only [Act.put, List.setIfInBounds_toArray, List.set_cons_zero, List.set_cons_succ]
          refine wpSoft_step ?_ rfl ?_ ?_
          rotate_left
          · intro w' hS
            try obtain ⟨a1, a2, a3⟩ := hS
            go_simp
            try with_reducible rfl
          simp only [Act.put, List.setIfInBounds_toArray, List.set_cons_zero, List.set_cons_succ]
          refine wpSoft_step ?_ rfl ?_ ?_
          rotate_left
          · intro w' hS
            try obtain ⟨a1, a2, a3⟩ := hS
            go_simp
            try with_reducible rfl
          simp only [Act.put, List.setIfInBounds_toArray, List.set_cons_zero, List.set_cons_succ]
          refine wpSoft_step ?_ rfl ?_ ?_
          rotate_left
          · intro w' hS
            try obtain ⟨a1, a2, a3⟩ := hS
            go_simp
            try with_reducible rfl
          simp only [Act.put, List.setIfInBounds_toArray, List.set_cons_zero, List.set_cons_succ]
          refine wpSoft_step ?_ rfl ?_ ?_
          rotate_left
          · intro w' hS
            try obtain ⟨a1, a2, a3⟩ := hS
            go_simp
            try with_reducible rfl
          simp only [Act.put, List.setIfInBounds_toArray, List.set_cons_zero, List.set_cons_succ]
          refine wpSoft_step ?_ rfl ?_ ?_
          rotate_left
          · intro w' hS
            try obtain ⟨a1, a2, a3⟩ := hS
            go_simp
            try with_reducible rfl
          simp only [Act.put, List.setIfInBounds_toArray, List.set_cons_zero, List.set_cons_succ]
          refine wpSoft_step ?_ rfl ?_ ?_
          rotate_left
          · intro w' hS
            try obtain ⟨a1, a2, a3⟩ := hS
            go_simp
            try with_reducible rfl
          simp only [Act.put, List.setIfInBounds_toArray, List.set_cons_zero, List.set_cons_succ]
          refine wpSoft_step ?_ rfl ?_ ?_
          rotate_left
          · intro w' hS
            try obtain ⟨a1, a2, a3⟩ := hS
            go_simp
            try with_reducible rfl
          simp only [Act.put, List.setIfInBounds_toArray, List.set_cons_zero, List.set_cons_succ]
          refine wpSoft_step ?_ rfl ?_ ?_
          rotate_left
          · intro w' hS
            try obtain ⟨a1, a2, a3⟩ := hS
            go_simp
            try with_reducible rfl
          simp only [Act.put, List.setIfInBounds_toArray, List.set_cons_zero, List.set_cons_succ]
          refine wpSoft_step ?_ rfl ?_ ?_
          rotate_left
          · intro w' hS
            try obtain ⟨a1, a2, a3⟩ := hS
            go_simp
            try with_reducible rfl
          simp only [Act.put, List.setIfInBounds_toArray, List.set_cons_zero, List.set_cons_succ]
          refine wpSoft_nil ?_
          refine wp_hide (fun K hK => ?_)
          go_simp
          refine (HP.out w5.drew (HK6.out.keep (Chg.refl (fun _ _ => False) w5).drew)).mono ?_
          rintro e w4 ⟨rfl, hk4, hcX⟩
          have hc4 : Chg (fun b _ => TakeB ob rb b) w5 w4 := ((Chg.refl _ _).drew).trans hcX
          refine hK _ _ ?_
          clear hK K hcX
          refine wpSoft_step ?_ rfl ?_ ?_
          rotate_left
          · intro w' hS
            try obtain ⟨a1⟩ := hS
            go_simp
            try with_reducible rfl
          simp only [Act.put, List.setIfInBounds_toArray, List.set_cons_zero, List.set_cons_succ]
          refine wpSoft_nil ?_
          have hc04 := hc05.trans hc4
          have HK4 := Lib.hid hk4
          clear hk4
        · go_wp2
          go_ret
          unfold RunPostM
          show _ = Ending.returned (.bool (runL (contN n) acc (toL (h + 1) T)).2) ∧ KeptM n ob b2 b3 rb w4 (runL (contN n) acc (toL (h + 1) T)).1 ∧ _
          rw [HR.out, runL_app_true HB2.out, HRT2.out, runL_stop HB1.out]
          exact ⟨rfl, HK4.out, hc04⟩
        · go_wp2
          go_roundw
          case rel => exact ⟨k + 1, _, by go_num, by omega, HK4.out, by rw [HR.out, runL_app_true HB2.out, HRT2.out, runL_cons HB1.out], by have := HAL.out; simp only [List.length_append, List.length_cons, List.length_nil] at this ⊢; omega, hc04⟩
          case measure => simp [intOf]; omega
    · obtain rfl : k = T.2.1.length := by omega
      have hdr : inter (T.2.1.drop T.2.1.length) ((T.2.2.map (toL h)).drop T.2.1.length) = toL h c := by
        rw [List.drop_length, drop_cons htj, List.drop_eq_nil_of_le (by have := HML.out; omega), inter_last]
      rw [hdr] at hrun hal
      have HR := Lib.hid hrun
      have hkid := HIH.out c hcm wr.drew ⟨l.cb, l.co + T.2.1.length, none⟩ acc' hc.drew kc (HKP.out.keep (Chg.refl _ _).drew) hal
      unfold RunPostM at hkid
      have HKID := Lib.hid hkid
      have HCB := Lib.hid (show ¬ TakeB ob rb l.cc from hFb _ (by
        obtain ⟨lx, hx1, hx2⟩ := (hF.chg hc (fun b o hb h => hFb b hb h)).nodeB hT.root
        have e1 := hn.c3s hk
        rw [hx1.c3s hk] at e1
        have e2 : lx.cc = l.cc := by simpa using e1
        rw [← e2]
        exact hx2 _ (.inr (.inr ⟨by rw [hk]; simp, .inl rfl⟩))))
      have s1 : IntKind.i64.wrap (T.2.1.length : Int) = (T.2.1.length : Int) := IntWalk.i64_in _ (by omega)
      have s2 : ((T.2.2.length : Int) - 1) = (T.2.1.length : Int) := by have := HKL.out; omega
      have hnlt : ¬ ((T.2.1.length : Nat) : Int) < (T.2.1.length : Int) := by omega
      clear hrun hkp hcj htj hal hdr hkid kc
      cases hb2 : (runL (contN n) acc' (toL h c)).2
      all_goals
        rw [hb2] at HKID
        have HB2 := Lib.hid hb2
        clear hb2
        go_wp2_with fail
        refine wp_region_scr (fun w' => w'.cell? ⟨rid T, 3, none⟩ = some (.pointer (some ⟨l.cc, 0, none⟩)) ∧ w'.cell? ⟨l.cc, 0, none⟩ = some (.slice (some ⟨l.cb, l.co, none⟩) T.2.2.length l.ck)) (.soft 0 (.soft 1 (.soft 2 (.soft 3 (.soft 4 (.soft 5 (.soft 6 (.soft 7 (.soft 8 (.soft 9 (.soft 10 (.soft 11 (.soft 12 (.soft 13 (.soft 14 (.soft 15 (.soft 16 (.soft 17 (.hard 18 (.soft 19 .nil)))))))))))))))))))) (by kernel_rfl) (by kernel_rfl) (fun _ _ _ _ _ h => h) ⟨n3, nc⟩ ?_
        repeat
          first
          | (refine scr_soft (by rfl) ?_ ?_ ?_ ?_
             rotate_left
             · simp [Region.wanted, yielded]; done
             · intro w' hS
               try obtain ⟨a1, a2⟩ := hS
               go_simp
               try with_reducible rfl
             simp only [Act.put, List.setIfInBounds_toArray, List.set_cons_zero, List.set_cons_succ])
          | (refine scr_skip (by rfl) ?_ ?_
             · simp [Region.wanted, yielded]; done
             simp only [Act.put, List.setIfInBounds_toArray, List.set_cons_zero, List.set_cons_succ])
        refine scr_hard (by rfl) (by simp [Region.wanted, yielded]) (fun K hK => ?_)
        go_simp
        refine HKID.out.mono ?_
        rintro e w3 ⟨rfl, hk3, hc3⟩
        refine hK _ _ ⟨hc3.cell hrb n3, hc3.cell HCB.out nc⟩ ?_
        clear hK K
        repeat
          first
          | (refine scr_soft (by rfl) ?_ ?_ ?_ ?_
             rotate_left
             · simp [Region.wanted, yielded]; done
             · intro w' hS
               try obtain ⟨a1, a2⟩ := hS
               go_simp
               try with_reducible rfl
             simp only [Act.put, List.setIfInBounds_toArray, List.set_cons_zero, List.set_cons_succ])
          | (refine scr_skip (by rfl) ?_ ?_
             · simp [Region.wanted, yielded]; done
             simp only [Act.put, List.setIfInBounds_toArray, List.set_cons_zero, List.set_cons_succ])
        refine scr_nil ?_
        have hc03 := hc.drew.trans hc3
        have HK3 := Lib.hid hk3
        clear hk3 n3 nc
        go_wp2_with fail
        go_ret
        unfold RunPostM
        show _ = Ending.returned (.bool (runL (contN n) acc (toL (h + 1) T)).2) ∧ KeptM n ob b2 b3 rb w3 (runL (contN n) acc (toL (h + 1) T)).1 ∧ _
        rw [HR.out, HB2.out]
        exact ⟨rfl, HK3.out, hc03⟩

theorem scan_all : (h : Nat) → ScanSpec h
  | 0 => scan_leaf
  | h + 1 => scan_branch (scan_all h)
end Go.Proofs.Ytpgaedmhgchgeaa

namespace Go.Proofs.Ytpgaedmhgchgeaa
set_option linter.unusedSimpArgs false
set_option linter.unusedVariables false
open Go.RowKit

def fnGD (b2 _b3 : Nat) : Value := .func (.func 37) #[] #[.pointer (some ⟨b2, 0, none⟩)]

set_option maxRecDepth 100000 in
theorem taker1D_any {n : Int} {ob b2 b3 rb : Nat} {w : World} {acc : List Int} (x : Int) (h : Kept n ob b2 b3 rb w acc) (hlen : acc.length ≤ 1000000000000) :
    Calls Try.prog 37 #[.int .i64 x, .agg #[], .pointer (some ⟨b2, 0, none⟩)] w fun e w' =>
      e = .returned (.bool (contN n (acc ++ [x]))) ∧ Kept n ob b2 b3 rb w' (acc ++ [x]) ∧ Chg (fun b _ => TakeB ob rb b) w w' := by
  have HI := Lib.hid (fun w1 (c : Chg (fun _ _ => False) w w1) => taker1I_any x (h.i.keep c) hlen)
  have HF := Lib.hid h
  clear h
  go_enter Try.func37, Try.ntmps37
  go_upto_region 1 with fail
  refine name_world (fun w1 => Chg (fun _ _ => False) w w1) ((Chg.refl _ _).alloc _) ?_
  intro w1 hc1
  have c0 := cell_of_block (HF.out.keep hc1).f 0
  unfold fnI at c0
  simp only [List.getElem?_toArray, List.getElem?_cons_zero] at c0
  go_wp2_with fail
  refine (HI.out _ hc1).mono ?_
  rintro e w2 ⟨rfl, hk2, hc2⟩
  have hcc : Chg (fun b _ => TakeB ob rb b) w w2 := (hc1.mono (fun _ _ _ h => h.elim)).trans hc2
  have hb2 : w2.heap[b2]? = some (.cells #[fnI b3 (b3 + 1)] 41 (0, 0)) := by
    rw [hcc.block (heap_lt HF.out.f) (fun _ h => by
      rcases h with h | h
      · exact HF.out.ne h
      · have := HF.out.l; omega)]
    exact HF.out.f
  have FIN : Hid (Kept n ob b2 b3 rb w2 (acc ++ [x])) := Lib.hid ⟨hk2, hb2, HF.out.l, HF.out.ne⟩
  clear hb2 c0
  go_wp2_with fail
  go_ret
  exact ⟨rfl, FIN.out, hcc⟩

theorem taker1MD_any {n : Int} {ob b2 b3 rb : Nat} {w : World} {acc : List (Int × Int)} (x : Int × Int) (h : KeptM n ob b2 b3 rb w acc) (hlen : acc.length ≤ 1000000000000) :
    Calls Try.prog 37 #[.int .i64 x.1, .agg #[], .pointer (some ⟨b2, 0, none⟩)] w fun e w' =>
      e = .returned (.bool (contN n (acc ++ [x]))) ∧ KeptM n ob b2 b3 rb w' (acc ++ [x]) ∧ Chg (fun b _ => TakeB ob rb b) w w' := by
  refine (taker1D_any x.1 h (by rw [List.length_map]; exact hlen)).mono ?_
  rintro e w' ⟨rfl, h1, h2⟩
  have e1 : acc.map Prod.fst ++ [x.1] = (acc ++ [x]).map Prod.fst := by simp
  rw [e1] at h1 ⊢
  rw [contN_map]
  exact ⟨rfl, h1, h2⟩

end Go.Proofs.Ytpgaedmhgchgeaa
