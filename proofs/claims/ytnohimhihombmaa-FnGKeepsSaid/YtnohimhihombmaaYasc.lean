/- ascend and descend with a hint or without one; their methods; what the thin package makes of them. -/
import Derived.Test.YtnohimhihombmaaA12
import Derived.Test.YtnohimhihombmaaA13
namespace Go.Proofs.Ytnohimhihombmaa
set_option linter.unusedSimpArgs false
set_option linter.unusedVariables false
open Go.RowKit

theorem runL_cons {α : Type} {cont : List α → Bool} {acc : List α} {x : α} {l : List α} (h : cont (acc ++ [x]) = true) : runL cont acc (x :: l) = runL cont (acc ++ [x]) l := by rw [runL, if_pos h]
theorem runL_stop {α : Type} {cont : List α → Bool} {acc : List α} {x : α} {l : List α} (h : cont (acc ++ [x]) = false) : runL cont acc (x :: l) = (acc ++ [x], false) := by rw [runL, if_neg (by rw [h]; simp)]
theorem runL_app_true {α : Type} {cont : List α → Bool} {acc : List α} {l1 l2 : List α} (h : (runL cont acc l1).2 = true) : runL cont acc (l1 ++ l2) = runL cont (runL cont acc l1).1 l2 := by rw [runL_append, if_pos h]
theorem runL_app_false {α : Type} {cont : List α → Bool} {acc : List α} {l1 l2 : List α} (h : (runL cont acc l1).2 = false) : runL cont acc (l1 ++ l2) = runL cont acc l1 := by rw [runL_append, if_neg (by rw [h]; simp)]


/-- What a walk over items with the keeping function leaves. -/
def RunPost (n : Int) (ob b2 b3 rb : Nat) (acc l : List (Int × Int)) (w : World) (e : Ending) (w' : World) : Prop :=
  e = .returned (.bool (runL (contN n) acc l).2) ∧ Kept n ob b2 b3 rb w' (runL (contN n) acc l).1 ∧ Chg (fun b _ => TakeB ob rb b) w w'





theorem pre_rev {α : Type} {xs : List α} {ts : List (List α)} {i : Nat} {x : α} {t : List α} (hx : xs[i]? = some x) (ht : ts[i]? = some t) : (pre (xs.take (i + 1)) (ts.take (i + 1))).reverse = x :: (t.reverse ++ (pre (xs.take i) (ts.take i)).reverse) := by
  rw [pre_step hx ht]; simp

theorem pre_take_len {α : Type} {xs : List α} {ts : List (List α)} (h : ts.length = xs.length + 1) {i : Nat} {t : List α} (ht : ts[i]? = some t) (hi : i < xs.length) : (pre (xs.take (i + 1)) (ts.take (i + 1))).length = (pre (xs.take i) (ts.take i)).length + t.length + 1 := by
  rw [pre_step (List.getElem?_eq_getElem hi) ht]; simp; omega



end Go.Proofs.Ytnohimhihombmaa

namespace Go.Proofs.Ytnohimhihombmaa
set_option linter.unusedSimpArgs false
set_option linter.unusedVariables false
open Go.RowKit

def ScanSpec (ord : List Int) (h : Nat) : Prop := ∀ (k0 : Kc ord) (mn mx : Nat) (w : World) (F : Nat → Prop) (H : Nat → Option (NodeR (It ord))) (T : BT (It ord) h) (t : Nat) (pa : Addr) (mt : Bool) (n : Int) (ob b2 b3 rb : Nat) (acc : List (It ord)),
  Fam (parM k0) w F H → IsT H h T → Sh mn mx h T → w.cell? pa = some (.pointer (some ⟨rid T, 0, none⟩)) → w.cell? ⟨t, 0, none⟩ = some (.int .u64 k0.iso) → Kept n ob b2 b3 rb w acc → (∀ b, F b → ¬ TakeB ob rb b) → ¬ TakeB ob rb t → acc.length + (toL h T).length ≤ 1000000000000 →
  Calls Try.prog 81 #[.pointer (some ⟨t, 0, none⟩), .pointer (some pa), fnG b2 b3, .bool mt] w (RunPost n ob b2 b3 rb acc (toL h T) w)

theorem drop_cons {α : Type} {l : List α} {k : Nat} {x : α} (h : l[k]? = some x) : l.drop k = x :: l.drop (k + 1) := by
  obtain ⟨h1, rfl⟩ := List.getElem?_eq_some_iff.1 h
  exact List.drop_eq_getElem_cons h1

theorem inter_drop {α : Type} {xs : List α} {ts : List (List α)} {k : Nat} {x : α} {t : List α} (hx : xs[k]? = some x) (ht : ts[k]? = some t) : inter (xs.drop k) (ts.drop k) = t ++ x :: inter (xs.drop (k + 1)) (ts.drop (k + 1)) := by
  rw [drop_cons hx, drop_cons ht, inter]


set_option maxRecDepth 100000 in
set_option maxHeartbeats 1000000 in
theorem scan_leaf (ord : List Int) : ScanSpec ord 0 := by
  intro k0 mn mx w F H T t pa mt n ob b2 b3 rb acc hF hT hs hpa ht0 hK hFb htb hlen
  obtain ⟨l0, hn0⟩ := hF.node hT.root
  have n0 := hn0.c0
  have hlen' : acc.length + T.2.length ≤ 1000000000000 := hlen
  have HK := Lib.hid hK
  clear hK hlen
  unfold fnG
  go_enter Try.func81, Try.ntmps81
  go_wp2_with fail
  refine (isoLoad_any t (rid T) k0 pa mt _ hpa n0 ht0).mono ?_
  rintro e w1 ⟨rfl, m1, hw1⟩
  have hc1 : Chg (fun _ _ => False) w w1 := by rw [hw1]; exact (Chg.refl _ _).drewN _
  clear hw1 n0 hpa ht0
  have n3 := hc1.cell (fun h => h) (hn0.c3n rfl)
  go_wp2_with (go_at_call 51; refine (leaf_any _ none _ ?_).mono ?_; (focus go_simp); rintro e w' ⟨rfl, rfl⟩)
  go_loopw [10] (fun i wr => ∃ (k : Nat) (acc' : List (It ord)), i = .int .i64 k ∧ k ≤ T.2.length ∧ Kept n ob b2 b3 rb wr acc' ∧ runL (contN n) acc T.2 = runL (contN n) acc' (T.2.drop k) ∧ acc'.length + (T.2.length - k) ≤ 1000000000000 ∧ Chg (fun b _ => TakeB ob rb b) w wr) (fun i _ => T.2.length - (intOf i).toNat)
  case atStart => exact ⟨0, acc, rfl, Nat.zero_le _, HK.out.keep hc1, rfl, by omega, hc1.mono (fun _ _ _ h => h.elim)⟩
  case round =>
    obtain ⟨k, acc', rfl, hk, hkp, hrun, hal, hc⟩ := hrel
    clear n3
    obtain ⟨l, hn⟩ := (hF.chg hc (fun b o hb h => hFb b hb h)).node hT.root
    have n2 : wr.cell? ⟨rid T, 2, none⟩ = some (.slice (some ⟨l.ib, l.io, none⟩) T.2.length l.ic) := hn.c2
    by_cases hlt : k < T.2.length
    rotate_left
    · have hnlt : ¬ (k : Int) < (T.2.length : Int) := by omega
      rw [List.drop_eq_nil_of_le (by omega)] at hrun
      have HR := Lib.hid hrun
      have HKP := Lib.hid hkp
      clear hrun hkp
      go_wp2
      go_ret
      unfold RunPost
      show _ = Ending.returned (.bool (runL (contN n) acc T.2).2) ∧ Kept n ob b2 b3 rb wr (runL (contN n) acc T.2).1 ∧ _
      rw [HR.out]
      exact ⟨rfl, HKP.out, hc⟩
    · obtain ⟨x, hx⟩ : ∃ x, T.2[k]? = some x := ⟨_, List.getElem?_eq_getElem (by omega)⟩
      have ik := hn.mkey (j := k) hx
      have iv := hn.mval (j := k) hx
      rw [drop_cons hx] at hrun
      have hp := fun w1 (h : Kept n ob b2 b3 rb w1 acc') => taker1_any x h (by omega)
      have HR := Lib.hid hrun
      have HKP := Lib.hid hkp
      have i0 : (0 : Int) ≤ (k : Int) := by omega
      have i1 : (k : Int) < (T.2.length : Int) := by omega
      clear hrun hkp hx
      cases hb : contN n (acc' ++ [x])
      all_goals
        rw [hb] at hp
        have HP := Lib.hid hp
        have HB := Lib.hid hb
        clear hp hb
        go_wp2_with fail
        refine (HP.out _ HKP.out).mono ?_
        rintro e w2 ⟨rfl, hk2, hc2⟩
        have hc02 := hc.trans hc2
      · go_wp2
        go_ret
        unfold RunPost
        show _ = Ending.returned (.bool (runL (contN n) acc T.2).2) ∧ Kept n ob b2 b3 rb w2 (runL (contN n) acc T.2).1 ∧ _
        rw [HR.out, runL_stop HB.out]
        exact ⟨rfl, hk2, hc02⟩
      · go_wp2
        go_roundw
        case rel => exact ⟨k + 1, acc' ++ [x], by go_num, by omega, hk2, by rw [HR.out, runL_cons HB.out], by simp; omega, hc02⟩
        case measure => simp [intOf]; omega

set_option maxRecDepth 100000 in
set_option maxHeartbeats 2000000 in
theorem scan_branch {ord : List Int} {h : Nat} (ih : ScanSpec ord h) : ScanSpec ord (h + 1) := by
  intro k0 mn mx w F H T t pa mt n ob b2 b3 rb acc hF hT hs hpa ht0 hK hFb htb hlen
  obtain ⟨l0, hn0, hblk⟩ := hF.nodeB hT.root
  have n0 := hn0.c0
  have hk : (recOf (h + 1) T).kids = some (T.2.2.map fun c => some (rid c)) := rfl
  have hrb : ¬ TakeB ob rb (rid T) := hFb _ (hblk _ (.inl rfl))
  have hkl : T.2.2.length = T.2.1.length + 1 := hs.2.1
  have hml : (T.2.2.map (toL h)).length = T.2.1.length + 1 := by simpa using hkl
  have hlen' : acc.length + (inter T.2.1 (T.2.2.map (toL h))).length ≤ 1000000000000 := hlen
  have hits : T.2.1.length ≤ 1000000000000 := by have := (its_sub hs).length_le; have h2 : (its T).length = T.2.1.length := rfl; omega
  have HKL := Lib.hid hkl
  have HML := Lib.hid hml
  have HLEN := Lib.hid hlen'
  have HK := Lib.hid hK
  have HT0 := Lib.hid ht0
  have hih := fun (c : BT (It ord) h) (hcm : c ∈ T.2.2) (w1 : World) (pa1 : Addr) (acc1 : List (It ord)) (hc1 : Chg (fun b _ => TakeB ob rb b) w w1) (hp1 : w1.cell? pa1 = some (.pointer (some ⟨rid c, 0, none⟩))) (h1 : Kept n ob b2 b3 rb w1 acc1) (h2 : acc1.length + (toL h c).length ≤ 1000000000000) =>
    ih k0 mn mx w1 F H c t pa1 mt n ob b2 b3 rb acc1 (hF.chg hc1 (fun b o hb h => hFb b hb h)) (hT.kid hcm) (hs.2.2 c hcm).2 hp1 (hc1.cell (a := ⟨t, 0, none⟩) (fun h => htb h) HT0.out) h1 hFb htb h2
  unfold fnG at hih
  have HIH := Lib.hid hih
  clear hK hlen hkl hml hlen' hih
  unfold fnG
  go_enter Try.func81, Try.ntmps81
  go_wp2_with fail
  refine (isoLoad_any t (rid T) k0 pa mt _ hpa n0 ht0).mono ?_
  rintro e w1 ⟨rfl, m1, hw1⟩
  have hc1 : Chg (fun _ _ => False) w w1 := by rw [hw1]; exact (Chg.refl _ _).drewN _
  clear hw1 n0 hpa ht0
  have n3 := hc1.cell (fun h => h) (hn0.c3s hk)
  go_wp2_with (go_at_call 51; refine (leaf_any _ (some ⟨l0.cc, 0, none⟩) _ ?_).mono ?_; (focus go_simp); rintro e w' ⟨rfl, rfl⟩)
  go_loopw [11] (fun i wr => ∃ (k : Nat) (acc' : List (It ord)), i = .int .i64 k ∧ k ≤ T.2.1.length ∧ Kept n ob b2 b3 rb wr acc' ∧ runL (contN n) acc (toL (h + 1) T) = runL (contN n) acc' (inter (T.2.1.drop k) ((T.2.2.map (toL h)).drop k)) ∧ acc'.length + (inter (T.2.1.drop k) ((T.2.2.map (toL h)).drop k)).length ≤ 1000000000000 ∧ Chg (fun b _ => TakeB ob rb b) w wr) (fun i _ => T.2.1.length - (intOf i).toNat)
  case atStart => exact ⟨0, acc, rfl, Nat.zero_le _, HK.out.keep hc1, rfl, HLEN.out, hc1.mono (fun _ _ _ h => h.elim)⟩
  case round =>
    obtain ⟨k, acc', rfl, hkk, hkp, hrun, hal, hc⟩ := hrel
    clear n3
    obtain ⟨c, hcj⟩ : ∃ c, T.2.2[k]? = some c := ⟨_, List.getElem?_eq_getElem (by have := HKL.out; omega)⟩
    have hcm : c ∈ T.2.2 := List.mem_of_getElem? hcj
    have hkc := (List.getElem?_eq_some_iff.1 hcj).1
    have htj : (T.2.2.map (toL h))[k]? = some (toL h c) := by simp [hcj]
    obtain ⟨l, hn⟩ := (hF.chg hc (fun b o hb h => hFb b hb h)).node hT.root
    have n2 : wr.cell? ⟨rid T, 2, none⟩ = some (.slice (some ⟨l.ib, l.io, none⟩) T.2.1.length l.ic) := hn.c2
    have n3 := hn.c3s hk
    have nc := hn.cc hk
    rw [List.length_map] at nc
    have kc : wr.cell? ⟨l.cb, l.co + k, none⟩ = some (.pointer (some ⟨rid c, 0, none⟩)) := hn.kidc hk (j := k) (o := some (rid c)) (by simp [hcj])
    have HKP := Lib.hid hkp
    have i0 : (0 : Int) ≤ (k : Int) := by omega
    have i2 : (k : Int) < (T.2.2.length : Int) := by omega
    by_cases hlt : k < T.2.1.length
    · obtain ⟨x, hx⟩ : ∃ x, T.2.1[k]? = some x := ⟨_, List.getElem?_eq_getElem (by omega)⟩
      rw [inter_drop hx htj] at hrun hal
      have HR := Lib.hid hrun
      have HX := Lib.hid hx
      have HAL := Lib.hid hal
      have i1 : (k : Int) < (T.2.1.length : Int) := by omega
      clear hrun hkp hx hcj htj hal
      cases hb2 : (runL (contN n) acc' (toL h c)).2
      all_goals
        have hkid := HIH.out c hcm wr ⟨l.cb, l.co + k, none⟩ acc' hc kc HKP.out (by have := HAL.out; simp only [List.length_append] at this; omega)
        unfold RunPost at hkid
        rw [hb2] at hkid
        have HKID := Lib.hid hkid
        have HB2 := Lib.hid hb2
        clear hkid hb2
        go_wp2_with fail
        refine HKID.out.mono ?_
        rintro e w5 ⟨rfl, hk5, hc5⟩
        have hc05 := hc.trans hc5
        have HK5 := Lib.hid hk5
        clear hk5 n2 n3 nc kc
      · go_wp2
        go_ret
        unfold RunPost
        show _ = Ending.returned (.bool (runL (contN n) acc (toL (h + 1) T)).2) ∧ Kept n ob b2 b3 rb w5 (runL (contN n) acc (toL (h + 1) T)).1 ∧ _
        rw [HR.out, runL_app_false HB2.out, HB2.out]
        exact ⟨rfl, HK5.out, hc05⟩
      · have hrt2 := runL_true _ _ _ HB2.out
        have HRT2 := Lib.hid hrt2
        have hk5 := HK5.out
        rw [hrt2] at hk5
        obtain ⟨l5, hn5⟩ := (hF.chg hc05 (fun b o hb h => hFb b hb h)).node hT.root
        have n2 : w5.cell? ⟨rid T, 2, none⟩ = some (.slice (some ⟨l5.ib, l5.io, none⟩) T.2.1.length l5.ic) := hn5.c2
        have ik := hn5.mkey (j := k) HX.out
        have iv := hn5.mval (j := k) HX.out
        have hp := fun w1 (h : Kept n ob b2 b3 rb w1 (acc' ++ toL _ c)) => taker1_any x h (by have := HAL.out; simp only [List.length_append] at this ⊢; omega)
        have HK6 := Lib.hid hk5
        clear hrt2 hk5
        cases hb : contN n ((acc' ++ toL h c) ++ [x])
        all_goals
          rw [hb] at hp
          have HP := Lib.hid hp
          have HB1 := Lib.hid hb
          clear hp hb
          go_wp2_with fail
          refine (HP.out _ HK6.out).mono ?_
          rintro e w4 ⟨rfl, hk4, hc4⟩
          have hc04 := hc05.trans hc4
          have HK4 := Lib.hid hk4
          clear hk4
        · go_wp2
          go_ret
          unfold RunPost
          show _ = Ending.returned (.bool (runL (contN n) acc (toL (h + 1) T)).2) ∧ Kept n ob b2 b3 rb w4 (runL (contN n) acc (toL (h + 1) T)).1 ∧ _
          rw [HR.out, runL_app_true HB2.out, HRT2.out, runL_stop HB1.out]
          exact ⟨rfl, HK4.out, hc04⟩
        · go_wp2
          go_roundw
          case rel => exact ⟨k + 1, _, by go_num, by omega, HK4.out, by rw [HR.out, runL_app_true HB2.out, HRT2.out, runL_cons HB1.out], by have := HAL.out; simp only [List.length_append, List.length_cons, List.length_nil] at this ⊢; omega, hc04⟩
          case measure => simp [intOf]; omega
    · obtain rfl : k = T.2.1.length := by omega
      have hdr : inter (T.2.1.drop T.2.1.length) ((T.2.2.map (toL h)).drop T.2.1.length) = toL h c := by
        rw [List.drop_length, drop_cons htj, List.drop_eq_nil_of_le (by have := HML.out; omega), inter_last]
      rw [hdr] at hrun hal
      have HR := Lib.hid hrun
      have hkid := HIH.out c hcm wr.drew ⟨l.cb, l.co + T.2.1.length, none⟩ acc' hc.drew kc (HKP.out.keep (Chg.refl _ _).drew) hal
      unfold RunPost at hkid
      have HKID := Lib.hid hkid
      have HCB := Lib.hid (show ¬ TakeB ob rb l.cc from hFb _ (by
        obtain ⟨lx, hx1, hx2⟩ := (hF.chg hc (fun b o hb h => hFb b hb h)).nodeB hT.root
        have e1 := hn.c3s hk
        rw [hx1.c3s hk] at e1
        have e2 : lx.cc = l.cc := by simpa using e1
        rw [← e2]
        exact hx2 _ (.inr (.inr ⟨by rw [hk]; simp, .inl rfl⟩))))
      have s1 : IntKind.i64.wrap (T.2.1.length : Int) = (T.2.1.length : Int) := IntWalk.i64_in _ (by omega)
      have s2 : ((T.2.2.length : Int) - 1) = (T.2.1.length : Int) := by have := HKL.out; omega
      have hnlt : ¬ ((T.2.1.length : Nat) : Int) < (T.2.1.length : Int) := by omega
      clear hrun hkp hcj htj hal hdr hkid kc
      cases hb2 : (runL (contN n) acc' (toL h c)).2
      all_goals
        rw [hb2] at HKID
        have HB2 := Lib.hid hb2
        clear hb2
        go_wp2_with fail
        refine wp_region_scr (fun w' => w'.cell? ⟨rid T, 3, none⟩ = some (.pointer (some ⟨l.cc, 0, none⟩)) ∧ w'.cell? ⟨l.cc, 0, none⟩ = some (.slice (some ⟨l.cb, l.co, none⟩) T.2.2.length l.ck)) (.soft 0 (.soft 1 (.soft 2 (.soft 3 (.soft 4 (.soft 5 (.soft 6 (.soft 7 (.soft 8 (.soft 9 (.soft 10 (.soft 11 (.soft 12 (.soft 13 (.soft 14 (.soft 15 (.soft 16 (.soft 17 (.hard 18 (.soft 19 .nil)))))))))))))))))))) (by kernel_rfl) (by kernel_rfl) (fun _ _ _ _ _ h => h) ⟨n3, nc⟩ ?_
        repeat
          first
          | (refine scr_soft (by rfl) ?_ ?_ ?_ ?_
             rotate_left
             · simp [Region.wanted, yielded]; done
             · intro w' hS
               try obtain ⟨a1, a2⟩ := hS
               go_simp
               try with_reducible rfl
             simp only [Act.put, List.setIfInBounds_toArray, List.set_cons_zero, List.set_cons_succ])
          | (refine scr_skip (by rfl) ?_ ?_
             · simp [Region.wanted, yielded]; done
             simp only [Act.put, List.setIfInBounds_toArray, List.set_cons_zero, List.set_cons_succ])
        refine scr_hard (by rfl) (by simp [Region.wanted, yielded]) (fun K hK => ?_)
        go_simp
        refine HKID.out.mono ?_
        rintro e w3 ⟨rfl, hk3, hc3⟩
        refine hK _ _ ⟨hc3.cell hrb n3, hc3.cell HCB.out nc⟩ ?_
        clear hK K
        repeat
          first
          | (refine scr_soft (by rfl) ?_ ?_ ?_ ?_
             rotate_left
             · simp [Region.wanted, yielded]; done
             · intro w' hS
               try obtain ⟨a1, a2⟩ := hS
               go_simp
               try with_reducible rfl
             simp only [Act.put, List.setIfInBounds_toArray, List.set_cons_zero, List.set_cons_succ])
          | (refine scr_skip (by rfl) ?_ ?_
             · simp [Region.wanted, yielded]; done
             simp only [Act.put, List.setIfInBounds_toArray, List.set_cons_zero, List.set_cons_succ])
        refine scr_nil ?_
        have hc03 := hc.drew.trans hc3
        have HK3 := Lib.hid hk3
        clear hk3 n3 nc
        go_wp2_with fail
        go_ret
        unfold RunPost
        show _ = Ending.returned (.bool (runL (contN n) acc (toL (h + 1) T)).2) ∧ Kept n ob b2 b3 rb w3 (runL (contN n) acc (toL (h + 1) T)).1 ∧ _
        rw [HR.out, HB2.out]
        exact ⟨rfl, HK3.out, hc03⟩

theorem scan_all (ord : List Int) : (h : Nat) → ScanSpec ord h
  | 0 => scan_leaf ord
  | h + 1 => scan_branch (scan_all ord h)
end Go.Proofs.Ytnohimhihombmaa

namespace Go.Proofs.Ytnohimhihombmaa
set_option linter.unusedSimpArgs false
set_option linter.unusedVariables false
open Go.RowKit
variable {ord : List Int}

/-- The items that do not come before x. -/
def upp (lt : It ord → It ord → Bool) (x : It ord) (l : List (It ord)) : List (It ord) := l.dropWhile fun y => lt y x

theorem upp_pre {lt : It ord → It ord → Bool} {x : It ord} : ∀ {A B : List (It ord)}, (∀ a ∈ A, lt a x = true) → upp lt x (A ++ B) = upp lt x B
  | [], _, _ => rfl
  | a :: A, B, h => by
    have h1 := h a List.mem_cons_self
    have h2 := upp_pre (B := B) (fun b hb => h b (List.mem_cons_of_mem _ hb))
    unfold upp at h2 ⊢
    rw [List.cons_append, List.dropWhile_cons, h1]
    simpa using h2

theorem upp_stop {lt : It ord → It ord → Bool} {x : It ord} : ∀ {C : List (It ord)}, (∀ c ∈ C, lt c x = false) → upp lt x C = C
  | [], _ => rfl
  | c :: C, h => by unfold upp; rw [List.dropWhile_cons, h c List.mem_cons_self]; simp

theorem upp_post {lt : It ord → It ord → Bool} {x : It ord} : ∀ {B C : List (It ord)}, (∀ c ∈ C, lt c x = false) → upp lt x (B ++ C) = upp lt x B ++ C
  | [], C, h => upp_stop h
  | b :: B, C, h => by
    have h2 := upp_post (B := B) h
    unfold upp at h2 ⊢
    rw [List.cons_append, List.dropWhile_cons, List.dropWhile_cons, h2]
    split <;> rfl

theorem upp_cut {lt : It ord → It ord → Bool} {x y : It ord} {Q B : List (It ord)} (s : Swo lt) (hs : Srt lt (Q ++ y :: B)) (n1 : lt y x = false) (n2 : lt x y = false) : upp lt x (Q ++ y :: B) = y :: B := by
  obtain ⟨_, h2, h3⟩ := List.pairwise_append.1 hs
  obtain ⟨h4, _⟩ := List.pairwise_cons.1 h2
  rw [upp_pre (fun a ha => s.lt_of_lt_of_nlt (h3 a ha y List.mem_cons_self) n2), upp_stop]
  intro c hc
  rcases List.mem_cons.1 hc with rfl | hc
  · exact n1
  · exact s.asymm _ _ (s.lt_of_nlt_of_lt n1 (h4 c hc))

theorem upp_leaf_pos {x : It ord} {l : List (It ord)} {i : Nat} (h : PosAt ltM l x i) : upp ltM x l = l.drop i := by
  obtain ⟨h1, h2⟩ := pos_mem h
  conv => lhs; rw [← List.take_append_drop i l]
  rw [upp_pre h1, upp_stop (fun c hc => swoM.asymm _ _ (h2 c hc))]

theorem upp_leaf_hit {x y : It ord} {l : List (It ord)} {i : Nat} (hs : Srt ltM l) (h : HitAt ltM l x i y) : upp ltM x l = l.drop i := by
  have e : l = l.take i ++ y :: l.drop (i + 1) := split_at h.at_
  rw [drop_cons h.at_]
  conv => lhs; rw [e]
  exact upp_cut swoM (by rw [← e]; exact hs) h.n1 h.n2

theorem upp_kid {h : Nat} {T : BT (It ord) (h + 1)} {mn mx i : Nat} {c : BT (It ord) h} {x : It ord} (hs : Sh mn mx (h + 1) T) (hc : T.2.2[i]? = some c) (hsrt : Srt ltM (toL (h + 1) T)) (hp : PosAt ltM T.2.1 x i) :
    upp ltM x (toL (h + 1) T) = upp ltM x (toL h c) ++ post (T.2.1.drop i) ((T.2.2.map (toL h)).drop (i + 1)) := by
  obtain ⟨h1, h2⟩ := around swoM hs hc hsrt hp
  rw [toL_at hs hc, List.append_assoc, upp_pre h1, upp_post (fun c hc => swoM.asymm _ _ (h2 c hc))]

theorem inter_pre {α : Type} : ∀ (xs : List α) (ts : List (List α)) (n : Nat), ts.length = xs.length + 1 → n ≤ xs.length → inter xs ts = pre (xs.take n) (ts.take n) ++ inter (xs.drop n) (ts.drop n)
  | xs, ts, 0, _, _ => by simp [pre]
  | x :: xs, t :: ts, n + 1, h1, h2 => by
    simp only [List.take_succ_cons, List.drop_succ_cons, pre, inter, List.append_assoc, List.cons_append]
    rw [inter_pre xs ts n (by simpa using h1) (by simpa using h2)]
  | [], _, n + 1, _, h2 => by simp at h2
  | x :: xs, [], n + 1, h1, _ => by simp at h1

theorem post_drop {α : Type} {xs : List α} {ts : List (List α)} {k : Nat} {x : α} {t : List α} (hx : xs[k]? = some x) (ht : ts[k + 1]? = some t) : post (xs.drop k) (ts.drop (k + 1)) = x :: (t ++ post (xs.drop (k + 1)) (ts.drop (k + 1 + 1))) := by
  rw [drop_cons hx, drop_cons ht, post]; rfl

theorem post_nil {α : Type} {xs : List α} {ts : List (List α)} {k : Nat} (h : xs.length ≤ k) : post (xs.drop k) (ts.drop (k + 1)) = [] := by
  rw [List.drop_eq_nil_of_le h]; cases ts.drop (k + 1) <;> rfl

theorem upp_hit {h : Nat} {T : BT (It ord) (h + 1)} {mn mx i : Nat} {x y : It ord} (hs : Sh mn mx (h + 1) T) (hsrt : Srt ltM (toL (h + 1) T)) (hy : HitAt ltM T.2.1 x i y) :
    upp ltM x (toL (h + 1) T) = post (T.2.1.drop i) ((T.2.2.map (toL h)).drop (i + 1)) := by
  have hi := (List.getElem?_eq_some_iff.1 hy.at_).1
  have hml : (T.2.2.map (toL h)).length = T.2.1.length + 1 := by simpa using hs.2.1
  obtain ⟨t, ht⟩ : ∃ t, (T.2.2.map (toL h))[i]? = some t := ⟨_, List.getElem?_eq_getElem (by omega)⟩
  obtain ⟨u, hu⟩ : ∃ u, (T.2.2.map (toL h))[i + 1]? = some u := ⟨_, List.getElem?_eq_getElem (by omega)⟩
  have e : toL (h + 1) T = pre (T.2.1.take i) ((T.2.2.map (toL h)).take i) ++ inter (T.2.1.drop i) ((T.2.2.map (toL h)).drop i) := inter_pre _ _ i hml (by omega)
  have e2 : inter (T.2.1.drop i) ((T.2.2.map (toL h)).drop i) = t ++ post (T.2.1.drop i) ((T.2.2.map (toL h)).drop (i + 1)) := by
    rw [drop_cons ht]
    exact inter_eq _ _ _ (by rw [List.length_drop, List.length_drop]; omega)
  have e4 : toL (h + 1) T = (pre (T.2.1.take i) ((T.2.2.map (toL h)).take i) ++ t) ++ y :: (u ++ post (T.2.1.drop (i + 1)) ((T.2.2.map (toL h)).drop (i + 1 + 1))) := by
    rw [e, e2, post_drop hy.at_ hu, List.append_assoc]
  rw [post_drop hy.at_ hu, e4]
  exact upp_cut swoM (by rw [← e4]; exact hsrt) hy.n1 hy.n2

theorem upp_len (lt : It ord → It ord → Bool) (x : It ord) (l : List (It ord)) : (upp lt x l).length ≤ l.length := (List.dropWhile_sublist _).length_le

/-- What a walk with a hint and with the keeping function leaves. -/
def RunPostH (hv : Option Nat) (n : Int) (ob b2 b3 rb : Nat) (acc l : List (Int × Int)) (w : World) (e : Ending) (w' : World) : Prop :=
  e = .returned (.bool (runL (contN n) acc l).2) ∧ Kept n ob b2 b3 rb w' (runL (contN n) acc l).1 ∧ HintO hv w' ∧ Chg (fun b _ => HT hv ob rb b) w w'

def AscSpec (ord : List Int) (h : Nat) : Prop := ∀ (k0 : Kc ord) (mn mx : Nat) (w : World) (F : Nat → Prop) (H : Nat → Option (NodeR (It ord))) (T : BT (It ord) h) (t : Nat) (pa : Addr) (key : It ord) (d : Nat) (hv : Option Nat) (mt : Bool) (n : Int) (ob b2 b3 rb : Nat) (acc : List (It ord)),
  Fam (parM k0) w F H → IsT H h T → Sh mn mx h T → 1 ≤ mn → 1 ≤ (its T).length → Srt ltM (toL h T) → mx ≤ 1000 → w.cell? pa = some (.pointer (some ⟨rid T, 0, none⟩)) → MapAt k0 mn mx w t → Kept n ob b2 b3 rb w acc → HintO hv w → HintK hv ob b2 b3 rb → (∀ b, F b → ¬ HT hv ob rb b) → (∀ b, MOwn k0 t b → ¬ HT hv ob rb b) → d + h ≤ 1000000000000 → acc.length + (toL h T).length ≤ 1000000000000 →
  Calls Try.prog 71 #[.pointer (some ⟨t, 0, none⟩), .pointer (some pa), .agg #[.int .i64 key.1, .int .i64 key.2], hintV hv, .int .i64 (d : Int), fnG b2 b3, .bool mt] w (RunPostH hv n ob b2 b3 rb acc (upp ltM key (toL h T)) w)


set_option maxRecDepth 100000 in
set_option maxHeartbeats 2000000 in
theorem asc_leaf : AscSpec ord 0 := by
  intro k0 mn mx w F H T t pa key d hv mt n ob b2 b3 rb acc hF hT hs hmn hit hsrt hmx hpa hma hK hH hHK hFb htb hdh hlen
  obtain ⟨l0, hn0⟩ := hF.node hT.root
  have n0 := hn0.c0
  have hsl : T.2.length ≤ mx := hs.len
  have hlen' : acc.length + T.2.length ≤ 1000000000000 := hlen
  have HK := Lib.hid hK
  have HMA := Lib.hid hma
  have HH := Lib.hid hH
  have HHK := Lib.hid hHK
  clear hK hlen hma hH hHK
  unfold fnG hintV
  go_enter Try.func71, Try.ntmps71
  go_wp2_with fail
  refine name_calls (fun w0 => Chg (fun _ _ => False) w w0 ∧ w0.heap[w.heap.size]? = some (.cells #[.int .i64 key.1, .int .i64 key.2] 27 (0, 0))) ⟨(Chg.refl _ _).alloc _, ha_at _ _ rfl⟩ ?_
  rintro w0 ⟨hc0, hbk⟩
  refine (isoLoad_any t (rid T) k0 pa mt _ (hc0.cell (fun h => h) hpa) (hc0.cell (fun h => h) n0) (hc0.cell (fun h => h) HMA.out.c0)).mono ?_
  rintro e w1 ⟨rfl, m1, hw1⟩
  have hc01 : Chg (fun _ _ => False) w0 w1 := by rw [hw1]; exact (Chg.refl _ _).drewN _
  have hc1 : Chg (fun _ _ => False) w w1 := hc0.trans hc01
  have hbk1 : w1.heap[w.heap.size]? = some (.cells #[.int .i64 key.1, .int .i64 key.2] 27 (0, 0)) := by rw [hc01.block (heap_lt hbk) (fun _ h => h)]; exact hbk
  have q0 := cell_of_block hbk1 0
  have q1 := cell_of_block hbk1 1
  simp only [List.getElem?_toArray, List.getElem?_cons_zero, List.getElem?_cons_succ] at q0 q1
  have hkn : ¬ hv = some w.heap.size := fun e => by have := HH.out.lt e; omega
  clear hw1 n0 hpa hbk hbk1
  have hse := find_o hv t d key (HMA.out.chg hc1 (fun _ _ _ h => h)) (hn0.chg hc1 (fun _ _ _ h => h)) hsrt (by show T.2.length ≤ 1000000; omega) hit (HH.out.keep hc1) (by omega)
  unfold aggM hintV at hse
  have HSE := Lib.hid hse
  clear hse
  go_wp2_with fail
  refine HSE.out.mono ?_
  rintro e w2 ⟨i, f, rfl, hw2, hh2, hf⟩
  have hccH : Chg (fun b _ => hv = some b) w w2 := (hc1.mono (fun _ _ _ h => h.elim)).trans hw2
  have hcc : Chg (fun b _ => HT hv ob rb b) w w2 := hccH.mono (fun _ _ _ h => .inr h)
  replace q0 := hw2.cell (a := ⟨w.heap.size, 0, none⟩) hkn q0
  replace q1 := hw2.cell (a := ⟨w.heap.size, 1, none⟩) hkn q1
  have HH2 := Lib.hid hh2
  have HK2 := Lib.hid (HK.out.hint HHK.out hccH)
  clear hw2 hh2
  rcases hf with ⟨rfl, y, hy⟩ | ⟨rfl, hp⟩
  · have hdw := upp_leaf_hit (l := T.2) hsrt hy
    have hil : i ≤ T.2.length := Nat.le_of_lt (List.getElem?_eq_some_iff.1 hy.at_).1
    have HDW := Lib.hid hdw
    clear hdw hy
    go_wp2_with fail
    go_loopw [16] (fun i' wr => ∃ (k : Nat) (acc' : List (It ord)), i' = .int .i64 k ∧ k ≤ T.2.length ∧ Kept n ob b2 b3 rb wr acc' ∧ HintO hv wr ∧ runL (contN n) acc (upp ltM key T.2) = runL (contN n) acc' (T.2.drop k) ∧ acc'.length + (T.2.length - k) ≤ 1000000000000 ∧ Chg (fun b _ => HT hv ob rb b) w wr) (fun i' _ => T.2.length - (intOf i').toNat)
    case atStart => exact ⟨i, acc, rfl, hil, HK2.out, HH2.out, by rw [HDW.out], by omega, hcc⟩
    case round =>
      obtain ⟨k, acc', rfl, hk, hkp, hho, hrun, hal, hc⟩ := hrel
      obtain ⟨l, hn⟩ := (hF.chg hc (fun b o hb h => hFb b hb h)).node hT.root
      have n2 : wr.cell? ⟨rid T, 2, none⟩ = some (.slice (some ⟨l.ib, l.io, none⟩) T.2.length l.ic) := hn.c2
      by_cases hlt : k < T.2.length
      rotate_left
      · have hnlt : ¬ (k : Int) < (T.2.length : Int) := by omega
        rw [List.drop_eq_nil_of_le (by omega)] at hrun
        have HR := Lib.hid hrun
        have HKP := Lib.hid hkp
        have HHO := Lib.hid hho
        clear hrun hkp hho
        go_wp2
        go_ret
        unfold RunPostH
        show _ = Ending.returned (.bool (runL (contN n) acc (upp ltM key T.2)).2) ∧ Kept n ob b2 b3 rb wr (runL (contN n) acc (upp ltM key T.2)).1 ∧ _ ∧ _
        rw [HR.out]
        exact ⟨rfl, HKP.out, HHO.out, hc⟩
      · obtain ⟨x, hx⟩ : ∃ x, T.2[k]? = some x := ⟨_, List.getElem?_eq_getElem (by omega)⟩
        have ik := hn.mkey (j := k) hx
        have iv := hn.mval (j := k) hx
        rw [drop_cons hx] at hrun
        have hp := fun w1 (h : Kept n ob b2 b3 rb w1 acc') => taker1_any x h (by omega)
        have HR := Lib.hid hrun
        have HKP := Lib.hid hkp
        have HHO := Lib.hid hho
        have i0 : (0 : Int) ≤ (k : Int) := by omega
        have i1 : (k : Int) < (T.2.length : Int) := by omega
        clear hrun hkp hx hho
        cases hb : contN n (acc' ++ [x])
        all_goals
          rw [hb] at hp
          have HP := Lib.hid hp
          have HB := Lib.hid hb
          clear hp hb
          go_wp2_with fail
          refine (HP.out _ HKP.out).mono ?_
          rintro e w4 ⟨rfl, hk2, hc2⟩
          have hho4 := HHO.out.chg hc2 (fun b _ hb => HHK.out.take hb)
          have hc02 := hc.trans (hc2.mono (B := fun b _ => HT hv ob rb b) (fun _ _ _ h => .inl h))
          have HHO4 := Lib.hid hho4
          clear hho4
        · go_wp2
          go_ret
          unfold RunPostH
          show _ = Ending.returned (.bool (runL (contN n) acc (upp ltM key T.2)).2) ∧ Kept n ob b2 b3 rb w4 (runL (contN n) acc (upp ltM key T.2)).1 ∧ _ ∧ _
          rw [HR.out, runL_stop HB.out]
          exact ⟨rfl, hk2, HHO4.out, hc02⟩
        · obtain ⟨l2, hn2⟩ := (hF.chg hc02 (fun b o hb h => hFb b hb h)).node hT.root
          have n3 := hn2.c3n rfl
          clear n2 ik iv
          go_wp2_with (go_at_call 51; refine (leaf_any _ none _ ?_).mono ?_; (focus go_simp); rintro e w' ⟨rfl, rfl⟩)
          go_roundw
          case rel => exact ⟨k + 1, acc' ++ [x], by go_num, by omega, hk2, HHO4.out, by rw [HR.out, runL_cons HB.out], by simp; omega, hc02⟩
          case measure => simp [intOf]; omega
  · have hdw := upp_leaf_pos (l := T.2) hp
    have hil : i ≤ T.2.length := hp.le
    have HDW := Lib.hid hdw
    clear hdw hp
    obtain ⟨l2, hn2⟩ := (hF.chg hcc (fun b o hb h => hFb b hb h)).node hT.root
    have n3 := hn2.c3n rfl
    go_wp2_with (go_at_call 51; refine (leaf_any _ none _ ?_).mono ?_; (focus go_simp); rintro e w' ⟨rfl, rfl⟩)
    clear n3
    go_loopw [16] (fun i' wr => ∃ (k : Nat) (acc' : List (It ord)), i' = .int .i64 k ∧ k ≤ T.2.length ∧ Kept n ob b2 b3 rb wr acc' ∧ HintO hv wr ∧ runL (contN n) acc (upp ltM key T.2) = runL (contN n) acc' (T.2.drop k) ∧ acc'.length + (T.2.length - k) ≤ 1000000000000 ∧ Chg (fun b _ => HT hv ob rb b) w wr) (fun i' _ => T.2.length - (intOf i').toNat)
    case atStart => exact ⟨i, acc, rfl, hil, HK2.out, HH2.out, by rw [HDW.out], by omega, hcc⟩
    case round =>
      obtain ⟨k, acc', rfl, hk, hkp, hho, hrun, hal, hc⟩ := hrel
      obtain ⟨l, hn⟩ := (hF.chg hc (fun b o hb h => hFb b hb h)).node hT.root
      have n2 : wr.cell? ⟨rid T, 2, none⟩ = some (.slice (some ⟨l.ib, l.io, none⟩) T.2.length l.ic) := hn.c2
      by_cases hlt : k < T.2.length
      rotate_left
      · have hnlt : ¬ (k : Int) < (T.2.length : Int) := by omega
        rw [List.drop_eq_nil_of_le (by omega)] at hrun
        have HR := Lib.hid hrun
        have HKP := Lib.hid hkp
        have HHO := Lib.hid hho
        clear hrun hkp hho
        go_wp2
        go_ret
        unfold RunPostH
        show _ = Ending.returned (.bool (runL (contN n) acc (upp ltM key T.2)).2) ∧ Kept n ob b2 b3 rb wr (runL (contN n) acc (upp ltM key T.2)).1 ∧ _ ∧ _
        rw [HR.out]
        exact ⟨rfl, HKP.out, HHO.out, hc⟩
      · obtain ⟨x, hx⟩ : ∃ x, T.2[k]? = some x := ⟨_, List.getElem?_eq_getElem (by omega)⟩
        have ik := hn.mkey (j := k) hx
        have iv := hn.mval (j := k) hx
        rw [drop_cons hx] at hrun
        have hp := fun w1 (h : Kept n ob b2 b3 rb w1 acc') => taker1_any x h (by omega)
        have HR := Lib.hid hrun
        have HKP := Lib.hid hkp
        have HHO := Lib.hid hho
        have i0 : (0 : Int) ≤ (k : Int) := by omega
        have i1 : (k : Int) < (T.2.length : Int) := by omega
        clear hrun hkp hx hho
        cases hb : contN n (acc' ++ [x])
        all_goals
          rw [hb] at hp
          have HP := Lib.hid hp
          have HB := Lib.hid hb
          clear hp hb
          go_wp2_with fail
          refine (HP.out _ HKP.out).mono ?_
          rintro e w4 ⟨rfl, hk2, hc2⟩
          have hho4 := HHO.out.chg hc2 (fun b _ hb => HHK.out.take hb)
          have hc02 := hc.trans (hc2.mono (B := fun b _ => HT hv ob rb b) (fun _ _ _ h => .inl h))
          have HHO4 := Lib.hid hho4
          clear hho4
        · go_wp2
          go_ret
          unfold RunPostH
          show _ = Ending.returned (.bool (runL (contN n) acc (upp ltM key T.2)).2) ∧ Kept n ob b2 b3 rb w4 (runL (contN n) acc (upp ltM key T.2)).1 ∧ _ ∧ _
          rw [HR.out, runL_stop HB.out]
          exact ⟨rfl, hk2, HHO4.out, hc02⟩
        · obtain ⟨l2, hn2⟩ := (hF.chg hc02 (fun b o hb h => hFb b hb h)).node hT.root
          have n3 := hn2.c3n rfl
          clear n2 ik iv
          go_wp2_with (go_at_call 51; refine (leaf_any _ none _ ?_).mono ?_; (focus go_simp); rintro e w' ⟨rfl, rfl⟩)
          go_roundw
          case rel => exact ⟨k + 1, acc' ++ [x], by go_num, by omega, hk2, HHO4.out, by rw [HR.out, runL_cons HB.out], by simp; omega, hc02⟩
          case measure => simp [intOf]; omega


set_option maxRecDepth 100000 in
set_option maxHeartbeats 4000000 in
theorem asc_branch {h : Nat} (ih : AscSpec ord h) : AscSpec ord (h + 1) := by
  intro k0 mn mx w F H T t pa key d hv mt n ob b2 b3 rb acc hF hT hs hmn hit hsrt hmx hpa hma hK hH hHK hFb htb hdh hlen
  obtain ⟨l0, hn0, hblk⟩ := hF.nodeB hT.root
  have n0 := hn0.c0
  have hk : (recOf (h + 1) T).kids = some (T.2.2.map fun c => some (rid c)) := rfl
  have hsl : T.2.1.length ≤ mx := hs.len
  have hkl : T.2.2.length = T.2.1.length + 1 := hs.2.1
  have hdl := upp_len ltM key (toL (h + 1) T)
  have hits : Srt ltM T.2.1 := its_srt hs hsrt
  have hFt : ∀ b, F b → ¬ TakeB ob rb b := fun b hb h => hFb b hb (.inl h)
  have htt : ¬ TakeB ob rb t := fun h => htb t MOwn.self (.inl h)
  have HKL := Lib.hid hkl
  have HLEN := Lib.hid hlen
  have HDL := Lib.hid hdl
  have HK := Lib.hid hK
  have HMA := Lib.hid hma
  have HH := Lib.hid hH
  have HHK := Lib.hid hHK
  have HSRT := Lib.hid hsrt
  have hsc := fun (c : BT (It ord) h) (hcm : c ∈ T.2.2) (w1 : World) (pa1 : Addr) (acc1 : List (It ord)) (hc1 : Chg (fun b _ => HT hv ob rb b) w w1) (hp1 : w1.cell? pa1 = some (.pointer (some ⟨rid c, 0, none⟩))) (h1 : Kept n ob b2 b3 rb w1 acc1) (h2 : acc1.length + (toL h c).length ≤ 1000000000000) =>
    scan_all ord h k0 mn mx w1 F H c t pa1 mt n ob b2 b3 rb acc1 (hF.chg hc1 (fun b o hb h => hFb b hb h)) (hT.kid hcm) (hs.2.2 c hcm).2 hp1 (hc1.cell (a := ⟨t, 0, none⟩) (fun h => htb t MOwn.self h) HMA.out.c0) h1 hFt htt h2
  have hih := fun (i : Nat) (c : BT (It ord) h) (hci : T.2.2[i]? = some c) (hcm : c ∈ T.2.2) (w1 : World) (pa1 : Addr) (hc1 : Chg (fun b _ => HT hv ob rb b) w w1) (hp1 : w1.cell? pa1 = some (.pointer (some ⟨rid c, 0, none⟩))) (h1 : Kept n ob b2 b3 rb w1 acc) (h3 : HintO hv w1) (h2 : acc.length + (toL h c).length ≤ 1000000000000) =>
    ih k0 mn mx w1 F H c t pa1 key (d + 1) hv mt n ob b2 b3 rb acc (hF.chg hc1 (fun b o hb h => hFb b hb h)) (hT.kid hcm) (hs.2.2 c hcm).2 hmn (by have := (hs.2.2 c hcm).1; omega) (sub_srt hs hci HSRT.out) hmx hp1 (HMA.out.chg hc1 (fun b _ hb h => htb b hb h)) h1 h3 HHK.out hFb htb (by omega) h2
  unfold fnG at hsc hih
  unfold hintV at hih
  have HSC := Lib.hid hsc
  have HIH := Lib.hid hih
  clear hK hlen hkl hsc hih hdl hsrt hma hH hHK
  unfold fnG hintV
  go_enter Try.func71, Try.ntmps71
  go_wp2_with fail
  refine name_calls (fun w0 => Chg (fun _ _ => False) w w0 ∧ w0.heap[w.heap.size]? = some (.cells #[.int .i64 key.1, .int .i64 key.2] 27 (0, 0))) ⟨(Chg.refl _ _).alloc _, ha_at _ _ rfl⟩ ?_
  rintro w0 ⟨hc0, hbk⟩
  refine (isoLoad_any t (rid T) k0 pa mt _ (hc0.cell (fun h => h) hpa) (hc0.cell (fun h => h) n0) (hc0.cell (fun h => h) HMA.out.c0)).mono ?_
  rintro e w1 ⟨rfl, m1, hw1⟩
  have hc01 : Chg (fun _ _ => False) w0 w1 := by rw [hw1]; exact (Chg.refl _ _).drewN _
  have hc1 : Chg (fun _ _ => False) w w1 := hc0.trans hc01
  have hbk1 : w1.heap[w.heap.size]? = some (.cells #[.int .i64 key.1, .int .i64 key.2] 27 (0, 0)) := by rw [hc01.block (heap_lt hbk) (fun _ h => h)]; exact hbk
  have q0 := cell_of_block hbk1 0
  have q1 := cell_of_block hbk1 1
  simp only [List.getElem?_toArray, List.getElem?_cons_zero, List.getElem?_cons_succ] at q0 q1
  have hkn : ¬ hv = some w.heap.size := fun e => by have := HH.out.lt e; omega
  clear hw1 n0 hpa hbk hbk1
  have hse := find_o hv t d key (HMA.out.chg hc1 (fun _ _ _ h => h)) (hn0.chg hc1 (fun _ _ _ h => h)) hits (by show T.2.1.length ≤ 1000000; omega) hit (HH.out.keep hc1) (by omega)
  unfold aggM hintV at hse
  have HSE := Lib.hid hse
  clear hse
  go_wp2_with fail
  refine HSE.out.mono ?_
  rintro e w2 ⟨i, f, rfl, hw2, hh2, hf⟩
  have hccH : Chg (fun b _ => hv = some b) w w2 := (hc1.mono (fun _ _ _ h => h.elim)).trans hw2
  have hcc : Chg (fun b _ => HT hv ob rb b) w w2 := hccH.mono (fun _ _ _ h => .inr h)
  replace q0 := hw2.cell (a := ⟨w.heap.size, 0, none⟩) hkn q0
  replace q1 := hw2.cell (a := ⟨w.heap.size, 1, none⟩) hkn q1
  have HH2 := Lib.hid hh2
  have HK2 := Lib.hid (HK.out.hint HHK.out hccH)
  clear hw2 hh2
  rcases hf with ⟨rfl, y, hy⟩ | ⟨rfl, hp⟩
  · have hdw := upp_hit hs HSRT.out hy
    have hil : i < T.2.1.length := (List.getElem?_eq_some_iff.1 hy.at_).1
    have HDW := Lib.hid hdw
    clear hdw hy
    go_wp2_with fail
    go_loopw [16] (fun i' wr => ∃ (k : Nat) (acc' : List (It ord)), i' = .int .i64 k ∧ k ≤ T.2.1.length ∧ Kept n ob b2 b3 rb wr acc' ∧ HintO hv wr ∧ runL (contN n) acc (upp ltM key (toL (h + 1) T)) = runL (contN n) acc' (post (T.2.1.drop k) ((T.2.2.map (toL h)).drop (k + 1))) ∧ acc'.length + (post (T.2.1.drop k) ((T.2.2.map (toL h)).drop (k + 1))).length ≤ 1000000000000 ∧ Chg (fun b _ => HT hv ob rb b) w wr) (fun i' _ => T.2.1.length - (intOf i').toNat)
    case atStart => exact ⟨i, acc, rfl, by omega, HK2.out, HH2.out, by rw [HDW.out], by have := HLEN.out; have h2 := HDL.out; rw [HDW.out] at h2; omega, hcc⟩
    case round =>
      obtain ⟨k, acc', rfl, hkk, hkp, hho, hrun, hal, hc⟩ := hrel
      obtain ⟨l, hn⟩ := (hF.chg hc (fun b o hb h => hFb b hb h)).node hT.root
      have n2 : wr.cell? ⟨rid T, 2, none⟩ = some (.slice (some ⟨l.ib, l.io, none⟩) T.2.1.length l.ic) := hn.c2
      by_cases hlt : k < T.2.1.length
      rotate_left
      · have hnlt : ¬ (k : Int) < (T.2.1.length : Int) := by omega
        rw [post_nil (by omega)] at hrun
        have HR := Lib.hid hrun
        have HKP := Lib.hid hkp
        have HHO := Lib.hid hho
        clear hrun hkp hho
        go_wp2
        go_ret
        unfold RunPostH
        show _ = Ending.returned (.bool (runL (contN n) acc (upp ltM key (toL (h + 1) T))).2) ∧ Kept n ob b2 b3 rb wr (runL (contN n) acc (upp ltM key (toL (h + 1) T))).1 ∧ _ ∧ _
        rw [HR.out]
        exact ⟨rfl, HKP.out, HHO.out, hc⟩
      · obtain ⟨x, hx⟩ : ∃ x, T.2.1[k]? = some x := ⟨_, List.getElem?_eq_getElem (by omega)⟩
        obtain ⟨c, hcj⟩ : ∃ c, T.2.2[k + 1]? = some c := ⟨_, List.getElem?_eq_getElem (by have := HKL.out; omega)⟩
        have hcm : c ∈ T.2.2 := List.mem_of_getElem? hcj
        have hkc := (List.getElem?_eq_some_iff.1 hcj).1
        have htj : (T.2.2.map (toL h))[k + 1]? = some (toL h c) := by simp [hcj]
        have ik := hn.mkey (j := k) hx
        have iv := hn.mval (j := k) hx
        rw [post_drop hx htj] at hrun hal
        have hp := fun w1 (h : Kept n ob b2 b3 rb w1 acc') => taker1_any x h (by omega)
        have HR := Lib.hid hrun
        have HKP := Lib.hid hkp
        have HHO := Lib.hid hho
        have HCJ := Lib.hid hcj
        have HAL := Lib.hid hal
        have i0 : (0 : Int) ≤ (k : Int) := by omega
        have i1 : (k : Int) < (T.2.1.length : Int) := by omega
        have i2 : (k : Int) + 1 < (T.2.2.length : Int) := by omega
        have i3 : (0 : Int) ≤ (k : Int) + 1 := by omega
        have i4 : ((k : Int) + 1).toNat = k + 1 := by omega
        have i5 : IntKind.i64.wrap ((k : Int) + 1) = (k : Int) + 1 := IntWalk.i64_in _ (by omega)
        clear hrun hkp hx hcj htj hal hho
        cases hb : contN n (acc' ++ [x])
        all_goals
          rw [hb] at hp
          have HP := Lib.hid hp
          have HB1 := Lib.hid hb
          clear hp hb
          go_wp2_with fail
          refine (HP.out _ HKP.out).mono ?_
          rintro e w4 ⟨rfl, hk4, hc4⟩
          have hho4 := HHO.out.chg hc4 (fun b _ hb => HHK.out.take hb)
          have hc04 := hc.trans (hc4.mono (B := fun b _ => HT hv ob rb b) (fun _ _ _ h => .inl h))
          have HHO4 := Lib.hid hho4
          have HK4 := Lib.hid hk4
          clear hk4 hho4
        · go_wp2
          go_ret
          unfold RunPostH
          show _ = Ending.returned (.bool (runL (contN n) acc (upp ltM key (toL (h + 1) T))).2) ∧ Kept n ob b2 b3 rb w4 (runL (contN n) acc (upp ltM key (toL (h + 1) T))).1 ∧ _ ∧ _
          rw [HR.out, runL_stop HB1.out]
          exact ⟨rfl, HK4.out, HHO4.out, hc04⟩
        · obtain ⟨l4, hn4⟩ := (hF.chg hc04 (fun b o hb h => hFb b hb h)).node hT.root
          have n3 := hn4.c3s hk
          have nc := hn4.cc hk
          rw [List.length_map] at nc
          have kc : w4.cell? ⟨l4.cb, l4.co + (k + 1), none⟩ = some (.pointer (some ⟨rid c, 0, none⟩)) := hn4.kidc hk (j := k + 1) (o := some (rid c)) (by simp [HCJ.out])
          clear n2 ik iv
          cases hb2 : (runL (contN n) (acc' ++ [x]) (toL h c)).2
          all_goals
            have hkid := HSC.out c hcm w4 ⟨l4.cb, l4.co + (k + 1), none⟩ (acc' ++ [x]) hc04 kc HK4.out (by have := HAL.out; simp only [List.length_append, List.length_cons, List.length_nil] at this ⊢; omega)
            unfold RunPost at hkid
            rw [hb2] at hkid
            have HKID := Lib.hid hkid
            have HB2 := Lib.hid hb2
            clear hkid hb2
            go_wp2_with (go_at_call 51; refine (leaf_any _ (some ⟨l4.cc, 0, none⟩) _ ?_).mono ?_; (focus go_simp); rintro e w' ⟨rfl, rfl⟩)
            refine HKID.out.mono ?_
            rintro e w5 ⟨rfl, hk5, hc5⟩
            have hho5 := HHO4.out.chg hc5 (fun b _ hb => HHK.out.take hb)
            have hc05 := hc04.trans (hc5.mono (B := fun b _ => HT hv ob rb b) (fun _ _ _ h => .inl h))
            have HHO5 := Lib.hid hho5
            have HK5 := Lib.hid hk5
            clear hk5 hho5
          · go_wp2
            go_ret
            unfold RunPostH
            show _ = Ending.returned (.bool (runL (contN n) acc (upp ltM key (toL (h + 1) T))).2) ∧ Kept n ob b2 b3 rb w5 (runL (contN n) acc (upp ltM key (toL (h + 1) T))).1 ∧ _ ∧ _
            rw [HR.out, runL_cons HB1.out, runL_app_false HB2.out, HB2.out]
            exact ⟨rfl, HK5.out, HHO5.out, hc05⟩
          · have hrt2 := runL_true _ _ _ HB2.out
            have HRT2 := Lib.hid hrt2
            clear hrt2
            go_wp2
            go_roundw
            case rel => exact ⟨k + 1, _, by go_num, by omega, HK5.out, HHO5.out, by rw [HR.out, runL_cons HB1.out, runL_app_true HB2.out], by rw [HRT2.out]; have := HAL.out; simp only [List.length_append, List.length_cons, List.length_nil] at this ⊢; omega, hc05⟩
            case measure => simp [intOf]; omega
  · obtain ⟨c, hcj⟩ : ∃ c, T.2.2[i]? = some c := ⟨_, List.getElem?_eq_getElem (by have := HKL.out; have h2 : i ≤ T.2.1.length := hp.le; omega)⟩
    have hcm : c ∈ T.2.2 := List.mem_of_getElem? hcj
    have hkc := (List.getElem?_eq_some_iff.1 hcj).1
    have hdw := upp_kid hs hcj HSRT.out hp
    have hil : i ≤ T.2.1.length := hp.le
    obtain ⟨l2, hn2, hblk2⟩ := (hF.chg hcc (fun b o hb h => hFb b hb h)).nodeB hT.root
    have n3 := hn2.c3s hk
    have nc := hn2.cc hk
    rw [List.length_map] at nc
    have kc : w2.cell? ⟨l2.cb, l2.co + i, none⟩ = some (.pointer (some ⟨rid c, 0, none⟩)) := hn2.kidc hk (j := i) (o := some (rid c)) (by simp [hcj])
    have hrb2 : ¬ HT hv ob rb (rid T) := hFb _ (hblk2 _ (.inl rfl))
    have hcb2 : ¬ HT hv ob rb l2.cc := hFb _ (hblk2 _ (.inr (.inr ⟨by rw [hk]; simp, .inl rfl⟩)))
    have hcl : acc.length + (toL h c).length ≤ 1000000000000 := by
      have h1 := HLEN.out
      have h2 := kid_lt hs hcm hit
      omega
    have hkid0 := HIH.out i c hcj hcm w2.drew ⟨l2.cb, l2.co + i, none⟩ hcc.drew kc (HK2.out.keep (Chg.refl _ _).drew) (HH2.out.keep (Chg.refl _ _).drew) hcl
    have hd1 : ((d + 1 : Nat) : Int) = IntKind.i64.wrap ((d : Int) + 1) := by rw [IntWalk.i64_in _ (by omega)]; omega
    rw [hd1] at hkid0
    have HDW := Lib.hid hdw
    have i0 : (0 : Int) ≤ (i : Int) := by omega
    have i1 : (i : Int) < (T.2.2.length : Int) := by omega
    have i2 : (i : Int) ≤ 1000 := by omega
    have i3 : (d : Int) ≤ 1000000000000 := by omega
    have i4 : (0 : Int) ≤ (d : Int) := by omega
    clear hdw hp hcj hcl hd1
    cases hb0 : (runL (contN n) acc (upp ltM key (toL h c))).2
    all_goals
      have hkid := hkid0
      unfold RunPostH at hkid
      rw [hb0] at hkid
      have HKID := Lib.hid hkid
      have HB0 := Lib.hid hb0
      clear hkid hb0 hkid0
      go_wp2_with fail
      refine (leaf_any _ (some ⟨l2.cc, 0, none⟩) _ n3).mono ?_
      rintro e w' ⟨rfl, rfl⟩
      go_wp2_with fail
      refine wp_region_call (fun w' => w'.cell? ⟨rid T, 3, none⟩ = some (.pointer (some ⟨l2.cc, 0, none⟩)) ∧ w'.cell? ⟨l2.cc, 0, none⟩ = some (.slice (some ⟨l2.cb, l2.co, none⟩) T.2.2.length l2.ck) ∧ w'.cell? ⟨w.heap.size, 0, none⟩ = some (.int .i64 key.1) ∧ w'.cell? ⟨w.heap.size, 1, none⟩ = some (.int .i64 key.2))
        15 [0, 1, 2, 3, 4, 5, 6, 7, 8, 9, 10, 11, 12, 13, 14] _ [16] (by kernel_rfl) (by kernel_rfl) (fun _ _ _ _ _ h => h) rfl rfl rfl ⟨n3, nc, q0, q1⟩ ?_
      simp only [pickOps, List.filterMap_cons, List.filterMap_nil, List.getElem?_cons_zero, List.getElem?_cons_succ]
      refine wpSoft_step ?_ rfl ?_ ?_
      rotate_left
      · intro w' hS
        try obtain ⟨a1, a2, a3, a4⟩ := hS
        go_simp
        try with_reducible rfl
      simp only [Act.put, List.setIfInBounds_toArray, List.set_cons_zero, List.set_cons_succ]
      refine wpSoft_step ?_ rfl ?_ ?_
      rotate_left
      · intro w' hS
        try obtain ⟨a1, a2, a3, a4⟩ := hS
        go_simp
        try with_reducible rfl
      simp only [Act.put, List.setIfInBounds_toArray, List.set_cons_zero, List.set_cons_succ]
      refine wpSoft_step ?_ rfl ?_ ?_
      rotate_left
      · intro w' hS
        try obtain ⟨a1, a2, a3, a4⟩ := hS
        go_simp
        try with_reducible rfl
      simp only [Act.put, List.setIfInBounds_toArray, List.set_cons_zero, List.set_cons_succ]
      refine wpSoft_step ?_ rfl ?_ ?_
      rotate_left
      · intro w' hS
        try obtain ⟨a1, a2, a3, a4⟩ := hS
        go_simp
        try with_reducible rfl
      simp only [Act.put, List.setIfInBounds_toArray, List.set_cons_zero, List.set_cons_succ]
      refine wpSoft_step ?_ rfl ?_ ?_
      rotate_left
      · intro w' hS
        try obtain ⟨a1, a2, a3, a4⟩ := hS
        go_simp
        try with_reducible rfl
      simp only [Act.put, List.setIfInBounds_toArray, List.set_cons_zero, List.set_cons_succ]
      refine wpSoft_step ?_ rfl ?_ ?_
      rotate_left
      · intro w' hS
        try obtain ⟨a1, a2, a3, a4⟩ := hS
        go_simp
        try with_reducible rfl
      simp only [Act.put, List.setIfInBounds_toArray, List.set_cons_zero, List.set_cons_succ]
      refine wpSoft_step ?_ rfl ?_ ?_
      rotate_left
      · intro w' hS
        try obtain ⟨a1, a2, a3, a4⟩ := hS
        go_simp
        try with_reducible rfl
      simp only [Act.put, List.setIfInBounds_toArray, List.set_cons_zero, List.set_cons_succ]
      refine wpSoft_step ?_ rfl ?_ ?_
      rotate_left
      · intro w' hS
        try obtain ⟨a1, a2, a3, a4⟩ := hS
        go_simp
        try with_reducible rfl
      simp only [Act.put, List.setIfInBounds_toArray, List.set_cons_zero, List.set_cons_succ]
      refine wpSoft_step ?_ rfl ?_ ?_
      rotate_left
      · intro w' hS
        try obtain ⟨a1, a2, a3, a4⟩ := hS
        go_simp
        try with_reducible rfl
      simp only [Act.put, List.setIfInBounds_toArray, List.set_cons_zero, List.set_cons_succ]
      refine wpSoft_step ?_ rfl ?_ ?_
      rotate_left
      · intro w' hS
        try obtain ⟨a1, a2, a3, a4⟩ := hS
        go_simp
        try with_reducible rfl
      simp only [Act.put, List.setIfInBounds_toArray, List.set_cons_zero, List.set_cons_succ]
      refine wpSoft_step ?_ rfl ?_ ?_
      rotate_left
      · intro w' hS
        try obtain ⟨a1, a2, a3, a4⟩ := hS
        go_simp
        try with_reducible rfl
      simp only [Act.put, List.setIfInBounds_toArray, List.set_cons_zero, List.set_cons_succ]
      refine wpSoft_step ?_ rfl ?_ ?_
      rotate_left
      · intro w' hS
        try obtain ⟨a1, a2, a3, a4⟩ := hS
        go_simp
        try with_reducible rfl
      simp only [Act.put, List.setIfInBounds_toArray, List.set_cons_zero, List.set_cons_succ]
      refine wpSoft_step ?_ rfl ?_ ?_
      rotate_left
      · intro w' hS
        try obtain ⟨a1, a2, a3, a4⟩ := hS
        go_simp
        try with_reducible rfl
      simp only [Act.put, List.setIfInBounds_toArray, List.set_cons_zero, List.set_cons_succ]
      refine wpSoft_step ?_ rfl ?_ ?_
      rotate_left
      · intro w' hS
        try obtain ⟨a1, a2, a3, a4⟩ := hS
        go_simp
        try with_reducible rfl
      simp only [Act.put, List.setIfInBounds_toArray, List.set_cons_zero, List.set_cons_succ]
      refine wpSoft_step ?_ rfl ?_ ?_
      rotate_left
      · intro w' hS
        try obtain ⟨a1, a2, a3, a4⟩ := hS
        go_simp
        try with_reducible rfl
      simp only [Act.put, List.setIfInBounds_toArray, List.set_cons_zero, List.set_cons_succ]
      refine wpSoft_nil ?_
      refine wp_hide (fun K hK => ?_)
      go_simp
      refine HKID.out.mono ?_
      rintro e w3 ⟨rfl, hk3, hho3, hc3⟩
      refine hK _ _ ?_
      clear hK K
      refine wpSoft_step ?_ rfl ?_ ?_
      rotate_left
      · intro w' hS
        try obtain ⟨a1⟩ := hS
        go_simp
        try with_reducible rfl
      simp only [Act.put, List.setIfInBounds_toArray, List.set_cons_zero, List.set_cons_succ]
      refine wpSoft_nil ?_
      have hc03 := hcc.drew.trans hc3
      have HK3 := Lib.hid hk3
      have HHO3 := Lib.hid hho3
      clear hk3 hho3 n3 nc kc
    · go_wp2
      go_ret
      unfold RunPostH
      show _ = Ending.returned (.bool (runL (contN n) acc (upp ltM key (toL (h + 1) T))).2) ∧ Kept n ob b2 b3 rb w3 (runL (contN n) acc (upp ltM key (toL (h + 1) T))).1 ∧ _ ∧ _
      rw [HDW.out, runL_app_false HB0.out, HB0.out]
      exact ⟨rfl, HK3.out, HHO3.out, hc03⟩
    · have hrt := runL_true _ _ _ HB0.out
      have HRT := Lib.hid hrt
      clear hrt
      go_wp2
      go_loopw [16] (fun i' wr => ∃ (k : Nat) (acc' : List (It ord)), i' = .int .i64 k ∧ k ≤ T.2.1.length ∧ Kept n ob b2 b3 rb wr acc' ∧ HintO hv wr ∧ runL (contN n) acc (upp ltM key (toL (h + 1) T)) = runL (contN n) acc' (post (T.2.1.drop k) ((T.2.2.map (toL h)).drop (k + 1))) ∧ acc'.length + (post (T.2.1.drop k) ((T.2.2.map (toL h)).drop (k + 1))).length ≤ 1000000000000 ∧ Chg (fun b _ => HT hv ob rb b) w wr) (fun i' _ => T.2.1.length - (intOf i').toNat)
      case atStart => exact ⟨i, _, rfl, hil, HK3.out, HHO3.out, by rw [HDW.out, runL_app_true HB0.out], by rw [HRT.out]; have h1 := HLEN.out; have h2 := HDL.out; rw [HDW.out] at h2; simp only [List.length_append] at h2 ⊢; omega, hc03⟩
      case round =>
        obtain ⟨k, acc', rfl, hkk, hkp, hho, hrun, hal, hc⟩ := hrel
        obtain ⟨l, hn⟩ := (hF.chg hc (fun b o hb h => hFb b hb h)).node hT.root
        have n2 : wr.cell? ⟨rid T, 2, none⟩ = some (.slice (some ⟨l.ib, l.io, none⟩) T.2.1.length l.ic) := hn.c2
        by_cases hlt : k < T.2.1.length
        rotate_left
        · have hnlt : ¬ (k : Int) < (T.2.1.length : Int) := by omega
          rw [post_nil (by omega)] at hrun
          have HR := Lib.hid hrun
          have HKP := Lib.hid hkp
          have HHO := Lib.hid hho
          clear hrun hkp hho
          go_wp2
          go_ret
          unfold RunPostH
          show _ = Ending.returned (.bool (runL (contN n) acc (upp ltM key (toL (h + 1) T))).2) ∧ Kept n ob b2 b3 rb wr (runL (contN n) acc (upp ltM key (toL (h + 1) T))).1 ∧ _ ∧ _
          rw [HR.out]
          exact ⟨rfl, HKP.out, HHO.out, hc⟩
        · obtain ⟨x, hx⟩ : ∃ x, T.2.1[k]? = some x := ⟨_, List.getElem?_eq_getElem (by omega)⟩
          obtain ⟨c, hcj⟩ : ∃ c, T.2.2[k + 1]? = some c := ⟨_, List.getElem?_eq_getElem (by have := HKL.out; omega)⟩
          have hcm : c ∈ T.2.2 := List.mem_of_getElem? hcj
          have hkc := (List.getElem?_eq_some_iff.1 hcj).1
          have htj : (T.2.2.map (toL h))[k + 1]? = some (toL h c) := by simp [hcj]
          have ik := hn.mkey (j := k) hx
          have iv := hn.mval (j := k) hx
          rw [post_drop hx htj] at hrun hal
          have hp := fun w1 (h : Kept n ob b2 b3 rb w1 acc') => taker1_any x h (by omega)
          have HR := Lib.hid hrun
          have HKP := Lib.hid hkp
          have HHO := Lib.hid hho
          have HCJ := Lib.hid hcj
          have HAL := Lib.hid hal
          have i0 : (0 : Int) ≤ (k : Int) := by omega
          have i1 : (k : Int) < (T.2.1.length : Int) := by omega
          have i2 : (k : Int) + 1 < (T.2.2.length : Int) := by omega
          have i3 : (0 : Int) ≤ (k : Int) + 1 := by omega
          have i4 : ((k : Int) + 1).toNat = k + 1 := by omega
          have i5 : IntKind.i64.wrap ((k : Int) + 1) = (k : Int) + 1 := IntWalk.i64_in _ (by omega)
          clear hrun hkp hx hcj htj hal hho
          cases hb : contN n (acc' ++ [x])
          all_goals
            rw [hb] at hp
            have HP := Lib.hid hp
            have HB1 := Lib.hid hb
            clear hp hb
            go_wp2_with fail
            refine (HP.out _ HKP.out).mono ?_
            rintro e w4 ⟨rfl, hk4, hc4⟩
            have hho4 := HHO.out.chg hc4 (fun b _ hb => HHK.out.take hb)
            have hc04 := hc.trans (hc4.mono (B := fun b _ => HT hv ob rb b) (fun _ _ _ h => .inl h))
            have HHO4 := Lib.hid hho4
            have HK4 := Lib.hid hk4
            clear hk4 hho4
          · go_wp2
            go_ret
            unfold RunPostH
            show _ = Ending.returned (.bool (runL (contN n) acc (upp ltM key (toL (h + 1) T))).2) ∧ Kept n ob b2 b3 rb w4 (runL (contN n) acc (upp ltM key (toL (h + 1) T))).1 ∧ _ ∧ _
            rw [HR.out, runL_stop HB1.out]
            exact ⟨rfl, HK4.out, HHO4.out, hc04⟩
          · obtain ⟨l4, hn4⟩ := (hF.chg hc04 (fun b o hb h => hFb b hb h)).node hT.root
            have n3 := hn4.c3s hk
            have nc := hn4.cc hk
            rw [List.length_map] at nc
            have kc : w4.cell? ⟨l4.cb, l4.co + (k + 1), none⟩ = some (.pointer (some ⟨rid c, 0, none⟩)) := hn4.kidc hk (j := k + 1) (o := some (rid c)) (by simp [HCJ.out])
            clear n2 ik iv
            cases hb2 : (runL (contN n) (acc' ++ [x]) (toL h c)).2
            all_goals
              have hkid := HSC.out c hcm w4 ⟨l4.cb, l4.co + (k + 1), none⟩ (acc' ++ [x]) hc04 kc HK4.out (by have := HAL.out; simp only [List.length_append, List.length_cons, List.length_nil] at this ⊢; omega)
              unfold RunPost at hkid
              rw [hb2] at hkid
              have HKID := Lib.hid hkid
              have HB2 := Lib.hid hb2
              clear hkid hb2
              go_wp2_with (go_at_call 51; refine (leaf_any _ (some ⟨l4.cc, 0, none⟩) _ ?_).mono ?_; (focus go_simp); rintro e w' ⟨rfl, rfl⟩)
              refine HKID.out.mono ?_
              rintro e w5 ⟨rfl, hk5, hc5⟩
              have hho5 := HHO4.out.chg hc5 (fun b _ hb => HHK.out.take hb)
              have hc05 := hc04.trans (hc5.mono (B := fun b _ => HT hv ob rb b) (fun _ _ _ h => .inl h))
              have HHO5 := Lib.hid hho5
              have HK5 := Lib.hid hk5
              clear hk5 hho5
            · go_wp2
              go_ret
              unfold RunPostH
              show _ = Ending.returned (.bool (runL (contN n) acc (upp ltM key (toL (h + 1) T))).2) ∧ Kept n ob b2 b3 rb w5 (runL (contN n) acc (upp ltM key (toL (h + 1) T))).1 ∧ _ ∧ _
              rw [HR.out, runL_cons HB1.out, runL_app_false HB2.out, HB2.out]
              exact ⟨rfl, HK5.out, HHO5.out, hc05⟩
            · have hrt2 := runL_true _ _ _ HB2.out
              have HRT2 := Lib.hid hrt2
              clear hrt2
              go_wp2
              go_roundw
              case rel => exact ⟨k + 1, _, by go_num, by omega, HK5.out, HHO5.out, by rw [HR.out, runL_cons HB1.out, runL_app_true HB2.out], by rw [HRT2.out]; have := HAL.out; simp only [List.length_append, List.length_cons, List.length_nil] at this ⊢; omega, hc05⟩
              case measure => simp [intOf]; omega

theorem asc_all : (h : Nat) → AscSpec ord h
  | 0 => asc_leaf
  | h + 1 => asc_branch (asc_all h)
end Go.Proofs.Ytnohimhihombmaa

namespace Go.Proofs.Ytnohimhihombmaa
set_option linter.unusedSimpArgs false
set_option linter.unusedVariables false
open Go.RowKit
variable {ord : List Int}

/-- The items that do not come behind x. -/
def dwn (lt : It ord → It ord → Bool) (x : It ord) (l : List (It ord)) : List (It ord) := l.takeWhile fun y => !lt x y

theorem dwn_pre {lt : It ord → It ord → Bool} {x : It ord} : ∀ {A B : List (It ord)}, (∀ a ∈ A, lt x a = false) → dwn lt x (A ++ B) = A ++ dwn lt x B
  | [], _, _ => rfl
  | a :: A, B, h => by
    have h1 := h a List.mem_cons_self
    have h2 := dwn_pre (B := B) (fun b hb => h b (List.mem_cons_of_mem _ hb))
    unfold dwn at h2 ⊢
    rw [List.cons_append, List.takeWhile_cons, h1]
    simp [h2]

theorem dwn_none {lt : It ord → It ord → Bool} {x : It ord} : ∀ {C : List (It ord)}, (∀ c ∈ C, lt x c = true) → dwn lt x C = []
  | [], _ => rfl
  | c :: C, h => by unfold dwn; rw [List.takeWhile_cons, h c List.mem_cons_self]; simp

theorem dwn_post {lt : It ord → It ord → Bool} {x : It ord} : ∀ {B C : List (It ord)}, (∀ c ∈ C, lt x c = true) → dwn lt x (B ++ C) = dwn lt x B
  | [], C, h => dwn_none h
  | b :: B, C, h => by
    have h2 := dwn_post (B := B) h
    unfold dwn at h2 ⊢
    rw [List.cons_append, List.takeWhile_cons, List.takeWhile_cons, h2]

theorem dwn_cut {lt : It ord → It ord → Bool} (s : Swo lt) {x y : It ord} {Q B : List (It ord)} (hs : Srt lt (Q ++ y :: B)) (n1 : lt y x = false) (n2 : lt x y = false) : dwn lt x (Q ++ y :: B) = Q ++ [y] := by
  obtain ⟨_, h2, h3⟩ := List.pairwise_append.1 hs
  obtain ⟨h4, _⟩ := List.pairwise_cons.1 h2
  have e : Q ++ y :: B = (Q ++ [y]) ++ B := by simp
  rw [e, dwn_pre, dwn_none, List.append_nil]
  · intro c hc; exact s.lt_of_nlt_of_lt n1 (h4 c hc)
  · intro a ha
    rcases List.mem_append.1 ha with ha | ha
    · exact s.asymm _ _ (s.lt_of_lt_of_nlt (h3 a ha y List.mem_cons_self) n2)
    · rw [List.mem_singleton.1 ha]; exact n2

theorem dwn_leaf_pos {x : It ord} {l : List (It ord)} {i : Nat} (h : PosAt ltM l x i) : dwn ltM x l = l.take i := by
  obtain ⟨h1, h2⟩ := pos_mem h
  conv => lhs; rw [← List.take_append_drop i l]
  rw [dwn_pre (fun a ha => swoM.asymm _ _ (h1 a ha)), dwn_none h2, List.append_nil]

theorem dwn_leaf_hit {x y : It ord} {l : List (It ord)} {i : Nat} (hs : Srt ltM l) (h : HitAt ltM l x i y) : dwn ltM x l = l.take (i + 1) := by
  have hi := (List.getElem?_eq_some_iff.1 h.at_).1
  have e : l = l.take i ++ y :: l.drop (i + 1) := split_at h.at_
  have e2 : l.take (i + 1) = l.take i ++ [y] := by rw [List.take_add_one, h.at_]; rfl
  rw [e2]
  conv => lhs; rw [e]
  exact dwn_cut swoM (by rw [← e]; exact hs) h.n1 h.n2

theorem dwn_kid {h : Nat} {T : BT (It ord) (h + 1)} {mn mx i : Nat} {c : BT (It ord) h} {x : It ord} (hs : Sh mn mx (h + 1) T) (hc : T.2.2[i]? = some c) (hsrt : Srt ltM (toL (h + 1) T)) (hp : PosAt ltM T.2.1 x i) :
    dwn ltM x (toL (h + 1) T) = pre (T.2.1.take i) ((T.2.2.map (toL h)).take i) ++ dwn ltM x (toL h c) := by
  obtain ⟨h1, h2⟩ := around swoM hs hc hsrt hp
  rw [toL_at hs hc, List.append_assoc, dwn_pre (fun a ha => swoM.asymm _ _ (h1 a ha)), dwn_post h2]

theorem dwn_hit {h : Nat} {T : BT (It ord) (h + 1)} {mn mx i : Nat} {x y : It ord} (hs : Sh mn mx (h + 1) T) (hsrt : Srt ltM (toL (h + 1) T)) (hy : HitAt ltM T.2.1 x i y) :
    dwn ltM x (toL (h + 1) T) = pre (T.2.1.take (i + 1)) ((T.2.2.map (toL h)).take (i + 1)) := by
  have hi := (List.getElem?_eq_some_iff.1 hy.at_).1
  have hml : (T.2.2.map (toL h)).length = T.2.1.length + 1 := by simpa using hs.2.1
  obtain ⟨t, ht⟩ : ∃ t, (T.2.2.map (toL h))[i]? = some t := ⟨_, List.getElem?_eq_getElem (by omega)⟩
  have e : toL (h + 1) T = pre (T.2.1.take (i + 1)) ((T.2.2.map (toL h)).take (i + 1)) ++ inter (T.2.1.drop (i + 1)) ((T.2.2.map (toL h)).drop (i + 1)) := inter_pre _ _ (i + 1) hml (by omega)
  have e3 : pre (T.2.1.take (i + 1)) ((T.2.2.map (toL h)).take (i + 1)) = (pre (T.2.1.take i) ((T.2.2.map (toL h)).take i) ++ t) ++ [y] := by rw [pre_step hy.at_ ht]; simp
  rw [e3] at e ⊢
  have e4 : toL (h + 1) T = (pre (T.2.1.take i) ((T.2.2.map (toL h)).take i) ++ t) ++ y :: inter (T.2.1.drop (i + 1)) ((T.2.2.map (toL h)).drop (i + 1)) := by rw [e]; simp
  rw [e4]
  exact dwn_cut swoM (by rw [← e4]; exact hsrt) hy.n1 hy.n2

theorem dwn_len (lt : It ord → It ord → Bool) (x : It ord) (l : List (It ord)) : (dwn lt x l).length ≤ l.length := (List.takeWhile_sublist _).length_le







end Go.Proofs.Ytnohimhihombmaa

namespace Go.Proofs.Ytnohimhihombmaa
set_option linter.unusedSimpArgs false
set_option linter.unusedVariables false
open Go.RowKit

def RunEnd (n : Int) (ob b2 b3 rb : Nat) (acc l : List (Int × Int)) (w : World) (e : Ending) (w' : World) : Prop :=
  e = .returned (.tuple #[]) ∧ Kept n ob b2 b3 rb w' (runL (contN n) acc l).1 ∧ Chg (fun b _ => TakeB ob rb b) w w'









theorem SlE.take {α : Type} {p : El α} {w : World} {a : Option Addr} {cap : Nat} {xs : List α} (h : SlE p w (.slice a xs.length cap) xs) (k : Nat) (hk : k ≤ xs.length) : SlE p w (.slice a k cap) (xs.take k) := by
  obtain ⟨a', cap', h1, h2, h3⟩ := h
  injection h1 with e1 e2 e3
  subst e1 e3
  have hl : (xs.take k).length = k := by simp; omega
  refine ⟨a, cap, by rw [hl], by omega, ?_⟩
  rcases h3 with rfl | ⟨b, o, rfl, hc⟩
  · exact .inl (by simp)
  · refine .inr ⟨b, o, rfl, fun j u hj => hc j u ?_⟩
    have e : flat p.par (xs.take k) = (flat p.par xs).take (k * p.par.es) := (flat_take p.par xs k).symm
    rw [e] at hj
    have hjl : j < k * p.par.es := by
      have := (List.getElem?_eq_some_iff.1 hj).1
      simp at this; omega
    rw [List.getElem?_take_of_lt hjl] at hj
    exact hj

theorem First_any (v : Value) (xs : List (Int × Int)) (n : Int) (w : World) (h : SlE itemE w v xs) (hlen : xs.length ≤ 2147483648) :
    Calls Try.prog 57 #[v, .int .i64 n] w fun e w' => ∃ v', e = .returned v' ∧ SlE itemE w' v' (firstN n xs) ∧ Chg (fun _ _ => False) w w' := by
  obtain ⟨a, cap, rfl⟩ := h.form
  obtain ⟨_, _, _, hcap0, _⟩ := id h
  have hcap : xs.length ≤ cap := by
    obtain ⟨a', cap', e, h2, _⟩ := id h
    injection e with e1 e2 e3
    omega
  have HS := Lib.hid h
  clear h
  by_cases h1 : n < 1
  · have hf : firstN n xs = xs := by unfold firstN; rw [if_pos (.inl h1)]
    rw [hf]
    go_enter Try.func57, Try.ntmps57
    go_wp2
    go_ret
    exact ⟨_, rfl, HS.out, Chg.refl _ _⟩
  by_cases h2 : (xs.length : Int) < n
  · have hf : firstN n xs = xs := by unfold firstN; rw [if_pos (.inr h2)]
    rw [hf]
    go_enter Try.func57, Try.ntmps57
    go_wp2
    go_ret
    exact ⟨_, rfl, HS.out, Chg.refl _ _⟩
  · obtain ⟨k, rfl⟩ : ∃ k : Nat, n = (k : Int) := ⟨n.toNat, by omega⟩
    have hf : firstN (k : Int) xs = xs.take k := by unfold firstN; rw [if_neg (by omega)]; simp
    rw [hf]
    have k0 : (0 : Int) ≤ (k : Int) := by omega
    have k1 : (k : Int) ≤ (cap : Int) := by omega
    have k2 : k ≤ cap := by omega
    have ht := HS.out.take k (by omega)
    have HT := Lib.hid ht
    clear ht hf
    go_enter Try.func57, Try.ntmps57
    go_wp2
    go_ret
    exact ⟨_, rfl, HT.out, Chg.refl _ _⟩



theorem firstN_len {α : Type} (n : Int) (l : List α) : (firstN n l).length ≤ l.length := by
  unfold firstN
  split
  · exact Nat.le_refl _
  · simp; omega



end Go.Proofs.Ytnohimhihombmaa

namespace Go.Proofs.Ytnohimhihombmaa
set_option linter.unusedSimpArgs false
set_option linter.unusedVariables false
open Go.RowKit

def RunEndH (hv : Option Nat) (n : Int) (ob b2 b3 rb : Nat) (acc l : List (Int × Int)) (w : World) (e : Ending) (w' : World) : Prop :=
  e = .returned (.tuple #[]) ∧ Kept n ob b2 b3 rb w' (runL (contN n) acc l).1 ∧ HintO hv w' ∧ Chg (fun b _ => HT hv ob rb b) w w'

theorem height_le {α : Type} {mn mx : Nat} (hmn : 1 ≤ mn) : (h : Nat) → (T : BT α h) → Sh mn mx h T → 1 ≤ (its T).length → h ≤ (toL h T).length
  | 0, _, _, _ => Nat.zero_le _
  | h + 1, T, hs, h1 => by
    obtain ⟨c, hc⟩ : ∃ c, T.2.2[0]? = some c := ⟨_, List.getElem?_eq_getElem (by have := hs.2.1; omega)⟩
    have hcm : c ∈ T.2.2 := List.mem_of_getElem? hc
    have h2 := height_le hmn h c (hs.2.2 c hcm).2 (by have := (hs.2.2 c hcm).1; omega)
    have h3 := kid_lt hs hcm h1
    omega

set_option maxRecDepth 100000 in
theorem ascendH_any {ord : List Int} {k0 : Kc ord} {mn mx : Nat} {w : World} {F : Nat → Prop} {t : Nat} {l : List (It ord)} (key : It ord) (mt : Bool) (hv : Option Nat) {n : Int} {ob b2 b3 rb : Nat} {acc : List (It ord)} (hM : MapIn k0 mn mx w F t l) (hmn : 1 ≤ mn) (hK : Kept n ob b2 b3 rb w acc) (hH : HintO hv w) (hHK : HintK hv ob b2 b3 rb) (hFb : ∀ b, F b → ¬ HT hv ob rb b) (htb : ∀ b, MOwn k0 t b → ¬ HT hv ob rb b) (hlen : acc.length + l.length ≤ 1000000000000) :
    Calls Try.prog 52 #[.pointer (some ⟨t, 0, none⟩), .agg #[.int .i64 key.1, .int .i64 key.2], fnG b2 b3, .bool mt, hintV hv] w (RunEndH hv n ob b2 b3 rb acc (upp ltM key l) w) := by
  rcases hM with ⟨rfl, _, hB⟩ | ⟨H, h, T, hI, hB, rfl, h1⟩
  · have hca := (Chg.refl (fun _ _ => False) w).alloc (.cells #[.int .i64 key.1, .int .i64 key.2] 27)
    have c2 : (w.alloc (.cells #[.int .i64 key.1, .int .i64 key.2] 27)).cell? ⟨t, 2, none⟩ = some (.pointer none) := hca.cell (fun h => h) hB.c2
    have HK := Lib.hid (hK.keep hca)
    have HH := Lib.hid (hH.keep hca)
    clear hK hB hH
    unfold fnG hintV
    go_enter Try.func52, Try.ntmps52
    go_wp2_with fail
    refine (lock_any t mt _).mono ?_
    rintro e w' ⟨rfl, rfl⟩
    go_wp2
    go_end0
    exact ⟨rfl, HK.out, HH.out, hca.mono (fun _ _ _ h => h.elim)⟩
  · have HB := Lib.hid hB
    have hhl := height_le hmn h T hI.sh h1
    have hr := fun (w1 : World) (c : Chg (fun _ _ => False) w w1) => asc_all h k0 mn mx w1 F H T t ⟨t, 2, none⟩ key 0 hv mt n ob b2 b3 rb acc (hI.fam.chg c (fun _ _ _ h => h)) hI.isT hI.sh hmn h1 hI.srt hI.m1000 (c.cell (fun h => h) hB.c2) (hB.at_.chg c (fun _ _ _ h => h)) (hK.keep c) (hH.keep c) hHK hFb htb (by omega) hlen
    rw [show ((0 : Nat) : Int) = 0 from rfl] at hr
    unfold fnG hintV at hr ⊢
    have HR := Lib.hid hr
    clear hr hK hB hH
    go_enter Try.func52, Try.ntmps52
    go_wp2_with fail
    refine name_calls (fun w1 => Chg (fun _ _ => False) w w1 ∧ w1.heap[w.heap.size]? = some (.cells #[.int .i64 key.1, .int .i64 key.2] 27 (0, 0))) ⟨(Chg.refl _ _).alloc _, ha_at _ _ rfl⟩ ?_
    rintro w1 ⟨hc1, hb1⟩
    have q0 := cell_of_block hb1 0
    have q1 := cell_of_block hb1 1
    simp only [List.getElem?_toArray, List.getElem?_cons_zero, List.getElem?_cons_succ] at q0 q1
    have c2 : w1.cell? ⟨t, 2, none⟩ = some (.pointer (some ⟨rid T, 0, none⟩)) := hc1.cell (fun h => h) HB.out.c2
    clear hb1
    refine (lock_any t mt _).mono ?_
    rintro e w' ⟨rfl, rfl⟩
    go_wp2_with fail
    refine wp_region_call (fun w' => w'.cell? ⟨w.heap.size, 0, none⟩ = some (.int .i64 key.1) ∧ w'.cell? ⟨w.heap.size, 1, none⟩ = some (.int .i64 key.2))
      8 [0, 1, 2, 3, 4, 5, 6, 7] _ [] (by kernel_rfl) (by kernel_rfl) (fun _ _ _ _ _ h => h) rfl rfl rfl ⟨q0, q1⟩ ?_
    simp only [pickOps, List.filterMap_cons, List.filterMap_nil, List.getElem?_cons_zero, List.getElem?_cons_succ]
    refine wpSoft_step ?_ rfl ?_ ?_
    rotate_left
    · intro w' hS
      try obtain ⟨a1, a2⟩ := hS
      go_simp
      try with_reducible rfl
    simp only [Act.put, List.setIfInBounds_toArray, List.set_cons_zero, List.set_cons_succ]
    refine wpSoft_step ?_ rfl ?_ ?_
    rotate_left
    · intro w' hS
      try obtain ⟨a1, a2⟩ := hS
      go_simp
      try with_reducible rfl
    simp only [Act.put, List.setIfInBounds_toArray, List.set_cons_zero, List.set_cons_succ]
    refine wpSoft_step ?_ rfl ?_ ?_
    rotate_left
    · intro w' hS
      try obtain ⟨a1, a2⟩ := hS
      go_simp
      try with_reducible rfl
    simp only [Act.put, List.setIfInBounds_toArray, List.set_cons_zero, List.set_cons_succ]
    refine wpSoft_step ?_ rfl ?_ ?_
    rotate_left
    · intro w' hS
      try obtain ⟨a1, a2⟩ := hS
      go_simp
      try with_reducible rfl
    simp only [Act.put, List.setIfInBounds_toArray, List.set_cons_zero, List.set_cons_succ]
    refine wpSoft_step ?_ rfl ?_ ?_
    rotate_left
    · intro w' hS
      try obtain ⟨a1, a2⟩ := hS
      go_simp
      try with_reducible rfl
    simp only [Act.put, List.setIfInBounds_toArray, List.set_cons_zero, List.set_cons_succ]
    refine wpSoft_step ?_ rfl ?_ ?_
    rotate_left
    · intro w' hS
      try obtain ⟨a1, a2⟩ := hS
      go_simp
      try with_reducible rfl
    simp only [Act.put, List.setIfInBounds_toArray, List.set_cons_zero, List.set_cons_succ]
    refine wpSoft_step ?_ rfl ?_ ?_
    rotate_left
    · intro w' hS
      try obtain ⟨a1, a2⟩ := hS
      go_simp
      try with_reducible rfl
    simp only [Act.put, List.setIfInBounds_toArray, List.set_cons_zero, List.set_cons_succ]
    refine wpSoft_step ?_ rfl ?_ ?_
    rotate_left
    · intro w' hS
      try obtain ⟨a1, a2⟩ := hS
      go_simp
      try with_reducible rfl
    simp only [Act.put, List.setIfInBounds_toArray, List.set_cons_zero, List.set_cons_succ]
    refine wpSoft_nil ?_
    refine wp_hide (fun K hK => ?_)
    go_simp
    refine (HR.out _ hc1.drew).mono ?_
    rintro e w2 ⟨rfl, h1, h3, h2⟩
    refine hK _ _ ?_
    clear hK K
    refine wpSoft_nil ?_
    go_wp2_with fail
    go_end0
    exact ⟨rfl, h1, h3, (hc1.drew.mono (fun _ _ _ h => h.elim)).trans h2⟩



theorem Ascend_any {ord : List Int} {k0 : Kc ord} {mn mx : Nat} {w : World} {F : Nat → Prop} {t : Nat} {l : List (It ord)} (key : It ord)  {n : Int} {ob b2 b3 rb : Nat} {acc : List (It ord)} (hM : MapIn k0 mn mx w F t l) (hmn : 1 ≤ mn) (hK : Kept n ob b2 b3 rb w acc) (hH : HintO none w) (hHK : HintK none ob b2 b3 rb) (hFb : ∀ b, F b → ¬ HT none ob rb b) (htb : ∀ b, MOwn k0 t b → ¬ HT none ob rb b) (hlen : acc.length + l.length ≤ 1000000000000) :
    Calls Try.prog 29 #[.pointer (some ⟨t, 0, none⟩), .agg #[.int .i64 key.1, .int .i64 key.2], fnG b2 b3] w (RunEndH none n ob b2 b3 rb acc (upp ltM key l) w) := by
  have hr := fun (w1 : World) (c : Chg (fun _ _ => False) w w1) => ascendH_any key false none (hM.chg c) hmn (hK.keep c) (hH.keep c) hHK hFb htb hlen
  unfold fnG hintV at hr
  unfold fnG 
  have HR := Lib.hid hr
  clear hr hK hH
  go_enter Try.func29, Try.ntmps29
  go_wp2_with fail
  refine (HR.out _ ((Chg.refl _ _).alloc _)).mono ?_
  rintro e w1 ⟨rfl, h1, h3, h2⟩
  go_wp2_with fail
  go_end0
  exact ⟨rfl, h1, h3, (((Chg.refl (fun _ _ => False) w).alloc (.cells #[.int .i64 key.1, .int .i64 key.2] 27)).mono (fun _ _ _ h => h.elim)).trans h2⟩











theorem kept_nil {n : Int} {ob b2 b3 : Nat} {w : World} (ho : w.heap[ob]? = some (.cells #[.slice none 0 0] 25 (0, 0))) (h2 : w.heap[b2]? = some (.cells #[.pointer (some ⟨ob, 0, none⟩)] 60 (0, 0))) (h3 : w.heap[b3]? = some (.cells #[.int .i64 n] 3 (0, 0))) (n2 : ob ≠ b2) (n3 : ob ≠ b3) :
    Kept n ob b2 b3 w.heap.size w [] := ⟨⟨_, ho, OwnE.nil _ _ _⟩, h2, h3, heap_lt ho, heap_lt h2, heap_lt h3, n2, n3, Nat.le_refl _⟩

abbrev hintO0 : Obj := .cells #[.bool false, .bool false, .bool false, .bool false, .bool false, .bool false, .bool false, .bool false, .int .u8 0, .int .u8 0, .int .u8 0, .int .u8 0, .int .u8 0, .int .u8 0, .int .u8 0, .int .u8 0] 93

theorem hintC0 : HintC #[.bool false, .bool false, .bool false, .bool false, .bool false, .bool false, .bool false, .bool false, .int .u8 0, .int .u8 0, .int .u8 0, .int .u8 0, .int .u8 0, .int .u8 0, .int .u8 0, .int .u8 0] where
  sz := rfl
  used := fun o ho => ⟨false, by match o, ho with | 0, _ => rfl | 1, _ => rfl | 2, _ => rfl | 3, _ => rfl | 4, _ => rfl | 5, _ => rfl | 6, _ => rfl | 7, _ => rfl⟩
  path := fun o ho => ⟨0, by omega, by omega, by match o, ho with | 0, _ => rfl | 1, _ => rfl | 2, _ => rfl | 3, _ => rfl | 4, _ => rfl | 5, _ => rfl | 6, _ => rfl | 7, _ => rfl⟩

set_option maxRecDepth 100000 in
set_option maxHeartbeats 1000000 in
theorem GAscend_any {ord : List Int} (sv : Value) (d : Int) (nl : Bool) (p : Option Addr) (cap : Nat) (l : List (It ord)) (x : It ord) (n : Int) (w : World) (hs : SlE intE w sv ord) (hol : ord.length ≤ 2147483647) (hd : FitD d) (hl : ItemsAt w p l) (hlen : l.length ≤ 2147483647) :
    Calls Try.prog 13 #[.agg #[sv, .int .i64 d, .bool nl], .slice p l.length cap, .agg #[.int .i64 x.1, .int .i64 x.2], .int .i64 n] w (OwnPostI (firstN n (upp (ltM (ord := ord)) x (growL l))) w) := by
  have HGR := Lib.hid (fun w1 (c : Chg (fun _ _ => False) w w1) => grow_any (ord := ord) sv d nl p cap l w1 hd (hs.chg c) hol (hl.chg c) hlen)
  unfold GrowPost at HGR
  have hgl := growL_take_len l l.length
  rw [List.take_length] at hgl
  have HGL := Lib.hid hgl
  have hdim := hd.dims.1
  obtain ⟨sa, sc, rfl⟩ : ∃ a c, sv = .slice a ord.length c := hs.form
  clear hgl hl hs
  go_enter Try.func13, Try.ntmps13
  go_wp2_with fail
  refine name_world (fun w1 => Chg (fun _ _ => False) w w1 ∧ w1.heap[w.heap.size]? = some (.cells #[.slice sa ord.length sc, .int .i64 d, .bool nl] 24 (0, 0)) ∧ w1.heap[w.heap.size + 1]? = some (.cells #[.int .i64 x.1, .int .i64 x.2] 27 (0, 0)) ∧ w1.heap[w.heap.size + 2]? = some (.cells #[.slice none 0 0] 25 (0, 0))) ⟨(((Chg.refl _ _).alloc _).alloc _).alloc _, ?_, ?_, ?_⟩ ?_
  · rw [ha_lt _ _ (by simp; try omega), ha_lt _ _ (by simp; try omega)]; exact ha_at _ _ rfl
  · rw [ha_lt _ _ (by simp; try omega)]; exact ha_at _ _ (by simp)
  · exact ha_at _ _ (by simp)
  rintro w1 ⟨hc1, hb0, hb1, hbo⟩
  have m0 := cell_of_block hb0 0
  have m1 := cell_of_block hb0 1
  have m2 := cell_of_block hb0 2
  have q0 := cell_of_block hb1 0
  have q1 := cell_of_block hb1 1
  simp only [List.getElem?_toArray, List.getElem?_cons_zero, List.getElem?_cons_succ] at m0 m1 m2 q0 q1
  have HBO := Lib.hid hbo
  have hlt1 := heap_lt hbo
  have hsz1 := hc1.size
  clear hb0 hb1 hbo
  refine wp_region_scr (fun w' => w'.cell? ⟨w.heap.size, 0, none⟩ = some (.slice sa ord.length sc) ∧ w'.cell? ⟨w.heap.size, 1, none⟩ = some (.int .i64 d) ∧ w'.cell? ⟨w.heap.size, 2, none⟩ = some (.bool nl) ∧ w'.cell? ⟨w.heap.size + 1, 0, none⟩ = some (.int .i64 x.1) ∧ w'.cell? ⟨w.heap.size + 1, 1, none⟩ = some (.int .i64 x.2)) (.soft 0 (.soft 1 (.soft 3 (.soft 4 (.hard 2 (.hard 5 (.hard 6 .nil))))))) (by kernel_rfl) (by kernel_rfl) (fun _ _ _ _ _ h => h) ⟨m0, m1, m2, q0, q1⟩ ?_
  repeat
    first
    | (refine scr_soft (by rfl) ?_ ?_ ?_ ?_
       rotate_left
       · simp [Region.wanted, yielded]; done
       · intro w' hS
         try obtain ⟨a1, a2, a3, a4, a5⟩ := hS
         go_simp
         try with_reducible rfl
       simp only [Act.put, List.setIfInBounds_toArray, List.set_cons_zero, List.set_cons_succ])
    | (refine scr_skip (by rfl) ?_ ?_
       · simp [Region.wanted, yielded]; done
       simp only [Act.put, List.setIfInBounds_toArray, List.set_cons_zero, List.set_cons_succ])
  refine scr_hard (by rfl) (by simp [Region.wanted, yielded]) (fun K hK => ?_)
  go_simp
  refine (HGR.out _ hc1.drew).mono ?_
  rintro e w2 ⟨k0, t, F, rfl, hM, hc2', hF2, ho2⟩
  have hc2 : Chg (fun _ _ => False) w1 w2 := (Chg.refl _ _).drew.trans hc2'
  have hszd : w1.drew.heap.size = w1.heap.size := rfl
  have hb2 : w2.heap[w.heap.size + 2]? = some (.cells #[.slice none 0 0] 25 (0, 0)) := by rw [hc2.block (heap_lt HBO.out) (fun _ h => h)]; exact HBO.out
  have HKT := Lib.hid (taker_kept (n := n) hb2)
  clear hb2
  refine hK _ _ ⟨hc2.cell (fun h => h) m0, hc2.cell (fun h => h) m1, hc2.cell (fun h => h) m2, hc2.cell (fun h => h) q0, hc2.cell (fun h => h) q1⟩ ?_
  clear hK K
  repeat
    first
    | (refine scr_soft (by rfl) ?_ ?_ ?_ ?_
       rotate_left
       · simp [Region.wanted, yielded]; done
       · intro w' hS
         try obtain ⟨a1, a2, a3, a4, a5⟩ := hS
         go_simp
         try with_reducible rfl
       simp only [Act.put, List.setIfInBounds_toArray, List.set_cons_zero, List.set_cons_succ])
    | (refine scr_skip (by rfl) ?_ ?_
       · simp [Region.wanted, yielded]; done
       simp only [Act.put, List.setIfInBounds_toArray, List.set_cons_zero, List.set_cons_succ])
  refine scr_hard (by rfl) (by simp [Region.wanted, yielded]) (fun K hK => ?_)
  go_simp
  refine (taker_any (w.heap.size + 2) n w2).mono ?_
  rintro e w3 ⟨rfl, hw3⟩
  have hk : Kept n (w.heap.size + 2) w2.heap.size (w2.heap.size + 1) w3.heap.size w3 [] := by rw [hw3]; exact HKT.out
  have hc3 : Chg (fun _ _ => False) w2 w3 := by rw [hw3]; exact ((Chg.refl _ _).alloc _).alloc _
  clear hw3 HKT
  have hc13 := hc2.trans hc3
  have hsz3 := hc3.size
  have hsz2 := hc2.size
  have hM3 := hM.chg hc3
  have hTb : ∀ b, F b → ¬ HT none (w.heap.size + 2) w3.heap.size b := by
    rintro b hb ((h | h) | h)
    · have := hF2 b hb; omega
    · have := hM3.flt b hb; omega
    · cases h
  have htb : ∀ b, MOwn k0 t b → ¬ HT none (w.heap.size + 2) w3.heap.size b := by
    rintro b hb ((h | h) | h)
    · have := ho2 b hb; omega
    · have := hM3.own hb; omega
    · cases h
  have hr := Ascend_any x hM3 hdim hk (HintO.none _) (fun b e => by cases e) hTb htb (by have := HGL.out; simp; omega)
  unfold fnG at hr
  have HR := Lib.hid hr
  clear hr hk
  refine hK _ _ ⟨hc13.cell (fun h => h) m0, hc13.cell (fun h => h) m1, hc13.cell (fun h => h) m2, hc13.cell (fun h => h) q0, hc13.cell (fun h => h) q1⟩ ?_
  clear hK K
  repeat
    first
    | (refine scr_soft (by rfl) ?_ ?_ ?_ ?_
       rotate_left
       · simp [Region.wanted, yielded]; done
       · intro w' hS
         try obtain ⟨a1, a2, a3, a4, a5⟩ := hS
         go_simp
         try with_reducible rfl
       simp only [Act.put, List.setIfInBounds_toArray, List.set_cons_zero, List.set_cons_succ])
    | (refine scr_skip (by rfl) ?_ ?_
       · simp [Region.wanted, yielded]; done
       simp only [Act.put, List.setIfInBounds_toArray, List.set_cons_zero, List.set_cons_succ])
  refine scr_hard (by rfl) (by simp [Region.wanted, yielded]) (fun K hK => ?_)
  go_simp
  refine HR.out.mono ?_
  rintro e w9 ⟨rfl, hk9, _, hc9⟩
  rw [runL_first] at hk9
  obtain ⟨⟨v, g1, g2⟩, _⟩ := hk9
  have kk0 := cell_of_block g1 0
  simp only [List.getElem?_toArray, List.getElem?_cons_zero] at kk0
  clear g1
  have hold : ∀ b, b < w1.heap.size → b ≠ w.heap.size + 2 → ¬ HT none (w.heap.size + 2) w3.heap.size b := by
    rintro b hb hb2 ((h | h) | h)
    · exact hb2 h
    · have h2 := hc13.size; omega
    · cases h
  have hn0 : ¬ HT none (w.heap.size + 2) w3.heap.size w.heap.size := hold _ (by omega) (by omega)
  have hn1 : ¬ HT none (w.heap.size + 2) w3.heap.size (w.heap.size + 1) := hold _ (by omega) (by omega)
  refine hK _ _ ⟨hc9.cell hn0 (hc13.cell (fun h => h) m0), hc9.cell hn0 (hc13.cell (fun h => h) m1), hc9.cell hn0 (hc13.cell (fun h => h) m2), hc9.cell hn1 (hc13.cell (fun h => h) q0), hc9.cell hn1 (hc13.cell (fun h => h) q1)⟩ ?_
  clear hK K
  repeat
    first
    | (refine scr_soft (by rfl) ?_ ?_ ?_ ?_
       rotate_left
       · simp [Region.wanted, yielded]; done
       · intro w' hS
         try obtain ⟨a1, a2, a3, a4, a5⟩ := hS
         go_simp
         try with_reducible rfl
       simp only [Act.put, List.setIfInBounds_toArray, List.set_cons_zero, List.set_cons_succ])
    | (refine scr_skip (by rfl) ?_ ?_
       · simp [Region.wanted, yielded]; done
       simp only [Act.put, List.setIfInBounds_toArray, List.set_cons_zero, List.set_cons_succ])
  refine scr_nil ?_
  go_wp2_with fail
  go_ret
  have hsf := hc13.size
  exact ⟨v, rfl, g2.mono (hc1.trans hc13).size, (hc1.trans hc13).trans' hc9 (fun _ _ _ h => h) (fun b o hb h => hold b (by omega) (by omega) h)⟩



end Go.Proofs.Ytnohimhihombmaa
