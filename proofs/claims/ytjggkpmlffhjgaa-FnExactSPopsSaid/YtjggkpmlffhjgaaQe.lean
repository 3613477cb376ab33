/- SPops. -/
import Derived.Test.YtjggkpmlffhjgaaQd
namespace Go.Proofs.Ytjggkpmlffhjgaa
set_option linter.unusedSimpArgs false
set_option linter.unusedVariables false
open Go.RowKit


def keysF (l : List (Option (Int × Int))) : List (Option Int) := l.map fun o => o.map Prod.fst

theorem keysF_take {l : List (Int × Int)} {ds : List Bool} {j : Nat} {d : Bool} (hx : ds[j]? = some d) : (keysF (popsF l ds)).take (j + 1) = (keysF (popsF l ds)).take j ++ [(popF d (popsL l (ds.take j))).map Prod.fst] := by
  unfold keysF
  rw [← List.map_take, popsF_take hx, List.map_append, List.map_take]; rfl

set_option maxRecDepth 100000 in
set_option maxHeartbeats 4000000 in
theorem SPops_any (v : Value) (l : List Int) (kv : Value) (ks : List Bool) (w : World) (hs : SlE intE w v l) (hlen : l.length ≤ 2147483647) (hk : SlE boolE w kv ks) (hkl : ks.length ≤ 2147483647) :
    Calls Try.prog 85 #[v, kv] w fun e w' => ∃ v u, e = .returned (.tuple #[v, u]) ∧ SlE keyE w' v (keysF (popsF (growL (l.map itK)) ks)) ∧ SlE intE w' u ((popsL (growL (l.map itK)) ks).map Prod.fst) ∧ Chg (fun _ _ => False) w w' := by
  have HGR := Lib.hid (growSet_any v l w hs hlen)
  unfold GrowPost at HGR
  have hgl := growL_lenK l l.length
  rw [List.take_of_length_le (by simp)] at hgl
  have hdl := fun j => Nat.le_trans (popsL_len (ks.take j) (growL (l.map itK))) hgl
  have HDL := Lib.hid hdl
  obtain ⟨sa, sc, rfl⟩ := hs.form
  obtain ⟨a, kcap, rfl⟩ := hk.form
  have HKS := Lib.hid hk
  clear hs hk hdl
  generalize growL (l.map itK) = L at HGR HDL hgl ⊢
  obtain ⟨i0, hi0, hz0, hz1, hz2⟩ := info_parts infoKey
  go_enter Try.func85, Try.ntmps85
  go_wp2_with fail
  refine HGR.out.mono ?_
  rintro e w1 ⟨t, F, rfl, ht0, hM, hc1, hF2⟩
  have HM0 := Lib.hid hM
  clear hM HGR
  go_wp2_with fail
  go_loopw [7, 14] (fun v i wr => ∃ (j : Nat) (F' : Nat → Prop), j ≤ ks.length ∧ i = .int .i64 j ∧ OwnE keyE wr v ((keysF (popsF L ks)).take j) w.heap.size ∧ MapE 31 63 wr F' t (popsL L (ks.take j)) ∧ (∀ b, v.ownBlock = some b → ¬ F' b ∧ b ≠ t) ∧ (∀ b, F' b → w.heap.size ≤ b) ∧ Chg (fun _ _ => False) w wr) (fun _ i _ => ks.length - (intOf i).toNat)
  case atStart => exact ⟨0, F, Nat.zero_le _, rfl, OwnE.nil _ _ _, .inl HM0.out, (fun b hb => by cases hb), (fun b hb => hF2 b hb), hc1⟩
  case round =>
    obtain ⟨j, F', hj, rfl, how, hMr, hap, hFw, hc⟩ := hrel
    have hsz := hc.size
    by_cases hlt : j < ks.length
    · obtain ⟨x, hx⟩ : ∃ x, ks[j]? = some x := ⟨_, List.getElem?_eq_getElem hlt⟩
      obtain ⟨b, o, rfl, g0⟩ := (HKS.out.chg hc).bool hx
      have ht : (keysF (popsF L ks)).take (j + 1) = (keysF (popsF L ks)).take j ++ [(popF x (popsL L (ks.take j))).map Prod.fst] := keysF_take hx
      have hnx : popsL L (ks.take (j + 1)) = popL x (popsL L (ks.take j)) := popsL_take hx
      have hll : ((keysF (popsF L ks)).take j).length ≤ ks.length := by rw [List.length_take]; omega
      have htr := hMr.own (b := t) rfl
      cases x
      · skip
        have hg := SPopMin_any hMr (by omega) (by have := HDL.out j; omega)
        unfold SPopAns at hg
        obtain ⟨fk, fb, hkg, hfl, hif⟩ : ∃ fk fb, kgV (popF false (popsL L (ks.take j))) = .tuple #[.int .i64 fk, .bool fb] ∧ keyL ((popF false (popsL L (ks.take j))).map Prod.fst) = [.int .i64 fk, .bool fb] ∧ (if fb then fk else 0) = fk := by
          cases popF false (popsL L (ks.take j)) with
          | none => exact ⟨0, false, rfl, rfl, rfl⟩
          | some y => exact ⟨y.1, true, rfl, rfl, rfl⟩
        rw [hkg] at hg
        have hky := fun w2 => key_any fk fb w2
        rw [hif] at hky
        have HKY := Lib.hid hky
        have hap' : ∀ b, u7.ownBlock = some b → ¬ F' b ∧ b ≠ t ∧ b < wr.heap.size := fun b hb => ⟨(hap b hb).1, (hap b hb).2, (how.own_lt hb).2⟩
        have HT := Lib.hid ht
        have HNX := Lib.hid hnx
        have HLL := Lib.hid hll
        have HG := Lib.hid hg
        have HOW0 := Lib.hid how
        have HAP := Lib.hid hap'
        have HFW := Lib.hid hFw
        have HC := Lib.hid hc
        clear hx ht hll hg how hap hap' hFw hc hnx hMr hkg hif hky
        have i0' : (0 : Int) ≤ (j : Int) := by omega
        have i1 : (j : Int) < (ks.length : Int) := by omega
        go_wp2_with fail
        refine HG.out.mono ?_
        rintro e w2 ⟨rfl, F2, hM2, hc2', hF2'⟩
        have hF2w : ∀ b, F2 b → w.heap.size ≤ b := fun b hb => by
          rcases hF2' b hb with h | h
          · exact HFW.out b h
          · omega
        have hapr : ∀ b, u7.ownBlock = some b → ¬ F2 b := fun b hb h => by
          obtain ⟨a1, a2, a3⟩ := HAP.out b hb
          rcases hF2' b h with h | h
          · exact a1 h
          · omega
        have how2 := HOW0.out.chgOwn hc2' (fun b _ hb e => by
          obtain ⟨a1, a2, a3⟩ := HAP.out b hb
          rcases e with e | e
          · exact a1 e
          · exact a2 e)
        have hcw2 : Chg (fun _ _ => False) w w2 := HC.out.trans' hc2' (fun _ _ _ h => h) (fun b o hb e => by
          rcases e with e | e
          · have := HFW.out b e; omega
          · omega)
        have hwr2 := hc2'.size
        have HM2 := Lib.hid hM2
        have HAR := Lib.hid hapr
        have HF2W := Lib.hid hF2w
        clear hc2' hF2' hM2 hapr hF2w
        go_wp2_with fail
        refine (HKY.out w2).mono ?_
        rintro e w3 ⟨rfl, hc3⟩
        have hcb : Chg (fun _ _ => False) w3 (w3.alloc (.cells #[.int .i64 fk, .bool fb] 60)) := (Chg.refl _ _).alloc _
        have hc3b := hc3.trans hcb
        have HOW := Lib.hid (how2.keep hc3b)
        have hs3 := hc3.size
        have hsb : (w3.alloc (.cells #[.int .i64 fk, .bool fb] 60)).heap.size ≤ w3.heap.size + 1 := by simp
        have hsb2 : w3.heap.size + 1 ≤ (w3.alloc (.cells #[.int .i64 fk, .bool fb] 60)).heap.size := by simp
        have hs2 := hcw2.size
        have HM3 := Lib.hid (HM2.out.chg hc3b)
        have hcw3 := hcw2.trans hc3b
        clear how2
        go_wp2_with (refine wpList_append_E2 keyE (by rfl) _ _ _ (by rfl) i0 _ 16 Try.underlying57 hi0 hz0 hz1 hz2 rfl _ (by rfl) _ w.heap.size HOW.out (Nat.le_trans hs2 (Nat.le_trans hs3 hcb.size)) ⟨w3.heap.size, 0, none⟩ 1 _ (by rfl) [(popF false (popsL L (ks.take j))).map Prod.fst] rfl (by decide) ?_ ?_ ?_ ?_)
        · exact El.src1 keyE (c := #[.int .i64 fk, .bool fb]) (ha_at _ _ (by simp)) _ hfl.symm
        · have := HLL.out; unfold maxLen; omega
        · have := HLL.out; omega
        intro v' w' h1 h2 h3
        have hMn : MapE 31 63 w' F2 t _ := HM3.out.chgA h2 (fun b _ hb e => HAR.out b e hb) (fun b _ hb e => (HAP.out b e).2.1 hb)
        have hcw' : Chg (fun _ _ => False) w w' := hcw3.trans' h2 (fun _ _ _ h => h) (fun b o hb e => by have := (HOW.out.own_lt e).1; omega)
        have hapn : ∀ b, v'.ownBlock = some b → ¬ F2 b ∧ b ≠ t := fun b hb => by
          rcases h3 with h3 | ⟨nb, h3, hn⟩
          · rw [h3] at hb
            exact ⟨HAR.out b hb, (HAP.out b hb).2.1⟩
          · rw [h3] at hb
            have e : nb = b := Option.some.inj hb
            subst e
            exact ⟨fun hf => by have := HM3.out.famLt hf; omega, fun ho => by have := HM3.out.own (b := t) rfl; omega⟩
        have HMN := Lib.hid hMn
        have HAPN := Lib.hid hapn
        have H1 := Lib.hid h1
        clear h1 h2 h3 hMn hapn
        go_wp2
        go_roundw
        case rel => exact ⟨j + 1, F2, by omega, by go_num, by rw [HT.out]; exact H1.out, by rw [HNX.out]; exact HMN.out, HAPN.out, HF2W.out, hcw'⟩
        case measure => simp [intOf]; omega
      · skip
        have hg := SPopMax_any hMr (by omega) (by have := HDL.out j; omega)
        unfold SPopAns at hg
        obtain ⟨fk, fb, hkg, hfl, hif⟩ : ∃ fk fb, kgV (popF true (popsL L (ks.take j))) = .tuple #[.int .i64 fk, .bool fb] ∧ keyL ((popF true (popsL L (ks.take j))).map Prod.fst) = [.int .i64 fk, .bool fb] ∧ (if fb then fk else 0) = fk := by
          cases popF true (popsL L (ks.take j)) with
          | none => exact ⟨0, false, rfl, rfl, rfl⟩
          | some y => exact ⟨y.1, true, rfl, rfl, rfl⟩
        rw [hkg] at hg
        have hky := fun w2 => key_any fk fb w2
        rw [hif] at hky
        have HKY := Lib.hid hky
        have hap' : ∀ b, u7.ownBlock = some b → ¬ F' b ∧ b ≠ t ∧ b < wr.heap.size := fun b hb => ⟨(hap b hb).1, (hap b hb).2, (how.own_lt hb).2⟩
        have HT := Lib.hid ht
        have HNX := Lib.hid hnx
        have HLL := Lib.hid hll
        have HG := Lib.hid hg
        have HOW0 := Lib.hid how
        have HAP := Lib.hid hap'
        have HFW := Lib.hid hFw
        have HC := Lib.hid hc
        clear hx ht hll hg how hap hap' hFw hc hnx hMr hkg hif hky
        have i0' : (0 : Int) ≤ (j : Int) := by omega
        have i1 : (j : Int) < (ks.length : Int) := by omega
        go_wp2_with fail
        refine HG.out.mono ?_
        rintro e w2 ⟨rfl, F2, hM2, hc2', hF2'⟩
        have hF2w : ∀ b, F2 b → w.heap.size ≤ b := fun b hb => by
          rcases hF2' b hb with h | h
          · exact HFW.out b h
          · omega
        have hapr : ∀ b, u7.ownBlock = some b → ¬ F2 b := fun b hb h => by
          obtain ⟨a1, a2, a3⟩ := HAP.out b hb
          rcases hF2' b h with h | h
          · exact a1 h
          · omega
        have how2 := HOW0.out.chgOwn hc2' (fun b _ hb e => by
          obtain ⟨a1, a2, a3⟩ := HAP.out b hb
          rcases e with e | e
          · exact a1 e
          · exact a2 e)
        have hcw2 : Chg (fun _ _ => False) w w2 := HC.out.trans' hc2' (fun _ _ _ h => h) (fun b o hb e => by
          rcases e with e | e
          · have := HFW.out b e; omega
          · omega)
        have hwr2 := hc2'.size
        have HM2 := Lib.hid hM2
        have HAR := Lib.hid hapr
        have HF2W := Lib.hid hF2w
        clear hc2' hF2' hM2 hapr hF2w
        go_wp2_with fail
        refine (HKY.out w2).mono ?_
        rintro e w3 ⟨rfl, hc3⟩
        have hcb : Chg (fun _ _ => False) w3 (w3.alloc (.cells #[.int .i64 fk, .bool fb] 60)) := (Chg.refl _ _).alloc _
        have hc3b := hc3.trans hcb
        have HOW := Lib.hid (how2.keep hc3b)
        have hs3 := hc3.size
        have hsb : (w3.alloc (.cells #[.int .i64 fk, .bool fb] 60)).heap.size ≤ w3.heap.size + 1 := by simp
        have hsb2 : w3.heap.size + 1 ≤ (w3.alloc (.cells #[.int .i64 fk, .bool fb] 60)).heap.size := by simp
        have hs2 := hcw2.size
        have HM3 := Lib.hid (HM2.out.chg hc3b)
        have hcw3 := hcw2.trans hc3b
        clear how2
        go_wp2_with (refine wpList_append_E2 keyE (by rfl) _ _ _ (by rfl) i0 _ 16 Try.underlying57 hi0 hz0 hz1 hz2 rfl _ (by rfl) _ w.heap.size HOW.out (Nat.le_trans hs2 (Nat.le_trans hs3 hcb.size)) ⟨w3.heap.size, 0, none⟩ 1 _ (by rfl) [(popF true (popsL L (ks.take j))).map Prod.fst] rfl (by decide) ?_ ?_ ?_ ?_)
        · exact El.src1 keyE (c := #[.int .i64 fk, .bool fb]) (ha_at _ _ (by simp)) _ hfl.symm
        · have := HLL.out; unfold maxLen; omega
        · have := HLL.out; omega
        intro v' w' h1 h2 h3
        have hMn : MapE 31 63 w' F2 t _ := HM3.out.chgA h2 (fun b _ hb e => HAR.out b e hb) (fun b _ hb e => (HAP.out b e).2.1 hb)
        have hcw' : Chg (fun _ _ => False) w w' := hcw3.trans' h2 (fun _ _ _ h => h) (fun b o hb e => by have := (HOW.out.own_lt e).1; omega)
        have hapn : ∀ b, v'.ownBlock = some b → ¬ F2 b ∧ b ≠ t := fun b hb => by
          rcases h3 with h3 | ⟨nb, h3, hn⟩
          · rw [h3] at hb
            exact ⟨HAR.out b hb, (HAP.out b hb).2.1⟩
          · rw [h3] at hb
            have e : nb = b := Option.some.inj hb
            subst e
            exact ⟨fun hf => by have := HM3.out.famLt hf; omega, fun ho => by have := HM3.out.own (b := t) rfl; omega⟩
        have HMN := Lib.hid hMn
        have HAPN := Lib.hid hapn
        have H1 := Lib.hid h1
        clear h1 h2 h3 hMn hapn
        go_wp2
        go_roundw
        case rel => exact ⟨j + 1, F2, by omega, by go_num, by rw [HT.out]; exact H1.out, by rw [HNX.out]; exact HMN.out, HAPN.out, HF2W.out, hcw'⟩
        case measure => simp [intOf]; omega
    · obtain rfl : j = ks.length := by omega
      rw [List.take_of_length_le (by unfold keysF; rw [List.length_map, popsF_len]; exact Nat.le_refl _)] at how
      have HOW := Lib.hid how.sl
      have hit := SKeysE_any hMr (by have := HDL.out ks.length; omega)
      have HIT := Lib.hid hit
      unfold OwnPost at HIT
      have hnlt : ¬ ((ks.length : Nat) : Int) < (ks.length : Int) := by omega
      clear how hit hMr hap hFw
      go_wp2_with fail
      refine HIT.out.mono ?_
      rintro e w4 ⟨v4, rfl, how4, hc4⟩
      go_wp2_with fail
      go_ret2
      exact ⟨_, _, rfl, HOW.out.chg hc4, by have := how4.sl; rw [List.take_length] at this; exact this, hc.trans hc4⟩
end Go.Proofs.Ytjggkpmlffhjgaa
