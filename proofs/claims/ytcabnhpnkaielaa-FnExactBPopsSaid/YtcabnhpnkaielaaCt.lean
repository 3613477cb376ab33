/- BDeleteHint. -/
import Derived.Test.YtcabnhpnkaielaaEk
import Derived.Test.YtcabnhpnkaielaaAh
import Derived.Test.YtcabnhpnkaielaaCe
namespace Go.Proofs.Ytcabnhpnkaielaa
set_option linter.unusedSimpArgs false
set_option linter.unusedVariables false
open Go.RowKit

set_option maxRecDepth 100000 in
set_option maxHeartbeats 4000000 in
theorem BDeleteHint_any {ord : List Int} (sv : Value) (d : Int) (nl : Bool) (p : Option Addr) (cap : Nat) (l : List (It ord)) (kv : Value) (ks : List (It ord)) (w : World) (hs : SlE intE w sv ord) (hol : ord.length ≤ 2147483647) (hd : FitD d) (hl : ItemsAt w p l) (hlen : l.length ≤ 2147483647) (hk : SlE itemE w kv ks) (hkl : ks.length ≤ 2147483647) :
    Calls Try.prog 51 #[.agg #[sv, .int .i64 d, .bool nl], .slice p l.length cap, kv] w fun e w' => ∃ v u, e = .returned (.tuple #[v, u]) ∧ SlE foundE w' v (delsF (ltM (ord := ord)) (growL l) ks) ∧ SlE itemE w' u (delsL (ltM (ord := ord)) (growL l) ks) ∧ Chg (fun _ _ => False) w w' := by
  have HGR := Lib.hid (fun w1 (c : Chg (fun _ _ => False) w w1) => grow_any (ord := ord) sv d nl p cap l w1 hd (hs.chg c) hol (hl.chg c) hlen)
  obtain ⟨hdim1, hdim2, hdim3, hdim4, hdim5⟩ := hd.dims
  unfold GrowPost at HGR
  have hgl := growL_take_len l l.length
  rw [List.take_length] at hgl
  have hdl := fun j => Nat.le_trans (delsL_len (ltM (ord := ord)) (growL l) (ks.take j)) hgl
  have HDL := Lib.hid hdl
  obtain ⟨sa, sc, rfl⟩ : ∃ a c, sv = .slice a ord.length c := hs.form
  obtain ⟨a, kcap, rfl⟩ := hk.form
  have HKS := Lib.hid hk
  clear hl hs hk hdl
  generalize growL l = L at HGR HDL hgl ⊢
  obtain ⟨i0, hi0, hz0, hz1, hz2⟩ := info_parts infoFound
  go_enter Try.func51, Try.ntmps51
  go_wp2_with fail
  refine (HGR.out _ ((Chg.refl _ _).alloc _)).mono ?_
  rintro e w0 ⟨k, hp, t, F, rfl, hH, hM, hc1', hF2', ho2', hpw, hne, hnF⟩
  have HNE := Lib.hid hne
  clear hne
  have hca0 := (Chg.refl (fun _ _ => False) w).alloc (.cells #[.slice sa ord.length sc, .int .i64 d, .bool nl] 24)
  have hc0 := hca0.trans hc1'
  have hF2 : ∀ b, F b → w.heap.size ≤ b := fun b hb => Nat.le_trans hca0.size (hF2' b hb)
  have ho2 : ∀ b, MOwn k t b → w.heap.size ≤ b := fun b hb => Nat.le_trans hca0.size (ho2' b hb)
  have hfl0 := fun b (hb : F b) => hM.famLt hb
  have hol0 := fun b (hb : MOwn k t b) => hM.own hb
  have hpl0 := heap_lt hH
  have hsz0 := hc0.size
  have HM0 := Lib.hid hM
  have HH0 := Lib.hid hH
  clear hc1' hF2' ho2' hM hH
  go_upto_region 3 with fail
  refine name_world (fun w1 => Chg (fun _ _ => False) w0 w1 ∧ w1.heap[w0.heap.size]? = some hintO0) ⟨(Chg.refl _ _).alloc _, ha_at _ _ rfl⟩ ?_
  rintro w1 ⟨hc01, hhb⟩
  have hc1 := hc0.trans hc01
  have hM := HM0.out.chg hc01
  have hH := HeapAt.chg HH0.out hc01
  obtain ⟨hb, hbe⟩ : ∃ hb, w0.heap.size = hb := ⟨_, rfl⟩
  rw [hbe] at hhb ⊢
  have hHB : HintB hb w1 := ⟨_, hhb, hintC0⟩
  have hnFb : ¬ F hb := fun h => by have := hfl0 _ h; omega
  have HBW := Lib.hid (show w.heap.size ≤ hb by omega)
  have HBH := Lib.hid (show hb ≠ hp by omega)
  have HOB := Lib.hid (show ∀ b, MOwn k t b → b ≠ hb from fun b h => by have := hol0 b h; omega)
  clear HM0 HH0 hfl0 hol0 hbe hhb hc01 hc0 hpl0 hsz0
  have hor : ∀ b, MOwn k t b → w.heap.size ≤ b := fun b hb => ho2 b hb
  have HOR := Lib.hid hor
  clear hor
  go_wp2_with fail
  go_loopw [10, 18] (fun v i wr => ∃ (j : Nat) (F' : Nat → Prop), j ≤ ks.length ∧ i = .int .i64 j ∧ OwnE foundE wr v ((delsF (ltM (ord := ord)) L ks).take j) w.heap.size ∧ MapIn k (mnD d) (mxD d) wr F' t (delsL (ltM (ord := ord)) L (ks.take j)) ∧ (∀ b, v.ownBlock = some b → ¬ F' b ∧ ¬ MOwn k t b ∧ b ≠ hp ∧ b ≠ hb) ∧ (∀ b, F' b → w.heap.size ≤ b) ∧ Chg (fun _ _ => False) w wr ∧ HeapAt k wr hp t ∧ ¬ F' hp ∧ HintB hb wr ∧ ¬ F' hb) (fun _ i _ => ks.length - (intOf i).toNat)
  case atStart => exact ⟨0, F, Nat.zero_le _, rfl, OwnE.nil _ _ _, by exact hM, (fun b hb => by cases hb), (fun b hb => hF2 b hb), hc1, hH, hnF, hHB, hnFb⟩
  case round =>
    obtain ⟨j, F', hj, rfl, how, hMr, hap, hFw, hc, hHr, hnFr, hHBr, hnFbr⟩ := hrel
    have hsz := hc.size
    by_cases hlt : j < ks.length
    · obtain ⟨x, hx⟩ : ∃ x, ks[j]? = some x := ⟨_, List.getElem?_eq_getElem hlt⟩
      obtain ⟨b, o, rfl, g0, g1⟩ := (HKS.out.chg hc).item hx
      have ht : (delsF (ltM (ord := ord)) L ks).take (j + 1) = (delsF (ltM (ord := ord)) L ks).take j ++ [fndL (ltM (ord := ord)) x (delsL (ltM (ord := ord)) L (ks.take j))] := by exact delsF_take hx
      have hnx : delsL (ltM (ord := ord)) L (ks.take (j + 1)) = delL ltM x (delsL (ltM (ord := ord)) L (ks.take j)) := by exact delsL_take hx
      have hll : ((delsF (ltM (ord := ord)) L ks).take j).length ≤ ks.length := by rw [List.length_take]; omega
      have hca := (Chg.refl (fun _ _ => False) wr).alloc (.cells #[.int .i64 x.1, .int .i64 x.2] 26)
      have hg := HDeleteHint_any (hv := some hb) x (HeapAt.chg hHr hca) (hMr.chg hca) hdim1 (fun b e => by obtain rfl := Option.some.inj e; exact hHBr.chg hca (fun _ h => h)) (fun b e => by obtain rfl := Option.some.inj e; exact hnFbr) (fun b e h => HOB.out b h (Option.some.inj e).symm) (by have := HDL.out j; omega)
      unfold HDelAns at hg
      have hfa := fun w => foundAny_any (fndL (ltM (ord := ord)) x (delsL (ltM (ord := ord)) L (ks.take j))) w
      obtain ⟨ov, hov⟩ : ∃ ov, optV (fndL (ltM (ord := ord)) x (delsL (ltM (ord := ord)) L (ks.take j))) = ov := ⟨_, rfl⟩
      rw [hov] at hg hfa
      obtain ⟨fk, fv, fb, hfv, hfl⟩ := foundV_agg (fndL (ltM (ord := ord)) x (delsL (ltM (ord := ord)) L (ks.take j)))
      rw [hfv] at hfa
      have HP := Lib.hid hfa
      have HAPH := Lib.hid (fun b hb => (hap b hb).2.2.1)
      have HAPB := Lib.hid (fun b hb => (hap b hb).2.2.2)
      have HHB := Lib.hid hHBr
      have hbl := hHBr.lt
      have HHR := Lib.hid (HeapAt.chg hHr hca)
      have hpl := heap_lt hHr
      unfold aggM hintV at hg
      simp only [Option.map_some] at hg
      clear hfa hfv hov hHr hHBr
      have hap' : ∀ b, u10.ownBlock = some b → ¬ F' b ∧ ¬ MOwn k t b ∧ b < wr.heap.size := fun b hb => ⟨(hap b hb).1, (hap b hb).2.1, (how.own_lt hb).2⟩
      have HT := Lib.hid ht
      have HNX := Lib.hid hnx
      have HLL := Lib.hid hll
      have HG := Lib.hid hg
      have HOW0 := Lib.hid how
      have HAP := Lib.hid hap'
      have HFW := Lib.hid hFw
      have HC := Lib.hid hc
      have HMR := Lib.hid hMr
      clear hx ht hll hg how hap hap' hFw hc hnx hMr
      have i0' : (0 : Int) ≤ (j : Int) := by omega
      have i1 : (j : Int) < (ks.length : Int) := by omega
      go_wp2_with fail
      refine HG.out.mono ?_
      rintro e w2 ⟨rfl, F2, hM2, hc2', hF2', hhb2'⟩
      have hhb2 : HintB hb w2 := hhb2' hb rfl
      have HHB2 := Lib.hid hhb2
      clear hhb2' hhb2
      have hszA := hca.size
      have hF2w : ∀ b, F2 b → w.heap.size ≤ b := fun b hb => by
        rcases hF2' b hb with h | h
        · exact HFW.out b h
        · omega
      have hapr : ∀ b, u10.ownBlock = some b → ¬ F2 b := fun b hb h => by
        obtain ⟨a1, a2, a3⟩ := HAP.out b hb
        rcases hF2' b h with h | h
        · exact a1 h
        · omega
      have how2 := HOW0.out.chgOwn (hca.trans' hc2' (B := fun b _ => (F' b ∨ b = t) ∨ some hb = some b) (fun _ _ _ h => h.elim) (fun _ _ _ h => h)) (fun b _ hbo e => by
        obtain ⟨a1, a2, a3⟩ := HAP.out b hbo
        rcases e with (e | e) | e
        · exact a1 e
        · exact a2 (e ▸ MOwn.self)
        · exact HAPB.out b hbo (Option.some.inj e).symm)
      have hcw2 : Chg (fun _ _ => False) w w2 := (HC.out.trans hca).trans' hc2' (fun _ _ _ h => h) (fun b o hbo e => by
        rcases e with (e | e) | e
        · have := HFW.out b e; omega
        · have := HOR.out t MOwn.self; omega
        · have := HBW.out; have := Option.some.inj e; omega)
      have hH2 : HeapAt k w2 hp t := by
        have h1 := HHR.out
        unfold HeapAt at h1 ⊢
        rw [hc2'.block (heap_lt h1) (fun _ h => by
          rcases h with (h | h) | h
          · exact hnFr h
          · exact HNE.out h
          · exact HBH.out (Option.some.inj h))]
        exact h1
      have hnF2 : ¬ F2 hp := fun h => by
        rcases hF2' hp h with h | h
        · exact hnFr h
        · omega
      have hnFb2 : ¬ F2 hb := fun h => by
        rcases hF2' hb h with h | h
        · exact hnFbr h
        · have := hca.size; omega
      have HNFB2 := Lib.hid hnFb2
      clear hnFb2
      have HNF2 := Lib.hid hnF2
      have HH2 := Lib.hid hH2
      clear hH2 hnF2
      have hwr2 := hc2'.size
      have HM2 := Lib.hid hM2
      have HAR := Lib.hid hapr
      have HF2W := Lib.hid hF2w
      clear hc2' hF2' hM2 hapr hF2w hca
      go_wp2_with fail
      refine (HP.out _).mono ?_
      rintro e w3 ⟨rfl, hc3⟩
      have hcb : Chg (fun _ _ => False) w3 (w3.alloc (.cells #[.int .i64 fk, .int .i64 fv, .bool fb] 45)) := (Chg.refl _ _).alloc _
      have hc3b := hc3.trans hcb
      have HOW := Lib.hid (how2.keep hc3b)
      have hs3 := hc3.size
      have hsb : (w3.alloc (.cells #[.int .i64 fk, .int .i64 fv, .bool fb] 45)).heap.size ≤ w3.heap.size + 1 := by simp
      have hsb2 : w3.heap.size + 1 ≤ (w3.alloc (.cells #[.int .i64 fk, .int .i64 fv, .bool fb] 45)).heap.size := by simp
      have hs2 := hcw2.size
      have HM3 := Lib.hid (HM2.out.chg hc3b)
      have HH3 := Lib.hid (HeapAt.chg HH2.out hc3b)
      have hcw3 := hcw2.trans hc3b
      clear how2
      go_wp2_with (refine wpList_append_E2 foundE (by rfl) _ _ _ (by rfl) i0 _ 24 Try.underlying47 hi0 hz0 hz1 hz2 rfl _ (by rfl) _ w.heap.size HOW.out (Nat.le_trans hs2 (Nat.le_trans hs3 hcb.size)) ⟨w3.heap.size, 0, none⟩ 1 _ (by rfl) [fndL (ltM (ord := ord)) x (delsL (ltM (ord := ord)) L (ks.take j))] rfl (by decide) ?_ ?_ ?_ ?_)
      · exact El.src1 foundE (c := #[.int .i64 fk, .int .i64 fv, .bool fb]) (ha_at _ _ (by simp)) _ hfl.symm
      · have := HLL.out; unfold maxLen; omega
      · have := HLL.out; omega
      intro v' w' h1 h2 h3
      have hMn : MapIn k (mnD d) (mxD d) w' F2 t _ := HM3.out.chgA h2 (fun b _ hb e => HAR.out b e hb) (fun b _ hb e => (HAP.out b e).2.1 hb)
      have hcw' : Chg (fun _ _ => False) w w' := hcw3.trans' h2 (fun _ _ _ h => h) (fun b o hb e => by have := (HOW.out.own_lt e).1; omega)
      have hHn : HeapAt k w' hp t := by
        have h1 := HH3.out
        unfold HeapAt at h1 ⊢
        rw [h2.block (heap_lt h1) (fun _ h => HAPH.out hp h rfl)]
        exact h1
      have hpl3 := heap_lt HH3.out
      have HHN := Lib.hid hHn
      clear hHn
      have hbl3 : hb < w3.heap.size := by have := HHB2.out.lt; omega
      have HHBN := Lib.hid (show HintB hb w' from (HHB2.out.chg (hc3.trans hcb) (fun _ h => h)).chg h2 (fun o e => HAPB.out hb e rfl))
      have hapn : ∀ b, v'.ownBlock = some b → ¬ F2 b ∧ ¬ MOwn k t b ∧ b ≠ hp ∧ b ≠ hb := fun b hb => by
        rcases h3 with h3 | ⟨nb, h3, hn⟩
        · rw [h3] at hb
          exact ⟨HAR.out b hb, (HAP.out b hb).2.1, HAPH.out b hb, HAPB.out b hb⟩
        · rw [h3] at hb
          have e : nb = b := Option.some.inj hb
          subst e
          exact ⟨fun hf => by have := HM3.out.famLt hf; omega, fun ho => by have := HM3.out.own ho; omega, by omega, by omega⟩
      have HMN := Lib.hid hMn
      have HAPN := Lib.hid hapn
      have H1 := Lib.hid h1
      clear h1 h2 h3 hMn hapn
      go_wp2
      go_roundw
      case rel => exact ⟨j + 1, F2, by omega, by go_num, by rw [HT.out]; exact H1.out, by rw [HNX.out]; exact HMN.out, HAPN.out, HF2W.out, hcw', HHN.out, HNF2.out, HHBN.out, HNFB2.out⟩
      case measure => simp [intOf]; omega
    · obtain rfl : j = ks.length := by omega
      rw [List.take_of_length_le (by rw [delsF_len]; exact Nat.le_refl _)] at how
      have HOW := Lib.hid how.sl
      have hit := allOf_any hHr hMr (by have := HDL.out ks.length; omega)
      have HIT := Lib.hid hit
      have hnlt : ¬ ((ks.length : Nat) : Int) < (ks.length : Int) := by omega
      clear how hit hMr hap hFw hHr
      go_wp2_with fail
      refine HIT.out.mono ?_
      rintro e w4 ⟨v4, rfl, how4, hc4⟩
      go_wp2_with fail
      go_ret2
      exact ⟨_, _, rfl, HOW.out.chg hc4, by have := how4.sl; rw [List.take_length] at this; exact this, hc.trans hc4⟩
end Go.Proofs.Ytcabnhpnkaielaa
