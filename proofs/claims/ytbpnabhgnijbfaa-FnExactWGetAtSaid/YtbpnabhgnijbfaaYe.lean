/- spec: WGetAt; the law FnExactWGetAt. -/
import Derived.Test.YtbpnabhgnijbfaaA9
import Derived.Test.YtbpnabhgnijbfaaYc
namespace Go.Proofs.Ytbpnabhgnijbfaa
set_option linter.unusedSimpArgs false
set_option linter.unusedVariables false
open Go.RowKit

set_option maxRecDepth 100000 in
set_option maxHeartbeats 2000000 in
theorem specWGetAt_any (v : Value) (l : List (ByteArray × Int)) (kv : Value) (ks : List Int) (w : World) (hl : SlE wordE w v l) (hk : SlE intE w kv ks) (hlen : l.length ≤ 2147483647) (hkl : ks.length ≤ 2147483647) :
    Calls Try.prog 23 #[v, kv] w fun e w' => ∃ a b, e = .returned (.tuple #[a, b]) ∧ SlE wordE w' a (atsW (growL l) ks) ∧ SlE boolE w' b (atsB (growL l) ks) ∧ Chg (fun _ _ => False) w w' := by
  have HG := Lib.hid (Words_any v l w hl hlen)
  unfold OwnPost at HG
  have hgl := growL_take_len l l.length
  rw [List.take_length] at hgl
  generalize growL l = L at HG hgl ⊢
  obtain ⟨pp, cap, rfl⟩ := hl.form
  obtain ⟨ka, kcap, rfl⟩ := hk.form
  have HK := Lib.hid hk
  clear hl hk
  obtain ⟨i0, hi0, hz0, hz1, hz2⟩ := info_parts infoWord
  obtain ⟨k0, ki0, kz0, kz1, kz2⟩ := info_parts infoBool
  go_enter Try.func23, Try.ntmps23
  go_wp2_with fail
  refine HG.out.mono ?_
  rintro e w1 ⟨v1, rfl, how1, hc1⟩
  have HI := Lib.hid how1.sl
  clear how1 HG
  obtain ⟨ia, icap, rfl⟩ := HI.out.form
  go_wp2_with fail
  go_loopw [7, 8, 17] (fun va vb iv wr => ∃ (j : Nat), j ≤ ks.length ∧ iv = .int .i64 j ∧ OwnE wordE wr va ((atsW L ks).take j) w1.heap.size ∧ OwnE boolE wr vb ((atsB L ks).take j) w1.heap.size ∧ Apart va vb ∧ Chg (fun _ _ => False) w1 wr) (fun _ _ iv _ => ks.length - (intOf iv).toNat)
  case atStart => exact ⟨0, Nat.zero_le _, rfl, OwnE.nil _ _ _, OwnE.nil _ _ _, (fun b hb => by cases hb), Chg.refl _ _⟩
  case round =>
    obtain ⟨j, hj, rfl, hA, hB, hap, hc⟩ := hrel
    by_cases hlt : j < ks.length
    · obtain ⟨x, hx⟩ : ∃ x, ks[j]? = some x := ⟨_, List.getElem?_eq_getElem hlt⟩
      obtain ⟨b, o, rfl, g0⟩ := (HK.out.chg (hc1.trans hc)).int hx
      have ht1 : (atsW L ks).take (j + 1) = (atsW L ks).take j ++ [(atL L x).getD zW] := by
        unfold atsW
        rw [List.take_add_one, List.getElem?_map, hx]; rfl
      have ht2 : (atsB L ks).take (j + 1) = (atsB L ks).take j ++ [(atL L x).isSome] := by
        unfold atsB
        rw [List.take_add_one, List.getElem?_map, hx]; rfl
      have hal : ((atsW L ks).take j).length ≤ ks.length := by unfold atsW; simp; omega
      have hbl : ((atsB L ks).take j).length ≤ ks.length := by unfold atsB; simp; omega
      have HAL := Lib.hid hal
      have HBL := Lib.hid hbl
      have HA := Lib.hid hA
      have HB := Lib.hid hB
      have HAP := Lib.hid hap
      have HC := Lib.hid hc
      clear hx hal hbl hA hB hap
      have j0 : (0 : Int) ≤ (j : Int) := by omega
      have j1 : (j : Int) < (ks.length : Int) := by omega
      by_cases h0 : 0 ≤ x ∧ x < (L.length : Int)
      · obtain ⟨h1, h2⟩ := h0
        obtain ⟨y, hy⟩ : ∃ y, L[x.toNat]? = some y := ⟨_, List.getElem?_eq_getElem (by omega)⟩
        have hat : atL L x = some y := by unfold atL; rw [if_pos h1]; exact hy
        rw [hat] at ht1 ht2
        obtain ⟨b2, o2, rfl, y0, y1⟩ := (HI.out.chg hc).word hy
        have HT1 := Lib.hid ht1
        have HT2 := Lib.hid ht2
        have q0 : ∀ o, ((wr.alloc o).cell? ⟨b2, o2 + x.toNat * 2, none⟩) = some (.string y.1) := fun o => ((Chg.refl (fun _ _ => False) wr).alloc o).cell (fun h => h) y0
        have q1 : ∀ o, ((wr.alloc o).cell? ⟨b2, o2 + x.toNat * 2 + 1, none⟩) = some (.int .i64 y.2) := fun o => ((Chg.refl (fun _ _ => False) wr).alloc o).cell (fun h => h) y1
        clear ht1 ht2 hat hy hc
        go_upto_region 10 with fail
        refine name_world (fun w3 => Chg (fun _ _ => False) wr w3 ∧ w3.heap[wr.heap.size]? = some (.cells #[.string y.1, .int .i64 y.2] 35 (0, 0))) ⟨?_, ?_⟩ ?_
        · repeat (first | exact Chg.refl _ _ | refine Chg.setCell ?_ (.inr (Nat.le_refl _)) _ | refine Chg.alloc ?_ _ | refine Chg.drew ?_ | refine Chg.drewN ?_ _)
        · first
          | exact ha_at _ _ rfl
          | (rw [hs_same (hs_same (ha_at _ _ rfl) _)]; rfl)
          | (rw [hs_same (by rw [hs_same (ha_at _ _ rfl)])]; rfl)
        rintro w3 ⟨hc3, hb3⟩
        have p0 := cell_of_block hb3 0
        have p1 := cell_of_block hb3 1
        simp only [List.getElem?_toArray, List.getElem?_cons_zero, List.getElem?_cons_succ] at p0 p1
        have HA3 := Lib.hid (HA.out.keep hc3)
        have HB3 := Lib.hid (HB.out.keep hc3)
        have HC3 := Lib.hid (show Chg (fun _ _ => False) w1 w3 from HC.out.trans hc3)
        clear hc3 HA HB HC hb3 q0 q1 y0 y1
        have hca3 := (Chg.refl (fun _ _ => False) w3).alloc (.cells #[.string y.1, .int .i64 y.2] 35)
        have HOA := Lib.hid (HA3.out.keep hca3)
        have hs3 := HC3.out.size
        go_wp2_with (refine wpList_append_E2 wordE (by rfl) _ _ _ (by rfl) i0 _ 24 Try.underlying22 hi0 hz0 hz1 hz2 rfl _ (by rfl) _ w1.heap.size HOA.out (Nat.le_trans hs3 hca3.size) ⟨w3.heap.size, 0, none⟩ 1 _ (by rfl) [((y.1, y.2) : ByteArray × Int)] rfl (by decide) ?_ ?_ ?_ ?_)
        · first | exact El.src1 wordE (c := #[.string y.1, .int .i64 y.2]) (ha_at _ _ (by first | rfl | simp)) _ rfl | exact fun _ _ h => h
        · have := HAL.out; unfold maxLen; omega
        · have := HAL.out; omega
        intro v7 w7 h1 h2 h3
        have hc67 := hca3.trans' h2 (B := fun b _ => u7.ownBlock = some b) (fun _ _ _ h => h.elim) (fun _ _ _ h => h)
        have hs67 := hc67.size
        have hca7 := (Chg.refl (fun _ _ => False) w7).alloc (.cells #[.bool true] 4)
        have hob7 := (HB3.out.chgOwn hc67 (fun b _ hb e => HAP.out b e hb)).keep hca7
        have HOB := Lib.hid hob7
        have hA7 : ∀ b, v7.ownBlock = some b → (u7.ownBlock = some b ∨ w3.heap.size ≤ b) := fun b hb => by
          rcases h3 with h | ⟨nb, h, hn⟩
          · exact .inl (h ▸ hb)
          · rw [h] at hb
            have e : nb = b := Option.some.inj hb
            exact .inr (by have := hca3.size; omega)
        have HV7 := Lib.hid hA7
        have H71 := Lib.hid h1
        have H72 := Lib.hid hc67
        clear h1 h2 h3 hob7 hc67 hA7
        go_wp2_with (refine wpList_append_E2 boolE (by rfl) _ _ _ (by rfl) k0 _ 1 Try.underlying42 ki0 kz0 kz1 kz2 rfl _ (by rfl) _ w1.heap.size HOB.out (Nat.le_trans hs3 (Nat.le_trans hs67 hca7.size)) ⟨w7.heap.size, 0, none⟩ 1 _ (by rfl) [true] rfl (by decide) ?_ ?_ ?_ ?_)
        · first | exact El.src1 boolE (c := #[.bool true]) (ha_at _ _ (by first | rfl | simp)) _ rfl | exact fun _ _ h => h
        · have := HBL.out; unfold maxLen; omega
        · have := HBL.out; omega
        intro v8 w8 h1 h2 h3
        have hc78 := hca7.trans' h2 (B := fun b _ => u8.ownBlock = some b) (fun _ _ _ h => h.elim) (fun _ _ _ h => h)
        have f5 : ∀ b, u7.ownBlock = some b → b < w3.heap.size := fun b hb => (HA3.out.own_lt hb).2
        have f7 : ∀ b, u8.ownBlock = some b → b < w3.heap.size := fun b hb => (HB3.out.own_lt hb).2
        have f8 : ∀ b, v8.ownBlock = some b → (u8.ownBlock = some b ∨ w7.heap.size ≤ b) := fun b hb => by
          rcases h3 with h | ⟨nb, h, hn⟩
          · exact .inl (h ▸ hb)
          · rw [h] at hb
            have e : nb = b := Option.some.inj hb
            exact .inr (by have := hca7.size; omega)
        have g5 := H71.out.chgOwn hc78 (fun b _ hb e => by
          rcases HV7.out b hb with h | h
          · exact HAP.out b h e
          · have := f7 b e; omega)
        have a57 : Apart v7 v8 := fun b hb hb2 => by
          have hlt7 := (H71.out.own_lt hb).2
          rcases HV7.out b hb with h | h
          · rcases f8 b hb2 with h2 | h2
            · exact HAP.out b h h2
            · have := f5 b h; omega
          · rcases f8 b hb2 with h2 | h2
            · have := f7 b h2; omega
            · omega
        have hcf := (HC3.out.trans' H72.out (B := fun _ _ => False) (fun _ _ _ h => h) (fun b o hb e => by have := (HA3.out.own_lt e).1; omega)).trans' hc78 (B := fun _ _ => False) (fun _ _ _ h => h) (fun b o hb e => by have := (HB3.out.own_lt e).1; omega)
        have HREL := Lib.hid (And.intro g5 (And.intro h1 (And.intro a57 hcf)))
        clear h1 h2 h3 g5 a57 hcf hc78 f5 f7 f8
        go_wp2
        go_roundw
        case rel => exact ⟨j + 1, by omega, by go_num, by rw [HT1.out]; exact HREL.out.1, by rw [HT2.out]; exact HREL.out.2.1, HREL.out.2.2.1, HREL.out.2.2.2⟩
        case measure => simp [intOf]; omega
      · have hat : atL L x = none := by
          unfold atL
          split
          · rw [List.getElem?_eq_none (by omega)]
          · rfl
        rw [hat] at ht1 ht2
        have HT1 := Lib.hid ht1
        have HT2 := Lib.hid ht2
        have hnx : decide (0 ≤ x) = true → ¬ x < (L.length : Int) := fun h => by
          have := of_decide_eq_true h
          omega
        clear ht1 ht2 hat hc
        by_cases h1 : 0 ≤ x
        · have h2 : ¬ x < (L.length : Int) := by omega
          clear h0 hnx
          go_upto_region 10 with fail
          refine name_world (fun w3 => Chg (fun _ _ => False) wr w3 ∧ w3.heap[wr.heap.size]? = some (.cells #[.string zW.1, .int .i64 zW.2] 35 (0, 0))) ⟨(Chg.refl _ _).alloc _, ha_at _ _ rfl⟩ ?_
          rintro w3 ⟨hc3, hb3⟩
          have p0 := cell_of_block hb3 0
          have p1 := cell_of_block hb3 1
          simp only [List.getElem?_toArray, List.getElem?_cons_zero, List.getElem?_cons_succ] at p0 p1
          have HA3 := Lib.hid (HA.out.keep hc3)
          have HB3 := Lib.hid (HB.out.keep hc3)
          have HC3 := Lib.hid (show Chg (fun _ _ => False) w1 w3 from HC.out.trans hc3)
          clear hc3 HA HB HC hb3
          have hca3 := (Chg.refl (fun _ _ => False) w3).alloc (.cells #[.string zW.1, .int .i64 zW.2] 35)
          have HOA := Lib.hid (HA3.out.keep hca3)
          have hs3 := HC3.out.size
          go_wp2_with (refine wpList_append_E2 wordE (by rfl) _ _ _ (by rfl) i0 _ 24 Try.underlying22 hi0 hz0 hz1 hz2 rfl _ (by rfl) _ w1.heap.size HOA.out (Nat.le_trans hs3 hca3.size) ⟨w3.heap.size, 0, none⟩ 1 _ (by rfl) [((zW.1, zW.2) : ByteArray × Int)] rfl (by decide) ?_ ?_ ?_ ?_)
          · first | exact El.src1 wordE (c := #[.string zW.1, .int .i64 zW.2]) (ha_at _ _ (by first | rfl | simp)) _ rfl | exact fun _ _ h => h
          · have := HAL.out; unfold maxLen; omega
          · have := HAL.out; omega
          intro v7 w7 h1 h2 h3
          have hc67 := hca3.trans' h2 (B := fun b _ => u7.ownBlock = some b) (fun _ _ _ h => h.elim) (fun _ _ _ h => h)
          have hs67 := hc67.size
          have hca7 := (Chg.refl (fun _ _ => False) w7).alloc (.cells #[.bool false] 4)
          have hob7 := (HB3.out.chgOwn hc67 (fun b _ hb e => HAP.out b e hb)).keep hca7
          have HOB := Lib.hid hob7
          have hA7 : ∀ b, v7.ownBlock = some b → (u7.ownBlock = some b ∨ w3.heap.size ≤ b) := fun b hb => by
            rcases h3 with h | ⟨nb, h, hn⟩
            · exact .inl (h ▸ hb)
            · rw [h] at hb
              have e : nb = b := Option.some.inj hb
              exact .inr (by have := hca3.size; omega)
          have HV7 := Lib.hid hA7
          have H71 := Lib.hid h1
          have H72 := Lib.hid hc67
          clear h1 h2 h3 hob7 hc67 hA7
          go_wp2_with (refine wpList_append_E2 boolE (by rfl) _ _ _ (by rfl) k0 _ 1 Try.underlying42 ki0 kz0 kz1 kz2 rfl _ (by rfl) _ w1.heap.size HOB.out (Nat.le_trans hs3 (Nat.le_trans hs67 hca7.size)) ⟨w7.heap.size, 0, none⟩ 1 _ (by rfl) [false] rfl (by decide) ?_ ?_ ?_ ?_)
          · first | exact El.src1 boolE (c := #[.bool false]) (ha_at _ _ (by first | rfl | simp)) _ rfl | exact fun _ _ h => h
          · have := HBL.out; unfold maxLen; omega
          · have := HBL.out; omega
          intro v8 w8 h1 h2 h3
          have hc78 := hca7.trans' h2 (B := fun b _ => u8.ownBlock = some b) (fun _ _ _ h => h.elim) (fun _ _ _ h => h)
          have f5 : ∀ b, u7.ownBlock = some b → b < w3.heap.size := fun b hb => (HA3.out.own_lt hb).2
          have f7 : ∀ b, u8.ownBlock = some b → b < w3.heap.size := fun b hb => (HB3.out.own_lt hb).2
          have f8 : ∀ b, v8.ownBlock = some b → (u8.ownBlock = some b ∨ w7.heap.size ≤ b) := fun b hb => by
            rcases h3 with h | ⟨nb, h, hn⟩
            · exact .inl (h ▸ hb)
            · rw [h] at hb
              have e : nb = b := Option.some.inj hb
              exact .inr (by have := hca7.size; omega)
          have g5 := H71.out.chgOwn hc78 (fun b _ hb e => by
            rcases HV7.out b hb with h | h
            · exact HAP.out b h e
            · have := f7 b e; omega)
          have a57 : Apart v7 v8 := fun b hb hb2 => by
            have hlt7 := (H71.out.own_lt hb).2
            rcases HV7.out b hb with h | h
            · rcases f8 b hb2 with h2 | h2
              · exact HAP.out b h h2
              · have := f5 b h; omega
            · rcases f8 b hb2 with h2 | h2
              · have := f7 b h2; omega
              · omega
          have hcf := (HC3.out.trans' H72.out (B := fun _ _ => False) (fun _ _ _ h => h) (fun b o hb e => by have := (HA3.out.own_lt e).1; omega)).trans' hc78 (B := fun _ _ => False) (fun _ _ _ h => h) (fun b o hb e => by have := (HB3.out.own_lt e).1; omega)
          have HREL := Lib.hid (And.intro g5 (And.intro h1 (And.intro a57 hcf)))
          clear h1 h2 h3 g5 a57 hcf hc78 f5 f7 f8
          go_wp2
          go_roundw
          case rel => exact ⟨j + 1, by omega, by go_num, by rw [HT1.out]; exact HREL.out.1, by rw [HT2.out]; exact HREL.out.2.1, HREL.out.2.2.1, HREL.out.2.2.2⟩
          case measure => simp [intOf]; omega
        · clear h0 hnx
          go_upto_region 10 with fail
          refine name_world (fun w3 => Chg (fun _ _ => False) wr w3 ∧ w3.heap[wr.heap.size]? = some (.cells #[.string zW.1, .int .i64 zW.2] 35 (0, 0))) ⟨(Chg.refl _ _).alloc _, ha_at _ _ rfl⟩ ?_
          rintro w3 ⟨hc3, hb3⟩
          have p0 := cell_of_block hb3 0
          have p1 := cell_of_block hb3 1
          simp only [List.getElem?_toArray, List.getElem?_cons_zero, List.getElem?_cons_succ] at p0 p1
          have HA3 := Lib.hid (HA.out.keep hc3)
          have HB3 := Lib.hid (HB.out.keep hc3)
          have HC3 := Lib.hid (show Chg (fun _ _ => False) w1 w3 from HC.out.trans hc3)
          clear hc3 HA HB HC hb3
          have hca3 := (Chg.refl (fun _ _ => False) w3).alloc (.cells #[.string zW.1, .int .i64 zW.2] 35)
          have HOA := Lib.hid (HA3.out.keep hca3)
          have hs3 := HC3.out.size
          go_wp2_with (refine wpList_append_E2 wordE (by rfl) _ _ _ (by rfl) i0 _ 24 Try.underlying22 hi0 hz0 hz1 hz2 rfl _ (by rfl) _ w1.heap.size HOA.out (Nat.le_trans hs3 hca3.size) ⟨w3.heap.size, 0, none⟩ 1 _ (by rfl) [((zW.1, zW.2) : ByteArray × Int)] rfl (by decide) ?_ ?_ ?_ ?_)
          · first | exact El.src1 wordE (c := #[.string zW.1, .int .i64 zW.2]) (ha_at _ _ (by first | rfl | simp)) _ rfl | exact fun _ _ h => h
          · have := HAL.out; unfold maxLen; omega
          · have := HAL.out; omega
          intro v7 w7 h1 h2 h3
          have hc67 := hca3.trans' h2 (B := fun b _ => u7.ownBlock = some b) (fun _ _ _ h => h.elim) (fun _ _ _ h => h)
          have hs67 := hc67.size
          have hca7 := (Chg.refl (fun _ _ => False) w7).alloc (.cells #[.bool false] 4)
          have hob7 := (HB3.out.chgOwn hc67 (fun b _ hb e => HAP.out b e hb)).keep hca7
          have HOB := Lib.hid hob7
          have hA7 : ∀ b, v7.ownBlock = some b → (u7.ownBlock = some b ∨ w3.heap.size ≤ b) := fun b hb => by
            rcases h3 with h | ⟨nb, h, hn⟩
            · exact .inl (h ▸ hb)
            · rw [h] at hb
              have e : nb = b := Option.some.inj hb
              exact .inr (by have := hca3.size; omega)
          have HV7 := Lib.hid hA7
          have H71 := Lib.hid h1
          have H72 := Lib.hid hc67
          clear h1 h2 h3 hob7 hc67 hA7
          go_wp2_with (refine wpList_append_E2 boolE (by rfl) _ _ _ (by rfl) k0 _ 1 Try.underlying42 ki0 kz0 kz1 kz2 rfl _ (by rfl) _ w1.heap.size HOB.out (Nat.le_trans hs3 (Nat.le_trans hs67 hca7.size)) ⟨w7.heap.size, 0, none⟩ 1 _ (by rfl) [false] rfl (by decide) ?_ ?_ ?_ ?_)
          · first | exact El.src1 boolE (c := #[.bool false]) (ha_at _ _ (by first | rfl | simp)) _ rfl | exact fun _ _ h => h
          · have := HBL.out; unfold maxLen; omega
          · have := HBL.out; omega
          intro v8 w8 h1 h2 h3
          have hc78 := hca7.trans' h2 (B := fun b _ => u8.ownBlock = some b) (fun _ _ _ h => h.elim) (fun _ _ _ h => h)
          have f5 : ∀ b, u7.ownBlock = some b → b < w3.heap.size := fun b hb => (HA3.out.own_lt hb).2
          have f7 : ∀ b, u8.ownBlock = some b → b < w3.heap.size := fun b hb => (HB3.out.own_lt hb).2
          have f8 : ∀ b, v8.ownBlock = some b → (u8.ownBlock = some b ∨ w7.heap.size ≤ b) := fun b hb => by
            rcases h3 with h | ⟨nb, h, hn⟩
            · exact .inl (h ▸ hb)
            · rw [h] at hb
              have e : nb = b := Option.some.inj hb
              exact .inr (by have := hca7.size; omega)
          have g5 := H71.out.chgOwn hc78 (fun b _ hb e => by
            rcases HV7.out b hb with h | h
            · exact HAP.out b h e
            · have := f7 b e; omega)
          have a57 : Apart v7 v8 := fun b hb hb2 => by
            have hlt7 := (H71.out.own_lt hb).2
            rcases HV7.out b hb with h | h
            · rcases f8 b hb2 with h2 | h2
              · exact HAP.out b h h2
              · have := f5 b h; omega
            · rcases f8 b hb2 with h2 | h2
              · have := f7 b h2; omega
              · omega
          have hcf := (HC3.out.trans' H72.out (B := fun _ _ => False) (fun _ _ _ h => h) (fun b o hb e => by have := (HA3.out.own_lt e).1; omega)).trans' hc78 (B := fun _ _ => False) (fun _ _ _ h => h) (fun b o hb e => by have := (HB3.out.own_lt e).1; omega)
          have HREL := Lib.hid (And.intro g5 (And.intro h1 (And.intro a57 hcf)))
          clear h1 h2 h3 g5 a57 hcf hc78 f5 f7 f8
          go_wp2
          go_roundw
          case rel => exact ⟨j + 1, by omega, by go_num, by rw [HT1.out]; exact HREL.out.1, by rw [HT2.out]; exact HREL.out.2.1, HREL.out.2.2.1, HREL.out.2.2.2⟩
          case measure => simp [intOf]; omega
    · obtain rfl : j = ks.length := by omega
      rw [List.take_of_length_le (by unfold atsW; simp)] at hA
      rw [List.take_of_length_le (by unfold atsB; simp)] at hB
      go_wp2
      go_ret2
      exact ⟨_, _, rfl, hA.sl, hB.sl, hc1.trans hc⟩

set_option maxRecDepth 100000 in
theorem wGetAt_any (d : Int) (v : Value) (l : List (ByteArray × Int)) (kv : Value) (ks : List Int) (w : World) (hd1 : 2 ≤ d) (hd2 : d ≤ 128) (hl : SlE wordE w v l) (hk : SlE intE w kv ks) (hlen : l.length ≤ 2147483647) (hkl : ks.length ≤ 2147483647) :
    Calls Try.prog 7 #[.int .i64 d, v, kv] w fun e w' => e = .returned (.bool true) ∧ Chg (fun _ _ => False) w w' := by
  have HM := Lib.hid (WGetAt_any d v l kv ks w hd1 hd2 hl hk hlen hkl)
  have HG := Lib.hid (fun w1 (c : Chg (fun _ _ => False) w w1) => specWGetAt_any v l kv ks w1 (hl.chg c) (hk.chg c) hlen hkl)
  have h1 : (atsW (growL l) ks).length = ks.length := by unfold atsW; simp
  have h2 : (atsB (growL l) ks).length = ks.length := by unfold atsB; simp
  generalize atsW (growL l) ks = A at HM HG h1
  generalize atsB (growL l) ks = B at HM HG h2
  obtain ⟨a, cap, rfl⟩ := hl.form
  obtain ⟨a3, cap3, rfl⟩ := hk.form
  have hA : A.length ≤ 2147483647 := by omega
  have hB : B.length ≤ 2147483647 := by omega
  clear hl hk h1 h2
  go_enter Try.func7, Try.ntmps7
  go_wp2_with fail
  refine HM.out.mono ?_
  rintro e w1 ⟨v1, u1, rfl, s1, t1, hc1⟩
  have HS1 := Lib.hid s1
  have HT1 := Lib.hid t1
  clear s1 t1 HM
  go_wp2_with fail
  refine (HG.out _ hc1).mono ?_
  rintro e w2 ⟨v2, u2, rfl, s2, t2, hc2⟩
  have HS2 := Lib.hid s2
  have HT2 := Lib.hid t2
  clear s2 t2 HG
  go_wp2_with fail
  refine (equal_word _ _ A _ (HS1.out.chg hc2) HS2.out (by omega)).mono ?_
  rintro e w3 ⟨rfl, hc3⟩
  go_wp2_with fail
  refine (equal_bool _ _ B _ (HT1.out.chg (hc2.trans hc3)) (HT2.out.chg hc3) (by omega)).mono ?_
  rintro e w4 ⟨rfl, hc4⟩
  go_wp2_with fail
  go_ret
  exact ⟨rfl, ((hc1.trans hc2).trans hc3).trans hc4⟩

set_option maxRecDepth 100000 in
theorem law_ExactWGetAt (d : Int) (v : Value) (l : List (ByteArray × Int)) (kv : Value) (ks : List Int) (w : World) (hl : SlE wordE w v l) (hk : SlE intE w kv ks) :
    Calls Try.prog 3 #[.int .i64 d, v, kv] w fun e w' => e = .returned (.bool true) ∧ Chg (fun _ _ => False) w w' := by
  have HZ := Lib.hid (zzFits2_any v l w hl)
  have HS := Lib.hid hl
  have HK := Lib.hid hk
  obtain ⟨a, cap, rfl⟩ := hl.form
  obtain ⟨a3, cap3, rfl⟩ := hk.form
  clear hl hk
  go_enter Try.func3, Try.ntmps3
  go_wp2_with fail
  refine HZ.out.mono ?_
  rintro e w1 ⟨q, rfl, hq, hc1⟩
  cases q
  · go_wp2_with fail
    go_ret
    exact ⟨rfl, hc1⟩
  have hlen := hq rfl
  clear hq HZ
  by_cases hkl : ks.length ≤ 2147483647
  rotate_left
  · have hkl' : (2147483647 : Int) < (ks.length : Int) := by omega
    go_wp2_with fail
    go_ret
    exact ⟨rfl, hc1⟩
  have hkn : ¬ (2147483647 : Int) < (ks.length : Int) := by omega
  go_wp2_with fail
  refine (exWords_any _).mono ?_
  rintro e w2 ⟨v2, rfl, hv2, hc2⟩
  have HV2 := Lib.hid hv2
  obtain ⟨b2, c2, rfl⟩ := hv2.form
  clear hv2
  go_wp2_with fail
  refine (exPlaces_any _).mono ?_
  rintro e w3 ⟨v3, rfl, hv3, hc3⟩
  have hex := wGetAt_any 2 _ exW v3 [0, 2, 5, -1, 100] w3 (by decide) (by decide) (HV2.out.chg hc3) hv3 (by decide) (by decide)
  obtain ⟨b3, c3, rfl⟩ := hv3.form
  have HEX := Lib.hid hex
  clear hex hv3
  go_wp2_with fail
  refine HEX.out.mono ?_
  rintro e w4 ⟨rfl, hc4⟩
  have hc04 := ((hc1.trans hc2).trans hc3).trans hc4
  by_cases hd : 2 ≤ d ∧ d ≤ 128
  · obtain ⟨hd1, hd2⟩ := hd
    have HG := Lib.hid (wGetAt_any d _ l _ ks w4 hd1 hd2 (HS.out.chg hc04) (HK.out.chg hc04) hlen hkl)
    have HF := Lib.hid (fun w => fit_yes d w hd1 hd2)
    clear hd1 hd2
    go_wp2_with fail
    refine (HF.out _).mono ?_
    rintro e w' ⟨rfl, rfl⟩
    go_wp2_with fail
    refine HG.out.mono ?_
    rintro e w5 ⟨rfl, hc5⟩
    go_wp2_with fail
    go_ret
    exact ⟨rfl, hc04.trans hc5⟩
  · have HF := Lib.hid (fun w => fit_no d w (by omega))
    clear hd
    go_wp2_with fail
    refine (HF.out _).mono ?_
    rintro e w' ⟨rfl, rfl⟩
    go_wp2_with fail
    go_ret
    exact ⟨rfl, hc04⟩
end Go.Proofs.Ytbpnabhgnijbfaa
