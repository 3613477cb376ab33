/- WGetAt and its reference. -/
import Derived.Test.YtbpnabhgnijbfaaA11
import Derived.Test.YtbpnabhgnijbfaaGb
namespace Go.Proofs.Ytbpnabhgnijbfaa
set_option linter.unusedSimpArgs false
set_option linter.unusedVariables false
open Go.RowKit

def zW : ByteArray × Int := (⟨#[]⟩, 0)

/-- The words at indexes, and whether there are any. -/
def atsW (L : List (ByteArray × Int)) (ks : List Int) : List (ByteArray × Int) := ks.map fun i => (atL L i).getD zW
def atsB (L : List (ByteArray × Int)) (ks : List Int) : List Bool := ks.map fun i => (atL L i).isSome

set_option maxRecDepth 100000 in
set_option maxHeartbeats 2000000 in
theorem WGetAt_any (d : Int) (v : Value) (l : List (ByteArray × Int)) (kv : Value) (ks : List Int) (w : World) (hd1 : 2 ≤ d) (hd2 : d ≤ 128) (hl : SlE wordE w v l) (hk : SlE intE w kv ks) (hlen : l.length ≤ 2147483647) (hkl : ks.length ≤ 2147483647) :
    Calls Try.prog 22 #[.int .i64 d, v, kv] w fun e w' => ∃ a b, e = .returned (.tuple #[a, b]) ∧ SlE wordE w' a (atsW (growL l) ks) ∧ SlE boolE w' b (atsB (growL l) ks) ∧ Chg (fun _ _ => False) w w' := by
  have HG := Lib.hid (growWords_any d v l w hd1 hd2 hl hlen)
  unfold GrowPost at HG
  have hgl := growL_take_len l l.length
  rw [List.take_length] at hgl
  generalize growL l = L at HG hgl ⊢
  obtain ⟨pp, cap, rfl⟩ := hl.form
  obtain ⟨ka, kcap, rfl⟩ := hk.form
  have HK := Lib.hid hk
  clear hl hk
  obtain ⟨i0, hi0, hz0, hz1, hz2⟩ := info_parts infoWord
  obtain ⟨k0, ki0, kz0, kz1, kz2⟩ := info_parts infoBool
  go_enter Try.func22, Try.ntmps22
  go_wp2_with fail
  refine HG.out.mono ?_
  rintro e w1 ⟨t, F, rfl, ht0, hM, hc1, hF⟩
  have HM := Lib.hid hM
  clear hM HG
  go_wp2_with fail
  go_loopw [9, 10, 21] (fun va vb iv wr => ∃ (j : Nat), j ≤ ks.length ∧ iv = .int .i64 j ∧ OwnE wordE wr va ((atsW L ks).take j) w1.heap.size ∧ OwnE boolE wr vb ((atsB L ks).take j) w1.heap.size ∧ Apart va vb ∧ Chg (fun _ _ => False) w1 wr) (fun _ _ iv _ => ks.length - (intOf iv).toNat)
  case atStart => exact ⟨0, Nat.zero_le _, rfl, OwnE.nil _ _ _, OwnE.nil _ _ _, (fun b hb => by cases hb), Chg.refl _ _⟩
  case round =>
    obtain ⟨j, hj, rfl, hA, hB, hap, hc⟩ := hrel
    by_cases hlt : j < ks.length
    · obtain ⟨x, hx⟩ : ∃ x, ks[j]? = some x := ⟨_, List.getElem?_eq_getElem hlt⟩
      obtain ⟨b, o, rfl, g0⟩ := (HK.out.chg (hc1.trans hc)).int hx
      have hat := GetAt_any x (HM.out.chg hc) (by omega) (by omega)
      obtain ⟨fk, fv, fb, hv, hg, hs⟩ := headV_word (atL L x)
      rw [hv] at hat
      have ht1 : (atsW L ks).take (j + 1) = (atsW L ks).take j ++ [(fk, fv)] := by
        unfold atsW
        rw [List.take_add_one, List.getElem?_map, hx]
        show _ ++ [(atL L x).getD zW] = _
        rw [show (atL L x).getD zW = (fk, fv) from hg]
      have ht2 : (atsB L ks).take (j + 1) = (atsB L ks).take j ++ [fb] := by
        unfold atsB
        rw [List.take_add_one, List.getElem?_map, hx]
        show _ ++ [(atL L x).isSome] = _
        rw [hs]
      have hal : ((atsW L ks).take j).length ≤ ks.length := by unfold atsW; simp; omega
      have hbl : ((atsB L ks).take j).length ≤ ks.length := by unfold atsB; simp; omega
      have HAT := Lib.hid hat
      have HT1 := Lib.hid ht1
      have HT2 := Lib.hid ht2
      have HAL := Lib.hid hal
      have HBL := Lib.hid hbl
      have HA := Lib.hid hA
      have HB := Lib.hid hB
      have HAP := Lib.hid hap
      have HC := Lib.hid hc
      clear hx hat hv hg hs ht1 ht2 hal hbl hA hB hap hc
      have j0 : (0 : Int) ≤ (j : Int) := by omega
      have j1 : (j : Int) < (ks.length : Int) := by omega
      go_wp2_with fail
      refine HAT.out.mono ?_
      rintro e w3 ⟨rfl, hc3⟩
      have HA3 := Lib.hid (HA.out.keep hc3)
      have HB3 := Lib.hid (HB.out.keep hc3)
      have HC3 := Lib.hid (show Chg (fun _ _ => False) w1 w3 from HC.out.trans hc3)
      clear hc3 HA HB HC
      have hca3 := (Chg.refl (fun _ _ => False) w3).alloc (.cells #[.string fk, .int .i64 fv] 35)
      have HOA := Lib.hid (HA3.out.keep hca3)
      have hs3 := HC3.out.size
      go_wp2_with (refine wpList_append_E2 wordE (by rfl) _ _ _ (by rfl) i0 _ 24 Try.underlying22 hi0 hz0 hz1 hz2 rfl _ (by rfl) _ w1.heap.size HOA.out (Nat.le_trans hs3 hca3.size) ⟨w3.heap.size, 0, none⟩ 1 _ (by rfl) [((fk, fv) : ByteArray × Int)] rfl (by decide) ?_ ?_ ?_ ?_)
      · first | exact El.src1 wordE (c := #[.string fk, .int .i64 fv]) (ha_at _ _ (by first | rfl | simp)) _ rfl | exact fun _ _ h => h
      · have := HAL.out; unfold maxLen; omega
      · have := HAL.out; omega
      intro v7 w7 h1 h2 h3
      have hc67 := hca3.trans' h2 (B := fun b _ => u9.ownBlock = some b) (fun _ _ _ h => h.elim) (fun _ _ _ h => h)
      have hs67 := hc67.size
      have hca7 := (Chg.refl (fun _ _ => False) w7).alloc (.cells #[.bool fb] 4)
      have hob7 := (HB3.out.chgOwn hc67 (fun b _ hb e => HAP.out b e hb)).keep hca7
      have HOB := Lib.hid hob7
      have hA7 : ∀ b, v7.ownBlock = some b → (u9.ownBlock = some b ∨ w3.heap.size ≤ b) := fun b hb => by
        rcases h3 with h | ⟨nb, h, hn⟩
        · exact .inl (h ▸ hb)
        · rw [h] at hb
          have e : nb = b := Option.some.inj hb
          exact .inr (by have := hca3.size; omega)
      have HV7 := Lib.hid hA7
      have H71 := Lib.hid h1
      have H72 := Lib.hid hc67
      clear h1 h2 h3 hob7 hc67 hA7
      go_wp2_with (refine wpList_append_E2 boolE (by rfl) _ _ _ (by rfl) k0 _ 1 Try.underlying42 ki0 kz0 kz1 kz2 rfl _ (by rfl) _ w1.heap.size HOB.out (Nat.le_trans hs3 (Nat.le_trans hs67 hca7.size)) ⟨w7.heap.size, 0, none⟩ 1 _ (by rfl) [fb] rfl (by decide) ?_ ?_ ?_ ?_)
      · first | exact El.src1 boolE (c := #[.bool fb]) (ha_at _ _ (by first | rfl | simp)) _ rfl | exact fun _ _ h => h
      · have := HBL.out; unfold maxLen; omega
      · have := HBL.out; omega
      intro v8 w8 h1 h2 h3
      have hc78 := hca7.trans' h2 (B := fun b _ => u10.ownBlock = some b) (fun _ _ _ h => h.elim) (fun _ _ _ h => h)
      have f5 : ∀ b, u9.ownBlock = some b → b < w3.heap.size := fun b hb => (HA3.out.own_lt hb).2
      have f7 : ∀ b, u10.ownBlock = some b → b < w3.heap.size := fun b hb => (HB3.out.own_lt hb).2
      have f8 : ∀ b, v8.ownBlock = some b → (u10.ownBlock = some b ∨ w7.heap.size ≤ b) := fun b hb => by
        rcases h3 with h | ⟨nb, h, hn⟩
        · exact .inl (h ▸ hb)
        · rw [h] at hb
          have e : nb = b := Option.some.inj hb
          exact .inr (by have := hca7.size; omega)
      have g5 := H71.out.chgOwn hc78 (fun b _ hb e => by
        rcases HV7.out b hb with h | h
        · exact HAP.out b h e
        · have := f7 b e; omega)
      have a57 : Apart v7 v8 := fun b hb hb2 => by
        have hlt7 := (H71.out.own_lt hb).2
        rcases HV7.out b hb with h | h
        · rcases f8 b hb2 with h2 | h2
          · exact HAP.out b h h2
          · have := f5 b h; omega
        · rcases f8 b hb2 with h2 | h2
          · have := f7 b h2; omega
          · omega
      have hcf := (HC3.out.trans' H72.out (B := fun _ _ => False) (fun _ _ _ h => h) (fun b o hb e => by have := (HA3.out.own_lt e).1; omega)).trans' hc78 (B := fun _ _ => False) (fun _ _ _ h => h) (fun b o hb e => by have := (HB3.out.own_lt e).1; omega)
      have HREL := Lib.hid (And.intro g5 (And.intro h1 (And.intro a57 hcf)))
      clear h1 h2 h3 g5 a57 hcf hc78 f5 f7 f8
      go_wp2
      go_roundw
      case rel => exact ⟨j + 1, by omega, by go_num, by rw [HT1.out]; exact HREL.out.1, by rw [HT2.out]; exact HREL.out.2.1, HREL.out.2.2.1, HREL.out.2.2.2⟩
      case measure => simp [intOf]; omega
    · obtain rfl : j = ks.length := by omega
      rw [List.take_of_length_le (by unfold atsW; simp)] at hA
      rw [List.take_of_length_le (by unfold atsB; simp)] at hB
      go_wp2
      go_ret2
      exact ⟨_, _, rfl, hA.sl, hB.sl, hc1.trans hc⟩
end Go.Proofs.Ytbpnabhgnijbfaa
