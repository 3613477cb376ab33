/- Scan, allWords; WDelete. -/
import Derived.Test.YtbpnabhgnijbfaaEi
import Derived.Test.YtbpnabhgnijbfaaYf
namespace Go.Proofs.Ytbpnabhgnijbfaa
set_option linter.unusedSimpArgs false
set_option linter.unusedVariables false
open Go.RowKit

theorem scan_any {mn mx : Nat} {w : World} {F : Nat → Prop} {t : Nat} {l : List (ByteArray × Int)} (mt : Bool) {n : Int} {ob b2 b3 cb rb : Nat} {acc : List (ByteArray × Int)} (hM : MapIn mn mx w F t l) (hK : Kept n ob b2 b3 cb rb w acc) (hFb : ∀ b, F b → ¬ TakeB ob rb b) (htb : ¬ TakeB ob rb t) (hlen : acc.length + l.length ≤ 1000000000000) :
    Calls Try.prog 66 #[.pointer (some ⟨t, 0, none⟩), fnP cb, .bool mt] w (RunEnd n ob b2 b3 cb rb acc l w) := by
  rcases hM with ⟨rfl, _, hB⟩ | ⟨H, h, T, hI, hB, rfl, h1⟩
  · have c2 : w.cell? ⟨t, 2, none⟩ = some (.pointer none) := hB.c2
    have HK := Lib.hid hK
    clear hK
    unfold fnP
    go_enter Try.func66, Try.ntmps66
    go_wp2
    go_end0
    exact ⟨rfl, HK.out, Chg.refl _ _⟩
  · have c2 : w.cell? ⟨t, 2, none⟩ = some (.pointer (some ⟨rid T, 0, none⟩)) := hB.c2
    have hr := scan_all h 0 mn mx w F H T t ⟨t, 2, none⟩ mt n ob b2 b3 cb rb acc hI.fam hI.isT hI.sh c2 hB.at_.c0 hK hFb htb hlen
    unfold fnP at hr ⊢
    have HR := Lib.hid hr
    clear hr hK
    go_enter Try.func66, Try.ntmps66
    go_wp2_with fail
    refine HR.out.mono ?_
    rintro e w1 ⟨rfl, h1, h2⟩
    go_wp2_with fail
    go_end0
    exact ⟨rfl, h1, h2⟩

theorem Scan_any {mn mx : Nat} {w : World} {F : Nat → Prop} {t : Nat} {l : List (ByteArray × Int)} {n : Int} {ob b2 b3 cb rb : Nat} {acc : List (ByteArray × Int)} (hM : MapIn mn mx w F t l) (hK : Kept n ob b2 b3 cb rb w acc) (hFb : ∀ b, F b → ¬ TakeB ob rb b) (htb : ¬ TakeB ob rb t) (hlen : acc.length + l.length ≤ 1000000000000) :
    Calls Try.prog 54 #[.pointer (some ⟨t, 0, none⟩), fnP cb] w (RunEnd n ob b2 b3 cb rb acc l w) := by
  have hr := scan_any false hM hK hFb htb hlen
  unfold fnP at hr ⊢
  have HR := Lib.hid hr
  clear hr hK
  go_enter Try.func54, Try.ntmps54
  go_wp2_with fail
  refine HR.out.mono ?_
  rintro e w1 ⟨rfl, h1, h2⟩
  go_wp2_with fail
  go_end0
  exact ⟨rfl, h1, h2⟩

theorem allWords_any {mn mx : Nat} {w : World} {F : Nat → Prop} {t : Nat} {l : List (ByteArray × Int)} (hM : MapIn mn mx w F t l) (hlen : l.length ≤ 1000000000000) :
    Calls Try.prog 40 #[.pointer (some ⟨t, 0, none⟩)] w (OwnPost wordE l w) := by
  have htl := hM.own (b := t) MOwn.self
  have HM := Lib.hid hM
  clear hM
  go_enter Try.func40, Try.ntmps40
  go_wp2_with fail
  refine name_calls (fun w1 => Chg (fun _ _ => False) w w1 ∧ w1.heap[w.heap.size]? = some (.cells #[.slice none 0 0] 22 (0, 0))) ⟨(Chg.refl _ _).alloc _, ha_at _ _ rfl⟩ ?_
  rintro w1 ⟨hc1, hb1⟩
  have hlt1 := heap_lt hb1
  have hp := pairs_any w.heap.size 0 w1 hb1
  have HP := Lib.hid hp
  clear hp hb1
  refine HP.out.mono ?_
  rintro e w3 ⟨b2, b3, cb, rfl, hk, hc3⟩
  have hsz3 := hc3.size
  have hM3 := (HM.out.chg hc1).chg hc3
  have hTb : ∀ b, F b → ¬ TakeB w.heap.size w3.heap.size b := by
    rintro b hb (h | h)
    · have := HM.out.famLt hb; omega
    · have := hM3.famLt hb; omega
  have htb : ¬ TakeB w.heap.size w3.heap.size t := by
    rintro (h | h)
    · omega
    · have := hM3.own (b := t) MOwn.self; omega
  have hr := Scan_any hM3 hk hTb htb (by simpa using hlen)
  unfold fnP at hr
  have HR := Lib.hid hr
  clear hr hk
  go_wp2_with fail
  refine HR.out.mono ?_
  rintro e w4 ⟨rfl, hk4, hc4⟩
  rw [runL_first] at hk4
  have e0 : firstN 0 l = l := by simp [firstN]
  rw [e0] at hk4
  obtain ⟨⟨v, g1, g2⟩, _⟩ := hk4
  have k0 := cell_of_block g1 0
  simp only [List.getElem?_toArray, List.getElem?_cons_zero] at k0
  clear g1
  go_wp2_with fail
  go_ret
  have hc03 := hc1.trans hc3
  exact ⟨v, rfl, g2.mono hc03.size, hc03.trans' hc4 (fun _ _ _ h => h) (fun b o hb h => by rcases h with h | h <;> omega)⟩

/-! What is left behind deletions, and what each one gave. -/
def delsW (L : List (ByteArray × Int)) (ks : List ByteArray) : List (ByteArray × Int) := ks.foldl (fun acc k => delL ltM (k, 0) acc) L
def delsO (L : List (ByteArray × Int)) (ks : List ByteArray) : List (Option (ByteArray × Int)) := (List.range ks.length).map fun j => (ks[j]?).bind fun k => fndL ltM (k, 0) (delsW L (ks.take j))
def valO (o : Option (ByteArray × Int)) : Int := match o with
  | some y => y.2
  | none => 0
def delsV (L : List (ByteArray × Int)) (ks : List ByteArray) : List Int := (delsO L ks).map valO
def delsB (L : List (ByteArray × Int)) (ks : List ByteArray) : List Bool := (delsO L ks).map Option.isSome

theorem delsO_len (L : List (ByteArray × Int)) (ks : List ByteArray) : (delsO L ks).length = ks.length := by simp [delsO]
theorem delsO_take {L : List (ByteArray × Int)} {ks : List ByteArray} {j : Nat} {k : ByteArray} (hx : ks[j]? = some k) : (delsO L ks).take (j + 1) = (delsO L ks).take j ++ [fndL ltM (k, 0) (delsW L (ks.take j))] := by
  have hj := (List.getElem?_eq_some_iff.1 hx).1
  rw [List.take_add_one]
  congr 1
  unfold delsO
  rw [List.getElem?_map, List.getElem?_range hj]
  simp [hx]
theorem delsV_take {L : List (ByteArray × Int)} {ks : List ByteArray} {j : Nat} {k : ByteArray} (hx : ks[j]? = some k) : (delsV L ks).take (j + 1) = (delsV L ks).take j ++ [valO (fndL ltM (k, 0) (delsW L (ks.take j)))] := by
  unfold delsV
  rw [← List.map_take, delsO_take hx, List.map_append, List.map_take]; rfl
theorem delsB_take {L : List (ByteArray × Int)} {ks : List ByteArray} {j : Nat} {k : ByteArray} (hx : ks[j]? = some k) : (delsB L ks).take (j + 1) = (delsB L ks).take j ++ [(fndL ltM (k, 0) (delsW L (ks.take j))).isSome] := by
  unfold delsB
  rw [← List.map_take, delsO_take hx, List.map_append, List.map_take]; rfl
theorem delsW_take {L : List (ByteArray × Int)} {ks : List ByteArray} {j : Nat} {k : ByteArray} (hx : ks[j]? = some k) : delsW L (ks.take (j + 1)) = delL ltM (k, 0) (delsW L (ks.take j)) := by
  unfold delsW
  rw [List.take_add_one, hx, List.foldl_append]; rfl
theorem delL_le (x : ByteArray × Int) (l : List (ByteArray × Int)) : (delL ltM x l).length ≤ l.length := (delL_sub l).length_le
theorem delsW_len : ∀ (ks : List ByteArray) (L : List (ByteArray × Int)), (delsW L ks).length ≤ L.length
  | [], L => Nat.le_refl _
  | k :: ks, L => Nat.le_trans (delsW_len ks (delL ltM (k, 0) L)) (delL_le _ L)

set_option maxRecDepth 100000 in
set_option maxHeartbeats 4000000 in
theorem WDelete_any (d : Int) (v : Value) (l : List (ByteArray × Int)) (kv : Value) (ks : List ByteArray) (w : World) (hd1 : 2 ≤ d) (hd2 : d ≤ 128) (hl : SlE wordE w v l) (hk : SlE strE w kv ks) (hlen : l.length ≤ 2147483647) (hkl : ks.length ≤ 2147483647) :
    Calls Try.prog 26 #[.int .i64 d, v, kv] w fun e w' => ∃ a b u, e = .returned (.tuple #[a, b, u]) ∧ SlE intE w' a (delsV (growL l) ks) ∧ SlE boolE w' b (delsB (growL l) ks) ∧ SlE wordE w' u (delsW (growL l) ks) ∧ Chg (fun _ _ => False) w w' := by
  have HG := Lib.hid (growWords_any d v l w hd1 hd2 hl hlen)
  unfold GrowPost at HG
  have hgl := growL_take_len l l.length
  rw [List.take_length] at hgl
  generalize growL l = L at HG hgl ⊢
  obtain ⟨pp, cap, rfl⟩ := hl.form
  obtain ⟨ka, kcap, rfl⟩ := hk.form
  have HK := Lib.hid hk
  clear hl hk
  obtain ⟨n0, ni0, nz0, nz1, nz2⟩ := info_parts infoInt
  obtain ⟨k0, ki0, kz0, kz1, kz2⟩ := info_parts infoBool
  obtain ⟨mn, hmn0⟩ : ∃ mn, (2 * d.toNat - 1) / 2 = mn := ⟨_, rfl⟩
  obtain ⟨mx, hmx0⟩ : ∃ mx, 2 * d.toNat - 1 = mx := ⟨_, rfl⟩
  have hmn : 1 ≤ mn := by omega
  rw [hmn0, hmx0] at HG
  clear hmn0 hmx0
  go_enter Try.func26, Try.ntmps26
  go_wp2_with fail
  refine HG.out.mono ?_
  rintro e w1 ⟨t, F, rfl, ht0, hM, hc1, hF⟩
  have HM := Lib.hid hM
  clear hM HG
  go_wp2_with fail
  go_loopw [10, 11, 21] (fun va vb iv wr => ∃ (j : Nat) (F' : Nat → Prop), j ≤ ks.length ∧ iv = .int .i64 j ∧ OwnE intE wr va ((delsV L ks).take j) w.heap.size ∧ OwnE boolE wr vb ((delsB L ks).take j) w.heap.size ∧ Apart va vb ∧ MapIn mn mx wr F' t (delsW L (ks.take j)) ∧ (∀ b, va.ownBlock = some b → ¬ F' b ∧ b ≠ t) ∧ (∀ b, vb.ownBlock = some b → ¬ F' b ∧ b ≠ t) ∧ (∀ b, F' b → w.heap.size ≤ b) ∧ Chg (fun _ _ => False) w wr) (fun _ _ iv _ => ks.length - (intOf iv).toNat)
  case atStart => exact ⟨0, F, Nat.zero_le _, rfl, OwnE.nil _ _ _, OwnE.nil _ _ _, (fun b hb => by cases hb), HM.out, (fun b hb => by cases hb), (fun b hb => by cases hb), hF, hc1⟩
  case round =>
    obtain ⟨j, F', hj, rfl, hA, hB, hap, hMr, haf, hbf, hFw, hc⟩ := hrel
    have hwl := Nat.le_trans (delsW_len (ks.take j) L) hgl
    have htr := hMr.own (b := t) MOwn.self
    by_cases hlt : j < ks.length
    · obtain ⟨x, hx⟩ : ∃ x, ks[j]? = some x := ⟨_, List.getElem?_eq_getElem hlt⟩
      obtain ⟨b, o, rfl, g0⟩ := (HK.out.chg hc).str hx
      have hdel := Delete_any (x, 0) hMr hmn
      have ht1 := delsV_take (L := L) hx
      have ht2 := delsB_take (L := L) hx
      have ht3 := delsW_take (L := L) hx
      have hal : ((delsV L ks).take j).length ≤ ks.length := by unfold delsV; rw [List.length_take, List.length_map, delsO_len]; omega
      have hbl : ((delsB L ks).take j).length ≤ ks.length := by unfold delsB; rw [List.length_take, List.length_map, delsO_len]; omega
      have hret : ∀ e, SetRet (delsW L (ks.take j)) (x, 0) e → e = .returned (.tuple #[.int .i64 (valO (fndL ltM (x, 0) (delsW L (ks.take j)))), .bool (fndL ltM (x, 0) (delsW L (ks.take j))).isSome]) := by
        rintro e (⟨y, hy, rfl⟩ | ⟨hy, rfl⟩)
        · rw [hy]; rfl
        · rw [hy]; rfl
      unfold DelAns at hdel
      obtain ⟨fo, hfo⟩ : ∃ fo, fndL ltM (x, 0) (delsW L (ks.take j)) = fo := ⟨_, rfl⟩
      rw [hfo] at ht1 ht2 hret
      have HD := Lib.hid hdel
      have HRET := Lib.hid hret
      have HT1 := Lib.hid ht1
      have HT2 := Lib.hid ht2
      have HT3 := Lib.hid ht3
      have HAL := Lib.hid hal
      have HBL := Lib.hid hbl
      have HA := Lib.hid hA
      have HB := Lib.hid hB
      have HAP := Lib.hid hap
      have HC := Lib.hid hc
      have HAF := Lib.hid haf
      have HBF := Lib.hid hbf
      have HFW := Lib.hid hFw
      clear hx hdel hret ht1 ht2 ht3 hal hbl hA hB hap hc haf hbf hFw hMr hfo
      have j0 : (0 : Int) ≤ (j : Int) := by omega
      have j1 : (j : Int) < (ks.length : Int) := by omega
      go_wp2_with fail
      refine HD.out.mono ?_
      rintro e w2 ⟨hret, F2, hM2, hc2, hF2⟩
      obtain rfl := HRET.out e hret
      have hs2 := hc2.size
      have hA2 := HA.out.chgOwn hc2 (fun b _ hb e => by
        obtain ⟨a1, a2⟩ := HAF.out b hb
        rcases e with e | e
        · exact a1 e
        · exact a2 e)
      have hB2 := HB.out.chgOwn hc2 (fun b _ hb e => by
        obtain ⟨a1, a2⟩ := HBF.out b hb
        rcases e with e | e
        · exact a1 e
        · exact a2 e)
      have hC2 : Chg (fun _ _ => False) w w2 := HC.out.trans' hc2 (fun _ _ _ h => h) (fun b o hb e => by
        rcases e with e | e
        · have := HFW.out b e; omega
        · omega)
      have hF2w : ∀ b, F2 b → w.heap.size ≤ b := fun b hb => by
        rcases hF2 b hb with h | h
        · exact HFW.out b h
        · have := HC.out.size; omega
      have haf2 : ∀ b, u10.ownBlock = some b → ¬ F2 b ∧ b ≠ t := fun b hb => ⟨fun h => by
        have h3 := (HA.out.own_lt hb).2
        rcases hF2 b h with h | h
        · exact (HAF.out b hb).1 h
        · omega, (HAF.out b hb).2⟩
      have hbf2 : ∀ b, u11.ownBlock = some b → ¬ F2 b ∧ b ≠ t := fun b hb => ⟨fun h => by
        have h3 := (HB.out.own_lt hb).2
        rcases hF2 b h with h | h
        · exact (HBF.out b hb).1 h
        · omega, (HBF.out b hb).2⟩
      have HA2 := Lib.hid hA2
      have HB2 := Lib.hid hB2
      have HC2 := Lib.hid hC2
      have HM2 := Lib.hid hM2
      have HAF2 := Lib.hid haf2
      have HBF2 := Lib.hid hbf2
      have HF2W := Lib.hid hF2w
      obtain ⟨zv, hzv⟩ : ∃ zv, valO fo = zv := ⟨_, rfl⟩
      obtain ⟨zb, hzb⟩ : ∃ zb, fo.isSome = zb := ⟨_, rfl⟩
      rw [hzv, hzb]
      replace HT1 := Lib.hid (show _ from hzv ▸ HT1.out)
      replace HT2 := Lib.hid (show _ from hzb ▸ HT2.out)
      clear hA2 hB2 hC2 hM2 haf2 hbf2 hF2w hF2 hret HA HB HC HAF HBF hzv hzb hc2
      have hca3 := (Chg.refl (fun _ _ => False) w2).alloc (.cells #[.int .i64 zv] 3)
      have HOA := Lib.hid (HA2.out.keep hca3)
      have hs3 := HC2.out.size
      go_wp2_with (refine wpList_append_E2 intE (by rfl) _ _ _ (by rfl) n0 _ 8 Try.underlying23 ni0 nz0 nz1 nz2 rfl _ (by rfl) _ w.heap.size HOA.out (Nat.le_trans hs3 hca3.size) ⟨w2.heap.size, 0, none⟩ 1 _ (by rfl) [zv] rfl (by decide) ?_ ?_ ?_ ?_)
      · first | exact El.src1 intE (c := #[.int .i64 zv]) (ha_at _ _ (by first | rfl | simp)) _ rfl | exact fun _ _ h => h
      · have := HAL.out; unfold maxLen; omega
      · have := HAL.out; omega
      intro v7 w7 h1 h2 h3
      have hc67 := hca3.trans' h2 (B := fun b _ => u10.ownBlock = some b) (fun _ _ _ h => h.elim) (fun _ _ _ h => h)
      have hs67 := hc67.size
      have hca7 := (Chg.refl (fun _ _ => False) w7).alloc (.cells #[.bool zb] 4)
      have hob7 := (HB2.out.chgOwn hc67 (fun b _ hb e => HAP.out b e hb)).keep hca7
      have HOB := Lib.hid hob7
      have hA7 : ∀ b, v7.ownBlock = some b → (u10.ownBlock = some b ∨ w2.heap.size ≤ b) := fun b hb => by
        rcases h3 with h | ⟨nb, h, hn⟩
        · exact .inl (h ▸ hb)
        · rw [h] at hb
          have e : nb = b := Option.some.inj hb
          exact .inr (by have := hca3.size; omega)
      have HV7 := Lib.hid hA7
      have H71 := Lib.hid h1
      have H72 := Lib.hid hc67
      clear h1 h2 h3 hob7 hc67 hA7
      go_wp2_with (refine wpList_append_E2 boolE (by rfl) _ _ _ (by rfl) k0 _ 1 Try.underlying42 ki0 kz0 kz1 kz2 rfl _ (by rfl) _ w.heap.size HOB.out (Nat.le_trans hs3 (Nat.le_trans hs67 hca7.size)) ⟨w7.heap.size, 0, none⟩ 1 _ (by rfl) [zb] rfl (by decide) ?_ ?_ ?_ ?_)
      · first | exact El.src1 boolE (c := #[.bool zb]) (ha_at _ _ (by first | rfl | simp)) _ rfl | exact fun _ _ h => h
      · have := HBL.out; unfold maxLen; omega
      · have := HBL.out; omega
      intro v8 w8 h1 h2 h3
      have hc78 := hca7.trans' h2 (B := fun b _ => u11.ownBlock = some b) (fun _ _ _ h => h.elim) (fun _ _ _ h => h)
      have f5 : ∀ b, u10.ownBlock = some b → b < w2.heap.size := fun b hb => (HA2.out.own_lt hb).2
      have f7 : ∀ b, u11.ownBlock = some b → b < w2.heap.size := fun b hb => (HB2.out.own_lt hb).2
      have f8 : ∀ b, v8.ownBlock = some b → (u11.ownBlock = some b ∨ w2.heap.size ≤ b) := fun b hb => by
        rcases h3 with h | ⟨nb, h, hn⟩
        · exact .inl (h ▸ hb)
        · rw [h] at hb
          have e : nb = b := Option.some.inj hb
          exact .inr (by have := hca7.size; omega)
      have g5 := H71.out.chgOwn hc78 (fun b _ hb e => by
        rcases HV7.out b hb with h | h
        · exact HAP.out b h e
        · have := f7 b e; omega)
      have a57 : Apart v7 v8 := fun b hb hb2 => by
        have hlt7 := (H71.out.own_lt hb).2
        rcases h3 with h | ⟨nb, h, hn⟩
        · rw [h] at hb2
          rcases HV7.out b hb with h4 | h4
          · exact HAP.out b h4 hb2
          · have := f7 b hb2; omega
        · rw [h] at hb2
          have e : nb = b := Option.some.inj hb2
          have := hca7.size
          omega
      have hcf := (HC2.out.trans' H72.out (B := fun _ _ => False) (fun _ _ _ h => h) (fun b o hb e => by have := (HA2.out.own_lt e).1; omega)).trans' hc78 (B := fun _ _ => False) (fun _ _ _ h => h) (fun b o hb e => by have := (HB2.out.own_lt e).1; omega)
      have hMf := (HM2.out.chgA H72.out (fun b _ hb e => (HAF2.out b e).1 hb) (fun b _ hm e => (HAF2.out b e).2 hm)).chgA hc78 (fun b _ hb e => (HBF2.out b e).1 hb) (fun b _ hm e => (HBF2.out b e).2 hm)
      have haf9 : ∀ b, v7.ownBlock = some b → ¬ F2 b ∧ b ≠ t := fun b hb => by
        rcases HV7.out b hb with h | h
        · exact HAF2.out b h
        · exact ⟨fun h2 => by have := HM2.out.famLt h2; omega, fun h2 => by have := HM2.out.own (b := t) MOwn.self; omega⟩
      have hbf9 : ∀ b, v8.ownBlock = some b → ¬ F2 b ∧ b ≠ t := fun b hb => by
        rcases f8 b hb with h | h
        · exact HBF2.out b h
        · exact ⟨fun h2 => by have := HM2.out.famLt h2; omega, fun h2 => by have := HM2.out.own (b := t) MOwn.self; omega⟩
      have HREL := Lib.hid (And.intro g5 (And.intro h1 (And.intro a57 (And.intro hMf (And.intro haf9 (And.intro hbf9 hcf))))))
      clear h1 h2 h3 g5 a57 hcf hc78 f5 f7 f8 hMf haf9 hbf9
      go_wp2
      go_roundw
      case rel => exact ⟨j + 1, F2, by omega, by go_num, by rw [HT1.out]; exact HREL.out.1, by rw [HT2.out]; exact HREL.out.2.1, HREL.out.2.2.1, by rw [HT3.out]; exact HREL.out.2.2.2.1, HREL.out.2.2.2.2.1, HREL.out.2.2.2.2.2.1, HF2W.out, HREL.out.2.2.2.2.2.2⟩
      case measure => simp [intOf]; omega
    · obtain rfl : j = ks.length := by omega
      rw [List.take_of_length_le (by unfold delsV; rw [List.length_map, delsO_len]; exact Nat.le_refl _)] at hA
      rw [List.take_of_length_le (by unfold delsB; rw [List.length_map, delsO_len]; exact Nat.le_refl _)] at hB
      rw [List.take_length] at hMr hwl
      have HW := Lib.hid (allWords_any hMr (by omega))
      unfold OwnPost at HW
      have HA := Lib.hid hA.sl
      have HB := Lib.hid hB.sl
      have i2 : ¬ ((ks.length : Nat) : Int) < (ks.length : Int) := by omega
      clear hA hB hMr haf hbf hap
      go_wp2_with fail
      refine HW.out.mono ?_
      rintro e w4 ⟨v4, rfl, how4, hc4⟩
      go_wp2_with fail
      go_ret3
      exact ⟨_, _, _, rfl, HA.out.chg hc4, HB.out.chg hc4, how4.sl, hc.trans hc4⟩
end Go.Proofs.Ytbpnabhgnijbfaa
