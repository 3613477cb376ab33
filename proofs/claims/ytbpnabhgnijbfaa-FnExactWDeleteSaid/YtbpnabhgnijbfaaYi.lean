/- spec: WDelete. -/
import Derived.Test.YtbpnabhgnijbfaaA2
import Derived.Test.YtbpnabhgnijbfaaYh
import Derived.Test.YtbpnabhgnijbfaaA11
namespace Go.Proofs.Ytbpnabhgnijbfaa
set_option linter.unusedSimpArgs false
set_option linter.unusedVariables false
open Go.RowKit

theorem del_spot {l : List (ByteArray × Int)} (hs : Srt ltM l) (k : ByteArray) : (spotQ k l = false ∧ fndL ltM (k, 0) l = none ∧ delL ltM (k, 0) l = l) ∨ (∃ y, spotQ k l = true ∧ l[sptL k l]? = some y ∧ fndL ltM (k, 0) l = some y ∧ delL ltM (k, 0) l = l.take (sptL k l) ++ l.drop (sptL k l + 1)) := by
  have hP : ∀ a ∈ l.take (sptL k l), ltM a (k, 0) = true := fun a ha => by
    obtain ⟨j, hj, h⟩ := mem_take_get ha
    exact spt_lt h hj
  have hcut := (List.take_append_drop (sptL k l) l).symm
  cases hy : l[sptL k l]? with
  | none =>
    have hq : spotQ k l = false := by unfold spotQ; rw [hy]
    have hge : l.length ≤ sptL k l := by
      rcases Nat.lt_or_ge (sptL k l) l.length with h | h
      · rw [List.getElem?_eq_getElem h] at hy; cases hy
      · exact h
    have hn : fndL ltM (k, 0) l = none := by
      conv => lhs; rw [hcut]
      exact fndL_gap swoM hP (by rw [List.drop_of_length_le hge]; intro c hc; cases hc)
    exact .inl ⟨hq, hn, delL_none hn⟩
  | some y =>
    have h1 : ltM y (k, 0) = false := spt_stop hy
    have hlt := (List.getElem?_eq_some_iff.1 hy).1
    have hd : l.drop (sptL k l) = y :: l.drop (sptL k l + 1) := by
      rw [List.drop_eq_getElem_cons hlt, (List.getElem?_eq_some_iff.1 hy).2]
    by_cases hq : spotQ k l = true
    · have he : y.1.toList = k.toList := by
        unfold spotQ at hq
        rw [hy] at hq
        simpa using hq
      have h2 : ltM (k, 0) y = false := by
        unfold ltM sLt at h1 ⊢
        rw [he] at h1 ⊢; exact h1
      refine .inr ⟨y, hq, rfl, ?_, ?_⟩
      · conv => lhs; rw [hcut, hd]
        exact fndL_hit hP h1 h2
      · conv => lhs; rw [hcut, hd]
        exact delL_hit hP h1 h2
    · have hq' : spotQ k l = false := by simpa using hq
      have h2 : ltM (k, 0) y = true := by
        cases h : ltM (k, 0) y with
        | true => rfl
        | false =>
          exfalso
          have := bl_eq _ _ h1 h
          apply hq
          unfold spotQ
          rw [hy]
          simpa using this
      have hn : fndL ltM (k, 0) l = none := by
        conv => lhs; rw [hcut]
        refine fndL_gap swoM hP ?_
        rw [hd]
        intro c hc
        rcases List.mem_cons.1 hc with rfl | hc
        · exact h2
        · have : Srt ltM (y :: l.drop (sptL k l + 1)) := by rw [← hd]; exact hs.sublist (List.drop_sublist _ _)
          exact swoM.trans h2 (List.rel_of_pairwise_cons this hc)
      exact .inl ⟨hq', hn, delL_none hn⟩

theorem delsW_srt : ∀ (ks : List ByteArray) {L : List (ByteArray × Int)}, Srt ltM L → Srt ltM (delsW L ks)
  | [], _, h => h
  | k :: ks, _, h => delsW_srt ks (h.sublist (delL_sub _))

section
variable {α : Type} {P : Program}
theorem wp_append_P (p : El α) {o' : Oper} {a : Act} {w : World} {K : Act → World → Prop} {Q : Exit → Act → World → Prop} (s x : Operand) (t : TypeId)
    (ho : o'.op = .call { callee := .builtin .append, args := #[s, x], argTypes := #[t, t] }) (i : TypeInfo) (z : Value) (bytes : Nat) (ht : P.underlying t = some (.slice p.T)) (hi : P.info? p.T = some i) (hz : i.zero = some z)
    (hsize : i.size = p.es) (hby : i.bytes = bytes) (hzs : z.cells.size = p.es) (b o len cap : Nat) (hs : a.eval s = .slice (some ⟨b, o, none⟩) len cap) (xs : List α) (hl : xs.length = len) (hcap : len ≤ cap) (hrow : RowAt w p.T b o (cap * p.es) (flat p.par xs))
    (q : Option Addr) (m c : Nat) (hx : a.eval x = .slice q m c) (ys : List α) (hm : ys.length = m) (hsrc : (∃ ad, q = some ad ∧ ∀ j u, (flat p.par ys)[j]? = some u → w.cell? (ad.add j) = some u) ∨ ys = []) (h63 : len + m ≤ maxLen) (hbytes : (len + m) * bytes ≤ 140737488355328)
    (h : ∀ b' o1 cap' w', AppdP p w b (xs ++ ys) (len + m) b' o1 cap' w' → K (a.put o'.dst (.slice (some ⟨b', o1, none⟩) (len + m) cap')) w') : o'.wp P a w K Q := by
  refine wp_append_opt (P := P) s x t ho p.T i z p.es bytes ht hi hz hsize hby hzs b o len cap hs (flat p.par xs) hrow (by rw [flat_len, hl]; rfl) hcap q m c hx (flat p.par ys) (by rw [flat_len, hm]; rfl) ?_ (flat_one p.par ys) h63 hbytes ?_
  · rcases hsrc with hsrc | rfl
    · exact .inl hsrc
    · exact .inr ⟨by rw [← hm]; rfl, rfl⟩
  · intro b' o1 cap' w' hA
    refine h b' o1 cap' w' ⟨by rw [flat_append]; exact hA.row, hA.room, hA.chg.mono fun _ _ _ h => h.1, ?_⟩
    rcases hA.place with h | h
    · exact .inl h.1
    · exact .inr h.1
end


set_option maxRecDepth 100000 in
set_option maxHeartbeats 4000000 in
theorem specWDelete_any (v : Value) (l : List (ByteArray × Int)) (kv : Value) (ks : List ByteArray) (w : World) (hl : SlE wordE w v l) (hk : SlE strE w kv ks) (hlen : l.length ≤ 2147483647) (hkl : ks.length ≤ 2147483647) :
    Calls Try.prog 27 #[v, kv] w fun e w' => ∃ a b u, e = .returned (.tuple #[a, b, u]) ∧ SlE intE w' a (delsV (growL l) ks) ∧ SlE boolE w' b (delsB (growL l) ks) ∧ SlE wordE w' u (delsW (growL l) ks) ∧ Chg (fun _ _ => False) w w' := by
  have HG := Lib.hid (Words_any v l w hl hlen)
  unfold OwnPost at HG
  have hgl := growL_take_len l l.length
  rw [List.take_length] at hgl
  have hsr := grow_srt l
  generalize growL l = L at HG hgl hsr ⊢
  obtain ⟨pp, cap, rfl⟩ := hl.form
  obtain ⟨ka, kcap, rfl⟩ := hk.form
  have HK := Lib.hid hk
  have HSR := Lib.hid hsr
  clear hl hk hsr
  obtain ⟨n0, ni0, nz0, nz1, nz2⟩ := info_parts infoInt
  obtain ⟨k0, ki0, kz0, kz1, kz2⟩ := info_parts infoBool
  obtain ⟨i0, hi0, hz0, hz1, hz2⟩ := info_parts infoWord
  go_enter Try.func27, Try.ntmps27
  go_wp2_with fail
  refine HG.out.mono ?_
  rintro e w1 ⟨v1, rfl, how1, hc1⟩
  have HI := Lib.hid how1
  clear how1 HG
  go_wp2_with fail
  go_loopw [7, 8, 9, 19] (fun vi va vb iv wr => ∃ (j : Nat), j ≤ ks.length ∧ iv = .int .i64 j ∧ OwnE wordE wr vi (delsW L (ks.take j)) w.heap.size ∧ OwnE intE wr va ((delsV L ks).take j) w.heap.size ∧ OwnE boolE wr vb ((delsB L ks).take j) w.heap.size ∧ Apart va vi ∧ Apart vb vi ∧ Apart va vb ∧ Chg (fun _ _ => False) w wr) (fun _ _ _ iv _ => ks.length - (intOf iv).toNat)
  case atStart => exact ⟨0, Nat.zero_le _, rfl, HI.out, OwnE.nil _ _ _, OwnE.nil _ _ _, (fun b hb => by cases hb), (fun b hb => by cases hb), (fun b hb => by cases hb), hc1⟩
  case round =>
    obtain ⟨j, hj, rfl, hI, hA, hB, hai, hbi, hap, hc⟩ := hrel
    have hwl := Nat.le_trans (delsW_len (ks.take j) L) hgl
    have hsj := delsW_srt (ks.take j) HSR.out
    by_cases hlt : j < ks.length
    · obtain ⟨x, hx⟩ : ∃ x, ks[j]? = some x := ⟨_, List.getElem?_eq_getElem hlt⟩
      obtain ⟨b, o, rfl, g0⟩ := (HK.out.chg hc).str hx
      have ht1 := delsV_take (L := L) hx
      have ht2 := delsB_take (L := L) hx
      have ht3 := delsW_take (L := L) hx
      have hal : ((delsV L ks).take j).length ≤ ks.length := by unfold delsV; rw [List.length_take, List.length_map, delsO_len]; omega
      have hbl : ((delsB L ks).take j).length ≤ ks.length := by unfold delsB; rw [List.length_take, List.length_map, delsO_len]; omega
      have hds := del_spot hsj x
      generalize delsW L (ks.take j) = D at hI ht1 ht2 ht3 hwl hsj hds
      have hsp := fun w1 (c : Chg (fun _ _ => False) wr w1) => spot_any u7 D x w1 (hI.sl.chg c) (by omega)
      unfold SpotPost at hsp
      have hile := spt_le x D
      obtain ⟨i, hi⟩ : ∃ i, sptL x D = i := ⟨_, rfl⟩
      obtain ⟨q, hq⟩ : ∃ q, spotQ x D = q := ⟨_, rfl⟩
      rw [hi, hq] at hds
      rw [hi] at hile
      simp only [hi, hq] at hsp
      have HSP := Lib.hid hsp
      have HT1 := Lib.hid ht1
      have HT2 := Lib.hid ht2
      have HT3 := Lib.hid ht3
      have HAL := Lib.hid hal
      have HBL := Lib.hid hbl
      have HI := Lib.hid hI
      have HA := Lib.hid hA
      have HB := Lib.hid hB
      have HAP := Lib.hid hap
      have HAI0 := Lib.hid hai
      have HBI0 := Lib.hid hbi
      have HC := Lib.hid hc
      clear hx hsp ht1 ht2 ht3 hal hbl hA hB hap hai hbi hi hq hsj hI
      have j0 : (0 : Int) ≤ (j : Int) := by omega
      have j1 : (j : Int) < (ks.length : Int) := by omega
      go_wp2_with fail
      refine (HSP.out wr (Chg.refl _ _)).mono ?_
      rintro e w2 ⟨rfl, hc2⟩
      rcases hds with ⟨rfl, hf, hdl⟩ | ⟨y, rfl, hy, hf, hdl⟩
      · rw [hf] at HT1 HT2
        rw [hdl] at HT3
        have HA2 := Lib.hid (HA.out.keep hc2)
        have HB2 := Lib.hid (HB.out.keep hc2)
        have HI2 := Lib.hid (HI.out.keep hc2)
        have HC2 := Lib.hid (show Chg (fun _ _ => False) w w2 from HC.out.trans hc2)
        have HAI := HAI0
        have HBI := HBI0
        clear hc2 hf hdl hc
        have hca3 := (Chg.refl (fun _ _ => False) w2).alloc (.cells #[.int .i64 0] 3)
        have HOA := Lib.hid (HA2.out.keep hca3)
        have hs3 := HC2.out.size
        go_wp2_with (refine wpList_append_E2 intE (by rfl) _ _ _ (by rfl) n0 _ 8 Try.underlying23 ni0 nz0 nz1 nz2 rfl _ (by rfl) _ w.heap.size HOA.out (Nat.le_trans hs3 hca3.size) ⟨w2.heap.size, 0, none⟩ 1 _ (by rfl) [0] rfl (by decide) ?_ ?_ ?_ ?_)
        · first | exact El.src1 intE (c := #[.int .i64 0]) (ha_at _ _ (by first | rfl | simp)) _ rfl | exact fun _ _ h => h
        · have := HAL.out; unfold maxLen; omega
        · have := HAL.out; omega
        intro v7 w7 h1 h2 h3
        have hc67 := hca3.trans' h2 (B := fun b _ => u8.ownBlock = some b) (fun _ _ _ h => h.elim) (fun _ _ _ h => h)
        have hs67 := hc67.size
        have hca7 := (Chg.refl (fun _ _ => False) w7).alloc (.cells #[.bool false] 4)
        have hob7 := (HB2.out.chgOwn hc67 (fun b _ hb e => HAP.out b e hb)).keep hca7
        have HOB := Lib.hid hob7
        have hA7 : ∀ b, v7.ownBlock = some b → (u8.ownBlock = some b ∨ w2.heap.size ≤ b) := fun b hb => by
          rcases h3 with h | ⟨nb, h, hn⟩
          · exact .inl (h ▸ hb)
          · rw [h] at hb
            have e : nb = b := Option.some.inj hb
            exact .inr (by have := hca3.size; omega)
        have HV7 := Lib.hid hA7
        have H71 := Lib.hid h1
        have H72 := Lib.hid hc67
        clear h1 h2 h3 hob7 hc67 hA7
        go_wp2_with (refine wpList_append_E2 boolE (by rfl) _ _ _ (by rfl) k0 _ 1 Try.underlying42 ki0 kz0 kz1 kz2 rfl _ (by rfl) _ w.heap.size HOB.out (Nat.le_trans hs3 (Nat.le_trans hs67 hca7.size)) ⟨w7.heap.size, 0, none⟩ 1 _ (by rfl) [false] rfl (by decide) ?_ ?_ ?_ ?_)
        · first | exact El.src1 boolE (c := #[.bool false]) (ha_at _ _ (by first | rfl | simp)) _ rfl | exact fun _ _ h => h
        · have := HBL.out; unfold maxLen; omega
        · have := HBL.out; omega
        intro v8 w8 h1 h2 h3
        have hc78 := hca7.trans' h2 (B := fun b _ => u9.ownBlock = some b) (fun _ _ _ h => h.elim) (fun _ _ _ h => h)
        have f5 : ∀ b, u8.ownBlock = some b → b < w2.heap.size := fun b hb => (HA2.out.own_lt hb).2
        have f7 : ∀ b, u9.ownBlock = some b → b < w2.heap.size := fun b hb => (HB2.out.own_lt hb).2
        have f8 : ∀ b, v8.ownBlock = some b → (u9.ownBlock = some b ∨ w2.heap.size ≤ b) := fun b hb => by
          rcases h3 with h | ⟨nb, h, hn⟩
          · exact .inl (h ▸ hb)
          · rw [h] at hb
            have e : nb = b := Option.some.inj hb
            exact .inr (by have := hca7.size; omega)
        have g5 := H71.out.chgOwn hc78 (fun b _ hb e => by
          rcases HV7.out b hb with h | h
          · exact HAP.out b h e
          · have := f7 b e; omega)
        have a57 : Apart v7 v8 := fun b hb hb2 => by
          have hlt7 := (H71.out.own_lt hb).2
          rcases h3 with h | ⟨nb, h, hn⟩
          · rw [h] at hb2
            rcases HV7.out b hb with h4 | h4
            · exact HAP.out b h4 hb2
            · have := f7 b hb2; omega
          · rw [h] at hb2
            have e : nb = b := Option.some.inj hb2
            have := hca7.size
            omega
        have hcf := (HC2.out.trans' H72.out (B := fun _ _ => False) (fun _ _ _ h => h) (fun b o hb e => by have := (HA2.out.own_lt e).1; omega)).trans' hc78 (B := fun _ _ => False) (fun _ _ _ h => h) (fun b o hb e => by have := (HB2.out.own_lt e).1; omega)
        have gi8 := (HI2.out.chgOwn H72.out (fun b _ hb e => HAI.out b e hb)).chgOwn hc78 (fun b _ hb e => HBI.out b e hb)
        have ai7 : Apart v7 (u7) := fun b hb hb2 => by
          rcases HV7.out b hb with h | h
          · exact HAI.out b h hb2
          · have := (HI2.out.own_lt hb2).2; omega
        have ai8 : Apart v8 (u7) := fun b hb hb2 => by
          rcases f8 b hb with h | h
          · exact HBI.out b h hb2
          · have := (HI2.out.own_lt hb2).2; omega
        have HREL := Lib.hid (And.intro gi8 (And.intro g5 (And.intro h1 (And.intro ai7 (And.intro ai8 (And.intro a57 hcf))))))
        clear h1 h2 h3 g5 a57 hcf hc78 f5 f7 f8 gi8 ai7 ai8
        go_wp2
        go_roundw
        case rel => exact ⟨j + 1, by omega, by go_num, by rw [HT3.out]; exact HREL.out.1, by rw [HT1.out]; exact HREL.out.2.1, by rw [HT2.out]; exact HREL.out.2.2.1, HREL.out.2.2.2.1, HREL.out.2.2.2.2.1, HREL.out.2.2.2.2.2.1, HREL.out.2.2.2.2.2.2⟩
        case measure => simp [intOf]; omega
      · rw [hf] at HT1 HT2
        rw [hdl] at HT3
        have hilt := (List.getElem?_eq_some_iff.1 hy).1
        rcases HI.out with ⟨h0, _⟩ | ⟨b', o', ccap, rfl, hcap, hbb, hrow0⟩
        · rw [h0] at hy; simp at hy
        have hrow := hrow0.chg hc2 (fun _ _ h => h)
        have gv := hrow.cell (flat_get wordE.par hy (q := 1) (v := .int .i64 y.2) rfl)
        replace gv : w2.cell? ⟨b', o' + i * 2 + 1, none⟩ = some (.int .i64 y.2) := by rw [Nat.add_assoc]; exact gv
        have HROW := Lib.hid hrow
        have j2 : (0 : Int) ≤ (i : Int) := by omega
        have j3 : (i : Int) ≤ (ccap : Int) := by omega
        have j4 : i ≤ ccap := by omega
        have j6 : (i : Int) < (D.length : Int) := by omega
        have s1 : IntKind.i64.wrap ((i : Int) + 1) = (i : Int) + 1 := IntWalk.i64_in _ (by omega)
        have s2 : (0 : Int) ≤ (i : Int) + 1 := by omega
        have s3 : ((i : Int) + 1).toNat = i + 1 := by omega
        have s4 : (i : Int) + 1 ≤ (D.length : Int) := by omega
        have s5 : (i : Int) + 1 ≤ (ccap : Int) := by omega
        obtain ⟨od, hif, hod⟩ : ∃ od, (if ccap = i + 1 then some (⟨b', o', none⟩ : Addr) else some ⟨b', o' + (i + 1) * 2, none⟩) = some ⟨b', od, none⟩ ∧ (i + 1 < D.length → od = o' + (i + 1) * 2) := by
          by_cases h : ccap = i + 1
          · exact ⟨o', by rw [if_pos h], fun h2 => by omega⟩
          · exact ⟨_, by rw [if_neg h], fun _ => rfl⟩
        have HOD := Lib.hid hod
        have HC02 := Lib.hid (show Chg (fun _ _ => False) w w2 from HC.out.trans hc2)
        have HA1 := Lib.hid (HA.out.keep hc2)
        have HB1 := Lib.hid (HB.out.keep hc2)
        have hsw := HC02.out.size
        clear hrow0 hrow hy hf hdl hod hc HI HA HB HC
        go_wp2_with fail
        refine wp_region_scr (fun w' => True) (.soft 1 (.soft 2 (.soft 3 (.soft 5 (.soft 6 (.soft 7 (.soft 8 (.hard 0 (.hard 4 (.hard 9 (.soft 10 .nil))))))))))) (by kernel_rfl) (by kernel_rfl) (fun _ _ _ _ _ h => h) trivial ?_
        repeat
          first
          | (refine scr_soft (by rfl) ?_ ?_ ?_ ?_
             rotate_left
             · simp [Region.wanted, yielded]; done
             · intro w' hS
               try obtain ⟨a1⟩ := hS
               go_simp
               try with_reducible rfl
             simp only [Act.put, List.setIfInBounds_toArray, List.set_cons_zero, List.set_cons_succ])
          | (refine scr_skip (by rfl) ?_ ?_
             · simp [Region.wanted, yielded]; done
             simp only [Act.put, List.setIfInBounds_toArray, List.set_cons_zero, List.set_cons_succ])
        refine scr_hard (by rfl) (by simp [Region.wanted, yielded]) (fun K hK => ?_)
        go_simp
        refine hK _ _ trivial ?_
        clear hK K
        refine scr_hard (by rfl) (by simp [Region.wanted, yielded]) (fun K hK => ?_)
        refine wp_append_P wordE _ _ _ (by rfl) i0 _ 24 Try.underlying22 hi0 hz0 hz1 hz2 rfl w2.heap.size 0 0 0 (by rfl) [] rfl (Nat.le_refl _) ?_ (some ⟨b', o', none⟩) i _ (by rfl) (D.take i) (by rw [List.length_take]; omega) (.inl ⟨_, rfl, ((HROW.out.drew).alloc _).srcTake i⟩) ?_ ?_ ?_
        · exact RowAt.of_block (c := #[]) (ha_at _ _ rfl) _ _ (by simp [flat]) (by simp) (by simp [flat])
        · unfold maxLen; omega
        · omega
        intro b4 o4 cap4 w4 hap4
        obtain ⟨r4, room4, hc4, pl4⟩ := hap4
        have hca2 := ((Chg.refl (fun _ _ => False) w2).drew).alloc (.cells #[] 35)
        have hb4 : w2.heap.size ≤ b4 := by
          rcases pl4 with h | h
          · first | omega | exact Nat.le_of_eq h.symm
          · first | (have := hca2.size; omega) | exact Nat.le_trans hca2.size h
        have hc24 : Chg (fun _ _ => False) w2 w4 := hca2.trans' hc4 (fun _ _ _ h => h) (fun b o hb h => by omega)
        refine hK _ _ trivial ?_
        clear hK K hc4 pl4 hca2
        refine scr_hard (by rfl) (by simp [Region.wanted, yielded]) (fun K hK => ?_)
        refine wp_append_P wordE _ _ _ (by rfl) i0 _ 24 Try.underlying22 hi0 hz0 hz1 hz2 rfl b4 o4 (0 + i) cap4 (by rfl) ([] ++ D.take i) (by simp; omega) room4 r4 (some ⟨b', od, none⟩) (D.length - (i + 1)) _ (by rfl) (D.drop (i + 1)) (by simp) ?_ ?_ ?_ ?_
        · rcases Nat.lt_or_ge (i + 1) D.length with h | h
          · refine .inl ⟨_, rfl, ?_⟩
            rw [HOD.out h]
            exact (HROW.out.chg hc24 (fun _ _ h => h)).srcDrop (i + 1)
          · exact .inr (List.drop_of_length_le h)
        · unfold maxLen; omega
        · omega
        intro b5 o5 cap5 w5 hap5
        obtain ⟨r5, room5, hc5, pl5⟩ := hap5
        have hb5 : w2.heap.size ≤ b5 := by
          rcases pl5 with h | h
          · omega
          · first | (have := hc24.size; omega) | exact Nat.le_trans hc24.size h
        have hc25 : Chg (fun _ _ => False) w2 w5 := hc24.trans' hc5 (fun _ _ _ h => h) (fun b o hb h => by omega)
        have hnl : (D.take i ++ D.drop (i + 1)).length = i + (D.length - (i + 1)) := by simp; omega
        have hown5 : OwnE wordE w5 (.slice (some ⟨b5, o5, none⟩) (i + (D.length - (i + 1))) cap5) (D.take i ++ D.drop (i + 1)) w.heap.size :=
          .inr ⟨b5, o5, cap5, by rw [hnl], by rw [hnl]; omega, by omega, by first | exact r5 | simpa using r5⟩
        have HO5 := Lib.hid hown5
        have HC25 := Lib.hid hc25
        refine hK _ _ trivial ?_
        clear hK K hc5 pl5 r4 room4 r5 room5 hc24 hown5 hc25 hif s1 s2 s3 s4 s5 gv hnl
        repeat
          first
          | (refine scr_soft (by rfl) ?_ ?_ ?_ ?_
             rotate_left
             · simp [Region.wanted, yielded]; done
             · intro w' hS
               try obtain ⟨a1⟩ := hS
               go_simp
               try with_reducible rfl
             simp only [Act.put, List.setIfInBounds_toArray, List.set_cons_zero, List.set_cons_succ])
          | (refine scr_skip (by rfl) ?_ ?_
             · simp [Region.wanted, yielded]; done
             simp only [Act.put, List.setIfInBounds_toArray, List.set_cons_zero, List.set_cons_succ])
        refine scr_nil ?_
        have hw2l := fun b (h : u8.ownBlock = some b) => (HA1.out.own_lt h).2
        have hw2m := fun b (h : u9.ownBlock = some b) => (HB1.out.own_lt h).2
        have hai : Apart u8 (.slice (some ⟨b5, o5, none⟩) (i + (D.length - (i + 1))) cap5) := fun b hb hb2 => by
          have e : b5 = b := Option.some.inj hb2
          have := hw2l b hb
          omega
        have hbi : Apart u9 (.slice (some ⟨b5, o5, none⟩) (i + (D.length - (i + 1))) cap5) := fun b hb hb2 => by
          have e : b5 = b := Option.some.inj hb2
          have := hw2m b hb
          omega
        have HAI := Lib.hid hai
        have HBI := Lib.hid hbi
        have HI2 := HO5
        have HA2 := Lib.hid (HA1.out.keep HC25.out)
        have HB2 := Lib.hid (HB1.out.keep HC25.out)
        have HC2 := Lib.hid (HC02.out.trans HC25.out)
        clear hai hbi hw2l hw2m HC25 HC02 HA1 HB1 HO5 HROW HOD hc2 hsw hb4 hb5
        have hca3 := (Chg.refl (fun _ _ => False) w5).alloc (.cells #[.int .i64 y.2] 3)
        have HOA := Lib.hid (HA2.out.keep hca3)
        have hs3 := HC2.out.size
        go_wp2_with (refine wpList_append_E2 intE (by rfl) _ _ _ (by rfl) n0 _ 8 Try.underlying23 ni0 nz0 nz1 nz2 rfl _ (by rfl) _ w.heap.size HOA.out (Nat.le_trans hs3 hca3.size) ⟨w5.heap.size, 0, none⟩ 1 _ (by rfl) [y.2] rfl (by decide) ?_ ?_ ?_ ?_)
        · first | exact El.src1 intE (c := #[.int .i64 y.2]) (ha_at _ _ (by first | rfl | simp)) _ rfl | exact fun _ _ h => h
        · have := HAL.out; unfold maxLen; omega
        · have := HAL.out; omega
        intro v7 w7 h1 h2 h3
        have hc67 := hca3.trans' h2 (B := fun b _ => u8.ownBlock = some b) (fun _ _ _ h => h.elim) (fun _ _ _ h => h)
        have hs67 := hc67.size
        have hca7 := (Chg.refl (fun _ _ => False) w7).alloc (.cells #[.bool true] 4)
        have hob7 := (HB2.out.chgOwn hc67 (fun b _ hb e => HAP.out b e hb)).keep hca7
        have HOB := Lib.hid hob7
        have hA7 : ∀ b, v7.ownBlock = some b → (u8.ownBlock = some b ∨ w5.heap.size ≤ b) := fun b hb => by
          rcases h3 with h | ⟨nb, h, hn⟩
          · exact .inl (h ▸ hb)
          · rw [h] at hb
            have e : nb = b := Option.some.inj hb
            exact .inr (by have := hca3.size; omega)
        have HV7 := Lib.hid hA7
        have H71 := Lib.hid h1
        have H72 := Lib.hid hc67
        clear h1 h2 h3 hob7 hc67 hA7
        go_wp2_with (refine wpList_append_E2 boolE (by rfl) _ _ _ (by rfl) k0 _ 1 Try.underlying42 ki0 kz0 kz1 kz2 rfl _ (by rfl) _ w.heap.size HOB.out (Nat.le_trans hs3 (Nat.le_trans hs67 hca7.size)) ⟨w7.heap.size, 0, none⟩ 1 _ (by rfl) [true] rfl (by decide) ?_ ?_ ?_ ?_)
        · first | exact El.src1 boolE (c := #[.bool true]) (ha_at _ _ (by first | rfl | simp)) _ rfl | exact fun _ _ h => h
        · have := HBL.out; unfold maxLen; omega
        · have := HBL.out; omega
        intro v8 w8 h1 h2 h3
        have hc78 := hca7.trans' h2 (B := fun b _ => u9.ownBlock = some b) (fun _ _ _ h => h.elim) (fun _ _ _ h => h)
        have f5 : ∀ b, u8.ownBlock = some b → b < w5.heap.size := fun b hb => (HA2.out.own_lt hb).2
        have f7 : ∀ b, u9.ownBlock = some b → b < w5.heap.size := fun b hb => (HB2.out.own_lt hb).2
        have f8 : ∀ b, v8.ownBlock = some b → (u9.ownBlock = some b ∨ w5.heap.size ≤ b) := fun b hb => by
          rcases h3 with h | ⟨nb, h, hn⟩
          · exact .inl (h ▸ hb)
          · rw [h] at hb
            have e : nb = b := Option.some.inj hb
            exact .inr (by have := hca7.size; omega)
        have g5 := H71.out.chgOwn hc78 (fun b _ hb e => by
          rcases HV7.out b hb with h | h
          · exact HAP.out b h e
          · have := f7 b e; omega)
        have a57 : Apart v7 v8 := fun b hb hb2 => by
          have hlt7 := (H71.out.own_lt hb).2
          rcases h3 with h | ⟨nb, h, hn⟩
          · rw [h] at hb2
            rcases HV7.out b hb with h4 | h4
            · exact HAP.out b h4 hb2
            · have := f7 b hb2; omega
          · rw [h] at hb2
            have e : nb = b := Option.some.inj hb2
            have := hca7.size
            omega
        have hcf := (HC2.out.trans' H72.out (B := fun _ _ => False) (fun _ _ _ h => h) (fun b o hb e => by have := (HA2.out.own_lt e).1; omega)).trans' hc78 (B := fun _ _ => False) (fun _ _ _ h => h) (fun b o hb e => by have := (HB2.out.own_lt e).1; omega)
        have gi8 := (HI2.out.chgOwn H72.out (fun b _ hb e => HAI.out b e hb)).chgOwn hc78 (fun b _ hb e => HBI.out b e hb)
        have ai7 : Apart v7 (.slice (some ⟨b5, o5, none⟩) (i + (D.length - (i + 1))) cap5) := fun b hb hb2 => by
          rcases HV7.out b hb with h | h
          · exact HAI.out b h hb2
          · have := (HI2.out.own_lt hb2).2; omega
        have ai8 : Apart v8 (.slice (some ⟨b5, o5, none⟩) (i + (D.length - (i + 1))) cap5) := fun b hb hb2 => by
          rcases f8 b hb with h | h
          · exact HBI.out b h hb2
          · have := (HI2.out.own_lt hb2).2; omega
        have HREL := Lib.hid (And.intro gi8 (And.intro g5 (And.intro h1 (And.intro ai7 (And.intro ai8 (And.intro a57 hcf))))))
        clear h1 h2 h3 g5 a57 hcf hc78 f5 f7 f8 gi8 ai7 ai8
        go_wp2
        go_roundw
        case rel => exact ⟨j + 1, by omega, by go_num, by rw [HT3.out]; exact HREL.out.1, by rw [HT1.out]; exact HREL.out.2.1, by rw [HT2.out]; exact HREL.out.2.2.1, HREL.out.2.2.2.1, HREL.out.2.2.2.2.1, HREL.out.2.2.2.2.2.1, HREL.out.2.2.2.2.2.2⟩
        case measure => simp [intOf]; omega
    · obtain rfl : j = ks.length := by omega
      rw [List.take_of_length_le (by unfold delsV; rw [List.length_map, delsO_len]; exact Nat.le_refl _)] at hA
      rw [List.take_of_length_le (by unfold delsB; rw [List.length_map, delsO_len]; exact Nat.le_refl _)] at hB
      rw [List.take_length] at hI
      go_wp2
      go_ret3
      exact ⟨_, _, _, rfl, hA.sl, hB.sl, hI.sl, hc⟩
end Go.Proofs.Ytbpnabhgnijbfaa
