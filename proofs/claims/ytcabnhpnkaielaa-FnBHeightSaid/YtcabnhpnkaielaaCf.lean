/- spec.GSet; the law on BSet. -/
import Derived.Test.YtcabnhpnkaielaaCe
namespace Go.Proofs.Ytcabnhpnkaielaa
set_option linter.unusedSimpArgs false
set_option linter.unusedVariables false
open Go.RowKit

theorem RowI.own {w : World} {v : Value} {l : List (Int × Int)} {base : Nat} (h : RowI w v l base) : ∀ b, v.ownBlock = some b → base ≤ b ∧ b < w.heap.size := by
  obtain ⟨b, o, cap, rfl, h2, h3, h4⟩ := h
  intro b' hb
  have e : b = b' := Option.some.inj hb
  subst e
  exact ⟨h3, h4.lt⟩

theorem RowI.sl {w : World} {v : Value} {l : List (Int × Int)} {base : Nat} (h : RowI w v l base) : SlE itemE w v l := by
  obtain ⟨p, cap, rfl, hi⟩ := h.items
  obtain ⟨b, o, cap', e, h2, _⟩ := h
  injection e with e1 e2 e3
  exact hi.sl (by omega)

theorem RowI.chgOwn {A : Nat → Nat → Prop} {w w' : World} {v : Value} {l : List (Int × Int)} {base : Nat} (h : RowI w v l base) (c : Chg A w w') (hA : ∀ b o, v.ownBlock = some b → ¬ A b o) : RowI w' v l base := by
  obtain ⟨b, o, cap, rfl, h2, h3, h4⟩ := h
  exact ⟨b, o, cap, rfl, h2, h3, h4.chg c (fun _ _ h => hA _ _ rfl h)⟩

set_option maxRecDepth 100000 in
set_option maxHeartbeats 1000000 in
theorem specGSet_any {ord : List Int} (sv : Value) (d : Int) (nl : Bool) (p : Option Addr) (cap : Nat) (l : List (It ord)) (w : World) (hs : SlE intE w sv ord) (hol : ord.length ≤ 2147483647) (hl : ItemsAt w p l) (hlen : l.length ≤ 2147483647) (hcapl : l.length ≤ cap) :
    Calls Try.prog 45 #[.agg #[sv, .int .i64 d, .bool nl], .slice p l.length cap] w fun e w' => ∃ v u, e = .returned (.tuple #[v, u]) ∧ SlE foundE w' v (outF l) ∧ SlE itemE w' u (treeL (ltR (rkL ord)) l) ∧ Chg (fun _ _ => False) w w' := by
  have HS := Lib.hid (hl.sl hcapl)
  obtain ⟨i0, hi0, hz0, hz1, hz2⟩ := info_parts infoFound
  have HDL := Lib.hid (fun j => treeL_take_len (ltR (rkL ord)) l j)
  have HR := Lib.hid (fun w1 (c : Chg (fun _ _ => False) w w1) => rank_list sv ord w1 (hs.chg c) hol)
  obtain ⟨sa, sc, rfl⟩ : ∃ a c, sv = .slice a ord.length c := hs.form
  clear hl hs
  go_enter Try.func45, Try.ntmps45
  go_wp2_with fail
  refine name_world (fun w1 => Chg (fun _ _ => False) w w1 ∧ w1.heap[w.heap.size]? = some (.cells #[.slice sa ord.length sc, .int .i64 d, .bool nl] 24 (0, 0))) ⟨(Chg.refl _ _).alloc _, ha_at _ _ rfl⟩ ?_
  rintro w2 ⟨hc12, hb1⟩
  have hlt := heap_lt hb1
  have m0 := cell_of_block hb1 0
  simp only [List.getElem?_toArray, List.getElem?_cons_zero] at m0
  clear hb1
  go_wp2_with fail
  go_loopw [6, 7, 13] (fun v u i wr => ∃ (j : Nat), j ≤ l.length ∧ i = .int .i64 j ∧ OutI wr u (treeL (ltR (rkL ord)) (l.take j)) w2.heap.size ∧ (∀ b, u.ownBlock = some b → b < wr.heap.size) ∧ (∀ b, v.ownBlock = some b → u.ownBlock ≠ some b) ∧ OwnE foundE wr v ((outF l).take j) w2.heap.size ∧ Chg (fun _ _ => False) w2 wr) (fun _ _ i _ => l.length - (intOf i).toNat)
  case atStart => exact ⟨0, Nat.zero_le _, rfl, .inl ⟨rfl, rfl⟩, (fun b hb => by cases hb), (fun b hb => by cases hb), OwnE.nil _ _ _, Chg.refl _ _⟩
  case round =>
    obtain ⟨j, hj, rfl, hu, hub, hap, how, hc⟩ := hrel
    have hsz := hc.size
    have hsz2 := hc12.size
    by_cases hlt : j < l.length
    · obtain ⟨x, hx⟩ : ∃ x, l[j]? = some x := ⟨_, List.getElem?_eq_getElem hlt⟩
      obtain ⟨b, o, rfl, g0, g1⟩ := (HS.out.chg (hc12.trans hc)).item hx
      have ht : (outF l).take (j + 1) = (outF l).take j ++ [fndL (ltR (rkL ord)) x (treeL (ltR (rkL ord)) (l.take j))] := outF_take hx
      have hnx := treeL_take (lt := ltR (rkL ord)) hx
      have hll : ((outF l).take j).length ≤ l.length := by rw [List.length_take]; omega
      obtain ⟨fk, fv, fb, hfv, hfl⟩ := foundV_agg (fndL (ltR (rkL ord)) x (treeL (ltR (rkL ord)) (l.take j)))
      have hdr := fun (w3 : World) (c : Chg (fun _ _ => False) wr w3) => put_out (.slice sa ord.length sc) (rkL ord) u7 _ _ x w3 (HR.out _ (hc12.trans (hc.trans c))) (hu.chg c) (by have := HDL.out j; omega)
      unfold PutPost2 itemV at hdr
      rw [hfv] at hdr
      have HDR := Lib.hid hdr
      have HTT := Lib.hid ht
      have HNX := Lib.hid hnx
      have HLL := Lib.hid hll
      have HOW0 := Lib.hid how
      have HU := Lib.hid hu
      have HUB := Lib.hid hub
      have HAP := Lib.hid hap
      have HC := Lib.hid hc
      clear hx ht hnx hll how hu hub hap hdr hfv
      have m1 := hc.cell (fun h => h) m0
      have m2 : ∀ o1 o2, ((wr.alloc o1).alloc o2).cell? ⟨w.heap.size, 0, none⟩ = some (.slice sa ord.length sc) := fun o1 o2 => (((Chg.refl (fun _ _ => False) wr).alloc o1).alloc o2).cell (fun h => h) m1
      have i0' : (0 : Int) ≤ (j : Int) := by omega
      have i1 : (j : Int) < (l.length : Int) := by omega
      clear hc
      go_wp2_with fail
      refine name_calls (fun w3 => Chg (fun _ _ => False) wr w3 ∧ w3.heap[wr.heap.size + 1]? = some (.cells #[.int .i64 0, .int .i64 0, .bool false] 45 (0, 0))) ⟨((Chg.refl _ _).alloc _).alloc _, ha_at _ _ (by simp)⟩ ?_
      rintro w3 ⟨hc3, hb3⟩
      refine (HDR.out w3 hc3).mono ?_
      rintro e w4 ⟨v4, rfl, hs4, hc4⟩
      have hl3 := heap_lt hb3
      have hb4 : w4.heap[wr.heap.size + 1]? = some (.cells #[.int .i64 0, .int .i64 0, .bool false] 45 (0, 0)) := by rw [hc4.block hl3 (fun _ h => h)]; exact hb3
      have c0 := cell_of_block hb4 0
      have c1 := cell_of_block hb4 1
      have c2 := cell_of_block hb4 2
      have z0 := frozen_of_block hb4 0
      have z1 := frozen_of_block hb4 1
      have z2 := frozen_of_block hb4 2
      simp only [List.getElem?_toArray, List.getElem?_cons_zero, List.getElem?_cons_succ] at c0 c1 c2
      have hsz3 := hc3.size
      have hsz4 := hc4.size
      have hst : Chg (fun b _ => b = wr.heap.size + 1) w4 (((w4.setCell ⟨wr.heap.size + 1, 0, none⟩ (.int .i64 fk)).setCell ⟨wr.heap.size + 1, 1, none⟩ (.int .i64 fv)).setCell ⟨wr.heap.size + 1, 2, none⟩ (.bool fb)) := by
        repeat (first | refine Chg.setCell ?_ (.inl rfl) _ | exact Chg.refl _ _)
      have hcb : Chg (fun _ _ => False) (((w4.setCell ⟨wr.heap.size + 1, 0, none⟩ (.int .i64 fk)).setCell ⟨wr.heap.size + 1, 1, none⟩ (.int .i64 fv)).setCell ⟨wr.heap.size + 1, 2, none⟩ (.bool fb)) ((((w4.setCell ⟨wr.heap.size + 1, 0, none⟩ (.int .i64 fk)).setCell ⟨wr.heap.size + 1, 1, none⟩ (.int .i64 fv)).setCell ⟨wr.heap.size + 1, 2, none⟩ (.bool fb)).alloc (.cells #[.int .i64 fk, .int .i64 fv, .bool fb] 45)) := (Chg.refl _ _).alloc _
      have hkb : Chg (fun b _ => b = wr.heap.size + 1) w4 _ := hst.trans (hcb.mono (fun _ _ _ h => h.elim))
      have HOW := Lib.hid ((HOW0.out.keep (hc3.trans hc4)).chgOwn hkb (fun b _ hb e => by have := (HOW0.out.own_lt hb).2; omega))
      have hsk := hkb.size
      have hown4 : ∀ b, v4.ownBlock = some b → w3.heap.size ≤ b ∧ b < w4.heap.size := hs4.own
      have hsk4 := hs4.chgOwn hkb (fun b _ hb e => by have := hown4 b hb; omega)
      have hcw : Chg (fun _ _ => False) wr _ := (hc3.trans hc4).trans' hkb (B := fun _ _ => False) (fun _ _ _ h => h) (fun b o hb e => by omega)
      have HCW := Lib.hid hcw
      have HS4 := Lib.hid hsk4
      have HO4 := Lib.hid hown4
      have hszk : w4.heap.size + 1 = ((((w4.setCell ⟨wr.heap.size + 1, 0, none⟩ (.int .i64 fk)).setCell ⟨wr.heap.size + 1, 1, none⟩ (.int .i64 fv)).setCell ⟨wr.heap.size + 1, 2, none⟩ (.bool fb)).alloc (.cells #[.int .i64 fk, .int .i64 fv, .bool fb] 45)).heap.size := by simp
      have hszk2 : w4.heap.size + 1 ≤ ((((w4.setCell ⟨wr.heap.size + 1, 0, none⟩ (.int .i64 fk)).setCell ⟨wr.heap.size + 1, 1, none⟩ (.int .i64 fv)).setCell ⟨wr.heap.size + 1, 2, none⟩ (.bool fb)).alloc (.cells #[.int .i64 fk, .int .i64 fv, .bool fb] 45)).heap.size := by omega
      clear hs4 hst hcb hkb hcw hsk4 hown4 hb3 hb4 hszk
      go_wp2_with (refine wpList_append_E2 foundE (by rfl) _ _ _ (by rfl) i0 _ 24 Try.underlying47 hi0 hz0 hz1 hz2 rfl _ (by rfl) _ w2.heap.size HOW.out (by omega) ⟨w4.heap.size, 0, none⟩ 1 _ (by rfl) [fndL (ltR (rkL ord)) x (treeL (ltR (rkL ord)) (l.take j))] rfl (by decide) ?_ ?_ ?_ ?_)
      · exact El.src1 foundE (c := #[.int .i64 fk, .int .i64 fv, .bool fb]) (ha_at _ _ (by simp)) _ hfl.symm
      · have := HLL.out; unfold maxLen; omega
      · have := HLL.out; omega
      intro v' w' h1 h2 h3
      have hap4 : ∀ b, u6.ownBlock = some b → v4.ownBlock ≠ some b := fun b hb hb2 => by
        have h := HO4.out b hb2
        have := (HOW0.out.own_lt hb).2; omega
      have hfin : OutI w' v4 (insL (ltR (rkL ord)) x (treeL (ltR (rkL ord)) (l.take j))) w2.heap.size ∧ (∀ b, v4.ownBlock = some b → b < w'.heap.size) ∧ (∀ b, v'.ownBlock = some b → v4.ownBlock ≠ some b) ∧ Chg (fun _ _ => False) w2 w' := by
        have hs2 := h2.size
        refine ⟨.inr ((HS4.out.chgOwn h2 (fun b _ hb e => hap4 b e hb)).mono (by omega)), fun b hb => by have := HO4.out b hb; omega, (fun b hb hb2 => by
          rcases h3 with h3 | ⟨nb, h3, hn⟩
          · exact hap4 b (h3 ▸ hb) hb2
          · rw [h3] at hb
            have e : nb = b := Option.some.inj hb
            have := HO4.out b hb2
            omega), (HC.out.trans HCW.out).trans' h2 (fun _ _ _ h => h) (fun b o hb e => by have := (HOW0.out.own_lt e).1; omega)⟩
      have HFIN := Lib.hid hfin
      have H1 := Lib.hid h1
      clear hfin h1 h2 h3 hap4
      go_wp2
      go_roundw
      case rel => exact ⟨j + 1, by omega, by go_num, by rw [HNX.out]; exact HFIN.out.1, HFIN.out.2.1, HFIN.out.2.2.1, by rw [HTT.out]; exact H1.out, HFIN.out.2.2.2⟩
      case measure => simp [intOf]; omega
    · obtain rfl : j = l.length := by omega
      have hsu : SlE itemE wr u7 (treeL (ltR (rkL ord)) l) := by
        rw [List.take_length] at hu
        obtain ⟨q, cap2, rfl, hi, hcap⟩ := hu.items
        exact hi.sl hcap
      have hso : SlE foundE wr u6 (outF l) := by
        have := how.sl
        rw [List.take_of_length_le (by rw [outF_len]; exact Nat.le_refl _)] at this
        exact this
      have HSU := Lib.hid hsu
      have HSO := Lib.hid hso
      clear hsu hso hu how
      go_wp2
      go_ret2
      exact ⟨_, _, rfl, HSO.out, HSU.out, hc12.trans hc⟩

set_option maxRecDepth 100000 in
theorem bSet_any {ord : List Int} (sv : Value) (d : Int) (nl : Bool) (p : Option Addr) (cap : Nat) (l : List (It ord)) (w : World) (hs : SlE intE w sv ord) (hol : ord.length ≤ 2147483647) (hd : FitD d) (hl : ItemsAt w p l) (hcapl : l.length ≤ cap) (hlen : l.length ≤ 2147483647) :
    Calls Try.prog 23 #[.agg #[sv, .int .i64 d, .bool nl], .slice p l.length cap] w fun e w' => e = .returned (.bool true) ∧ Chg (fun _ _ => False) w w' := by
  have HM := Lib.hid (fun w1 (c : Chg (fun _ _ => False) w w1) => BSet_any sv d nl p cap l w1 (hs.chg c) hol hd (hl.chg c) hcapl hlen)
  have HG := Lib.hid (fun w1 (c : Chg (fun _ _ => False) w w1) => specGSet_any (ord := ord) sv d nl p cap l w1 (hs.chg c) hol (hl.chg c) hlen hcapl)
  have e2 : growL l = treeL (ltR (rkL ord)) l := rfl
  rw [e2] at HM
  have hxl := outF_len l
  have hyl := treeL_len (ltR (rkL ord)) l
  generalize outF l = U at HM HG hxl
  generalize treeL (ltR (rkL ord)) l = V at HM HG hyl
  have hU : U.length ≤ 2147483647 := by omega
  have hV : V.length ≤ 2147483647 := by omega
  obtain ⟨sa, sc, rfl⟩ : ∃ a c, sv = .slice a ord.length c := hs.form
  clear hs hl e2 hxl hyl
  go_enter Try.func23, Try.ntmps23
  go_wp2_with fail
  refine (HM.out _ ((Chg.refl _ _).alloc _)).mono ?_
  rintro e w1 ⟨v1, u1, rfl, s1, t1, hc1⟩
  have hb0 : w1.heap[w.heap.size]? = some (.cells #[.slice sa ord.length sc, .int .i64 d, .bool nl] 24 (0, 0)) := by rw [hc1.block (by simp) (fun _ h => h)]; exact ha_at _ _ rfl
  have m0 := cell_of_block hb0 0
  have m1 := cell_of_block hb0 1
  have m2 := cell_of_block hb0 2
  simp only [List.getElem?_toArray, List.getElem?_cons_zero, List.getElem?_cons_succ] at m0 m1 m2
  have hc01 := ((Chg.refl (fun _ _ => False) w).alloc (.cells #[.slice sa ord.length sc, .int .i64 d, .bool nl] 24)).trans hc1
  have HS1 := Lib.hid s1
  have HT1 := Lib.hid t1
  clear hb0 s1 t1
  go_wp2_with fail
  refine (HG.out _ hc01).mono ?_
  rintro e w2 ⟨v2, u2, rfl, s2, t2, hc2⟩
  have HS2 := Lib.hid s2
  have HT2 := Lib.hid t2
  clear s2 t2 m0 m1 m2
  go_wp2_with fail
  refine (equal_found _ _ _ _ (HS1.out.chg hc2) HS2.out (by omega)).mono ?_
  rintro e w3 ⟨rfl, hc3⟩
  go_wp2_with fail
  refine (equal_item _ _ _ _ (HT1.out.chg (hc2.trans hc3)) (HT2.out.chg hc3) (by omega)).mono ?_
  rintro e w4 ⟨rfl, hc4⟩
  go_wp2_with fail
  go_ret
  exact ⟨rfl, ((hc01.trans hc2).trans hc3).trans hc4⟩

end Go.Proofs.Ytcabnhpnkaielaa
