/- spec: Drop, GDelete. -/
import Derived.Test.YtcabnhpnkaielaaA9
import Derived.Test.YtcabnhpnkaielaaCt
namespace Go.Proofs.Ytcabnhpnkaielaa
set_option linter.unusedSimpArgs false
set_option linter.unusedVariables false
open Go.RowKit

variable {ord : List Int}

theorem place_del {lt : Int × Int → Int × Int → Bool} {l : List (Int × Int)} {x : Int × Int} {i : Nat} {b : Bool} (h : PlaceIs lt l x i b) : (if b then l.take i ++ l.drop (i + 1) else l) = delL lt x l ∧ (if b then l[i]? else none) = fndL lt x l := by
  have hf := (putL_ins h).2
  obtain ⟨h1, h2, h3, h4⟩ := h
  have hp : ∀ a ∈ l.take i, lt a x = true := by
    intro a ha
    obtain ⟨j, g1, g2⟩ := mem_take_get ha
    exact h2 j a g1 g2
  refine ⟨?_, hf⟩
  rcases h4 with ⟨y, hy, hxy, rfl⟩ | ⟨h4, rfl⟩
  · have e := split_at hy
    show l.take i ++ l.drop (i + 1) = _
    conv => rhs; rw [e]
    exact (delL_hit hp (h3 y hy) hxy).symm
  · have e : fndL lt x l = none := hf.symm
    exact (delL_none e).symm

theorem SlE.chgOwn {α : Type} {p : El α} {w w' : World} {v : Value} {xs : List α} {A : Nat → Nat → Prop} (h : SlE p w v xs) (c : Chg A w w') (hA : ∀ b o, v.ownBlock = some b → ¬ A b o) : SlE p w' v xs := by
  obtain ⟨a, cap, rfl, h2, h3⟩ := h
  refine ⟨a, cap, rfl, h2, ?_⟩
  rcases h3 with h3 | ⟨b, o, rfl, h4⟩
  · exact .inl h3
  · exact .inr ⟨b, o, rfl, fun j u hj => c.cell (hA b _ rfl) (h4 j u hj)⟩

theorem RowI.own {w : World} {v : Value} {l : List (Int × Int)} {base : Nat} (h : RowI w v l base) : ∀ b, v.ownBlock = some b → base ≤ b ∧ b < w.heap.size := by
  obtain ⟨b, o, cap, rfl, h2, h3, h4⟩ := h
  intro b' hb
  have e : b = b' := Option.some.inj hb
  subst e
  exact ⟨h3, h4.lt⟩

theorem RowI.sl {w : World} {v : Value} {l : List (Int × Int)} {base : Nat} (h : RowI w v l base) : SlE itemE w v l := by
  obtain ⟨p, cap, rfl, hi⟩ := h.items
  obtain ⟨b, o, cap', e, h2, _⟩ := h
  injection e with e1 e2 e3
  exact hi.sl (by omega)

def DropPost (lt : Int × Int → Int × Int → Bool) (v : Value) (l : List (Int × Int)) (x : Int × Int) (w : World) (e : Ending) (w' : World) : Prop :=
  ∃ v', e = .returned (.tuple #[v', foundV (fndL lt x l)]) ∧ SlE itemE w' v' (delL lt x l) ∧ (v' = v ∨ ∀ b, v'.ownBlock = some b → w.heap.size ≤ b ∧ b < w'.heap.size) ∧ Chg (fun _ _ => False) w w'

set_option maxRecDepth 100000 in
set_option maxHeartbeats 1000000 in
theorem drop_any (ordv : Value) (rk : Int → Int) (v : Value) (l : List (Int × Int)) (x : Int × Int) (w : World) (hR : RankOk ordv rk w) (hl : SlE itemE w v l) (hlen : l.length ≤ 2147483648) :
    Calls Try.prog 76 #[ordv, v, itemV x] w (DropPost (ltR rk) v l x w) := by
  obtain ⟨p, cap, rfl, hi, hcap⟩ := hl.itemsAt
  have HL := Lib.hid hl
  have HI := Lib.hid hi
  have HR := Lib.hid hR
  clear hR hl hi
  unfold itemV
  go_enter Try.func76, Try.ntmps76
  go_wp2_with fail
  refine name_calls (fun w1 => Chg (fun _ _ => False) w w1 ∧ w1.heap[w.heap.size + 1]? = some (.cells #[.int .i64 0, .int .i64 0, .bool false] 45 (0, 0))) ⟨((Chg.refl _ _).alloc _).alloc _, ha_at _ _ (by simp)⟩ ?_
  rintro w1 ⟨hc1, hb1⟩
  refine (place_any ordv rk p cap l x w1 (HR.out.chg hc1) (HI.out.chg hc1) hlen).mono ?_
  rintro e w2 ⟨⟨i, b, rfl, hpl⟩, hc2⟩
  have hl1 := heap_lt hb1
  have hb2 : w2.heap[w.heap.size + 1]? = some (.cells #[.int .i64 0, .int .i64 0, .bool false] 45 (0, 0)) := by rw [hc2.block hl1 (fun _ h => h)]; exact hb1
  obtain ⟨hd1, hd2⟩ := place_del hpl
  have hsome : b = true → ∃ y, l[i]? = some y := fun hb => by
    rcases hpl.2.2.2 with ⟨y, hy, _⟩ | ⟨_, hn⟩
    · exact ⟨y, hy⟩
    · rw [hb] at hn; cases hn
  have HSM := Lib.hid hsome
  have hc12 := hc1.trans hc2
  have HD1 := Lib.hid hd1
  have HD2 := Lib.hid hd2
  have hsz := hc12.size
  have HB2 := Lib.hid hb2
  have hl2 := heap_lt hb2
  clear hd1 hd2 hpl hb1 hsome
  cases b
  · have c0 := cell_of_block hb2 0
    have c1 := cell_of_block hb2 1
    have c2 := cell_of_block hb2 2
    have z0 := frozen_of_block hb2 0
    have z1 := frozen_of_block hb2 1
    have z2 := frozen_of_block hb2 2
    simp only [List.getElem?_toArray, List.getElem?_cons_zero, List.getElem?_cons_succ] at c0 c1 c2
    clear hb2
    go_wp2_with fail
    refine bodyPost_ret (v := .tuple #[.slice p l.length cap, foundV none]) (by simp [results, Try.results76, go_sem, foundV, c0, c1, c2]) rfl ?_
    have e1 : l = delL (ltR rk) x l := HD1.out
    have e2 : none = fndL (ltR rk) x l := HD2.out
    refine ⟨_, by rw [← e2], ?_, .inl rfl, ?_⟩
    · rw [← e1]
      refine HL.out.chg (hc12.trans' (A' := fun b _ => b = w.heap.size + 1) ?_ (fun _ _ _ h => h) (fun b o hb h => by omega))
      repeat (first | refine Chg.drew ?_ | refine Chg.setCell ?_ (.inl rfl) _ | exact Chg.refl _ _)
    · refine hc12.trans' (A' := fun b _ => b = w.heap.size + 1) ?_ (fun _ _ _ h => h) (fun b o hb h => by omega)
      repeat (first | refine Chg.drew ?_ | refine Chg.setCell ?_ (.inl rfl) _ | exact Chg.refl _ _)
  · obtain ⟨y, hy⟩ := HSM.out rfl
    have hfy : fndL (ltR rk) x l = some y := by rw [← HD2.out]; exact hy
    have hat : atL l (i : Int) = some y := by unfold atL; simpa using hy
    have hcu : cutL0 l (i : Int) = delL (ltR rk) x l := by rw [← HD1.out]; unfold cutL0; simp
    have hct := cut_any p cap l i w2 (HI.out.chg hc12) hlen hcap
    unfold CutPost at hct
    rw [hat, hcu] at hct
    unfold foundV at hct
    have HCT := Lib.hid hct
    have HFY := Lib.hid hfy
    clear hat hcu hct hb2 hy hfy
    go_wp2_with fail
    refine HCT.out.mono ?_
    rintro e w3 ⟨v3, rfl, hv3, hc3⟩
    have hrow : RowI w3 v3 (delL (ltR rk) x l) w2.heap.size := by
      rcases hv3 with ⟨_, h⟩ | ⟨h, _⟩
      · cases h
      · exact h
    have hb3 : w3.heap[w.heap.size + 1]? = some (.cells #[.int .i64 0, .int .i64 0, .bool false] 45 (0, 0)) := by rw [hc3.block hl2 (fun _ h => h)]; exact HB2.out
    have hsz3 := hc3.size
    have c0 := cell_of_block hb3 0
    have c1 := cell_of_block hb3 1
    have c2 := cell_of_block hb3 2
    have z0 := frozen_of_block hb3 0
    have z1 := frozen_of_block hb3 1
    have z2 := frozen_of_block hb3 2
    simp only [List.getElem?_toArray, List.getElem?_cons_zero, List.getElem?_cons_succ] at c0 c1 c2
    have HROW := Lib.hid hrow
    clear hrow hv3 hb3
    go_wp2_with fail
    refine bodyPost_ret (v := .tuple #[v3, foundV (some y)]) (by simp [results, Try.results76, go_sem, foundV, c0, c1, c2]) rfl ?_
    have hc4 : ∀ (w4 : World), Chg (fun b _ => b = w.heap.size + 1) w3 w4 → DropPost (ltR rk) (.slice p l.length cap) l x w (.returned (.tuple #[v3, foundV (some y)])) w4 := by
      intro w4 c
      have hown := HROW.out.own
      refine ⟨v3, by rw [HFY.out], HROW.out.sl.chgOwn c (fun b _ hb e => by have := (hown b hb).1; omega), .inr (fun b hb => by have := hown b hb; have := c.size; omega), (hc12.trans hc3).trans' c (fun _ _ _ h => h) (fun b o hb h => by omega)⟩
    refine hc4 _ ?_
    repeat (first | refine Chg.drew ?_ | refine Chg.setCell ?_ (.inl rfl) _ | exact Chg.refl _ _)

set_option maxRecDepth 100000 in
set_option maxHeartbeats 1000000 in
theorem specGDelete_any (sv : Value) (d : Int) (nl : Bool) (p : Option Addr) (cap : Nat) (l : List (Int × Int)) (kv : Value) (ks : List (Int × Int)) (w : World) (hs : SlE intE w sv ord) (hol : ord.length ≤ 2147483647) (hl : ItemsAt w p l) (hlen : l.length ≤ 2147483647) (hk : SlE itemE w kv ks) (hkl : ks.length ≤ 2147483647) :
    Calls Try.prog 52 #[.agg #[sv, .int .i64 d, .bool nl], .slice p l.length cap, kv] w fun e w' => ∃ v u, e = .returned (.tuple #[v, u]) ∧ SlE foundE w' v (delsF (ord := ord) (ltR (rkL ord)) (treeL (ltR (rkL ord)) l) ks) ∧ SlE itemE w' u (delsL (ord := ord) (ltR (rkL ord)) (treeL (ltR (rkL ord)) l) ks) ∧ Chg (fun _ _ => False) w w' := by
  obtain ⟨a, kcap, rfl⟩ := hk.form
  have HS := Lib.hid hk
  clear hk
  obtain ⟨i0, hi0, hz0, hz1, hz2⟩ := info_parts infoFound
  have HT := Lib.hid (fun w1 (c : Chg (fun _ _ => False) w w1) => tree_any sv (rkL ord) p cap l w1 (rank_list sv ord w1 (hs.chg c) hol) (hl.chg c) hlen)
  have hlen2 := treeL_len (ltR (rkL ord)) l
  generalize hL : treeL (ltR (rkL ord)) l = L at hlen2 ⊢
  have hdl := fun j => delsL_len (ord := ord) (ltR (rkL ord)) L (ks.take j)
  have HDL := Lib.hid (fun j => Nat.le_trans (hdl j) (Nat.le_trans hlen2 hlen))
  unfold TreePost at HT
  rw [hL] at HT
  have HR := Lib.hid (fun w1 (c : Chg (fun _ _ => False) w w1) => rank_list sv ord w1 (hs.chg c) hol)
  obtain ⟨sa, sc, rfl⟩ : ∃ a c, sv = .slice a ord.length c := hs.form
  clear hl hs hL hdl
  go_enter Try.func52, Try.ntmps52
  go_wp2_with fail
  refine name_calls (fun w1 => Chg (fun _ _ => False) w w1 ∧ w1.heap[w.heap.size]? = some (.cells #[.slice sa ord.length sc, .int .i64 d, .bool nl] 24 (0, 0))) ⟨(Chg.refl _ _).alloc _, ha_at _ _ rfl⟩ ?_
  rintro w1 ⟨hc1, hb1⟩
  refine (HT.out _ hc1).mono ?_
  rintro e w2 ⟨v2, rfl, hv2, hc2⟩
  have hsl2 : SlE itemE w2 v2 L := by
    obtain ⟨q, cap2, rfl, hi, hcap⟩ := hv2.items
    exact hi.sl hcap
  have hown2 : ∀ b, v2.ownBlock = some b → b < w2.heap.size := fun b hb => by
    rcases hv2 with ⟨_, rfl⟩ | h
    · cases hb
    · exact (h.own b hb).2
  have hc12 := hc1.trans hc2
  have hlt := heap_lt hb1
  have m0 := hc2.cell (fun h => h) (cell_of_block hb1 0)
  clear hb1 hv2
  go_wp2_with fail
  go_loopw [8, 9, 19] (fun u v i wr => ∃ (j : Nat), j ≤ ks.length ∧ i = .int .i64 j ∧ SlE itemE wr u (delsL (ord := ord) (ltR (rkL ord)) L (ks.take j)) ∧ (∀ b, u.ownBlock = some b → b < wr.heap.size) ∧ Apart v u ∧ OwnE foundE wr v ((delsF (ord := ord) (ltR (rkL ord)) L ks).take j) w2.heap.size ∧ Chg (fun _ _ => False) w2 wr) (fun _ _ i _ => ks.length - (intOf i).toNat)
  case atStart => exact ⟨0, Nat.zero_le _, rfl, hsl2, hown2, (fun b hb => by cases hb), OwnE.nil _ _ _, Chg.refl _ _⟩
  case round =>
    obtain ⟨j, hj, rfl, hu, hub, hap, how, hc⟩ := hrel
    have hsz := hc.size
    have hsz2 := hc12.size
    by_cases hlt : j < ks.length
    · obtain ⟨x, hx⟩ : ∃ x, ks[j]? = some x := ⟨_, List.getElem?_eq_getElem hlt⟩
      obtain ⟨b, o, rfl, g0, g1⟩ := (HS.out.chg (hc12.trans hc)).item hx
      have ht := delsF_take (ord := ord) (lt := ltR (rkL ord)) (l := L) hx
      have hnx := delsL_take (ord := ord) (lt := ltR (rkL ord)) (l := L) hx
      have hll : ((delsF (ord := ord) (ltR (rkL ord)) L ks).take j).length ≤ ks.length := by rw [List.length_take]; omega
      obtain ⟨fk, fv, fb, hfv, hfl⟩ := foundV_agg (fndL (ltR (rkL ord)) x (delsL (ord := ord) (ltR (rkL ord)) L (ks.take j)))
      have hdr := fun (w3 : World) (c : Chg (fun _ _ => False) wr w3) => drop_any (.slice sa ord.length sc) (rkL ord) u8 _ x w3 (HR.out _ (hc12.trans (hc.trans c))) (hu.chg c) (by have := HDL.out j; omega)
      unfold DropPost itemV at hdr
      rw [hfv] at hdr
      have HDR := Lib.hid hdr
      have HTT := Lib.hid ht
      have HNX := Lib.hid hnx
      have HLL := Lib.hid hll
      have HOW0 := Lib.hid how
      have HU := Lib.hid hu
      have HUB := Lib.hid hub
      have HAP := Lib.hid hap
      have HC := Lib.hid hc
      clear hx ht hnx hll how hu hub hap hdr hfv
      have m1 := hc.cell (fun h => h) m0
      have m2 : ∀ o1 o2, ((wr.alloc o1).alloc o2).cell? ⟨w.heap.size, 0, none⟩ = some (.slice sa ord.length sc) := fun o1 o2 => (((Chg.refl (fun _ _ => False) wr).alloc o1).alloc o2).cell (fun h => h) m1
      have i0' : (0 : Int) ≤ (j : Int) := by omega
      have i1 : (j : Int) < (ks.length : Int) := by omega
      clear hc
      go_wp2_with fail
      refine name_calls (fun w3 => Chg (fun _ _ => False) wr w3 ∧ w3.heap[wr.heap.size + 1]? = some (.cells #[.int .i64 0, .int .i64 0, .bool false] 45 (0, 0))) ⟨((Chg.refl _ _).alloc _).alloc _, ha_at _ _ (by simp)⟩ ?_
      rintro w3 ⟨hc3, hb3⟩
      refine (HDR.out w3 hc3).mono ?_
      rintro e w4 ⟨v4, rfl, hs4, hv4, hc4⟩
      have hl3 := heap_lt hb3
      have hb4 : w4.heap[wr.heap.size + 1]? = some (.cells #[.int .i64 0, .int .i64 0, .bool false] 45 (0, 0)) := by rw [hc4.block hl3 (fun _ h => h)]; exact hb3
      have c0 := cell_of_block hb4 0
      have c1 := cell_of_block hb4 1
      have c2 := cell_of_block hb4 2
      have z0 := frozen_of_block hb4 0
      have z1 := frozen_of_block hb4 1
      have z2 := frozen_of_block hb4 2
      simp only [List.getElem?_toArray, List.getElem?_cons_zero, List.getElem?_cons_succ] at c0 c1 c2
      have hsz3 := hc3.size
      have hsz4 := hc4.size
      have hst : Chg (fun b _ => b = wr.heap.size + 1) w4 (((w4.setCell ⟨wr.heap.size + 1, 0, none⟩ (.int .i64 fk)).setCell ⟨wr.heap.size + 1, 1, none⟩ (.int .i64 fv)).setCell ⟨wr.heap.size + 1, 2, none⟩ (.bool fb)) := by
        repeat (first | refine Chg.setCell ?_ (.inl rfl) _ | exact Chg.refl _ _)
      have hcb : Chg (fun _ _ => False) (((w4.setCell ⟨wr.heap.size + 1, 0, none⟩ (.int .i64 fk)).setCell ⟨wr.heap.size + 1, 1, none⟩ (.int .i64 fv)).setCell ⟨wr.heap.size + 1, 2, none⟩ (.bool fb)) ((((w4.setCell ⟨wr.heap.size + 1, 0, none⟩ (.int .i64 fk)).setCell ⟨wr.heap.size + 1, 1, none⟩ (.int .i64 fv)).setCell ⟨wr.heap.size + 1, 2, none⟩ (.bool fb)).alloc (.cells #[.int .i64 fk, .int .i64 fv, .bool fb] 45)) := (Chg.refl _ _).alloc _
      have hkb : Chg (fun b _ => b = wr.heap.size + 1) w4 _ := hst.trans (hcb.mono (fun _ _ _ h => h.elim))
      have HOW := Lib.hid ((HOW0.out.keep (hc3.trans hc4)).chgOwn hkb (fun b _ hb e => by have := (HOW0.out.own_lt hb).2; omega))
      have hsk := hkb.size
      have hown4 : ∀ b, v4.ownBlock = some b → (b < wr.heap.size ∧ u8.ownBlock = some b) ∨ (w3.heap.size ≤ b ∧ b < w4.heap.size) := fun b hb => by
        rcases hv4 with rfl | h
        · exact .inl ⟨HUB.out b hb, hb⟩
        · exact .inr (h b hb)
      have hsk4 := hs4.chgOwn hkb (fun b _ hb e => by rcases hown4 b hb with h | h <;> omega)
      have hcw : Chg (fun _ _ => False) wr _ := (hc3.trans hc4).trans' hkb (B := fun _ _ => False) (fun _ _ _ h => h) (fun b o hb e => by omega)
      have HCW := Lib.hid hcw
      have HS4 := Lib.hid hsk4
      have HO4 := Lib.hid hown4
      have hszk : w4.heap.size + 1 = ((((w4.setCell ⟨wr.heap.size + 1, 0, none⟩ (.int .i64 fk)).setCell ⟨wr.heap.size + 1, 1, none⟩ (.int .i64 fv)).setCell ⟨wr.heap.size + 1, 2, none⟩ (.bool fb)).alloc (.cells #[.int .i64 fk, .int .i64 fv, .bool fb] 45)).heap.size := by simp
      have hszk2 : w4.heap.size + 1 ≤ ((((w4.setCell ⟨wr.heap.size + 1, 0, none⟩ (.int .i64 fk)).setCell ⟨wr.heap.size + 1, 1, none⟩ (.int .i64 fv)).setCell ⟨wr.heap.size + 1, 2, none⟩ (.bool fb)).alloc (.cells #[.int .i64 fk, .int .i64 fv, .bool fb] 45)).heap.size := by omega
      clear hs4 hv4 hst hcb hkb hcw hsk4 hown4 hb3 hb4 hszk
      go_wp2_with (refine wpList_append_E2 foundE (by rfl) _ _ _ (by rfl) i0 _ 24 Try.underlying47 hi0 hz0 hz1 hz2 rfl _ (by rfl) _ w2.heap.size HOW.out (by omega) ⟨w4.heap.size, 0, none⟩ 1 _ (by rfl) [fndL (ltR (rkL ord)) x (delsL (ord := ord) (ltR (rkL ord)) L (ks.take j))] rfl (by decide) ?_ ?_ ?_ ?_)
      · exact El.src1 foundE (c := #[.int .i64 fk, .int .i64 fv, .bool fb]) (ha_at _ _ (by simp)) _ hfl.symm
      · have := HLL.out; unfold maxLen; omega
      · have := HLL.out; omega
      intro v' w' h1 h2 h3
      have hap4 : Apart u9 v4 := fun b hb hb2 => by
        rcases HO4.out b hb2 with h | h
        · exact HAP.out b hb h.2
        · have := (HOW0.out.own_lt hb).2; omega
      have hfin : SlE itemE w' v4 (delL (ltR (rkL ord)) x (delsL (ord := ord) (ltR (rkL ord)) L (ks.take j))) ∧ (∀ b, v4.ownBlock = some b → b < w'.heap.size) ∧ Apart v' v4 ∧ Chg (fun _ _ => False) w2 w' := by
        have hs2 := h2.size
        refine ⟨HS4.out.chgOwn h2 (fun b _ hb e => hap4 b e hb), fun b hb => by rcases HO4.out b hb with h | h <;> omega, (fun b hb hb2 => by
          rcases h3 with h3 | ⟨nb, h3, hn⟩
          · exact hap4 b (h3 ▸ hb) hb2
          · rw [h3] at hb
            have e : nb = b := Option.some.inj hb
            rcases HO4.out b hb2 with h | h <;> omega), (HC.out.trans HCW.out).trans' h2 (fun _ _ _ h => h) (fun b o hb e => by have := (HOW0.out.own_lt e).1; omega)⟩
      have HFIN := Lib.hid hfin
      have H1 := Lib.hid h1
      clear hfin h1 h2 h3 hap4
      go_wp2
      go_roundw
      case rel => exact ⟨j + 1, by omega, by go_num, by rw [HNX.out]; exact HFIN.out.1, HFIN.out.2.1, HFIN.out.2.2.1, by rw [HTT.out]; exact H1.out, HFIN.out.2.2.2⟩
      case measure => simp [intOf]; omega
    · obtain rfl : j = ks.length := by omega
      rw [List.take_length] at hu
      rw [List.take_of_length_le (by rw [delsF_len]; exact Nat.le_refl _)] at how
      go_wp2
      go_ret2
      exact ⟨_, _, rfl, how.sl, hu, hc12.trans hc⟩
end Go.Proofs.Ytcabnhpnkaielaa
