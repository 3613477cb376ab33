/- spec: GPops. -/
import Derived.Test.YtjggkpmlffhjgaaQe
import Derived.Test.YtjggkpmlffhjgaaEw
namespace Go.Proofs.Ytjggkpmlffhjgaa
set_option linter.unusedSimpArgs false
set_option linter.unusedVariables false
open Go.RowKit


/-- The index that the reference cuts out. -/
def sideZ {α : Type} (d : Bool) (l : List α) : Int := if d then (l.length : Int) - 1 else 0

theorem side_cut (d : Bool) (l : List (Int × Int)) : atL l (sideZ d l) = popF d l ∧ cutL0 l (sideZ d l) = popL d l := by
  cases d
  · exact ⟨by simp [atL, sideZ, popF, sideI], by simp [cutL0, sideZ, popL, sideI]⟩
  · cases l with
    | nil => exact ⟨rfl, rfl⟩
    | cons x l =>
      have h0 : (0 : Int) ≤ ((x :: l).length : Int) - 1 := by simp only [List.length_cons]; omega
      have h1 : (((x :: l).length : Int) - 1).toNat = (x :: l).length - 1 := by omega
      refine ⟨?_, ?_⟩
      · unfold atL sideZ popF sideI
        rw [if_pos rfl, if_pos h0, h1, if_pos rfl]
      · unfold cutL0 sideZ popL sideI
        rw [if_pos rfl, if_pos h0, h1, if_pos rfl]

theorem pop_none {α : Type} {d : Bool} {l : List α} (h : popF d l = none) : popL d l = l := by
  cases l with
  | nil => cases d <;> rfl
  | cons x l =>
    unfold popF sideI at h
    rw [List.getElem?_eq_none_iff] at h
    exfalso
    cases d
    · simp at h
    · simp only [if_true, List.length_cons] at h; omega

def CutP (d : Bool) (v : Value) (l : List (Int × Int)) (w : World) (e : Ending) (w' : World) : Prop :=
  ∃ v', e = .returned (.tuple #[v', foundV (popF d l)]) ∧ SlE itemE w' v' (popL d l) ∧ (v' = v ∨ ∀ b, v'.ownBlock = some b → w.heap.size ≤ b ∧ b < w'.heap.size) ∧ Chg (fun _ _ => False) w w'

theorem cut_side (d : Bool) (v : Value) (l : List (Int × Int)) (w : World) (hl : SlE itemE w v l) (hlen : l.length ≤ 2147483648) :
    Calls Try.prog 130 #[v, .int .i64 (sideZ d l)] w (CutP d v l w) := by
  obtain ⟨p, cap, rfl, hi, hcap⟩ := hl.itemsAt
  obtain ⟨e1, e2⟩ := side_cut d l
  refine (cut_any p cap l (sideZ d l) w hi hlen hcap).mono ?_
  rintro e w' ⟨v', rfl, hv, hc⟩
  rw [e1] at hv ⊢
  rw [e2] at hv
  refine ⟨v', rfl, ?_, ?_, hc⟩
  · rcases hv with ⟨rfl, hn⟩ | ⟨hr, _⟩
    · rw [pop_none hn]; exact hl.chg hc
    · exact hr.sl
  · rcases hv with ⟨rfl, _⟩ | ⟨hr, _⟩
    · exact .inl rfl
    · exact .inr hr.own

set_option maxRecDepth 100000 in
set_option maxHeartbeats 8000000 in
theorem specGPops_any (p : Option Addr) (cap : Nat) (l : List (Int × Int)) (kv : Value) (ks : List Bool) (w : World) (hl : ItemsAt w p l) (hlen : l.length ≤ 2147483647) (hk : SlE boolE w kv ks) (hkl : ks.length ≤ 2147483647) :
    Calls Try.prog 86 #[makeV (.slice none 0 0) 0 false, .slice p l.length cap, kv] w fun e w' => ∃ v u, e = .returned (.tuple #[v, u]) ∧ SlE foundE w' v (popsF (treeL (ltR id) l) ks) ∧ SlE itemE w' u (popsL (treeL (ltR id) l) ks) ∧ Chg (fun _ _ => False) w w' := by
  obtain ⟨a, kcap, rfl⟩ := hk.form
  have HS := Lib.hid hk
  clear hk
  obtain ⟨i0, hi0, hz0, hz1, hz2⟩ := info_parts infoFound
  have HT := Lib.hid (fun w1 (c : Chg (fun _ _ => False) w w1) => tree_any (.slice none 0 0) id p cap l w1 (rank_nil w1) (hl.chg c) hlen)
  have hlen2 := treeL_len (ltR id) l
  generalize hL : treeL (ltR id) l = L at hlen2 ⊢
  have hdl := fun j => popsL_len (ks.take j) L
  have HDL := Lib.hid (fun j => Nat.le_trans (hdl j) (Nat.le_trans hlen2 hlen))
  unfold TreePost at HT
  rw [hL] at HT
  have HR := Lib.hid (fun w1 (c : Chg (fun _ _ => False) w w1) => rank_nil w1)
  clear hl hL hdl
  unfold makeV
  go_enter Try.func86, Try.ntmps86
  go_wp2_with fail
  refine name_calls (fun w1 => Chg (fun _ _ => False) w w1 ∧ w1.heap[w.heap.size]? = some (.cells #[.slice none 0 0, .int .i64 0, .bool false] 76 (0, 0))) ⟨(Chg.refl _ _).alloc _, ha_at _ _ rfl⟩ ?_
  rintro w1 ⟨hc1, hb1⟩
  refine (HT.out _ hc1).mono ?_
  rintro e w2 ⟨v2, rfl, hv2, hc2⟩
  have hsl2 : SlE itemE w2 v2 L := by
    obtain ⟨q, cap2, rfl, hi, hcap⟩ := hv2.items
    exact hi.sl hcap
  have hown2 : ∀ b, v2.ownBlock = some b → b < w2.heap.size := fun b hb => by
    rcases hv2 with ⟨_, rfl⟩ | h
    · cases hb
    · exact (h.own b hb).2
  have hc12 := hc1.trans hc2
  have hlt := heap_lt hb1
  have m0 := hc2.cell (fun h => h) (cell_of_block hb1 0)
  clear hb1 hv2
  go_wp2_with fail
  go_loopw [8, 9, 20] (fun u v i wr => ∃ (j : Nat), j ≤ ks.length ∧ i = .int .i64 j ∧ SlE itemE wr u (popsL L (ks.take j)) ∧ (∀ b, u.ownBlock = some b → b < wr.heap.size) ∧ Apart v u ∧ OwnE foundE wr v ((popsF L ks).take j) w2.heap.size ∧ Chg (fun _ _ => False) w2 wr) (fun _ _ i _ => ks.length - (intOf i).toNat)
  case atStart => exact ⟨0, Nat.zero_le _, rfl, hsl2, hown2, (fun b hb => by cases hb), OwnE.nil _ _ _, Chg.refl _ _⟩
  case round =>
    obtain ⟨j, hj, rfl, hu, hub, hap, how, hc⟩ := hrel
    have hsz := hc.size
    have hsz2 := hc12.size
    by_cases hlt : j < ks.length
    · obtain ⟨x, hx⟩ : ∃ x, ks[j]? = some x := ⟨_, List.getElem?_eq_getElem hlt⟩
      obtain ⟨b, o, rfl, g0⟩ := (HS.out.chg (hc12.trans hc)).bool hx
      have ht := popsF_take (l := L) hx
      have hnx := popsL_take (l := L) hx
      have hll : ((popsF L ks).take j).length ≤ ks.length := by rw [List.length_take]; omega
      have hdr := fun (w3 : World) (c : Chg (fun _ _ => False) wr w3) => cut_side x u8 _ w3 (hu.chg c) (by have := HDL.out j; omega)
      unfold CutP at hdr
      obtain ⟨fo, hfo⟩ : ∃ fo, popF x (popsL L (ks.take j)) = fo := ⟨_, rfl⟩
      obtain ⟨ml, hml⟩ : ∃ ml, popL x (popsL L (ks.take j)) = ml := ⟨_, rfl⟩
      rw [hfo] at ht hdr
      rw [hml] at hnx hdr
      clear hfo hml
      obtain ⟨fk, fv, fb, hfv, hfl⟩ := foundV_agg fo
      rw [hfv] at hdr
      have s1 : IntKind.i64.wrap (((popsL L (ks.take j)).length : Int) - 1) = ((popsL L (ks.take j)).length : Int) - 1 := IntWalk.i64_in _ (by have := HDL.out j; omega)
      obtain ⟨a8, c8, rfl⟩ := hu.form
      cases x
      all_goals
        simp only [sideZ, Bool.false_eq_true, if_false, if_true] at hdr
        have HDR := Lib.hid hdr
        have HTT := Lib.hid ht
        have HNX := Lib.hid hnx
        have HLL := Lib.hid hll
        have HOW0 := Lib.hid how
        have HU := Lib.hid hu
        have HUB := Lib.hid hub
        have HAP := Lib.hid hap
        have HC := Lib.hid hc
        clear hx ht hnx hll how hu hub hap hdr hfv
        have m1 := hc.cell (fun h => h) m0
        have m2 : ∀ o1 o2, ((wr.alloc o1).alloc o2).cell? ⟨w.heap.size, 0, none⟩ = some (.slice none 0 0) := fun o1 o2 => (((Chg.refl (fun _ _ => False) wr).alloc o1).alloc o2).cell (fun h => h) m1
        have i0' : (0 : Int) ≤ (j : Int) := by omega
        have i1 : (j : Int) < (ks.length : Int) := by omega
        clear hc
        go_wp2_with fail
        refine name_calls (fun w3 => Chg (fun _ _ => False) wr w3 ∧ w3.heap[wr.heap.size]? = some (.cells #[.int .i64 0, .int .i64 0, .bool false] 121 (0, 0))) ⟨(Chg.refl _ _).alloc _, ha_at _ _ (by simp)⟩ ?_
        rintro w3 ⟨hc3, hb3⟩
        refine (HDR.out w3 hc3).mono ?_
        rintro e w4 ⟨v4, rfl, hs4, hv4, hc4⟩
        have hl3 := heap_lt hb3
        have hb4 : w4.heap[wr.heap.size]? = some (.cells #[.int .i64 0, .int .i64 0, .bool false] 121 (0, 0)) := by rw [hc4.block hl3 (fun _ h => h)]; exact hb3
        have c0 := cell_of_block hb4 0
        have c1 := cell_of_block hb4 1
        have c2 := cell_of_block hb4 2
        have z0 := frozen_of_block hb4 0
        have z1 := frozen_of_block hb4 1
        have z2 := frozen_of_block hb4 2
        simp only [List.getElem?_toArray, List.getElem?_cons_zero, List.getElem?_cons_succ] at c0 c1 c2
        have hsz3 := hc3.size
        have hsz4 := hc4.size
        have hst : Chg (fun b _ => b = wr.heap.size) w4 (((w4.setCell ⟨wr.heap.size, 0, none⟩ (.int .i64 fk)).setCell ⟨wr.heap.size, 1, none⟩ (.int .i64 fv)).setCell ⟨wr.heap.size, 2, none⟩ (.bool fb)) := by
          repeat (first | refine Chg.setCell ?_ (.inl rfl) _ | exact Chg.refl _ _)
        have hcb : Chg (fun _ _ => False) (((w4.setCell ⟨wr.heap.size, 0, none⟩ (.int .i64 fk)).setCell ⟨wr.heap.size, 1, none⟩ (.int .i64 fv)).setCell ⟨wr.heap.size, 2, none⟩ (.bool fb)) ((((w4.setCell ⟨wr.heap.size, 0, none⟩ (.int .i64 fk)).setCell ⟨wr.heap.size, 1, none⟩ (.int .i64 fv)).setCell ⟨wr.heap.size, 2, none⟩ (.bool fb)).alloc (.cells #[.int .i64 fk, .int .i64 fv, .bool fb] 121)) := (Chg.refl _ _).alloc _
        have hkb : Chg (fun b _ => b = wr.heap.size) w4 _ := hst.trans (hcb.mono (fun _ _ _ h => h.elim))
        have HOW := Lib.hid ((HOW0.out.keep (hc3.trans hc4)).chgOwn hkb (fun b _ hb e => by have := (HOW0.out.own_lt hb).2; omega))
        have hsk := hkb.size
        have hown4 : ∀ b, v4.ownBlock = some b → (b < wr.heap.size ∧ (Value.slice a8 (popsL L (ks.take j)).length c8).ownBlock = some b) ∨ (w3.heap.size ≤ b ∧ b < w4.heap.size) := fun b hb => by
          rcases hv4 with rfl | h
          · exact .inl ⟨HUB.out b hb, hb⟩
          · exact .inr (h b hb)
        have hsk4 := hs4.chgOwn hkb (fun b _ hb e => by rcases hown4 b hb with h | h <;> omega)
        have hcw : Chg (fun _ _ => False) wr _ := (hc3.trans hc4).trans' hkb (B := fun _ _ => False) (fun _ _ _ h => h) (fun b o hb e => by omega)
        have HCW := Lib.hid hcw
        have HS4 := Lib.hid hsk4
        have HO4 := Lib.hid hown4
        have hszk : w4.heap.size + 1 = ((((w4.setCell ⟨wr.heap.size, 0, none⟩ (.int .i64 fk)).setCell ⟨wr.heap.size, 1, none⟩ (.int .i64 fv)).setCell ⟨wr.heap.size, 2, none⟩ (.bool fb)).alloc (.cells #[.int .i64 fk, .int .i64 fv, .bool fb] 121)).heap.size := by simp
        have hszk2 : w4.heap.size + 1 ≤ ((((w4.setCell ⟨wr.heap.size, 0, none⟩ (.int .i64 fk)).setCell ⟨wr.heap.size, 1, none⟩ (.int .i64 fv)).setCell ⟨wr.heap.size, 2, none⟩ (.bool fb)).alloc (.cells #[.int .i64 fk, .int .i64 fv, .bool fb] 121)).heap.size := by omega
        clear hs4 hv4 hst hcb hkb hcw hsk4 hown4 hb3 hb4 hszk
        go_wp2_with (refine wpList_append_E2 foundE (by rfl) _ _ _ (by rfl) i0 _ 24 Try.underlying73 hi0 hz0 hz1 hz2 rfl _ (by rfl) _ w2.heap.size HOW.out (by omega) ⟨w4.heap.size, 0, none⟩ 1 _ (by rfl) [fo] rfl (by decide) ?_ ?_ ?_ ?_)
        · exact El.src1 foundE (c := #[.int .i64 fk, .int .i64 fv, .bool fb]) (ha_at _ _ (by simp)) _ hfl.symm
        · have := HLL.out; unfold maxLen; omega
        · have := HLL.out; omega
        intro v' w' h1 h2 h3
        have hap4 : Apart u9 v4 := fun b hb hb2 => by
          rcases HO4.out b hb2 with h | h
          · exact HAP.out b hb h.2
          · have := (HOW0.out.own_lt hb).2; omega
        have hfin : SlE itemE w' v4 ml ∧ (∀ b, v4.ownBlock = some b → b < w'.heap.size) ∧ Apart v' v4 ∧ Chg (fun _ _ => False) w2 w' := by
          have hs2 := h2.size
          refine ⟨HS4.out.chgOwn h2 (fun b _ hb e => hap4 b e hb), fun b hb => by rcases HO4.out b hb with h | h <;> omega, (fun b hb hb2 => by
            rcases h3 with h3 | ⟨nb, h3, hn⟩
            · exact hap4 b (h3 ▸ hb) hb2
            · rw [h3] at hb
              have e : nb = b := Option.some.inj hb
              rcases HO4.out b hb2 with h | h <;> omega), (HC.out.trans HCW.out).trans' h2 (fun _ _ _ h => h) (fun b o hb e => by have := (HOW0.out.own_lt e).1; omega)⟩
        have HFIN := Lib.hid hfin
        have H1 := Lib.hid h1
        clear hfin h1 h2 h3 hap4
        go_wp2
        go_roundw
        case rel => exact ⟨j + 1, by omega, by go_num, by rw [HNX.out]; exact HFIN.out.1, HFIN.out.2.1, HFIN.out.2.2.1, by rw [HTT.out]; exact H1.out, HFIN.out.2.2.2⟩
        case measure => simp [intOf]; omega
    · obtain rfl : j = ks.length := by omega
      rw [List.take_length] at hu
      rw [List.take_of_length_le (by rw [popsF_len]; exact Nat.le_refl _)] at how
      go_wp2
      go_ret2
      exact ⟨_, _, rfl, how.sl, hu, hc12.trans hc⟩
end Go.Proofs.Ytjggkpmlffhjgaa
