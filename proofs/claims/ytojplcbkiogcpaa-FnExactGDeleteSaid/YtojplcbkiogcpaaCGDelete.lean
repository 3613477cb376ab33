/- For every order, every degree and all lists of items and keys the law FnExactGDelete returns true and leaves its arguments as they were. -/
import Derived.BigQuiet
import Derived.Test.YtojplcbkiogcpaaRows
import Derived.Test.YtojplcbkiogcpaaA11
import Derived.Test.YtojplcbkiogcpaaA12
import Derived.Test.YtojplcbkiogcpaaA20
namespace Go.Proofs.Ytojplcbkiogcpaa
set_option linter.unusedSimpArgs false
set_option linter.unusedVariables false
open Go.RowKit

variable {ord : List Int}

/-- The items of ks taken out of l one behind the other. -/
def delsL (lt : It ord → It ord → Bool) (l ks : List (It ord)) : List (It ord) := ks.foldl (fun acc x => delL lt x acc) l

/-- What there was of each. -/
def delsF (lt : It ord → It ord → Bool) (l ks : List (It ord)) : List (Option (It ord)) := (List.range ks.length).map fun j => (ks[j]?).bind fun x => fndL lt x (delsL lt l (ks.take j))

theorem delsF_len (lt : It ord → It ord → Bool) (l ks : List (It ord)) : (delsF lt l ks).length = ks.length := by simp [delsF]

theorem delsF_take {lt : It ord → It ord → Bool} {l ks : List (It ord)} {j : Nat} {x : It ord} (hx : ks[j]? = some x) : (delsF lt l ks).take (j + 1) = (delsF lt l ks).take j ++ [fndL lt x (delsL lt l (ks.take j))] := by
  have hj := (List.getElem?_eq_some_iff.1 hx).1
  rw [List.take_add_one]
  congr 1
  unfold delsF
  rw [List.getElem?_map, List.getElem?_range hj]
  simp [hx]

theorem delsL_take {lt : It ord → It ord → Bool} {l ks : List (It ord)} {j : Nat} {x : It ord} (hx : ks[j]? = some x) : delsL lt l (ks.take (j + 1)) = delL lt x (delsL lt l (ks.take j)) := by
  unfold delsL
  rw [List.take_add_one, hx, List.foldl_append]; rfl

theorem delsL_sub (lt : It ord → It ord → Bool) : ∀ (ks l : List (It ord)), (delsL lt l ks).Sublist l
  | [], l => List.Sublist.refl _
  | x :: ks, l => (delsL_sub lt ks (delL lt x l)).trans (delL_sub l)

theorem delsL_len (lt : It ord → It ord → Bool) (l ks : List (It ord)) : (delsL lt l ks).length ≤ l.length := (delsL_sub lt ks l).length_le

set_option maxRecDepth 100000 in
set_option maxHeartbeats 2000000 in
theorem GDelete_any (sv : Value) (d : Int) (nl : Bool) (p : Option Addr) (cap : Nat) (l : List (It ord)) (kv : Value) (ks : List (It ord)) (w : World) (hs : SlE intE w sv ord) (hol : ord.length ≤ 2147483647) (hd : FitD d) (hl : ItemsAt w p l) (hlen : l.length ≤ 2147483647) (hk : SlE itemE w kv ks) (hkl : ks.length ≤ 2147483647) :
    Calls Try.prog 65 #[.agg #[sv, .int .i64 d, .bool nl], .slice p l.length cap, kv] w fun e w' => ∃ v u, e = .returned (.tuple #[v, u]) ∧ SlE foundE w' v (delsF ltM (growL l) ks) ∧ SlE itemE w' u (delsL ltM (growL l) ks) ∧ Chg (fun _ _ => False) w w' := by
  have HGR := Lib.hid (fun w1 (c : Chg (fun _ _ => False) w w1) => grow_any (ord := ord) sv d nl p cap l w1 hd (hs.chg c) hol (hl.chg c) hlen)
  obtain ⟨hdim1, hdim2, hdim3, hdim4, hdim5⟩ := hd.dims
  unfold GrowPost at HGR
  have hgl := growL_take_len l l.length
  rw [List.take_length] at hgl
  have hdl := fun j => delsL_len (ltM (ord := ord)) (growL l) (ks.take j)
  have HGL := Lib.hid (fun j => Nat.le_trans (hdl j) (Nat.le_trans hgl hlen))
  obtain ⟨sa, sc, rfl⟩ : ∃ a c, sv = .slice a ord.length c := hs.form
  obtain ⟨a, kcap, rfl⟩ := hk.form
  have HKS := Lib.hid hk
  clear hl hs hgl hk hdl
  obtain ⟨i0, hi0, hz0, hz1, hz2⟩ := info_parts infoFound
  go_enter Try.func65, Try.ntmps65
  go_wp2_with fail
  refine (HGR.out _ ((Chg.refl _ _).alloc _)).mono ?_
  rintro e w1 ⟨k, t, F, rfl, hM, hc1', hF2', ho2'⟩
  have hca := (Chg.refl (fun _ _ => False) w).alloc (.cells #[.slice sa ord.length sc, .int .i64 d, .bool nl] 24)
  have hc1 := hca.trans hc1'
  have hF2 : ∀ b, F b → w.heap.size ≤ b := fun b hb => Nat.le_trans hca.size (hF2' b hb)
  have ho2 : ∀ b, MOwn k t b → w.heap.size ≤ b := fun b hb => Nat.le_trans hca.size (ho2' b hb)
  clear hc1' hF2' ho2'
  have hor : ∀ b, MOwn k t b → w.heap.size ≤ b := fun b hb => ho2 b hb
  have HOR := Lib.hid hor
  clear hor
  go_wp2_with fail
  go_loopw [9, 17] (fun v i wr => ∃ (j : Nat) (F' : Nat → Prop), j ≤ ks.length ∧ i = .int .i64 j ∧ OwnE foundE wr v ((delsF (ltM (ord := ord)) (growL l) ks).take j) w.heap.size ∧ MapIn k (mnD d) (mxD d) wr F' t (delsL (ltM (ord := ord)) (growL l) (ks.take j)) ∧ (∀ b, v.ownBlock = some b → ¬ F' b ∧ ¬ MOwn k t b) ∧ (∀ b, F' b → w.heap.size ≤ b) ∧ Chg (fun _ _ => False) w wr) (fun _ i _ => ks.length - (intOf i).toNat)
  case atStart => exact ⟨0, F, Nat.zero_le _, rfl, OwnE.nil _ _ _, by exact hM, (fun b hb => by cases hb), (fun b hb => hF2 b hb), hc1⟩
  case round =>
    obtain ⟨j, F', hj, rfl, how, hMr, hap, hFw, hc⟩ := hrel
    have hsz := hc.size
    by_cases hlt : j < ks.length
    · obtain ⟨x, hx⟩ : ∃ x, ks[j]? = some x := ⟨_, List.getElem?_eq_getElem hlt⟩
      obtain ⟨b, o, rfl, g0, g1⟩ := (HKS.out.chg hc).item hx
      have ht : (delsF (ltM (ord := ord)) (growL l) ks).take (j + 1) = (delsF (ltM (ord := ord)) (growL l) ks).take j ++ [fndL (ltM (ord := ord)) x (delsL (ltM (ord := ord)) (growL l) (ks.take j))] := by exact delsF_take hx
      have hnx : delsL (ltM (ord := ord)) (growL l) (ks.take (j + 1)) = delL ltM x (delsL (ltM (ord := ord)) (growL l) (ks.take j)) := by exact delsL_take hx
      have hll : ((delsF (ltM (ord := ord)) (growL l) ks).take j).length ≤ ks.length := by rw [List.length_take]; omega
      have hca := (Chg.refl (fun _ _ => False) wr).alloc (.cells #[.int .i64 x.1, .int .i64 x.2] 26)
      have hg := Delete_any (hMr.chg hca) x (by have := HGL.out j; omega) hdim1
      unfold aggM at hg
      have hap' : ∀ b, u9.ownBlock = some b → ¬ F' b ∧ ¬ MOwn k t b ∧ b < wr.heap.size := fun b hb => ⟨(hap b hb).1, (hap b hb).2, (how.own_lt hb).2⟩
      have HT := Lib.hid ht
      have HNX := Lib.hid hnx
      have HLL := Lib.hid hll
      have HG := Lib.hid hg
      have HOW0 := Lib.hid how
      have HAP := Lib.hid hap'
      have HFW := Lib.hid hFw
      have HC := Lib.hid hc
      have HMR := Lib.hid hMr
      clear hx ht hll hg how hap hap' hFw hc hnx hMr
      have i0' : (0 : Int) ≤ (j : Int) := by omega
      have i1 : (j : Int) < (ks.length : Int) := by omega
      go_wp2_with fail
      refine HG.out.mono ?_
      rintro e w2 ⟨hret, F2, hM2, hc2', hF2'⟩
      have hszA := hca.size
      have hF2w : ∀ b, F2 b → w.heap.size ≤ b := fun b hb => by
        rcases hF2' b hb with h | h
        · exact HFW.out b h
        · omega
      have hapr : ∀ b, u9.ownBlock = some b → ¬ F2 b := fun b hb h => by
        obtain ⟨a1, a2, a3⟩ := HAP.out b hb
        rcases hF2' b h with h | h
        · exact a1 h
        · omega
      have how2 := HOW0.out.chgOwn (hca.trans' hc2' (B := fun b _ => F' b ∨ b = t) (fun _ _ _ h => h.elim) (fun _ _ _ h => h)) (fun b _ hb e => by
        obtain ⟨a1, a2, a3⟩ := HAP.out b hb
        rcases e with e | e
        · exact a1 e
        · exact a2 (e ▸ MOwn.self))
      have hcw2 : Chg (fun _ _ => False) w w2 := (HC.out.trans hca).trans' hc2' (fun _ _ _ h => h) (fun b o hb e => by
        rcases e with e | e
        · have := HFW.out b e; omega
        · have := HOR.out t MOwn.self; omega)
      obtain ⟨y, q, hv, hf⟩ : ∃ (y : Int × Int) (q : Bool), e = .returned (.tuple #[.agg #[.int .i64 y.1, .int .i64 y.2], .bool q]) ∧ FoundIs (fndL (ltM (ord := ord)) x (delsL (ltM (ord := ord)) (growL l) (ks.take j))) y q := by
        rcases hret with ⟨y, e1, e2⟩ | ⟨e1, e2⟩
        · exact ⟨y, true, e2, by rw [e1]; exact ⟨rfl, rfl⟩⟩
        · exact ⟨(0, 0), false, e2, by rw [e1]; rfl⟩
      obtain ⟨fk, fv, fb, hfv, hfl⟩ := foundV_agg (fndL (ltM (ord := ord)) x (delsL (ltM (ord := ord)) (growL l) (ks.take j)))
      have hp := fun w => found_any (fndL (ltM (ord := ord)) x (delsL (ltM (ord := ord)) (growL l) (ks.take j))) y q w hf
      rw [hfv] at hp
      have HP := Lib.hid hp
      have hwr2 := hc2'.size
      have HM2 := Lib.hid hM2
      have HAR := Lib.hid hapr
      have HF2W := Lib.hid hF2w
      subst hv
      clear hp hf hret hc2' hF2' hfv hM2 hapr hF2w hca
      go_wp2_with fail
      refine (HP.out _).mono ?_
      rintro e w3 ⟨rfl, hc3⟩
      have hcb : Chg (fun _ _ => False) w3 (w3.alloc (.cells #[.int .i64 fk, .int .i64 fv, .bool fb] 38)) := (Chg.refl _ _).alloc _
      have hc3b := hc3.trans hcb
      have HOW := Lib.hid (how2.keep hc3b)
      have hs3 := hc3.size
      have hsb : (w3.alloc (.cells #[.int .i64 fk, .int .i64 fv, .bool fb] 38)).heap.size ≤ w3.heap.size + 1 := by simp
      have hsb2 : w3.heap.size + 1 ≤ (w3.alloc (.cells #[.int .i64 fk, .int .i64 fv, .bool fb] 38)).heap.size := by simp
      have hs2 := hcw2.size
      have HM3 := Lib.hid (HM2.out.chg hc3b)
      have hcw3 := hcw2.trans hc3b
      clear how2
      go_wp2_with (refine wpList_append_E2 foundE (by rfl) _ _ _ (by rfl) i0 _ 24 Try.underlying45 hi0 hz0 hz1 hz2 rfl _ (by rfl) _ w.heap.size HOW.out (Nat.le_trans hs2 (Nat.le_trans hs3 hcb.size)) ⟨w3.heap.size, 0, none⟩ 1 _ (by rfl) [fndL (ltM (ord := ord)) x (delsL (ltM (ord := ord)) (growL l) (ks.take j))] rfl (by decide) ?_ ?_ ?_ ?_)
      · exact El.src1 foundE (c := #[.int .i64 fk, .int .i64 fv, .bool fb]) (ha_at _ _ (by simp)) _ hfl.symm
      · have := HLL.out; unfold maxLen; omega
      · have := HLL.out; omega
      intro v' w' h1 h2 h3
      have hMn : MapIn k (mnD d) (mxD d) w' F2 t _ := HM3.out.chgA h2 (fun b _ hb e => HAR.out b e hb) (fun b _ hb e => (HAP.out b e).2.1 hb)
      have hcw' : Chg (fun _ _ => False) w w' := hcw3.trans' h2 (fun _ _ _ h => h) (fun b o hb e => by have := (HOW.out.own_lt e).1; omega)
      have hapn : ∀ b, v'.ownBlock = some b → ¬ F2 b ∧ ¬ MOwn k t b := fun b hb => by
        rcases h3 with h3 | ⟨nb, h3, hn⟩
        · rw [h3] at hb
          exact ⟨HAR.out b hb, (HAP.out b hb).2.1⟩
        · rw [h3] at hb
          have e : nb = b := Option.some.inj hb
          subst e
          exact ⟨fun hf => by have := HM3.out.famLt hf; omega, fun ho => by have := HM3.out.own ho; omega⟩
      have HMN := Lib.hid hMn
      have HAPN := Lib.hid hapn
      have H1 := Lib.hid h1
      clear h1 h2 h3 hMn hapn
      go_wp2
      go_roundw
      case rel => exact ⟨j + 1, F2, by omega, by go_num, by rw [HT.out]; exact H1.out, by rw [HNX.out]; exact HMN.out, HAPN.out, HF2W.out, hcw'⟩
      case measure => simp [intOf]; omega
    · obtain rfl : j = ks.length := by omega
      rw [List.take_of_length_le (by rw [delsF_len]; exact Nat.le_refl _)] at how
      have HOW := Lib.hid how.sl
      have hit := Items_any hMr hdim1 (by have := HGL.out ks.length; omega)
      have HIT := Lib.hid hit
      have hnlt : ¬ ((ks.length : Nat) : Int) < (ks.length : Int) := by omega
      clear how hit hMr hap hFw
      go_wp2_with fail
      refine HIT.out.mono ?_
      rintro e w4 ⟨v4, rfl, how4, hc4⟩
      go_wp2_with fail
      go_ret2
      exact ⟨_, _, rfl, HOW.out.chg hc4, by have := how4.sl; rw [List.take_length] at this; exact this, hc.trans hc4⟩
end Go.Proofs.Ytojplcbkiogcpaa

namespace Go.Proofs.Ytojplcbkiogcpaa
set_option linter.unusedSimpArgs false
set_option linter.unusedVariables false
open Go.RowKit

variable {ord : List Int}

theorem place_del {lt : Int × Int → Int × Int → Bool} {l : List (Int × Int)} {x : Int × Int} {i : Nat} {b : Bool} (h : PlaceIs lt l x i b) : (if b then l.take i ++ l.drop (i + 1) else l) = delL lt x l ∧ (if b then l[i]? else none) = fndL lt x l := by
  have hf := (putL_ins h).2
  obtain ⟨h1, h2, h3, h4⟩ := h
  have hp : ∀ a ∈ l.take i, lt a x = true := by
    intro a ha
    obtain ⟨j, g1, g2⟩ := mem_take_get ha
    exact h2 j a g1 g2
  refine ⟨?_, hf⟩
  rcases h4 with ⟨y, hy, hxy, rfl⟩ | ⟨h4, rfl⟩
  · have e := split_at hy
    show l.take i ++ l.drop (i + 1) = _
    conv => rhs; rw [e]
    exact (delL_hit hp (h3 y hy) hxy).symm
  · have e : fndL lt x l = none := hf.symm
    exact (delL_none e).symm

theorem SlE.chgOwn {α : Type} {p : El α} {w w' : World} {v : Value} {xs : List α} {A : Nat → Nat → Prop} (h : SlE p w v xs) (c : Chg A w w') (hA : ∀ b o, v.ownBlock = some b → ¬ A b o) : SlE p w' v xs := by
  obtain ⟨a, cap, rfl, h2, h3⟩ := h
  refine ⟨a, cap, rfl, h2, ?_⟩
  rcases h3 with h3 | ⟨b, o, rfl, h4⟩
  · exact .inl h3
  · exact .inr ⟨b, o, rfl, fun j u hj => c.cell (hA b _ rfl) (h4 j u hj)⟩

theorem RowI.own {w : World} {v : Value} {l : List (Int × Int)} {base : Nat} (h : RowI w v l base) : ∀ b, v.ownBlock = some b → base ≤ b ∧ b < w.heap.size := by
  obtain ⟨b, o, cap, rfl, h2, h3, h4⟩ := h
  intro b' hb
  have e : b = b' := Option.some.inj hb
  subst e
  exact ⟨h3, h4.lt⟩

theorem RowI.sl {w : World} {v : Value} {l : List (Int × Int)} {base : Nat} (h : RowI w v l base) : SlE itemE w v l := by
  obtain ⟨p, cap, rfl, hi⟩ := h.items
  obtain ⟨b, o, cap', e, h2, _⟩ := h
  injection e with e1 e2 e3
  exact hi.sl (by omega)

def DropPost (lt : Int × Int → Int × Int → Bool) (v : Value) (l : List (Int × Int)) (x : Int × Int) (w : World) (e : Ending) (w' : World) : Prop :=
  ∃ v', e = .returned (.tuple #[v', foundV (fndL lt x l)]) ∧ SlE itemE w' v' (delL lt x l) ∧ (v' = v ∨ ∀ b, v'.ownBlock = some b → w.heap.size ≤ b ∧ b < w'.heap.size) ∧ Chg (fun _ _ => False) w w'

set_option maxRecDepth 100000 in
set_option maxHeartbeats 1000000 in
theorem drop_any (ordv : Value) (rk : Int → Int) (v : Value) (l : List (Int × Int)) (x : Int × Int) (w : World) (hR : RankOk ordv rk w) (hl : SlE itemE w v l) (hlen : l.length ≤ 2147483648) :
    Calls Try.prog 100 #[ordv, v, itemV x] w (DropPost (ltR rk) v l x w) := by
  obtain ⟨p, cap, rfl, hi, hcap⟩ := hl.itemsAt
  have HL := Lib.hid hl
  have HI := Lib.hid hi
  have HR := Lib.hid hR
  clear hR hl hi
  unfold itemV
  go_enter Try.func100, Try.ntmps100
  go_wp2_with fail
  refine name_calls (fun w1 => Chg (fun _ _ => False) w w1 ∧ w1.heap[w.heap.size + 1]? = some (.cells #[.int .i64 0, .int .i64 0, .bool false] 38 (0, 0))) ⟨((Chg.refl _ _).alloc _).alloc _, ha_at _ _ (by simp)⟩ ?_
  rintro w1 ⟨hc1, hb1⟩
  refine (place_any ordv rk p cap l x w1 (HR.out.chg hc1) (HI.out.chg hc1) hlen).mono ?_
  rintro e w2 ⟨⟨i, b, rfl, hpl⟩, hc2⟩
  have hl1 := heap_lt hb1
  have hb2 : w2.heap[w.heap.size + 1]? = some (.cells #[.int .i64 0, .int .i64 0, .bool false] 38 (0, 0)) := by rw [hc2.block hl1 (fun _ h => h)]; exact hb1
  obtain ⟨hd1, hd2⟩ := place_del hpl
  have hsome : b = true → ∃ y, l[i]? = some y := fun hb => by
    rcases hpl.2.2.2 with ⟨y, hy, _⟩ | ⟨_, hn⟩
    · exact ⟨y, hy⟩
    · rw [hb] at hn; cases hn
  have HSM := Lib.hid hsome
  have hc12 := hc1.trans hc2
  have HD1 := Lib.hid hd1
  have HD2 := Lib.hid hd2
  have hsz := hc12.size
  have HB2 := Lib.hid hb2
  have hl2 := heap_lt hb2
  clear hd1 hd2 hpl hb1 hsome
  cases b
  · have c0 := cell_of_block hb2 0
    have c1 := cell_of_block hb2 1
    have c2 := cell_of_block hb2 2
    have z0 := frozen_of_block hb2 0
    have z1 := frozen_of_block hb2 1
    have z2 := frozen_of_block hb2 2
    simp only [List.getElem?_toArray, List.getElem?_cons_zero, List.getElem?_cons_succ] at c0 c1 c2
    clear hb2
    go_wp2_with fail
    refine bodyPost_ret (v := .tuple #[.slice p l.length cap, foundV none]) (by simp [results, Try.results100, go_sem, foundV, c0, c1, c2]) rfl ?_
    have e1 : l = delL (ltR rk) x l := HD1.out
    have e2 : none = fndL (ltR rk) x l := HD2.out
    refine ⟨_, by rw [← e2], ?_, .inl rfl, ?_⟩
    · rw [← e1]
      refine HL.out.chg (hc12.trans' (A' := fun b _ => b = w.heap.size + 1) ?_ (fun _ _ _ h => h) (fun b o hb h => by omega))
      repeat (first | refine Chg.drew ?_ | refine Chg.setCell ?_ (.inl rfl) _ | exact Chg.refl _ _)
    · refine hc12.trans' (A' := fun b _ => b = w.heap.size + 1) ?_ (fun _ _ _ h => h) (fun b o hb h => by omega)
      repeat (first | refine Chg.drew ?_ | refine Chg.setCell ?_ (.inl rfl) _ | exact Chg.refl _ _)
  · obtain ⟨y, hy⟩ := HSM.out rfl
    have hfy : fndL (ltR rk) x l = some y := by rw [← HD2.out]; exact hy
    have hat : atL l (i : Int) = some y := by unfold atL; simpa using hy
    have hcu : cutL0 l (i : Int) = delL (ltR rk) x l := by rw [← HD1.out]; unfold cutL0; simp
    have hct := cut_any p cap l i w2 (HI.out.chg hc12) hlen hcap
    unfold CutPost at hct
    rw [hat, hcu] at hct
    unfold foundV at hct
    have HCT := Lib.hid hct
    have HFY := Lib.hid hfy
    clear hat hcu hct hb2 hy hfy
    go_wp2_with fail
    refine HCT.out.mono ?_
    rintro e w3 ⟨v3, rfl, hv3, hc3⟩
    have hrow : RowI w3 v3 (delL (ltR rk) x l) w2.heap.size := by
      rcases hv3 with ⟨_, h⟩ | ⟨h, _⟩
      · cases h
      · exact h
    have hb3 : w3.heap[w.heap.size + 1]? = some (.cells #[.int .i64 0, .int .i64 0, .bool false] 38 (0, 0)) := by rw [hc3.block hl2 (fun _ h => h)]; exact HB2.out
    have hsz3 := hc3.size
    have c0 := cell_of_block hb3 0
    have c1 := cell_of_block hb3 1
    have c2 := cell_of_block hb3 2
    have z0 := frozen_of_block hb3 0
    have z1 := frozen_of_block hb3 1
    have z2 := frozen_of_block hb3 2
    simp only [List.getElem?_toArray, List.getElem?_cons_zero, List.getElem?_cons_succ] at c0 c1 c2
    have HROW := Lib.hid hrow
    clear hrow hv3 hb3
    go_wp2_with fail
    refine bodyPost_ret (v := .tuple #[v3, foundV (some y)]) (by simp [results, Try.results100, go_sem, foundV, c0, c1, c2]) rfl ?_
    have hc4 : ∀ (w4 : World), Chg (fun b _ => b = w.heap.size + 1) w3 w4 → DropPost (ltR rk) (.slice p l.length cap) l x w (.returned (.tuple #[v3, foundV (some y)])) w4 := by
      intro w4 c
      have hown := HROW.out.own
      refine ⟨v3, by rw [HFY.out], HROW.out.sl.chgOwn c (fun b _ hb e => by have := (hown b hb).1; omega), .inr (fun b hb => by have := hown b hb; have := c.size; omega), (hc12.trans hc3).trans' c (fun _ _ _ h => h) (fun b o hb h => by omega)⟩
    refine hc4 _ ?_
    repeat (first | refine Chg.drew ?_ | refine Chg.setCell ?_ (.inl rfl) _ | exact Chg.refl _ _)

set_option maxRecDepth 100000 in
set_option maxHeartbeats 1000000 in
theorem specGDelete_any (sv : Value) (d : Int) (nl : Bool) (p : Option Addr) (cap : Nat) (l : List (Int × Int)) (kv : Value) (ks : List (Int × Int)) (w : World) (hs : SlE intE w sv ord) (hol : ord.length ≤ 2147483647) (hl : ItemsAt w p l) (hlen : l.length ≤ 2147483647) (hk : SlE itemE w kv ks) (hkl : ks.length ≤ 2147483647) :
    Calls Try.prog 66 #[.agg #[sv, .int .i64 d, .bool nl], .slice p l.length cap, kv] w fun e w' => ∃ v u, e = .returned (.tuple #[v, u]) ∧ SlE foundE w' v (delsF (ord := ord) (ltR (rkL ord)) (treeL (ltR (rkL ord)) l) ks) ∧ SlE itemE w' u (delsL (ord := ord) (ltR (rkL ord)) (treeL (ltR (rkL ord)) l) ks) ∧ Chg (fun _ _ => False) w w' := by
  obtain ⟨a, kcap, rfl⟩ := hk.form
  have HS := Lib.hid hk
  clear hk
  obtain ⟨i0, hi0, hz0, hz1, hz2⟩ := info_parts infoFound
  have HT := Lib.hid (fun w1 (c : Chg (fun _ _ => False) w w1) => tree_any sv (rkL ord) p cap l w1 (rank_list sv ord w1 (hs.chg c) hol) (hl.chg c) hlen)
  have hlen2 := treeL_len (ltR (rkL ord)) l
  generalize hL : treeL (ltR (rkL ord)) l = L at hlen2 ⊢
  have hdl := fun j => delsL_len (ord := ord) (ltR (rkL ord)) L (ks.take j)
  have HDL := Lib.hid (fun j => Nat.le_trans (hdl j) (Nat.le_trans hlen2 hlen))
  unfold TreePost at HT
  rw [hL] at HT
  have HR := Lib.hid (fun w1 (c : Chg (fun _ _ => False) w w1) => rank_list sv ord w1 (hs.chg c) hol)
  obtain ⟨sa, sc, rfl⟩ : ∃ a c, sv = .slice a ord.length c := hs.form
  clear hl hs hL hdl
  go_enter Try.func66, Try.ntmps66
  go_wp2_with fail
  refine name_calls (fun w1 => Chg (fun _ _ => False) w w1 ∧ w1.heap[w.heap.size]? = some (.cells #[.slice sa ord.length sc, .int .i64 d, .bool nl] 24 (0, 0))) ⟨(Chg.refl _ _).alloc _, ha_at _ _ rfl⟩ ?_
  rintro w1 ⟨hc1, hb1⟩
  refine (HT.out _ hc1).mono ?_
  rintro e w2 ⟨v2, rfl, hv2, hc2⟩
  have hsl2 : SlE itemE w2 v2 L := by
    obtain ⟨q, cap2, rfl, hi, hcap⟩ := hv2.items
    exact hi.sl hcap
  have hown2 : ∀ b, v2.ownBlock = some b → b < w2.heap.size := fun b hb => by
    rcases hv2 with ⟨_, rfl⟩ | h
    · cases hb
    · exact (h.own b hb).2
  have hc12 := hc1.trans hc2
  have hlt := heap_lt hb1
  have m0 := hc2.cell (fun h => h) (cell_of_block hb1 0)
  clear hb1 hv2
  go_wp2_with fail
  go_loopw [8, 9, 19] (fun u v i wr => ∃ (j : Nat), j ≤ ks.length ∧ i = .int .i64 j ∧ SlE itemE wr u (delsL (ord := ord) (ltR (rkL ord)) L (ks.take j)) ∧ (∀ b, u.ownBlock = some b → b < wr.heap.size) ∧ Apart v u ∧ OwnE foundE wr v ((delsF (ord := ord) (ltR (rkL ord)) L ks).take j) w2.heap.size ∧ Chg (fun _ _ => False) w2 wr) (fun _ _ i _ => ks.length - (intOf i).toNat)
  case atStart => exact ⟨0, Nat.zero_le _, rfl, hsl2, hown2, (fun b hb => by cases hb), OwnE.nil _ _ _, Chg.refl _ _⟩
  case round =>
    obtain ⟨j, hj, rfl, hu, hub, hap, how, hc⟩ := hrel
    have hsz := hc.size
    have hsz2 := hc12.size
    by_cases hlt : j < ks.length
    · obtain ⟨x, hx⟩ : ∃ x, ks[j]? = some x := ⟨_, List.getElem?_eq_getElem hlt⟩
      obtain ⟨b, o, rfl, g0, g1⟩ := (HS.out.chg (hc12.trans hc)).item hx
      have ht := delsF_take (ord := ord) (lt := ltR (rkL ord)) (l := L) hx
      have hnx := delsL_take (ord := ord) (lt := ltR (rkL ord)) (l := L) hx
      have hll : ((delsF (ord := ord) (ltR (rkL ord)) L ks).take j).length ≤ ks.length := by rw [List.length_take]; omega
      obtain ⟨fk, fv, fb, hfv, hfl⟩ := foundV_agg (fndL (ltR (rkL ord)) x (delsL (ord := ord) (ltR (rkL ord)) L (ks.take j)))
      have hdr := fun (w3 : World) (c : Chg (fun _ _ => False) wr w3) => drop_any (.slice sa ord.length sc) (rkL ord) u8 _ x w3 (HR.out _ (hc12.trans (hc.trans c))) (hu.chg c) (by have := HDL.out j; omega)
      unfold DropPost itemV at hdr
      rw [hfv] at hdr
      have HDR := Lib.hid hdr
      have HTT := Lib.hid ht
      have HNX := Lib.hid hnx
      have HLL := Lib.hid hll
      have HOW0 := Lib.hid how
      have HU := Lib.hid hu
      have HUB := Lib.hid hub
      have HAP := Lib.hid hap
      have HC := Lib.hid hc
      clear hx ht hnx hll how hu hub hap hdr hfv
      have m1 := hc.cell (fun h => h) m0
      have m2 : ∀ o1 o2, ((wr.alloc o1).alloc o2).cell? ⟨w.heap.size, 0, none⟩ = some (.slice sa ord.length sc) := fun o1 o2 => (((Chg.refl (fun _ _ => False) wr).alloc o1).alloc o2).cell (fun h => h) m1
      have i0' : (0 : Int) ≤ (j : Int) := by omega
      have i1 : (j : Int) < (ks.length : Int) := by omega
      clear hc
      go_wp2_with fail
      refine name_calls (fun w3 => Chg (fun _ _ => False) wr w3 ∧ w3.heap[wr.heap.size + 1]? = some (.cells #[.int .i64 0, .int .i64 0, .bool false] 38 (0, 0))) ⟨((Chg.refl _ _).alloc _).alloc _, ha_at _ _ (by simp)⟩ ?_
      rintro w3 ⟨hc3, hb3⟩
      refine (HDR.out w3 hc3).mono ?_
      rintro e w4 ⟨v4, rfl, hs4, hv4, hc4⟩
      have hl3 := heap_lt hb3
      have hb4 : w4.heap[wr.heap.size + 1]? = some (.cells #[.int .i64 0, .int .i64 0, .bool false] 38 (0, 0)) := by rw [hc4.block hl3 (fun _ h => h)]; exact hb3
      have c0 := cell_of_block hb4 0
      have c1 := cell_of_block hb4 1
      have c2 := cell_of_block hb4 2
      have z0 := frozen_of_block hb4 0
      have z1 := frozen_of_block hb4 1
      have z2 := frozen_of_block hb4 2
      simp only [List.getElem?_toArray, List.getElem?_cons_zero, List.getElem?_cons_succ] at c0 c1 c2
      have hsz3 := hc3.size
      have hsz4 := hc4.size
      have hst : Chg (fun b _ => b = wr.heap.size + 1) w4 (((w4.setCell ⟨wr.heap.size + 1, 0, none⟩ (.int .i64 fk)).setCell ⟨wr.heap.size + 1, 1, none⟩ (.int .i64 fv)).setCell ⟨wr.heap.size + 1, 2, none⟩ (.bool fb)) := by
        repeat (first | refine Chg.setCell ?_ (.inl rfl) _ | exact Chg.refl _ _)
      have hcb : Chg (fun _ _ => False) (((w4.setCell ⟨wr.heap.size + 1, 0, none⟩ (.int .i64 fk)).setCell ⟨wr.heap.size + 1, 1, none⟩ (.int .i64 fv)).setCell ⟨wr.heap.size + 1, 2, none⟩ (.bool fb)) ((((w4.setCell ⟨wr.heap.size + 1, 0, none⟩ (.int .i64 fk)).setCell ⟨wr.heap.size + 1, 1, none⟩ (.int .i64 fv)).setCell ⟨wr.heap.size + 1, 2, none⟩ (.bool fb)).alloc (.cells #[.int .i64 fk, .int .i64 fv, .bool fb] 38)) := (Chg.refl _ _).alloc _
      have hkb : Chg (fun b _ => b = wr.heap.size + 1) w4 _ := hst.trans (hcb.mono (fun _ _ _ h => h.elim))
      have HOW := Lib.hid ((HOW0.out.keep (hc3.trans hc4)).chgOwn hkb (fun b _ hb e => by have := (HOW0.out.own_lt hb).2; omega))
      have hsk := hkb.size
      have hown4 : ∀ b, v4.ownBlock = some b → (b < wr.heap.size ∧ u8.ownBlock = some b) ∨ (w3.heap.size ≤ b ∧ b < w4.heap.size) := fun b hb => by
        rcases hv4 with rfl | h
        · exact .inl ⟨HUB.out b hb, hb⟩
        · exact .inr (h b hb)
      have hsk4 := hs4.chgOwn hkb (fun b _ hb e => by rcases hown4 b hb with h | h <;> omega)
      have hcw : Chg (fun _ _ => False) wr _ := (hc3.trans hc4).trans' hkb (B := fun _ _ => False) (fun _ _ _ h => h) (fun b o hb e => by omega)
      have HCW := Lib.hid hcw
      have HS4 := Lib.hid hsk4
      have HO4 := Lib.hid hown4
      have hszk : w4.heap.size + 1 = ((((w4.setCell ⟨wr.heap.size + 1, 0, none⟩ (.int .i64 fk)).setCell ⟨wr.heap.size + 1, 1, none⟩ (.int .i64 fv)).setCell ⟨wr.heap.size + 1, 2, none⟩ (.bool fb)).alloc (.cells #[.int .i64 fk, .int .i64 fv, .bool fb] 38)).heap.size := by simp
      have hszk2 : w4.heap.size + 1 ≤ ((((w4.setCell ⟨wr.heap.size + 1, 0, none⟩ (.int .i64 fk)).setCell ⟨wr.heap.size + 1, 1, none⟩ (.int .i64 fv)).setCell ⟨wr.heap.size + 1, 2, none⟩ (.bool fb)).alloc (.cells #[.int .i64 fk, .int .i64 fv, .bool fb] 38)).heap.size := by omega
      clear hs4 hv4 hst hcb hkb hcw hsk4 hown4 hb3 hb4 hszk
      go_wp2_with (refine wpList_append_E2 foundE (by rfl) _ _ _ (by rfl) i0 _ 24 Try.underlying45 hi0 hz0 hz1 hz2 rfl _ (by rfl) _ w2.heap.size HOW.out (by omega) ⟨w4.heap.size, 0, none⟩ 1 _ (by rfl) [fndL (ltR (rkL ord)) x (delsL (ord := ord) (ltR (rkL ord)) L (ks.take j))] rfl (by decide) ?_ ?_ ?_ ?_)
      · exact El.src1 foundE (c := #[.int .i64 fk, .int .i64 fv, .bool fb]) (ha_at _ _ (by simp)) _ hfl.symm
      · have := HLL.out; unfold maxLen; omega
      · have := HLL.out; omega
      intro v' w' h1 h2 h3
      have hap4 : Apart u9 v4 := fun b hb hb2 => by
        rcases HO4.out b hb2 with h | h
        · exact HAP.out b hb h.2
        · have := (HOW0.out.own_lt hb).2; omega
      have hfin : SlE itemE w' v4 (delL (ltR (rkL ord)) x (delsL (ord := ord) (ltR (rkL ord)) L (ks.take j))) ∧ (∀ b, v4.ownBlock = some b → b < w'.heap.size) ∧ Apart v' v4 ∧ Chg (fun _ _ => False) w2 w' := by
        have hs2 := h2.size
        refine ⟨HS4.out.chgOwn h2 (fun b _ hb e => hap4 b e hb), fun b hb => by rcases HO4.out b hb with h | h <;> omega, (fun b hb hb2 => by
          rcases h3 with h3 | ⟨nb, h3, hn⟩
          · exact hap4 b (h3 ▸ hb) hb2
          · rw [h3] at hb
            have e : nb = b := Option.some.inj hb
            rcases HO4.out b hb2 with h | h <;> omega), (HC.out.trans HCW.out).trans' h2 (fun _ _ _ h => h) (fun b o hb e => by have := (HOW0.out.own_lt e).1; omega)⟩
      have HFIN := Lib.hid hfin
      have H1 := Lib.hid h1
      clear hfin h1 h2 h3 hap4
      go_wp2
      go_roundw
      case rel => exact ⟨j + 1, by omega, by go_num, by rw [HNX.out]; exact HFIN.out.1, HFIN.out.2.1, HFIN.out.2.2.1, by rw [HTT.out]; exact H1.out, HFIN.out.2.2.2⟩
      case measure => simp [intOf]; omega
    · obtain rfl : j = ks.length := by omega
      rw [List.take_length] at hu
      rw [List.take_of_length_le (by rw [delsF_len]; exact Nat.le_refl _)] at how
      go_wp2
      go_ret2
      exact ⟨_, _, rfl, how.sl, hu, hc12.trans hc⟩
end Go.Proofs.Ytojplcbkiogcpaa

namespace Go.Proofs.Ytojplcbkiogcpaa
set_option linter.unusedSimpArgs false
set_option linter.unusedVariables false
open Go.RowKit

def exKL : List (Int × Int) := [(3, 0), (4, 0), (9, 1)]

def exKCells : Array Value := #[.int .i64 3, .int .i64 0, .int .i64 4, .int .i64 0, .int .i64 9, .int .i64 1]

def ExKPost (w : World) (e : Ending) (w' : World) : Prop := ∃ p, e = .returned (.slice p exKL.length 3) ∧ ItemsAt w' p exKL ∧ Chg (fun _ _ => False) w w'

theorem exKeys_any (w : World) : Calls Try.prog 29 #[] w (ExKPost w) := by
  have fin : ExKPost w (.returned (.slice (some ⟨w.heap.size, 0, none⟩) 3 3)) (w.alloc (.cells exKCells 26)) := by
    refine ⟨_, rfl, .inr ⟨w.heap.size, 0, rfl, fun i x hx => ?_⟩, (Chg.refl _ _).alloc _⟩
    have hb : (w.alloc (.cells exKCells 26)).heap[w.heap.size]? = some (.cells exKCells 26 (0, 0)) := ha_at _ _ rfl
    rw [cell_of_block hb, cell_of_block hb]
    match i, hx with
    | 0, hx => simp [exKL] at hx; subst hx; exact ⟨rfl, rfl⟩
    | 1, hx => simp [exKL] at hx; subst hx; exact ⟨rfl, rfl⟩
    | 2, hx => simp [exKL] at hx; subst hx; exact ⟨rfl, rfl⟩
    | n + 3, hx => simp [exKL] at hx
  have FIN := Lib.hid fin
  clear fin
  go_enter Try.func29, Try.ntmps29
  go_wp2
  go_ret
  exact FIN.out

end Go.Proofs.Ytojplcbkiogcpaa

namespace Go.Proofs.Ytojplcbkiogcpaa
set_option linter.unusedSimpArgs false
set_option linter.unusedVariables false
open Go.RowKit

set_option maxRecDepth 100000 in
theorem gDelete_any {ord : List Int} (sv : Value) (d : Int) (nl : Bool) (p : Option Addr) (cap : Nat) (l : List (It ord)) (kv : Value) (ks : List (It ord)) (w : World) (hs : SlE intE w sv ord) (hol : ord.length ≤ 2147483647) (hd : FitD d) (hl : ItemsAt w p l) (hlen : l.length ≤ 2147483647) (hk : SlE itemE w kv ks) (hkl : ks.length ≤ 2147483647) :
    Calls Try.prog 38 #[.agg #[sv, .int .i64 d, .bool nl], .slice p l.length cap, kv] w fun e w' => e = .returned (.bool true) ∧ Chg (fun _ _ => False) w w' := by
  have HM := Lib.hid (fun w1 (c : Chg (fun _ _ => False) w w1) => GDelete_any sv d nl p cap l kv ks w1 (hs.chg c) hol hd (hl.chg c) hlen (hk.chg c) hkl)
  have HG := Lib.hid (fun w1 (c : Chg (fun _ _ => False) w w1) => specGDelete_any (ord := ord) sv d nl p cap l kv ks w1 (hs.chg c) hol (hl.chg c) hlen (hk.chg c) hkl)
  have e1 : delsF (ltM (ord := ord)) (growL l) ks = delsF (ord := ord) (ltR (rkL ord)) (treeL (ltR (rkL ord)) l) ks := rfl
  have e2 : delsL (ltM (ord := ord)) (growL l) ks = delsL (ord := ord) (ltR (rkL ord)) (treeL (ltR (rkL ord)) l) ks := rfl
  rw [e1, e2] at HM
  have hxl := delsF_len (ord := ord) (ltR (rkL ord)) (treeL (ltR (rkL ord)) l) ks
  have hyl := delsL_len (ord := ord) (ltR (rkL ord)) (treeL (ltR (rkL ord)) l) ks
  have hlen2 := treeL_len (ltR (rkL ord)) l
  generalize delsF (ord := ord) (ltR (rkL ord)) (treeL (ltR (rkL ord)) l) ks = U at HM HG hxl
  generalize delsL (ord := ord) (ltR (rkL ord)) (treeL (ltR (rkL ord)) l) ks = V at HM HG hyl
  have hU : U.length ≤ 2147483647 := by omega
  have hV : V.length ≤ 2147483647 := by omega
  obtain ⟨sa, sc, rfl⟩ : ∃ a c, sv = .slice a ord.length c := hs.form
  obtain ⟨a, kcap, rfl⟩ := hk.form
  clear hs hl hk e1 e2 hxl hyl hlen2
  go_enter Try.func38, Try.ntmps38
  go_wp2_with fail
  refine (HM.out _ ((Chg.refl _ _).alloc _)).mono ?_
  rintro e w1 ⟨v1, u1, rfl, s1, t1, hc1⟩
  have hb0 : w1.heap[w.heap.size]? = some (.cells #[.slice sa ord.length sc, .int .i64 d, .bool nl] 24 (0, 0)) := by rw [hc1.block (by simp) (fun _ h => h)]; exact ha_at _ _ rfl
  have m0 := cell_of_block hb0 0
  have m1 := cell_of_block hb0 1
  have m2 := cell_of_block hb0 2
  simp only [List.getElem?_toArray, List.getElem?_cons_zero, List.getElem?_cons_succ] at m0 m1 m2
  have hc01 := ((Chg.refl (fun _ _ => False) w).alloc (.cells #[.slice sa ord.length sc, .int .i64 d, .bool nl] 24)).trans hc1
  have HS1 := Lib.hid s1
  have HT1 := Lib.hid t1
  clear hb0 s1 t1
  go_wp2_with fail
  refine (HG.out _ hc01).mono ?_
  rintro e w2 ⟨v2, u2, rfl, s2, t2, hc2⟩
  have HS2 := Lib.hid s2
  have HT2 := Lib.hid t2
  clear s2 t2 m0 m1 m2
  go_wp2_with fail
  refine (equal_found _ _ _ _ (HS1.out.chg hc2) HS2.out (by omega)).mono ?_
  rintro e w3 ⟨rfl, hc3⟩
  go_wp2_with fail
  refine (equal_item _ _ _ _ (HT1.out.chg (hc2.trans hc3)) (HT2.out.chg hc3) (by omega)).mono ?_
  rintro e w4 ⟨rfl, hc4⟩
  go_wp2_with fail
  go_ret
  exact ⟨rfl, ((hc01.trans hc2).trans hc3).trans hc4⟩

set_option maxRecDepth 100000 in
theorem law_ExactGDelete (sv : Value) (os : List Int) (d : Int) (nl : Bool) (p : Option Addr) (cap : Nat) (l : List (Int × Int)) (kv : Value) (ks : List (Int × Int)) (w : World) (hs : SlE intE w sv os) (hl : ItemsAt w p l) (hk : SlE itemE w kv ks) :
    Calls Try.prog 12 #[.agg #[sv, .int .i64 d, .bool nl], .slice p l.length cap, kv] w fun e w' => e = .returned (.bool true) ∧ Chg (fun _ _ => False) w w' := by
  obtain ⟨sa, sc, rfl⟩ : ∃ a c, sv = .slice a os.length c := hs.form
  obtain ⟨ka, kcap, rfl⟩ := hk.form
  have hz := fun w1 => zzFits1_any sa os.length sc d nl w1
  by_cases hol : os.length ≤ 2147483647
  rotate_left
  · rw [decide_eq_false hol] at hz
    go_enter Try.func12, Try.ntmps12
    go_wp2_with fail
    refine name_calls (fun w1 => Chg (fun _ _ => False) w w1) (((Chg.refl _ _).alloc _)) ?_
    intro w1 hc1
    refine (hz w1).mono ?_
    rintro e w2 ⟨rfl, hc2⟩
    go_wp2_with fail
    go_ret
    exact ⟨rfl, hc1.trans hc2⟩
  rw [decide_eq_true hol] at hz
  by_cases hlen : l.length ≤ 2147483647
  rotate_left
  · have hlen' : 2147483647 < l.length := by omega
    go_enter Try.func12, Try.ntmps12
    go_wp2_with fail
    refine name_calls (fun w1 => Chg (fun _ _ => False) w w1) (((Chg.refl _ _).alloc _)) ?_
    intro w1 hc1
    refine (hz w1).mono ?_
    rintro e w2 ⟨rfl, hc2⟩
    go_wp2_with fail
    go_ret
    exact ⟨rfl, hc1.trans hc2⟩
  by_cases hkl : ks.length ≤ 2147483647
  rotate_left
  · have hn : ¬ 2147483647 < l.length := by omega
    have hlen' : 2147483647 < ks.length := by omega
    go_enter Try.func12, Try.ntmps12
    go_wp2_with fail
    refine name_calls (fun w1 => Chg (fun _ _ => False) w w1) (((Chg.refl _ _).alloc _)) ?_
    intro w1 hc1
    refine (hz w1).mono ?_
    rintro e w2 ⟨rfl, hc2⟩
    go_wp2_with fail
    go_ret
    exact ⟨rfl, hc1.trans hc2⟩
  have hn : ¬ 2147483647 < l.length := by omega
  have hnk : ¬ 2147483647 < ks.length := by omega
  have HEX := Lib.hid (fun q q' w1 (hq : ItemsAt w1 q exL) (hq' : ItemsAt w1 q' exKL) => gDelete_any (ord := []) (.slice none 0 0) 2 false q 7 exL (.slice q' exKL.length 3) exKL w1 ⟨none, 0, rfl, Nat.le_refl _, .inl rfl⟩ (by simp) (.inr ⟨by omega, by omega⟩) hq (by decide) (hq'.sl (by decide)) (by decide))
  have HG := Lib.hid (fun hd w1 (c : Chg (fun _ _ => False) w w1) => gDelete_any (ord := os) (.slice sa os.length sc) d nl p cap l (.slice ka ks.length kcap) ks w1 (hs.chg c) hol hd (hl.chg c) hlen (hk.chg c) hkl)
  clear hs hl hk
  have q1 : exL.length = 7 := rfl
  have q2 : exKL.length = 3 := rfl
  go_enter Try.func12, Try.ntmps12
  go_wp2_with fail
  refine name_calls (fun w1 => Chg (fun _ _ => False) w w1 ∧ w1.heap[w.heap.size]? = some (.cells #[.slice sa os.length sc, .int .i64 d, .bool nl] 24 (0, 0))) ⟨((Chg.refl _ _).alloc _), ha_at _ _ rfl⟩ ?_
  rintro w1 ⟨hc1, hb0⟩
  have m0 := cell_of_block hb0 0
  have m1 := cell_of_block hb0 1
  have m2 := cell_of_block hb0 2
  simp only [List.getElem?_toArray, List.getElem?_cons_zero, List.getElem?_cons_succ] at m0 m1 m2
  clear hb0
  refine (hz w1).mono ?_
  rintro e w2 ⟨rfl, hc2⟩
  replace m0 := hc2.cell (fun h => h) m0
  replace m1 := hc2.cell (fun h => h) m1
  replace m2 := hc2.cell (fun h => h) m2
  go_wp2_with fail
  refine (exMake_any _).mono ?_
  rintro e w3 ⟨rfl, hc3⟩
  replace m0 := hc3.cell (fun h => h) m0
  replace m1 := hc3.cell (fun h => h) m1
  replace m2 := hc3.cell (fun h => h) m2
  go_wp2_with fail
  refine (exItems_any _).mono ?_
  rintro e w4 ⟨q, rfl, hq, hc4⟩
  replace m0 := hc4.cell (fun h => h) m0
  replace m1 := hc4.cell (fun h => h) m1
  replace m2 := hc4.cell (fun h => h) m2
  go_wp2_with fail
  refine (exKeys_any _).mono ?_
  rintro e w5 ⟨q', rfl, hq', hc5⟩
  replace m0 := hc5.cell (fun h => h) m0
  replace m1 := hc5.cell (fun h => h) m1
  replace m2 := hc5.cell (fun h => h) m2
  go_wp2_with fail
  refine (HEX.out q q' _ (hq.chg hc5) hq').mono ?_
  rintro e w6 ⟨rfl, hc6⟩
  replace m0 := hc6.cell (fun h => h) m0
  replace m1 := hc6.cell (fun h => h) m1
  replace m2 := hc6.cell (fun h => h) m2
  have hc04 := ((((hc1.trans hc2).trans hc3).trans hc4).trans hc5).trans hc6
  by_cases hd : FitD d
  · go_wp2_with fail
    refine (fits_fit d _ hd).mono ?_
    rintro e w' ⟨rfl, rfl⟩
    go_wp2_with fail
    refine (HG.out hd _ hc04).mono ?_
    rintro e w5 ⟨rfl, hc5⟩
    go_wp2_with fail
    go_ret
    exact ⟨rfl, hc04.trans hc5⟩
  · go_wp2_with fail
    refine (fits_not d _ hd).mono ?_
    rintro e w' ⟨rfl, rfl⟩
    go_wp2_with fail
    go_ret
    exact ⟨rfl, hc04⟩
end Go.Proofs.Ytojplcbkiogcpaa

namespace Go.Proofs.Ytojplcbkiogcpaa
set_option linter.unusedSimpArgs false
set_option linter.unusedVariables false
open Go.ChangeShapes Go.WideShapes Go.ChangeAt Go.RowKit

namespace fnExactGDelete
theorem own : ownKnob Try.prog.godebug = none := by kernel_rfl
theorem laid : laidOutB Try.prog = true := by kernel_rfl

set_option maxRecDepth 100000 in
theorem lifted (os : Os) (started : os.Started) (H : Type) (enc : TypeId × Value → H) :
    ReturnsInHanded {} Try.checked os 12 .any (Rows.fnExactGDeleteSpec.pre6 enc Try.prog Try.f12 Rows.fnExactGDeleteRow.domain false) (Rows.fnExactGDeleteSpec.post enc Try.prog Try.f12 false true false false) := by
  refine returnsInHanded_of_change (C := Try.checked) own started (by kernel_rfl) Try.func12
    (ChangeSpec.witness6 (enc := enc) (C := Try.checked) false ⟨#[], #[.agg #[.slice none 0 0, .int .i64 0, .bool false], .slice none 0 0, .slice none 0 0], []⟩ 8 (by kernel_rfl) (by kernel_rfl) (by kernel_rfl) (by kernel_rfl)) ?_
  intro W base args ds gs before hval0 hW hcnd _
  have hval : ∀ (j : Nat) t v, Try.f12.params[j]? = some t → args[j]? = some v → Value.okWide Try.prog W .any base t v := hval0
  have hW' := hW
  obtain ⟨p, q, hA0, hV, rfl, hfz, hnd⟩ := hW
  have hA : DataW.TrodAll enc Try.prog W 0 (fun _ => true) true Try.f12.params.toList args.toList ds p := hA0
  rw [Try.params12] at hA hval
  obtain ⟨v0, v1, v2, d0, d1, d2, p0, p1, p2, rfl, rfl, rfl, h0, h1, h2⟩ := trodAll_three hA
  obtain ⟨rfl, rfl⟩ := trodVars_none hV
  obtain ⟨sv, ord, dg, nl, rfl, hs⟩ := open_make (hval 0 24 v0 rfl rfl) h0
  obtain ⟨a, l, cap, rfl, hl, _⟩ := open_items Try.underlying31 Try.underlying26 (by kernel_rfl) rfl rfl rfl rfl (by kernel_rfl) Try.underlying3 (hval 1 31 v1 rfl rfl) h1
  obtain ⟨a2, ks, cap2, rfl, hk, hkc⟩ := open_items Try.underlying31 Try.underlying26 (by kernel_rfl) rfl rfl rfl rfl (by kernel_rfl) Try.underlying3 (hval 2 31 v2 rfl rfl) h2
  refine (law_ExactGDelete sv ord dg nl a cap l _ ks W hs hl (hk.sl hkc)).mono fun e W' ⟨he, hc⟩ => ?_
  subst he
  exact ⟨_, rfl, law_post laid (by kernel_rfl) rfl Try.underlying4 hW' rfl rfl (hc.below (Nat.le_refl _) (fun _ _ _ h => h))⟩

theorem proved : Rows.FnExactGDeleteSaid :=
  OpenClaim.holds_of_wide 12 Try.f12 rfl rfl rfl rfl rfl rfl rfl ⟨rfl, rfl, rfl, rfl, rfl⟩ rfl rfl rfl rfl rfl (by kernel_rfl) Try.func12 (by kernel_rfl)
    (of_decide_eq_true (by kernel_rfl)) (by unfold Func.isWrapper; first | (rw [if_pos (by decide +kernel)]; kernel_rfl) | (rw [if_neg (by decide +kernel)]; exact ⟨rfl, rfl⟩))
    (fun os started H enc _ => lifted os started H enc)
end fnExactGDelete
end Go.Proofs.Ytojplcbkiogcpaa
