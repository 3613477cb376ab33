/- For every order, every degree, every list of items and every list of indexes the law FnExactGDeleteAt returns true and leaves its arguments as they were. -/
import Derived.BigQuiet
import Derived.Test.YtgdchpinlboejaaRows
import Derived.Test.YtgdchpinlboejaaA9
import Derived.Test.YtgdchpinlboejaaA11
import Derived.Test.YtgdchpinlboejaaA12
import Derived.Test.YtgdchpinlboejaaT3
import Derived.Test.YtgdchpinlboejaaT2
namespace Go.Proofs.Ytgdchpinlboejaa
set_option linter.unusedSimpArgs false
set_option linter.unusedVariables false
open Go.RowKit

theorem atL_out {l : List (Int × Int)} {i : Int} (h : i < 0 ∨ (l.length : Int) ≤ i) : atL l i = none ∧ cutL0 l i = l := by
  unfold atL cutL0
  constructor
  · split
    · rw [List.getElem?_eq_none (by omega)]
    · rfl
  · split
    · rw [List.take_of_length_le (by omega), List.drop_of_length_le (by omega), List.append_nil]
    · rfl

theorem cutL0_len (l : List (Int × Int)) (i : Int) : (cutL0 l i).length ≤ l.length := by
  unfold cutL0
  split
  · simp; omega
  · exact Nat.le_refl _

set_option maxRecDepth 100000 in
set_option maxHeartbeats 2000000 in
theorem deleteAt_out {ord : List Int} {k : Kc ord} {mn mx : Nat} {w : World} {F : Nat → Prop} {t : Nat} {l : List (It ord)} (i : Int) (hM : MapIn k mn mx w F t l) (hi : i < 0 ∨ (l.length : Int) ≤ i) :
    Calls Try.prog 63 #[.pointer (some ⟨t, 0, none⟩), .int .i64 i] w (AtAns k mn mx w F t none l) := by
  have HM := Lib.hid hM
  have htl := hM.own (MOwn.self)
  rcases hM with ⟨rfl, hF, hB⟩ | ⟨H, h, T, hI, hB, rfl, h1⟩
  · have HB := Lib.hid hB
    clear hB hi
    go_enter Try.func63, Try.ntmps63
    go_wp2_with fail
    refine wp_scope_straight ?_
    go_wp2_with fail
    refine name_calls (fun w1 => Chg (fun _ _ => False) w w1 ∧ w1.heap[w.heap.size]? = some (.cells #[.int .i64 0, .int .i64 0] 30 (0, 0))) ⟨(Chg.refl _ _).alloc _, ha_at _ _ rfl⟩ ?_
    rintro w1 ⟨hc1, hb4⟩
    refine (lock_any t true _).mono ?_
    rintro e w' ⟨rfl, rfl⟩
    have hm := HB.out.chg hc1 (fun _ _ _ h => h)
    have c2 : w1.cell? ⟨t, 2, none⟩ = some (.pointer none) := hm.c2
    have c3 := hm.c3
    have c7 := hm.at_.c4
    have c8 := hm.at_.c5
    have hz := hc1.size
    have hl4 := heap_lt hb4
    have htl1 : t < w1.heap.size := by omega
    have pf0 := frozen_of_block hb4 0
    have pf1 := frozen_of_block hb4 1
    have p0 := cell_of_block hb4 0
    have p1 := cell_of_block hb4 1
    simp only [List.getElem?_toArray, List.getElem?_cons_zero, List.getElem?_cons_succ] at p0 p1
    have HB4 := Lib.hid hb4
    clear hm hb4
    go_wp2_with fail
    refine name_prop (fun wl => Chg (fun b _ => b = w.heap.size) w1 wl ∧ wl.heap[w.heap.size]? = some (.cells #[.int .i64 0, .int .i64 0] 30 (0, 0))) ⟨?_, by first | exact blk2 HB4.out _ _ | exact HB4.out⟩ ?_
    · repeat (first | refine Chg.drew ?_ | refine Chg.drewN ?_ _ | refine Chg.setCell ?_ (.inl rfl) _ | exact Chg.refl _ _)
    clear p0 p1 pf0 pf1
    rintro wl ⟨hcl, hbl⟩
    have p0 := cell_of_block hbl 0
    have p1 := cell_of_block hbl 1
    simp only [List.getElem?_toArray, List.getElem?_cons_zero, List.getElem?_cons_succ] at p0 p1
    try simp only [Exit.noGoto_ret]
    refine bodyPost_ret (v := .tuple #[.agg #[.int .i64 0, .int .i64 0], .bool false]) (by simp [results, Try.results63, go_sem, p0, p1]) rfl ?_
    have hcw : Chg (fun _ _ => False) w wl := hc1.trans' hcl (fun _ _ _ h => h) (fun b o hb e => by omega)
    exact ⟨rfl, F, HM.out.chg hcw, hcw.mono (fun _ _ _ h => h.elim), fun _ h => .inl h⟩
  · have HB := Lib.hid hB
    clear hB
    by_cases h0 : i < 0
    · clear hi
      go_enter Try.func63, Try.ntmps63
      go_wp2_with fail
      refine wp_scope_straight ?_
      go_wp2_with fail
      refine name_calls (fun w1 => Chg (fun _ _ => False) w w1 ∧ w1.heap[w.heap.size]? = some (.cells #[.int .i64 0, .int .i64 0] 30 (0, 0))) ⟨(Chg.refl _ _).alloc _, ha_at _ _ rfl⟩ ?_
      rintro w1 ⟨hc1, hb4⟩
      refine (lock_any t true _).mono ?_
      rintro e w' ⟨rfl, rfl⟩
      have hm := HB.out.chg hc1 (fun _ _ _ h => h)
      have c2 : w1.cell? ⟨t, 2, none⟩ = some (.pointer (some ⟨rid T, 0, none⟩)) := hm.c2
      have c3 := hm.c3
      have c7 := hm.at_.c4
      have c8 := hm.at_.c5
      have hz := hc1.size
      have hl4 := heap_lt hb4
      have htl1 : t < w1.heap.size := by omega
      have pf0 := frozen_of_block hb4 0
      have pf1 := frozen_of_block hb4 1
      have p0 := cell_of_block hb4 0
      have p1 := cell_of_block hb4 1
      simp only [List.getElem?_toArray, List.getElem?_cons_zero, List.getElem?_cons_succ] at p0 p1
      have HB4 := Lib.hid hb4
      clear hm hb4
      go_wp2_with fail
      refine name_prop (fun wl => Chg (fun b _ => b = w.heap.size) w1 wl ∧ wl.heap[w.heap.size]? = some (.cells #[.int .i64 0, .int .i64 0] 30 (0, 0))) ⟨?_, by first | exact blk2 HB4.out _ _ | exact HB4.out⟩ ?_
      · repeat (first | refine Chg.drew ?_ | refine Chg.drewN ?_ _ | refine Chg.setCell ?_ (.inl rfl) _ | exact Chg.refl _ _)
      clear p0 p1 pf0 pf1
      rintro wl ⟨hcl, hbl⟩
      have p0 := cell_of_block hbl 0
      have p1 := cell_of_block hbl 1
      simp only [List.getElem?_toArray, List.getElem?_cons_zero, List.getElem?_cons_succ] at p0 p1
      try simp only [Exit.noGoto_ret]
      refine bodyPost_ret (v := .tuple #[.agg #[.int .i64 0, .int .i64 0], .bool false]) (by simp [results, Try.results63, go_sem, p0, p1]) rfl ?_
      have hcw : Chg (fun _ _ => False) w wl := hc1.trans' hcl (fun _ _ _ h => h) (fun b o hb e => by omega)
      exact ⟨rfl, F, HM.out.chg hcw, hcw.mono (fun _ _ _ h => h.elim), fun _ h => .inl h⟩
    · have h2 : ((toL h T).length : Int) ≤ i := by omega
      clear hi
      go_enter Try.func63, Try.ntmps63
      go_wp2_with fail
      refine wp_scope_straight ?_
      go_wp2_with fail
      refine name_calls (fun w1 => Chg (fun _ _ => False) w w1 ∧ w1.heap[w.heap.size]? = some (.cells #[.int .i64 0, .int .i64 0] 30 (0, 0))) ⟨(Chg.refl _ _).alloc _, ha_at _ _ rfl⟩ ?_
      rintro w1 ⟨hc1, hb4⟩
      refine (lock_any t true _).mono ?_
      rintro e w' ⟨rfl, rfl⟩
      have hm := HB.out.chg hc1 (fun _ _ _ h => h)
      have c2 : w1.cell? ⟨t, 2, none⟩ = some (.pointer (some ⟨rid T, 0, none⟩)) := hm.c2
      have c3 := hm.c3
      have c7 := hm.at_.c4
      have c8 := hm.at_.c5
      have hz := hc1.size
      have hl4 := heap_lt hb4
      have htl1 : t < w1.heap.size := by omega
      have pf0 := frozen_of_block hb4 0
      have pf1 := frozen_of_block hb4 1
      have p0 := cell_of_block hb4 0
      have p1 := cell_of_block hb4 1
      simp only [List.getElem?_toArray, List.getElem?_cons_zero, List.getElem?_cons_succ] at p0 p1
      have HB4 := Lib.hid hb4
      clear hm hb4
      go_wp2_with fail
      refine name_prop (fun wl => Chg (fun b _ => b = w.heap.size) w1 wl ∧ wl.heap[w.heap.size]? = some (.cells #[.int .i64 0, .int .i64 0] 30 (0, 0))) ⟨?_, by first | exact blk2 HB4.out _ _ | exact HB4.out⟩ ?_
      · repeat (first | refine Chg.drew ?_ | refine Chg.drewN ?_ _ | refine Chg.setCell ?_ (.inl rfl) _ | exact Chg.refl _ _)
      clear p0 p1 pf0 pf1
      rintro wl ⟨hcl, hbl⟩
      have p0 := cell_of_block hbl 0
      have p1 := cell_of_block hbl 1
      simp only [List.getElem?_toArray, List.getElem?_cons_zero, List.getElem?_cons_succ] at p0 p1
      try simp only [Exit.noGoto_ret]
      refine bodyPost_ret (v := .tuple #[.agg #[.int .i64 0, .int .i64 0], .bool false]) (by simp [results, Try.results63, go_sem, p0, p1]) rfl ?_
      have hcw : Chg (fun _ _ => False) w wl := hc1.trans' hcl (fun _ _ _ h => h) (fun b o hb e => by omega)
      exact ⟨rfl, F, HM.out.chg hcw, hcw.mono (fun _ _ _ h => h.elim), fun _ h => .inl h⟩

theorem DeleteAt_any {ord : List Int} {k : Kc ord} {mn mx : Nat} {w : World} {F : Nat → Prop} {t : Nat} {l : List (It ord)} (i : Int) (hM : MapIn k mn mx w F t l) (hmn : 1 ≤ mn) (hmx : mx ≤ 255) (hl : l.length ≤ 1000000000000) :
    Calls Try.prog 63 #[.pointer (some ⟨t, 0, none⟩), .int .i64 i] w (AtAns k mn mx w F t (atL l i) (cutL0 l i)) := by
  by_cases h : i < 0 ∨ (l.length : Int) ≤ i
  · obtain ⟨e1, e2⟩ := atL_out h
    rw [e1, e2]
    exact deleteAt_out i hM h
  · obtain ⟨j, rfl⟩ : ∃ j : Nat, i = (j : Int) := ⟨i.toNat, by omega⟩
    obtain ⟨y, hy⟩ : ∃ y, l[j]? = some y := ⟨_, List.getElem?_eq_getElem (by omega)⟩
    have e1 : atL l (j : Int) = some y := by unfold atL; rw [if_pos (by omega)]; simpa using hy
    have e2 : cutL0 l (j : Int) = l.take j ++ l.drop (j + 1) := by unfold cutL0; rw [if_pos (by omega)]; simp
    rw [e1, e2]
    rcases hM with ⟨rfl, hF, hB⟩ | ⟨H, h', T, hI, hB, rfl, h1⟩
    · simp at hy
    · exact deleteAt_tree j y hI hB h1 hmn hmx hy hl

/-- Taken out by their places, one behind the other. -/
def atsL (l : List (Int × Int)) (is : List Int) : List (Int × Int) := is.foldl (fun acc i => cutL0 acc i) l

/-- What there was at each. -/
def atsF (l : List (Int × Int)) (is : List Int) : List (Option (Int × Int)) := (List.range is.length).map fun j => (is[j]?).bind fun i => atL (atsL l (is.take j)) i

theorem atsF_len (l : List (Int × Int)) (is : List Int) : (atsF l is).length = is.length := by simp [atsF]

theorem atsF_take {l : List (Int × Int)} {is : List Int} {j : Nat} {i : Int} (hx : is[j]? = some i) : (atsF l is).take (j + 1) = (atsF l is).take j ++ [atL (atsL l (is.take j)) i] := by
  have hj := (List.getElem?_eq_some_iff.1 hx).1
  rw [List.take_add_one]
  congr 1
  unfold atsF
  rw [List.getElem?_map, List.getElem?_range hj]
  simp [hx]

theorem atsL_take {l : List (Int × Int)} {is : List Int} {j : Nat} {i : Int} (hx : is[j]? = some i) : atsL l (is.take (j + 1)) = cutL0 (atsL l (is.take j)) i := by
  unfold atsL
  rw [List.take_add_one, hx, List.foldl_append]; rfl

theorem atsL_len : ∀ (is : List Int) (l : List (Int × Int)), (atsL l is).length ≤ l.length
  | [], l => Nat.le_refl _
  | i :: is, l => Nat.le_trans (atsL_len is (cutL0 l i)) (cutL0_len l i)
end Go.Proofs.Ytgdchpinlboejaa

namespace Go.Proofs.Ytgdchpinlboejaa
set_option linter.unusedSimpArgs false
set_option linter.unusedVariables false
open Go.RowKit

theorem SlE.chgOwn {α : Type} {p : El α} {w w' : World} {v : Value} {xs : List α} {A : Nat → Nat → Prop} (h : SlE p w v xs) (c : Chg A w w') (hA : ∀ b o, v.ownBlock = some b → ¬ A b o) : SlE p w' v xs := by
  obtain ⟨a, cap, rfl, h2, h3⟩ := h
  refine ⟨a, cap, rfl, h2, ?_⟩
  rcases h3 with h3 | ⟨b, o, rfl, h4⟩
  · exact .inl h3
  · exact .inr ⟨b, o, rfl, fun j u hj => c.cell (hA b _ rfl) (h4 j u hj)⟩

theorem RowI.own {w : World} {v : Value} {l : List (Int × Int)} {base : Nat} (h : RowI w v l base) : ∀ b, v.ownBlock = some b → base ≤ b ∧ b < w.heap.size := by
  obtain ⟨b, o, cap, rfl, h2, h3, h4⟩ := h
  intro b' hb
  have e : b = b' := Option.some.inj hb
  subst e
  exact ⟨h3, h4.lt⟩

theorem RowI.sl {w : World} {v : Value} {l : List (Int × Int)} {base : Nat} (h : RowI w v l base) : SlE itemE w v l := by
  obtain ⟨p, cap, rfl, hi⟩ := h.items
  obtain ⟨b, o, cap', e, h2, _⟩ := h
  injection e with e1 e2 e3
  exact hi.sl (by omega)

end Go.Proofs.Ytgdchpinlboejaa

namespace Go.Proofs.Ytgdchpinlboejaa
set_option linter.unusedSimpArgs false
set_option linter.unusedVariables false
open Go.RowKit

theorem exPlaces_any (w : World) : Calls Try.prog 23 #[] w (fun e w' => ∃ v, e = .returned v ∧ OwnE intE w' v [0, 2, 5, -1, 100] w.heap.size ∧ Chg (fun _ _ => False) w w') := by
  have hown : OwnE intE (w.alloc (.cells #[.int .i64 0, .int .i64 2, .int .i64 5, .int .i64 (-1), .int .i64 100] 3)) (.slice (some ⟨w.heap.size, 0, none⟩) 5 5) [0, 2, 5, -1, 100] w.heap.size := by
    refine .inr ⟨w.heap.size, 0, 5, rfl, by decide, Nat.le_refl _, RowAt.of_block (ha_at _ _ rfl) _ _ (by simp [flat, El.par, intE]) (by simp [intE]) ?_⟩
    intro j hj
    simp [flat, El.par, intE] at hj ⊢
  have HO := Lib.hid hown
  clear hown
  go_enter Try.func23, Try.ntmps23
  go_wp2
  go_ret
  exact ⟨_, rfl, HO.out, (Chg.refl _ _).alloc _⟩

end Go.Proofs.Ytgdchpinlboejaa

namespace Go.Proofs.Ytgdchpinlboejaa
set_option linter.unusedSimpArgs false
set_option linter.unusedVariables false
open Go.RowKit

variable {ord : List Int}

theorem headV_found2 {ord : List Int} (o : Option (It ord)) : ∃ k v b, lastV (ord := ord) o = .tuple #[.agg #[.int .i64 k, .int .i64 v], .bool b] ∧ FoundIs o (k, v) b := by
  cases o with
  | none => exact ⟨0, 0, false, rfl, rfl⟩
  | some y => exact ⟨y.1, y.2, true, rfl, rfl, rfl⟩

/-- What Cut gives, of a slice. -/
def CutPostS (v : Value) (l : List (Int × Int)) (i : Int) (w : World) (e : Ending) (w' : World) : Prop :=
  ∃ v', e = .returned (.tuple #[v', foundV (atL l i)]) ∧ SlE itemE w' v' (cutL0 l i) ∧ (v' = v ∨ ∀ b, v'.ownBlock = some b → w.heap.size ≤ b ∧ b < w'.heap.size) ∧ Chg (fun _ _ => False) w w'

theorem cut_sl (v : Value) (l : List (Int × Int)) (i : Int) (w : World) (hl : SlE itemE w v l) (hlen : l.length ≤ 2147483648) :
    Calls Try.prog 64 #[v, .int .i64 i] w (CutPostS v l i w) := by
  have hl2 := hl
  obtain ⟨p, cap, rfl, hi, hcap⟩ := hl.itemsAt
  refine (cut_any p cap l i w hi hlen hcap).mono ?_
  rintro e w' ⟨v', rfl, h, hc⟩
  rcases h with ⟨rfl, hn⟩ | ⟨hr, _⟩
  · refine ⟨_, rfl, ?_, .inl rfl, hc⟩
    have e : cutL0 l i = l := by
      unfold atL at hn
      unfold cutL0
      split
      · rw [if_pos (by assumption)] at hn
        have := List.getElem?_eq_none_iff.1 hn
        rw [List.take_of_length_le (by omega), List.drop_of_length_le (by omega), List.append_nil]
      · rfl
    rw [e]; exact hl2.chg hc
  · exact ⟨_, rfl, hr.sl, .inr hr.own, hc⟩

set_option maxRecDepth 100000 in
set_option maxHeartbeats 2000000 in
theorem GDeleteAt_any (sv : Value) (d : Int) (nl : Bool) (p : Option Addr) (cap : Nat) (l : List (It ord)) (kv : Value) (ks : List Int) (w : World) (hs : SlE intE w sv ord) (hol : ord.length ≤ 2147483647) (hd : FitD d) (hl : ItemsAt w p l) (hlen : l.length ≤ 2147483647) (hk : SlE intE w kv ks) (hkl : ks.length ≤ 2147483647) :
    Calls Try.prog 39 #[.agg #[sv, .int .i64 d, .bool nl], .slice p l.length cap, kv] w fun e w' => ∃ v u, e = .returned (.tuple #[v, u]) ∧ SlE foundE w' v (atsF (growL (ord := ord) l) ks) ∧ SlE itemE w' u (atsL (growL (ord := ord) l) ks) ∧ Chg (fun _ _ => False) w w' := by
  have HGR := Lib.hid (fun w1 (c : Chg (fun _ _ => False) w w1) => grow_any (ord := ord) sv d nl p cap l w1 hd (hs.chg c) hol (hl.chg c) hlen)
  obtain ⟨hdim1, hdim2, hdim3, hdim4, hdim5⟩ := hd.dims
  unfold GrowPost at HGR
  have hgl := growL_take_len l l.length
  rw [List.take_length] at hgl
  have hdl := fun j => atsL_len (ks.take j) (growL (ord := ord) l)
  have hm255 := hd.mx255
  have HGL := Lib.hid (fun j => Nat.le_trans (hdl j) (Nat.le_trans hgl hlen))
  obtain ⟨sa, sc, rfl⟩ : ∃ a c, sv = .slice a ord.length c := hs.form
  obtain ⟨a, kcap, rfl⟩ := hk.form
  have HKS := Lib.hid hk
  clear hl hs hgl hk hdl
  obtain ⟨i0, hi0, hz0, hz1, hz2⟩ := info_parts infoFound
  go_enter Try.func39, Try.ntmps39
  go_wp2_with fail
  refine (HGR.out _ ((Chg.refl _ _).alloc _)).mono ?_
  rintro e w1 ⟨k, t, F, rfl, hM, hc1', hF2', ho2'⟩
  have hca := (Chg.refl (fun _ _ => False) w).alloc (.cells #[.slice sa ord.length sc, .int .i64 d, .bool nl] 24)
  have hc1 := hca.trans hc1'
  have hF2 : ∀ b, F b → w.heap.size ≤ b := fun b hb => Nat.le_trans hca.size (hF2' b hb)
  have ho2 : ∀ b, MOwn k t b → w.heap.size ≤ b := fun b hb => Nat.le_trans hca.size (ho2' b hb)
  clear hc1' hF2' ho2'
  have hor : ∀ b, MOwn k t b → w.heap.size ≤ b := fun b hb => ho2 b hb
  have HOR := Lib.hid hor
  clear hor
  go_wp2_with fail
  go_loopw [9, 17] (fun v i wr => ∃ (j : Nat) (F' : Nat → Prop), j ≤ ks.length ∧ i = .int .i64 j ∧ OwnE foundE wr v ((atsF (growL (ord := ord) l) ks).take j) w.heap.size ∧ MapIn k (mnD d) (mxD d) wr F' t (atsL (growL (ord := ord) l) (ks.take j)) ∧ (∀ b, v.ownBlock = some b → ¬ F' b ∧ ¬ MOwn k t b) ∧ (∀ b, F' b → w.heap.size ≤ b) ∧ Chg (fun _ _ => False) w wr) (fun _ i _ => ks.length - (intOf i).toNat)
  case atStart => exact ⟨0, F, Nat.zero_le _, rfl, OwnE.nil _ _ _, by exact hM, (fun b hb => by cases hb), (fun b hb => hF2 b hb), hc1⟩
  case round =>
    obtain ⟨j, F', hj, rfl, how, hMr, hap, hFw, hc⟩ := hrel
    have hsz := hc.size
    by_cases hlt : j < ks.length
    · obtain ⟨x, hx⟩ : ∃ x, ks[j]? = some x := ⟨_, List.getElem?_eq_getElem hlt⟩
      obtain ⟨b, o, rfl, g0⟩ := (HKS.out.chg hc).int hx
      have ht : (atsF (growL (ord := ord) l) ks).take (j + 1) = (atsF (growL (ord := ord) l) ks).take j ++ [atL (atsL (growL (ord := ord) l) (ks.take j)) x] := by exact atsF_take hx
      have hnx : atsL (growL (ord := ord) l) (ks.take (j + 1)) = cutL0 (atsL (growL (ord := ord) l) (ks.take j)) x := by exact atsL_take hx
      have hll : ((atsF (growL (ord := ord) l) ks).take j).length ≤ ks.length := by rw [List.length_take]; omega
      have hca := Chg.refl (fun _ _ => False) wr
      have hg := DeleteAt_any (k := k) (F := F') x hMr hdim1 hm255 (by have := HGL.out j; omega)
      have hap' : ∀ b, u9.ownBlock = some b → ¬ F' b ∧ ¬ MOwn k t b ∧ b < wr.heap.size := fun b hb => ⟨(hap b hb).1, (hap b hb).2, (how.own_lt hb).2⟩
      have HT := Lib.hid ht
      have HNX := Lib.hid hnx
      have HLL := Lib.hid hll
      have HG := Lib.hid hg
      have HOW0 := Lib.hid how
      have HAP := Lib.hid hap'
      have HFW := Lib.hid hFw
      have HC := Lib.hid hc
      have HMR := Lib.hid hMr
      obtain ⟨vk, vv, vb, hva, hvf⟩ := headV_found2 (atL (atsL (growL (ord := ord) l) (ks.take j)) x)
      have HVF := Lib.hid hvf
      have hg2 := HG.out
      unfold AtAns at hg2
      rw [hva] at hg2
      have HG2 := Lib.hid hg2
      clear hx ht hll hg how hap hap' hFw hc hnx hMr hva hvf hg2
      have i0' : (0 : Int) ≤ (j : Int) := by omega
      have i1 : (j : Int) < (ks.length : Int) := by omega
      go_wp2_with fail
      refine HG2.out.mono ?_
      rintro e w2 ⟨rfl, F2, hM2, hc2', hF2'⟩
      have hszA := hca.size
      have hF2w : ∀ b, F2 b → w.heap.size ≤ b := fun b hb => by
        rcases hF2' b hb with h | h
        · exact HFW.out b h
        · omega
      have hapr : ∀ b, u9.ownBlock = some b → ¬ F2 b := fun b hb h => by
        obtain ⟨a1, a2, a3⟩ := HAP.out b hb
        rcases hF2' b h with h | h
        · exact a1 h
        · omega
      have how2 := HOW0.out.chgOwn (hca.trans' hc2' (B := fun b _ => F' b ∨ b = t) (fun _ _ _ h => h.elim) (fun _ _ _ h => h)) (fun b _ hb e => by
        obtain ⟨a1, a2, a3⟩ := HAP.out b hb
        rcases e with e | e
        · exact a1 e
        · exact a2 (e ▸ MOwn.self))
      have hcw2 : Chg (fun _ _ => False) w w2 := (HC.out.trans hca).trans' hc2' (fun _ _ _ h => h) (fun b o hb e => by
        rcases e with e | e
        · have := HFW.out b e; omega
        · have := HOR.out t MOwn.self; omega)
      obtain ⟨fk, fv, fb, hfv, hfl⟩ := foundV_agg (atL (atsL (growL (ord := ord) l) (ks.take j)) x)
      have hp := fun w => found_any (atL (atsL (growL (ord := ord) l) (ks.take j)) x) (vk, vv) vb w HVF.out
      rw [hfv] at hp
      have HP := Lib.hid hp
      have hwr2 := hc2'.size
      have HM2 := Lib.hid hM2
      have HAR := Lib.hid hapr
      have HF2W := Lib.hid hF2w
      clear hp hc2' hF2' hfv hM2 hapr hF2w hca
      go_wp2_with fail
      refine (HP.out _).mono ?_
      rintro e w3 ⟨rfl, hc3⟩
      have hcb : Chg (fun _ _ => False) w3 (w3.alloc (.cells #[.int .i64 fk, .int .i64 fv, .bool fb] 36)) := (Chg.refl _ _).alloc _
      have hc3b := hc3.trans hcb
      have HOW := Lib.hid (how2.keep hc3b)
      have hs3 := hc3.size
      have hsb : (w3.alloc (.cells #[.int .i64 fk, .int .i64 fv, .bool fb] 36)).heap.size ≤ w3.heap.size + 1 := by simp
      have hsb2 : w3.heap.size + 1 ≤ (w3.alloc (.cells #[.int .i64 fk, .int .i64 fv, .bool fb] 36)).heap.size := by simp
      have hs2 := hcw2.size
      have HM3 := Lib.hid (HM2.out.chg hc3b)
      have hcw3 := hcw2.trans hc3b
      clear how2
      go_wp2_with (refine wpList_append_E2 foundE (by rfl) _ _ _ (by rfl) i0 _ 24 Try.underlying32 hi0 hz0 hz1 hz2 rfl _ (by rfl) _ w.heap.size HOW.out (Nat.le_trans hs2 (Nat.le_trans hs3 hcb.size)) ⟨w3.heap.size, 0, none⟩ 1 _ (by rfl) [atL (atsL (growL (ord := ord) l) (ks.take j)) x] rfl (by decide) ?_ ?_ ?_ ?_)
      · exact El.src1 foundE (c := #[.int .i64 fk, .int .i64 fv, .bool fb]) (ha_at _ _ (by simp)) _ hfl.symm
      · have := HLL.out; unfold maxLen; omega
      · have := HLL.out; omega
      intro v' w' h1 h2 h3
      have hMn : MapIn k (mnD d) (mxD d) w' F2 t _ := HM3.out.chgA h2 (fun b _ hb e => HAR.out b e hb) (fun b _ hb e => (HAP.out b e).2.1 hb)
      have hcw' : Chg (fun _ _ => False) w w' := hcw3.trans' h2 (fun _ _ _ h => h) (fun b o hb e => by have := (HOW.out.own_lt e).1; omega)
      have hapn : ∀ b, v'.ownBlock = some b → ¬ F2 b ∧ ¬ MOwn k t b := fun b hb => by
        rcases h3 with h3 | ⟨nb, h3, hn⟩
        · rw [h3] at hb
          exact ⟨HAR.out b hb, (HAP.out b hb).2.1⟩
        · rw [h3] at hb
          have e : nb = b := Option.some.inj hb
          subst e
          exact ⟨fun hf => by have := HM3.out.famLt hf; omega, fun ho => by have := HM3.out.own ho; omega⟩
      have HMN := Lib.hid hMn
      have HAPN := Lib.hid hapn
      have H1 := Lib.hid h1
      clear h1 h2 h3 hMn hapn
      go_wp2
      go_roundw
      case rel => exact ⟨j + 1, F2, by omega, by go_num, by rw [HT.out]; exact H1.out, by rw [HNX.out]; exact HMN.out, HAPN.out, HF2W.out, hcw'⟩
      case measure => simp [intOf]; omega
    · obtain rfl : j = ks.length := by omega
      rw [List.take_of_length_le (by rw [atsF_len]; exact Nat.le_refl _)] at how
      have HOW := Lib.hid how.sl
      have hit := Items_any hMr hdim1 (by have := HGL.out ks.length; omega)
      have HIT := Lib.hid hit
      have hnlt : ¬ ((ks.length : Nat) : Int) < (ks.length : Int) := by omega
      clear how hit hMr hap hFw
      go_wp2_with fail
      refine HIT.out.mono ?_
      rintro e w4 ⟨v4, rfl, how4, hc4⟩
      go_wp2_with fail
      go_ret2
      exact ⟨_, _, rfl, HOW.out.chg hc4, by have := how4.sl; rw [List.take_length] at this; exact this, hc.trans hc4⟩

set_option maxRecDepth 100000 in
set_option maxHeartbeats 1000000 in
theorem specGDeleteAt_any (sv : Value) (d : Int) (nl : Bool) (p : Option Addr) (cap : Nat) (l : List (Int × Int)) (kv : Value) (ks : List Int) (w : World) (hs : SlE intE w sv ord) (hol : ord.length ≤ 2147483647) (hl : ItemsAt w p l) (hlen : l.length ≤ 2147483647) (hk : SlE intE w kv ks) (hkl : ks.length ≤ 2147483647) :
    Calls Try.prog 40 #[.agg #[sv, .int .i64 d, .bool nl], .slice p l.length cap, kv] w fun e w' => ∃ v u, e = .returned (.tuple #[v, u]) ∧ SlE foundE w' v (atsF (treeL (ltR (rkL ord)) l) ks) ∧ SlE itemE w' u (atsL (treeL (ltR (rkL ord)) l) ks) ∧ Chg (fun _ _ => False) w w' := by
  obtain ⟨a, kcap, rfl⟩ := hk.form
  have HS := Lib.hid hk
  clear hk
  obtain ⟨i0, hi0, hz0, hz1, hz2⟩ := info_parts infoFound
  have HT := Lib.hid (fun w1 (c : Chg (fun _ _ => False) w w1) => tree_any sv (rkL ord) p cap l w1 (rank_list sv ord w1 (hs.chg c) hol) (hl.chg c) hlen)
  have hlen2 := treeL_len (ltR (rkL ord)) l
  generalize hL : treeL (ltR (rkL ord)) l = L at hlen2 ⊢
  have hdl := fun j => atsL_len (ks.take j) L
  have HDL := Lib.hid (fun j => Nat.le_trans (hdl j) (Nat.le_trans hlen2 hlen))
  unfold TreePost at HT
  rw [hL] at HT
  have HR := Lib.hid (fun w1 (c : Chg (fun _ _ => False) w w1) => rank_list sv ord w1 (hs.chg c) hol)
  obtain ⟨sa, sc, rfl⟩ : ∃ a c, sv = .slice a ord.length c := hs.form
  clear hl hs hL hdl
  go_enter Try.func40, Try.ntmps40
  go_wp2_with fail
  refine name_calls (fun w1 => Chg (fun _ _ => False) w w1 ∧ w1.heap[w.heap.size]? = some (.cells #[.slice sa ord.length sc, .int .i64 d, .bool nl] 24 (0, 0))) ⟨(Chg.refl _ _).alloc _, ha_at _ _ rfl⟩ ?_
  rintro w1 ⟨hc1, hb1⟩
  refine (HT.out _ hc1).mono ?_
  rintro e w2 ⟨v2, rfl, hv2, hc2⟩
  have hsl2 : SlE itemE w2 v2 L := by
    obtain ⟨q, cap2, rfl, hi, hcap⟩ := hv2.items
    exact hi.sl hcap
  have hown2 : ∀ b, v2.ownBlock = some b → b < w2.heap.size := fun b hb => by
    rcases hv2 with ⟨_, rfl⟩ | h
    · cases hb
    · exact (h.own b hb).2
  have hc12 := hc1.trans hc2
  have hlt := heap_lt hb1
  have m0 := hc2.cell (fun h => h) (cell_of_block hb1 0)
  clear hb1 hv2
  go_wp2_with fail
  go_loopw [8, 9, 19] (fun u v i wr => ∃ (j : Nat), j ≤ ks.length ∧ i = .int .i64 j ∧ SlE itemE wr u (atsL L (ks.take j)) ∧ (∀ b, u.ownBlock = some b → b < wr.heap.size) ∧ Apart v u ∧ OwnE foundE wr v ((atsF L ks).take j) w2.heap.size ∧ Chg (fun _ _ => False) w2 wr) (fun _ _ i _ => ks.length - (intOf i).toNat)
  case atStart => exact ⟨0, Nat.zero_le _, rfl, hsl2, hown2, (fun b hb => by cases hb), OwnE.nil _ _ _, Chg.refl _ _⟩
  case round =>
    obtain ⟨j, hj, rfl, hu, hub, hap, how, hc⟩ := hrel
    have hsz := hc.size
    have hsz2 := hc12.size
    by_cases hlt : j < ks.length
    · obtain ⟨x, hx⟩ : ∃ x, ks[j]? = some x := ⟨_, List.getElem?_eq_getElem hlt⟩
      obtain ⟨b, o, rfl, g0⟩ := (HS.out.chg (hc12.trans hc)).int hx
      have ht := atsF_take (l := L) hx
      have hnx := atsL_take (l := L) hx
      have hll : ((atsF L ks).take j).length ≤ ks.length := by rw [List.length_take]; omega
      obtain ⟨fk, fv, fb, hfv, hfl⟩ := foundV_agg (atL (atsL L (ks.take j)) x)
      have hdr := fun (w3 : World) (c : Chg (fun _ _ => False) wr w3) => cut_sl u8 _ x w3 (hu.chg c) (by have := HDL.out j; omega)
      unfold CutPostS at hdr
      rw [hfv] at hdr
      have HDR := Lib.hid hdr
      have HTT := Lib.hid ht
      have HNX := Lib.hid hnx
      have HLL := Lib.hid hll
      have HOW0 := Lib.hid how
      have HU := Lib.hid hu
      have HUB := Lib.hid hub
      have HAP := Lib.hid hap
      have HC := Lib.hid hc
      clear hx ht hnx hll how hu hub hap hdr hfv
      have m1 := hc.cell (fun h => h) m0
      have m2 : ∀ o1 o2, ((wr.alloc o1).alloc o2).cell? ⟨w.heap.size, 0, none⟩ = some (.slice sa ord.length sc) := fun o1 o2 => (((Chg.refl (fun _ _ => False) wr).alloc o1).alloc o2).cell (fun h => h) m1
      have i0' : (0 : Int) ≤ (j : Int) := by omega
      have i1 : (j : Int) < (ks.length : Int) := by omega
      clear hc
      go_wp2_with fail
      refine name_calls (fun w3 => Chg (fun _ _ => False) wr w3 ∧ w3.heap[wr.heap.size]? = some (.cells #[.int .i64 0, .int .i64 0, .bool false] 36 (0, 0))) ⟨(Chg.refl _ _).alloc _, ha_at _ _ rfl⟩ ?_
      rintro w3 ⟨hc3, hb3⟩
      refine (HDR.out w3 hc3).mono ?_
      rintro e w4 ⟨v4, rfl, hs4, hv4, hc4⟩
      have hl3 := heap_lt hb3
      have hb4 : w4.heap[wr.heap.size]? = some (.cells #[.int .i64 0, .int .i64 0, .bool false] 36 (0, 0)) := by rw [hc4.block hl3 (fun _ h => h)]; exact hb3
      have c0 := cell_of_block hb4 0
      have c1 := cell_of_block hb4 1
      have c2 := cell_of_block hb4 2
      have z0 := frozen_of_block hb4 0
      have z1 := frozen_of_block hb4 1
      have z2 := frozen_of_block hb4 2
      simp only [List.getElem?_toArray, List.getElem?_cons_zero, List.getElem?_cons_succ] at c0 c1 c2
      have hsz3 := hc3.size
      have hsz4 := hc4.size
      have hst : Chg (fun b _ => b = wr.heap.size) w4 (((w4.setCell ⟨wr.heap.size, 0, none⟩ (.int .i64 fk)).setCell ⟨wr.heap.size, 1, none⟩ (.int .i64 fv)).setCell ⟨wr.heap.size, 2, none⟩ (.bool fb)) := by
        repeat (first | refine Chg.setCell ?_ (.inl rfl) _ | exact Chg.refl _ _)
      have hcb : Chg (fun _ _ => False) (((w4.setCell ⟨wr.heap.size, 0, none⟩ (.int .i64 fk)).setCell ⟨wr.heap.size, 1, none⟩ (.int .i64 fv)).setCell ⟨wr.heap.size, 2, none⟩ (.bool fb)) ((((w4.setCell ⟨wr.heap.size, 0, none⟩ (.int .i64 fk)).setCell ⟨wr.heap.size, 1, none⟩ (.int .i64 fv)).setCell ⟨wr.heap.size, 2, none⟩ (.bool fb)).alloc (.cells #[.int .i64 fk, .int .i64 fv, .bool fb] 36)) := (Chg.refl _ _).alloc _
      have hkb : Chg (fun b _ => b = wr.heap.size) w4 _ := hst.trans (hcb.mono (fun _ _ _ h => h.elim))
      have HOW := Lib.hid ((HOW0.out.keep (hc3.trans hc4)).chgOwn hkb (fun b _ hb e => by have := (HOW0.out.own_lt hb).2; omega))
      have hsk := hkb.size
      have hown4 : ∀ b, v4.ownBlock = some b → (b < wr.heap.size ∧ u8.ownBlock = some b) ∨ (w3.heap.size ≤ b ∧ b < w4.heap.size) := fun b hb => by
        rcases hv4 with rfl | h
        · exact .inl ⟨HUB.out b hb, hb⟩
        · exact .inr (h b hb)
      have hsk4 := hs4.chgOwn hkb (fun b _ hb e => by rcases hown4 b hb with h | h <;> omega)
      have hcw : Chg (fun _ _ => False) wr _ := (hc3.trans hc4).trans' hkb (B := fun _ _ => False) (fun _ _ _ h => h) (fun b o hb e => by omega)
      have HCW := Lib.hid hcw
      have HS4 := Lib.hid hsk4
      have HO4 := Lib.hid hown4
      have hszk : w4.heap.size + 1 = ((((w4.setCell ⟨wr.heap.size, 0, none⟩ (.int .i64 fk)).setCell ⟨wr.heap.size, 1, none⟩ (.int .i64 fv)).setCell ⟨wr.heap.size, 2, none⟩ (.bool fb)).alloc (.cells #[.int .i64 fk, .int .i64 fv, .bool fb] 36)).heap.size := by simp
      have hszk2 : w4.heap.size + 1 ≤ ((((w4.setCell ⟨wr.heap.size, 0, none⟩ (.int .i64 fk)).setCell ⟨wr.heap.size, 1, none⟩ (.int .i64 fv)).setCell ⟨wr.heap.size, 2, none⟩ (.bool fb)).alloc (.cells #[.int .i64 fk, .int .i64 fv, .bool fb] 36)).heap.size := by omega
      clear hs4 hv4 hst hcb hkb hcw hsk4 hown4 hb3 hb4 hszk
      go_wp2_with (refine wpList_append_E2 foundE (by rfl) _ _ _ (by rfl) i0 _ 24 Try.underlying32 hi0 hz0 hz1 hz2 rfl _ (by rfl) _ w2.heap.size HOW.out (by omega) ⟨w4.heap.size, 0, none⟩ 1 _ (by rfl) [atL (atsL L (ks.take j)) x] rfl (by decide) ?_ ?_ ?_ ?_)
      · exact El.src1 foundE (c := #[.int .i64 fk, .int .i64 fv, .bool fb]) (ha_at _ _ (by simp)) _ hfl.symm
      · have := HLL.out; unfold maxLen; omega
      · have := HLL.out; omega
      intro v' w' h1 h2 h3
      have hap4 : Apart u9 v4 := fun b hb hb2 => by
        rcases HO4.out b hb2 with h | h
        · exact HAP.out b hb h.2
        · have := (HOW0.out.own_lt hb).2; omega
      have hfin : SlE itemE w' v4 (cutL0 (atsL L (ks.take j)) x) ∧ (∀ b, v4.ownBlock = some b → b < w'.heap.size) ∧ Apart v' v4 ∧ Chg (fun _ _ => False) w2 w' := by
        have hs2 := h2.size
        refine ⟨HS4.out.chgOwn h2 (fun b _ hb e => hap4 b e hb), fun b hb => by rcases HO4.out b hb with h | h <;> omega, (fun b hb hb2 => by
          rcases h3 with h3 | ⟨nb, h3, hn⟩
          · exact hap4 b (h3 ▸ hb) hb2
          · rw [h3] at hb
            have e : nb = b := Option.some.inj hb
            rcases HO4.out b hb2 with h | h <;> omega), (HC.out.trans HCW.out).trans' h2 (fun _ _ _ h => h) (fun b o hb e => by have := (HOW0.out.own_lt e).1; omega)⟩
      have HFIN := Lib.hid hfin
      have H1 := Lib.hid h1
      clear hfin h1 h2 h3 hap4
      go_wp2
      go_roundw
      case rel => exact ⟨j + 1, by omega, by go_num, by rw [HNX.out]; exact HFIN.out.1, HFIN.out.2.1, HFIN.out.2.2.1, by rw [HTT.out]; exact H1.out, HFIN.out.2.2.2⟩
      case measure => simp [intOf]; omega
    · obtain rfl : j = ks.length := by omega
      rw [List.take_length] at hu
      rw [List.take_of_length_le (by rw [atsF_len]; exact Nat.le_refl _)] at how
      go_wp2
      go_ret2
      exact ⟨_, _, rfl, how.sl, hu, hc12.trans hc⟩

set_option maxRecDepth 100000 in
theorem gDeleteAt_any {ord : List Int} (sv : Value) (d : Int) (nl : Bool) (p : Option Addr) (cap : Nat) (l : List (It ord)) (kv : Value) (ks : List Int) (w : World) (hs : SlE intE w sv ord) (hol : ord.length ≤ 2147483647) (hd : FitD d) (hl : ItemsAt w p l) (hlen : l.length ≤ 2147483647) (hk : SlE intE w kv ks) (hkl : ks.length ≤ 2147483647) :
    Calls Try.prog 20 #[.agg #[sv, .int .i64 d, .bool nl], .slice p l.length cap, kv] w fun e w' => e = .returned (.bool true) ∧ Chg (fun _ _ => False) w w' := by
  have HM := Lib.hid (fun w1 (c : Chg (fun _ _ => False) w w1) => GDeleteAt_any sv d nl p cap l kv ks w1 (hs.chg c) hol hd (hl.chg c) hlen (hk.chg c) hkl)
  have HG := Lib.hid (fun w1 (c : Chg (fun _ _ => False) w w1) => specGDeleteAt_any (ord := ord) sv d nl p cap l kv ks w1 (hs.chg c) hol (hl.chg c) hlen (hk.chg c) hkl)
  have hxl := atsF_len (treeL (ltR (rkL ord)) l) ks
  have hyl := atsL_len ks (treeL (ltR (rkL ord)) l)
  have hlen2 := treeL_len (ltR (rkL ord)) l
  have egr : growL (ord := ord) l = treeL (ltR (rkL ord)) l := rfl
  rw [egr] at HM
  generalize atsF (treeL (ltR (rkL ord)) l) ks = U at HM HG hxl
  generalize atsL (treeL (ltR (rkL ord)) l) ks = V at HM HG hyl
  have hU : U.length ≤ 2147483647 := by omega
  have hV : V.length ≤ 2147483647 := by omega
  obtain ⟨sa, sc, rfl⟩ : ∃ a c, sv = .slice a ord.length c := hs.form
  obtain ⟨a, kcap, rfl⟩ := hk.form
  clear hs hl hk egr hxl hyl hlen2
  go_enter Try.func20, Try.ntmps20
  go_wp2_with fail
  refine (HM.out _ ((Chg.refl _ _).alloc _)).mono ?_
  rintro e w1 ⟨v1, u1, rfl, s1, t1, hc1⟩
  have hb0 : w1.heap[w.heap.size]? = some (.cells #[.slice sa ord.length sc, .int .i64 d, .bool nl] 24 (0, 0)) := by rw [hc1.block (by simp) (fun _ h => h)]; exact ha_at _ _ rfl
  have m0 := cell_of_block hb0 0
  have m1 := cell_of_block hb0 1
  have m2 := cell_of_block hb0 2
  simp only [List.getElem?_toArray, List.getElem?_cons_zero, List.getElem?_cons_succ] at m0 m1 m2
  have hc01 := ((Chg.refl (fun _ _ => False) w).alloc (.cells #[.slice sa ord.length sc, .int .i64 d, .bool nl] 24)).trans hc1
  have HS1 := Lib.hid s1
  have HT1 := Lib.hid t1
  clear hb0 s1 t1
  go_wp2_with fail
  refine (HG.out _ hc01).mono ?_
  rintro e w2 ⟨v2, u2, rfl, s2, t2, hc2⟩
  have HS2 := Lib.hid s2
  have HT2 := Lib.hid t2
  clear s2 t2 m0 m1 m2
  go_wp2_with fail
  refine (equal_found _ _ _ _ (HS1.out.chg hc2) HS2.out (by omega)).mono ?_
  rintro e w3 ⟨rfl, hc3⟩
  go_wp2_with fail
  refine (equal_item _ _ _ _ (HT1.out.chg (hc2.trans hc3)) (HT2.out.chg hc3) (by omega)).mono ?_
  rintro e w4 ⟨rfl, hc4⟩
  go_wp2_with fail
  go_ret
  exact ⟨rfl, ((hc01.trans hc2).trans hc3).trans hc4⟩

set_option maxRecDepth 100000 in
theorem law_ExactGDeleteAt (sv : Value) (os : List Int) (d : Int) (nl : Bool) (p : Option Addr) (cap : Nat) (l : List (Int × Int)) (kv : Value) (ks : List Int) (w : World) (hs : SlE intE w sv os) (hl : ItemsAt w p l) (hk : SlE intE w kv ks) :
    Calls Try.prog 5 #[.agg #[sv, .int .i64 d, .bool nl], .slice p l.length cap, kv] w fun e w' => e = .returned (.bool true) ∧ Chg (fun _ _ => False) w w' := by
  obtain ⟨sa, sc, rfl⟩ : ∃ a c, sv = .slice a os.length c := hs.form
  obtain ⟨ka, kcap, rfl⟩ := hk.form
  have hz := fun w1 => zzFits1_any sa os.length sc d nl w1
  by_cases hol : os.length ≤ 2147483647
  rotate_left
  · rw [decide_eq_false hol] at hz
    go_enter Try.func5, Try.ntmps5
    go_wp2_with fail
    refine name_calls (fun w1 => Chg (fun _ _ => False) w w1) (((Chg.refl _ _).alloc _)) ?_
    intro w1 hc1
    refine (hz w1).mono ?_
    rintro e w2 ⟨rfl, hc2⟩
    go_wp2_with fail
    go_ret
    exact ⟨rfl, hc1.trans hc2⟩
  rw [decide_eq_true hol] at hz
  by_cases hlen : l.length ≤ 2147483647
  rotate_left
  · have hlen' : 2147483647 < l.length := by omega
    go_enter Try.func5, Try.ntmps5
    go_wp2_with fail
    refine name_calls (fun w1 => Chg (fun _ _ => False) w w1) (((Chg.refl _ _).alloc _)) ?_
    intro w1 hc1
    refine (hz w1).mono ?_
    rintro e w2 ⟨rfl, hc2⟩
    go_wp2_with fail
    go_ret
    exact ⟨rfl, hc1.trans hc2⟩
  by_cases hkl : ks.length ≤ 2147483647
  rotate_left
  · have hn : ¬ 2147483647 < l.length := by omega
    have hlen' : 2147483647 < ks.length := by omega
    go_enter Try.func5, Try.ntmps5
    go_wp2_with fail
    refine name_calls (fun w1 => Chg (fun _ _ => False) w w1) (((Chg.refl _ _).alloc _)) ?_
    intro w1 hc1
    refine (hz w1).mono ?_
    rintro e w2 ⟨rfl, hc2⟩
    go_wp2_with fail
    go_ret
    exact ⟨rfl, hc1.trans hc2⟩
  have hn : ¬ 2147483647 < l.length := by omega
  have hnk : ¬ 2147483647 < ks.length := by omega
  have HEX := Lib.hid (fun q v' w1 (hq : ItemsAt w1 q exL) (hv' : SlE intE w1 v' [0, 2, 5, -1, 100]) => gDeleteAt_any (ord := []) (.slice none 0 0) 2 false q 7 exL v' [0, 2, 5, -1, 100] w1 ⟨none, 0, rfl, Nat.le_refl _, .inl rfl⟩ (by simp) (.inr ⟨by omega, by omega⟩) hq (by decide) hv' (by decide))
  have HG := Lib.hid (fun hd w1 (c : Chg (fun _ _ => False) w w1) => gDeleteAt_any (ord := os) (.slice sa os.length sc) d nl p cap l (.slice ka ks.length kcap) ks w1 (hs.chg c) hol hd (hl.chg c) hlen (hk.chg c) hkl)
  clear hs hl hk
  have q1 : exL.length = 7 := rfl
  go_enter Try.func5, Try.ntmps5
  go_wp2_with fail
  refine name_calls (fun w1 => Chg (fun _ _ => False) w w1 ∧ w1.heap[w.heap.size]? = some (.cells #[.slice sa os.length sc, .int .i64 d, .bool nl] 24 (0, 0))) ⟨((Chg.refl _ _).alloc _), ha_at _ _ rfl⟩ ?_
  rintro w1 ⟨hc1, hb0⟩
  have m0 := cell_of_block hb0 0
  have m1 := cell_of_block hb0 1
  have m2 := cell_of_block hb0 2
  simp only [List.getElem?_toArray, List.getElem?_cons_zero, List.getElem?_cons_succ] at m0 m1 m2
  clear hb0
  refine (hz w1).mono ?_
  rintro e w2 ⟨rfl, hc2⟩
  replace m0 := hc2.cell (fun h => h) m0
  replace m1 := hc2.cell (fun h => h) m1
  replace m2 := hc2.cell (fun h => h) m2
  go_wp2_with fail
  refine (exMake_any _).mono ?_
  rintro e w3 ⟨rfl, hc3⟩
  replace m0 := hc3.cell (fun h => h) m0
  replace m1 := hc3.cell (fun h => h) m1
  replace m2 := hc3.cell (fun h => h) m2
  go_wp2_with fail
  refine (exItems_any _).mono ?_
  rintro e w4 ⟨q, rfl, hq, hc4⟩
  replace m0 := hc4.cell (fun h => h) m0
  replace m1 := hc4.cell (fun h => h) m1
  replace m2 := hc4.cell (fun h => h) m2
  go_wp2_with fail
  refine (exPlaces_any _).mono ?_
  rintro e w5 ⟨v', rfl, hv', hc5⟩
  replace m0 := hc5.cell (fun h => h) m0
  replace m1 := hc5.cell (fun h => h) m1
  replace m2 := hc5.cell (fun h => h) m2
  go_wp2_with fail
  refine (HEX.out q v' _ (hq.chg hc5) hv'.sl).mono ?_
  rintro e w6 ⟨rfl, hc6⟩
  replace m0 := hc6.cell (fun h => h) m0
  replace m1 := hc6.cell (fun h => h) m1
  replace m2 := hc6.cell (fun h => h) m2
  have hc04 := ((((hc1.trans hc2).trans hc3).trans hc4).trans hc5).trans hc6
  by_cases hd : FitD d
  · go_wp2_with fail
    refine (fits_fit d _ hd).mono ?_
    rintro e w' ⟨rfl, rfl⟩
    go_wp2_with fail
    refine (HG.out hd _ hc04).mono ?_
    rintro e w5 ⟨rfl, hc5⟩
    go_wp2_with fail
    go_ret
    exact ⟨rfl, hc04.trans hc5⟩
  · go_wp2_with fail
    refine (fits_not d _ hd).mono ?_
    rintro e w' ⟨rfl, rfl⟩
    go_wp2_with fail
    go_ret
    exact ⟨rfl, hc04⟩
end Go.Proofs.Ytgdchpinlboejaa

namespace Go.Proofs.Ytgdchpinlboejaa
set_option linter.unusedSimpArgs false
set_option linter.unusedVariables false
open Go.ChangeShapes Go.WideShapes Go.ChangeAt Go.RowKit

namespace fnExactGDeleteAt
theorem own : ownKnob Try.prog.godebug = none := by kernel_rfl
theorem laid : laidOutB Try.prog = true := by kernel_rfl

set_option maxRecDepth 100000 in
theorem lifted (os : Os) (started : os.Started) (H : Type) (enc : TypeId × Value → H) :
    ReturnsInHanded {} Try.checked os 5 .any (Rows.fnExactGDeleteAtSpec.pre6 enc Try.prog Try.f5 Rows.fnExactGDeleteAtRow.domain false) (Rows.fnExactGDeleteAtSpec.post enc Try.prog Try.f5 false true false false) := by
  refine returnsInHanded_of_change (C := Try.checked) own started (by kernel_rfl) Try.func5
    (ChangeSpec.witness6 (enc := enc) (C := Try.checked) false ⟨#[], #[.agg #[.slice none 0 0, .int .i64 0, .bool false], .slice none 0 0, .slice none 0 0], []⟩ 8 (by kernel_rfl) (by kernel_rfl) (by kernel_rfl) (by kernel_rfl)) ?_
  intro W base args ds gs before hval0 hW hcnd _
  have hval : ∀ (j : Nat) t v, Try.f5.params[j]? = some t → args[j]? = some v → Value.okWide Try.prog W .any base t v := hval0
  have hW' := hW
  obtain ⟨p, q, hA0, hV, rfl, hfz, hnd⟩ := hW
  have hA : DataW.TrodAll enc Try.prog W 0 (fun _ => true) true Try.f5.params.toList args.toList ds p := hA0
  rw [Try.params5] at hA hval
  obtain ⟨v0, v1, v2, d0, d1, d2, p0, p1, p2, rfl, rfl, rfl, h0, h1, h2⟩ := trodAll_three hA
  obtain ⟨rfl, rfl⟩ := trodVars_none hV
  obtain ⟨sv, ord, dg, nl, rfl, hs⟩ := open_make (hval 0 24 v0 rfl rfl) h0
  obtain ⟨a, l, cap, rfl, hl, _⟩ := open_items Try.underlying25 Try.underlying30 (by kernel_rfl) rfl rfl rfl rfl (by kernel_rfl) Try.underlying3 (hval 1 25 v1 rfl rfl) h1
  obtain ⟨ks, hk⟩ := open_nums Try.underlying22 Try.underlying3 (by kernel_rfl) (hval 2 22 v2 rfl rfl) h2
  refine (law_ExactGDeleteAt sv ord dg nl a cap l _ ks W hs hl hk).mono fun e W' ⟨he, hc⟩ => ?_
  subst he
  exact ⟨_, rfl, law_post laid (by kernel_rfl) rfl Try.underlying4 hW' rfl rfl (hc.below (Nat.le_refl _) (fun _ _ _ h => h))⟩

theorem proved : Rows.FnExactGDeleteAtSaid :=
  OpenClaim.holds_of_wide 5 Try.f5 rfl rfl rfl rfl rfl rfl rfl ⟨rfl, rfl, rfl, rfl, rfl⟩ rfl rfl rfl rfl rfl (by kernel_rfl) Try.func5 (by kernel_rfl)
    (of_decide_eq_true (by kernel_rfl)) (by unfold Func.isWrapper; first | (rw [if_pos (by decide +kernel)]; kernel_rfl) | (rw [if_neg (by decide +kernel)]; exact ⟨rfl, rfl⟩))
    (fun os started H enc _ => lifted os started H enc)
end fnExactGDeleteAt
end Go.Proofs.Ytgdchpinlboejaa
