/- The law FnExactBPops. -/
import Derived.BigQuiet
import Derived.Deep.Grids
import Derived.ChangeSlices
import Derived.Test.YtcabnhpnkaielaaA9
import Derived.Test.YtcabnhpnkaielaaQf
namespace Go.Proofs.Ytcabnhpnkaielaa
set_option linter.unusedSimpArgs false
set_option linter.unusedVariables false
open Go.RowKit
variable {ord : List Int} {k : Kc ord}

set_option maxRecDepth 100000 in
theorem bPops_any {ord : List Int} (sv : Value) (d : Int) (nl : Bool) (p : Option Addr) (cap : Nat) (l : List (It ord)) (kv : Value) (ks : List Bool) (w : World) (hs : SlE intE w sv ord) (hol : ord.length ≤ 2147483647) (hd : FitD d) (hl : ItemsAt w p l) (hlen : l.length ≤ 2147483647) (hk : SlE boolE w kv ks) (hkl : ks.length ≤ 2147483647) :
    Calls Try.prog 31 #[.agg #[sv, .int .i64 d, .bool nl], .slice p l.length cap, kv] w fun e w' => e = .returned (.bool true) ∧ Chg (fun _ _ => False) w w' := by
  have HM := Lib.hid (fun w1 (c : Chg (fun _ _ => False) w w1) => BPops_any sv d nl p cap l kv ks w1 (hs.chg c) hol hd (hl.chg c) hlen (hk.chg c) hkl)
  have HG := Lib.hid (fun w1 (c : Chg (fun _ _ => False) w w1) => specGPops_any (ord := ord) sv d nl p cap l kv ks w1 (hs.chg c) hol (hl.chg c) hlen (hk.chg c) hkl)
  have e1 : popsF (growL l) ks = popsF (treeL (ltR (rkL ord)) l) ks := rfl
  have e2 : popsL (growL l) ks = popsL (treeL (ltR (rkL ord)) l) ks := rfl
  rw [e1, e2] at HM
  have hxl := popsF_len (treeL (ltR (rkL ord)) l) ks
  have hyl := popsL_len ks (treeL (ltR (rkL ord)) l)
  have hlen2 := treeL_len (ltR (rkL ord)) l
  generalize popsF (treeL (ltR (rkL ord)) l) ks = U at HM HG hxl
  generalize popsL (treeL (ltR (rkL ord)) l) ks = V at HM HG hyl
  have hU : U.length ≤ 2147483647 := by omega
  have hV : V.length ≤ 2147483647 := by omega
  obtain ⟨sa, sc, rfl⟩ : ∃ a c, sv = .slice a ord.length c := hs.form
  obtain ⟨a, kcap, rfl⟩ := hk.form
  clear hs hl hk e1 e2 hxl hyl hlen2
  go_enter Try.func31, Try.ntmps31
  go_wp2_with fail
  refine (HM.out _ ((Chg.refl _ _).alloc _)).mono ?_
  rintro e w1 ⟨v1, u1, rfl, s1, t1, hc1⟩
  have hb0 : w1.heap[w.heap.size]? = some (.cells #[.slice sa ord.length sc, .int .i64 d, .bool nl] 24 (0, 0)) := by rw [hc1.block (by simp) (fun _ h => h)]; exact ha_at _ _ rfl
  have m0 := cell_of_block hb0 0
  have m1 := cell_of_block hb0 1
  have m2 := cell_of_block hb0 2
  simp only [List.getElem?_toArray, List.getElem?_cons_zero, List.getElem?_cons_succ] at m0 m1 m2
  have hc01 := ((Chg.refl (fun _ _ => False) w).alloc (.cells #[.slice sa ord.length sc, .int .i64 d, .bool nl] 24)).trans hc1
  have HS1 := Lib.hid s1
  have HT1 := Lib.hid t1
  clear hb0 s1 t1
  go_wp2_with fail
  refine (HG.out _ hc01).mono ?_
  rintro e w2 ⟨v2, u2, rfl, s2, t2, hc2⟩
  have HS2 := Lib.hid s2
  have HT2 := Lib.hid t2
  clear s2 t2 m0 m1 m2
  go_wp2_with fail
  refine (equal_found _ _ _ _ (HS1.out.chg hc2) HS2.out (by omega)).mono ?_
  rintro e w3 ⟨rfl, hc3⟩
  go_wp2_with fail
  refine (equal_item _ _ _ _ (HT1.out.chg (hc2.trans hc3)) (HT2.out.chg hc3) (by omega)).mono ?_
  rintro e w4 ⟨rfl, hc4⟩
  go_wp2_with fail
  go_ret
  exact ⟨rfl, ((hc01.trans hc2).trans hc3).trans hc4⟩

theorem exBools (w : World) (b : Nat) (c : Array Value) (xs : List Bool) (hx : c.toList = xs.map (.bool ·)) (hb : w.heap[b]? = some (.cells c 4 (0, 0))) : SlE boolE w (.slice (some ⟨b, 0, none⟩) xs.length xs.length) xs := by
  refine ⟨_, _, rfl, Nat.le_refl _, .inr ⟨b, 0, rfl, fun j u hj => ?_⟩⟩
  rw [cell_of_block hb]
  have e : ∀ ys : List Bool, flat boolE.par ys = ys.map (.bool ·) := by
    intro ys
    induction ys with
    | nil => rfl
    | cons y ys ih => show [Value.bool y] ++ flat boolE.par ys = _; rw [ih]; rfl
  rw [e, ← hx] at hj
  simpa using hj

section
open Go.ChangeShapes Go.WideShapes Go.ChangeAt
variable {H : Type} {enc : TypeId × Value → H} {P : Program}

theorem open_boolsl {r : Reach} {b0 : Nat} {t e : TypeId} {v : Value} {d : DataW H} {ps : List MemPlace} {w : World} (ht : P.underlying t = some (.slice e)) (he : P.underlying e = some .bool) (ce : P.cellsOf e = 1)
    (hv : Value.okWide P w r b0 t v) (h : DataW.Trod enc P w 0 (fun _ => true) true t v d ps) : ∃ l, SlE boolE w v l := by
  obtain ⟨a, len, cap, rfl⟩ := okWide_slice ht hv
  obtain ⟨fuel, hf⟩ := h
  rcases Go.Deep.open_bools ht he ce hf with ⟨hc, _⟩ | ⟨a', len', cap', B, hcs, _, hlc, _, _, hi⟩
  · simp only [Value.cells, List.cons.injEq, Value.slice.injEq, and_true] at hc
    obtain ⟨rfl, rfl, rfl⟩ := hc
    exact ⟨[], none, 0, rfl, Nat.le_refl _, .inl rfl⟩
  · simp only [Value.cells, List.cons.injEq, Value.slice.injEq, and_true] at hcs
    obtain ⟨rfl, rfl, rfl⟩ := hcs
    have hsp : a'.spot = none := by
      simp only [Value.okWide, ht, Cell.okWide, Cell.ok] at hv
      exact hv.2.2.2.1
    have haddr : a' = ⟨a'.block, a'.off, none⟩ := by
      obtain ⟨b1, o1, s1⟩ := a'
      obtain rfl : s1 = none := hsp
      rfl
    have hl : ((List.range len).map B).length = len := by simp
    refine ⟨(List.range len).map B, some a', cap, by rw [hl], by rw [hl]; exact hlc, .inr ⟨a'.block, a'.off, congrArg some haddr, fun j u hj => ?_⟩⟩
    have hfl : ∀ ys : List Bool, flat boolE.par ys = ys.map fun n => Value.bool n := by
      intro ys
      induction ys with
      | nil => rfl
      | cons x xs ih => rw [flat_cons, ih]; rfl
    rw [hfl, List.getElem?_map] at hj
    cases hx : ((List.range len).map B)[j]? with
    | none => rw [hx] at hj; cases hj
    | some x =>
      rw [hx] at hj
      obtain rfl : Value.bool x = u := Option.some.inj hj
      have hjl := (List.getElem?_eq_some_iff.1 hx).1
      rw [hl] at hjl
      have h2 := hi j (by omega)
      rw [haddr, add_none] at h2
      rw [List.getElem?_map, List.getElem?_range hjl] at hx
      obtain rfl : B j = x := Option.some.inj hx
      exact h2
end

set_option maxRecDepth 100000 in
theorem law_ExactBPops (sv : Value) (os : List Int) (d : Int) (nl : Bool) (p : Option Addr) (cap : Nat) (l : List (It ord)) (kv : Value) (ks : List Bool) (w : World) (hs : SlE intE w sv os) (hl : ItemsAt w p l) (hk : SlE boolE w kv ks) :
    Calls Try.prog 12 #[.agg #[sv, .int .i64 d, .bool nl], .slice p l.length cap, kv] w fun e w' => e = .returned (.bool true) ∧ Chg (fun _ _ => False) w w' := by
  obtain ⟨sa, sc, rfl⟩ : ∃ a c, sv = .slice a os.length c := hs.form
  obtain ⟨ka, kcap, rfl⟩ := hk.form
  have hz := fun w1 => zzFits1_any sa os.length sc d nl w1
  by_cases hol : os.length ≤ 2147483647
  rotate_left
  · rw [decide_eq_false hol] at hz
    go_enter Try.func12, Try.ntmps12
    go_wp2_with fail
    refine name_calls (fun w1 => Chg (fun _ _ => False) w w1) (((Chg.refl _ _).alloc _)) ?_
    intro w1 hc1
    refine (hz w1).mono ?_
    rintro e w2 ⟨rfl, hc2⟩
    go_wp2_with fail
    go_ret
    exact ⟨rfl, hc1.trans hc2⟩
  rw [decide_eq_true hol] at hz
  by_cases hlen : l.length ≤ 2147483647
  rotate_left
  · have hlen' : 2147483647 < l.length := by omega
    go_enter Try.func12, Try.ntmps12
    go_wp2_with fail
    refine name_calls (fun w1 => Chg (fun _ _ => False) w w1) (((Chg.refl _ _).alloc _)) ?_
    intro w1 hc1
    refine (hz w1).mono ?_
    rintro e w2 ⟨rfl, hc2⟩
    go_wp2_with fail
    go_ret
    exact ⟨rfl, hc1.trans hc2⟩
  by_cases hkl : ks.length ≤ 2147483647
  rotate_left
  · have hn : ¬ 2147483647 < l.length := by omega
    have hlen' : 2147483647 < ks.length := by omega
    go_enter Try.func12, Try.ntmps12
    go_wp2_with fail
    refine name_calls (fun w1 => Chg (fun _ _ => False) w w1) (((Chg.refl _ _).alloc _)) ?_
    intro w1 hc1
    refine (hz w1).mono ?_
    rintro e w2 ⟨rfl, hc2⟩
    go_wp2_with fail
    go_ret
    exact ⟨rfl, hc1.trans hc2⟩
  have hn : ¬ 2147483647 < l.length := by omega
  have hnk : ¬ 2147483647 < ks.length := by omega
  have HEX := Lib.hid (fun q b w1 (hq : ItemsAt w1 q exL) (hb : w1.heap[b]? = some (.cells #[.bool true, .bool false] 4 (0, 0))) => bPops_any (ord := []) (.slice none 0 0) 2 false q 7 exL (.slice (some ⟨b, 0, none⟩) 2 2) [true, false] w1 ⟨none, 0, rfl, Nat.le_refl _, .inl rfl⟩ (by simp) (.inr ⟨by omega, by omega⟩) hq (by decide) (exBools w1 b _ [true, false] rfl hb) (by decide))
  have HG := Lib.hid (fun hd w1 (c : Chg (fun _ _ => False) w w1) => bPops_any (ord := os) (.slice sa os.length sc) d nl p cap l (.slice ka ks.length kcap) ks w1 (hs.chg c) hol hd (hl.chg c) hlen (hk.chg c) hkl)
  clear hs hl hk
  have q1 : exL.length = 7 := rfl
  go_enter Try.func12, Try.ntmps12
  go_wp2_with fail
  refine name_calls (fun w1 => Chg (fun _ _ => False) w w1 ∧ w1.heap[w.heap.size]? = some (.cells #[.slice sa os.length sc, .int .i64 d, .bool nl] 24 (0, 0))) ⟨((Chg.refl _ _).alloc _), ha_at _ _ rfl⟩ ?_
  rintro w1 ⟨hc1, hb0⟩
  have m0 := cell_of_block hb0 0
  have m1 := cell_of_block hb0 1
  have m2 := cell_of_block hb0 2
  simp only [List.getElem?_toArray, List.getElem?_cons_zero, List.getElem?_cons_succ] at m0 m1 m2
  clear hb0
  refine (hz w1).mono ?_
  rintro e w2 ⟨rfl, hc2⟩
  replace m0 := hc2.cell (fun h => h) m0
  replace m1 := hc2.cell (fun h => h) m1
  replace m2 := hc2.cell (fun h => h) m2
  go_wp2_with fail
  refine (exMake_any _).mono ?_
  rintro e w3 ⟨rfl, hc3⟩
  replace m0 := hc3.cell (fun h => h) m0
  replace m1 := hc3.cell (fun h => h) m1
  replace m2 := hc3.cell (fun h => h) m2
  go_wp2_with fail
  refine (exItems_any _).mono ?_
  rintro e w4 ⟨q, rfl, hq, hc4⟩
  replace m0 := hc4.cell (fun h => h) m0
  replace m1 := hc4.cell (fun h => h) m1
  replace m2 := hc4.cell (fun h => h) m2
  go_wp2_with fail
  refine name_calls (fun w5 => Chg (fun _ _ => False) w4 w5 ∧ w5.heap[w4.heap.size]? = some (.cells #[.bool true, .bool false] 4 (0, 0))) ⟨(Chg.refl _ _).alloc _, ha_at _ _ rfl⟩ ?_
  rintro w5 ⟨hc5, hb5⟩
  replace m0 := hc5.cell (fun h => h) m0
  replace m1 := hc5.cell (fun h => h) m1
  replace m2 := hc5.cell (fun h => h) m2
  refine (HEX.out q _ _ (hq.chg hc5) hb5).mono ?_
  rintro e w6 ⟨rfl, hc6⟩
  replace m0 := hc6.cell (fun h => h) m0
  replace m1 := hc6.cell (fun h => h) m1
  replace m2 := hc6.cell (fun h => h) m2
  have hc04 := ((((hc1.trans hc2).trans hc3).trans hc4).trans hc5).trans hc6
  by_cases hd : FitD d
  · go_wp2_with fail
    refine (fits_fit d _ hd).mono ?_
    rintro e w' ⟨rfl, rfl⟩
    go_wp2_with fail
    refine (HG.out hd _ hc04).mono ?_
    rintro e w5 ⟨rfl, hc5⟩
    go_wp2_with fail
    go_ret
    exact ⟨rfl, hc04.trans hc5⟩
  · go_wp2_with fail
    refine (fits_not d _ hd).mono ?_
    rintro e w' ⟨rfl, rfl⟩
    go_wp2_with fail
    go_ret
    exact ⟨rfl, hc04⟩
end Go.Proofs.Ytcabnhpnkaielaa
