/- The law FnExactSPops. -/
import Derived.BigQuiet
import Derived.Deep.Grids
import Derived.ChangeSlices
import Derived.Test.YtjggkpmlffhjgaaA9
import Derived.Test.YtjggkpmlffhjgaaQf
namespace Go.Proofs.Ytjggkpmlffhjgaa
set_option linter.unusedSimpArgs false
set_option linter.unusedVariables false
open Go.RowKit

set_option maxRecDepth 100000 in
set_option maxHeartbeats 1000000 in
theorem sPops_any (v : Value) (l : List Int) (kv : Value) (ks : List Bool) (w : World) (hs : SlE intE w v l) (hk : SlE boolE w kv ks) (hlen : l.length ≤ 2147483647) (hkl : ks.length ≤ 2147483647) :
    Calls Try.prog 43 #[v, kv] w fun e w' => e = .returned (.bool true) ∧ Chg (fun _ _ => False) w w' := by
  have hM := SPops_any v l kv ks w hs hlen hk hkl
  have e1 : ∀ L : List (Int × Int), growL L = treeL (ltR id) L := fun _ => rfl
  rw [e1] at hM
  have hlen2 := treeK_len l
  have HM := Lib.hid hM
  have HI := Lib.hid (fun w1 (c : Chg (fun _ _ => False) w w1) => specItems_any v l w1 (hs.chg c) (by omega))
  unfold OwnPost at HI
  have HT := Lib.hid (fun p2 cap2 w1 (h : ItemsAt w1 p2 (l.map itK)) (c : Chg (fun _ _ => False) w w1) => specGPops_any p2 cap2 (l.map itK) kv ks w1 h (by simpa using hlen) (hk.chg c) hkl)
  unfold makeV at HT
  have hxl := popsF_len (treeL (ltR id) (l.map itK)) ks
  have hyl := popsL_len ks (treeL (ltR id) (l.map itK))
  generalize popsF (treeL (ltR id) (l.map itK)) ks = U at HM HT hxl
  generalize popsL (treeL (ltR id) (l.map itK)) ks = V at HM HT hyl
  have hU : U.length ≤ 2147483647 := by omega
  have hV : V.length ≤ 2147483647 := by omega
  have hkU : (keysF U).length ≤ 2147483647 := by unfold keysF; simpa using hU
  have hkV : (V.map Prod.fst).length ≤ 2147483647 := by simpa using hV
  have HKU := Lib.hid (show keysF U = U.map fun o => o.map Prod.fst from rfl)
  generalize keysF U = B at HM HKU hkU
  obtain ⟨a, cap, rfl⟩ := hs.form
  obtain ⟨a3, cap3, rfl⟩ := hk.form
  clear hM e1 hs hk hxl hyl hlen2
  go_enter Try.func43, Try.ntmps43
  go_wp2_with fail
  refine HM.out.mono ?_
  rintro e w1 ⟨v1, u1, rfl, s1, t1, hc1⟩
  have HS1 := Lib.hid s1
  have HT1 := Lib.hid t1
  clear s1 t1 HM
  go_wp2_with fail
  refine (HI.out _ hc1).mono ?_
  rintro e w2 ⟨v2, rfl, how2, hc2⟩
  obtain ⟨p2, cap2, rfl, hi2, hcap2⟩ := how2.sl.itemsAt
  have ht := HT.out p2 cap2 w2 hi2 (hc1.trans hc2)
  rw [List.length_map] at ht
  replace HT := Lib.hid ht
  clear ht how2 hi2 HI
  go_wp2_with fail
  refine HT.out.mono ?_
  rintro e w3 ⟨v3, u3, rfl, s3, t3, hc3⟩
  have HK := Lib.hid (keysOf_any v3 U w3 s3 (by omega))
  unfold OwnPost at HK
  have HT3 := Lib.hid t3
  clear s3 t3 HT
  go_wp2_with fail
  refine HK.out.mono ?_
  rintro e w4 ⟨v4, rfl, how4, hc4⟩
  have h4 := how4.sl
  rw [← HKU.out] at h4
  have HOW4 := Lib.hid h4
  have HSK := Lib.hid (specKeys_any u3 V w4 (HT3.out.chg hc4) (by omega))
  unfold OwnPost at HSK
  clear how4 HK h4
  go_wp2_with fail
  refine HSK.out.mono ?_
  rintro e w5 ⟨v5, rfl, how5, hc5⟩
  have HOW5 := Lib.hid how5.sl
  clear how5 HSK
  go_wp2_with fail
  refine (equal_key _ _ B _ (HS1.out.chg (((hc2.trans hc3).trans hc4).trans hc5)) (HOW4.out.chg hc5) (by omega)).mono ?_
  rintro e w6 ⟨rfl, hc6⟩
  go_wp2_with fail
  refine (equal_int _ _ _ _ (HT1.out.chg ((((hc2.trans hc3).trans hc4).trans hc5).trans hc6)) (HOW5.out.chg hc6) (by omega)).mono ?_
  rintro e w7 ⟨rfl, hc7⟩
  go_wp2_with fail
  go_ret
  exact ⟨rfl, (((((hc1.trans hc2).trans hc3).trans hc4).trans hc5).trans hc6).trans hc7⟩

theorem exBools (w : World) (b : Nat) (c : Array Value) (xs : List Bool) (hx : c.toList = xs.map (.bool ·)) (hb : w.heap[b]? = some (.cells c 4 (0, 0))) : SlE boolE w (.slice (some ⟨b, 0, none⟩) xs.length xs.length) xs := by
  refine ⟨_, _, rfl, Nat.le_refl _, .inr ⟨b, 0, rfl, fun j u hj => ?_⟩⟩
  rw [cell_of_block hb]
  have e : ∀ ys : List Bool, flat boolE.par ys = ys.map (.bool ·) := by
    intro ys
    induction ys with
    | nil => rfl
    | cons y ys ih => show [Value.bool y] ++ flat boolE.par ys = _; rw [ih]; rfl
  rw [e, ← hx] at hj
  simpa using hj

section
open Go.ChangeShapes Go.WideShapes Go.ChangeAt
variable {H : Type} {enc : TypeId × Value → H} {P : Program}

theorem open_boolsl {r : Reach} {b0 : Nat} {t e : TypeId} {v : Value} {d : DataW H} {ps : List MemPlace} {w : World} (ht : P.underlying t = some (.slice e)) (he : P.underlying e = some .bool) (ce : P.cellsOf e = 1)
    (hv : Value.okWide P w r b0 t v) (h : DataW.Trod enc P w 0 (fun _ => true) true t v d ps) : ∃ l, SlE boolE w v l := by
  obtain ⟨a, len, cap, rfl⟩ := okWide_slice ht hv
  obtain ⟨fuel, hf⟩ := h
  rcases Go.Deep.open_bools ht he ce hf with ⟨hc, _⟩ | ⟨a', len', cap', B, hcs, _, hlc, _, _, hi⟩
  · simp only [Value.cells, List.cons.injEq, Value.slice.injEq, and_true] at hc
    obtain ⟨rfl, rfl, rfl⟩ := hc
    exact ⟨[], none, 0, rfl, Nat.le_refl _, .inl rfl⟩
  · simp only [Value.cells, List.cons.injEq, Value.slice.injEq, and_true] at hcs
    obtain ⟨rfl, rfl, rfl⟩ := hcs
    have hsp : a'.spot = none := by
      simp only [Value.okWide, ht, Cell.okWide, Cell.ok] at hv
      exact hv.2.2.2.1
    have haddr : a' = ⟨a'.block, a'.off, none⟩ := by
      obtain ⟨b1, o1, s1⟩ := a'
      obtain rfl : s1 = none := hsp
      rfl
    have hl : ((List.range len).map B).length = len := by simp
    refine ⟨(List.range len).map B, some a', cap, by rw [hl], by rw [hl]; exact hlc, .inr ⟨a'.block, a'.off, congrArg some haddr, fun j u hj => ?_⟩⟩
    have hfl : ∀ ys : List Bool, flat boolE.par ys = ys.map fun n => Value.bool n := by
      intro ys
      induction ys with
      | nil => rfl
      | cons x xs ih => rw [flat_cons, ih]; rfl
    rw [hfl, List.getElem?_map] at hj
    cases hx : ((List.range len).map B)[j]? with
    | none => rw [hx] at hj; cases hj
    | some x =>
      rw [hx] at hj
      obtain rfl : Value.bool x = u := Option.some.inj hj
      have hjl := (List.getElem?_eq_some_iff.1 hx).1
      rw [hl] at hjl
      have h2 := hi j (by omega)
      rw [haddr, add_none] at h2
      rw [List.getElem?_map, List.getElem?_range hjl] at hx
      obtain rfl : B j = x := Option.some.inj hx
      exact h2
end

set_option maxRecDepth 100000 in
theorem law_ExactSPops (v : Value) (l : List Int) (kv : Value) (ks : List Bool) (w : World) (hs : SlE intE w v l) (hk : SlE boolE w kv ks) :
    Calls Try.prog 11 #[v, kv] w fun e w' => e = .returned (.bool true) ∧ Chg (fun _ _ => False) w w' := by
  have HS := Lib.hid hs
  have HK := Lib.hid hk
  obtain ⟨a, cap, rfl⟩ := hs.form
  obtain ⟨a3, cap3, rfl⟩ := hk.form
  clear hs hk
  by_cases hlen : l.length ≤ 2147483647
  rotate_left
  · have hlen' : 2147483647 < l.length := by omega
    go_enter Try.func11, Try.ntmps11
    go_wp2_with fail
    go_ret
    exact ⟨rfl, Chg.refl _ _⟩
  have hn : ¬ 2147483647 < l.length := by omega
  by_cases hkl : ks.length ≤ 2147483647
  rotate_left
  · have hkl' : 2147483647 < ks.length := by omega
    go_enter Try.func11, Try.ntmps11
    go_wp2_with fail
    go_ret
    exact ⟨rfl, Chg.refl _ _⟩
  have hkn : ¬ 2147483647 < ks.length := by omega
  have HEX := Lib.hid (fun w1 (hb : w1.heap[w.heap.size]? = some (.cells #[.int .i64 5, .int .i64 3, .int .i64 9, .int .i64 3, .int .i64 1] 3 (0, 0))) (hb2 : w1.heap[w.heap.size + 1]? = some (.cells #[.bool true, .bool false] 4 (0, 0))) => sPops_any _ [5, 3, 9, 3, 1] (.slice (some ⟨w.heap.size + 1, 0, none⟩) 2 2) [true, false] w1 (exInts w1 w.heap.size _ [5, 3, 9, 3, 1] rfl hb) (exBools w1 _ _ [true, false] rfl hb2) (by simp) (by simp))
  have HG := Lib.hid (fun w1 (c : Chg (fun _ _ => False) w w1) => sPops_any (.slice a l.length cap) l (.slice a3 ks.length cap3) ks w1 (HS.out.chg c) (HK.out.chg c) hlen hkl)
  have e5 : [(5 : Int), 3, 9, 3, 1].length = 5 := rfl
  rw [e5] at HEX
  go_enter Try.func11, Try.ntmps11
  go_wp2_with fail
  refine name_calls (fun w1 => Chg (fun _ _ => False) w w1 ∧ w1.heap[w.heap.size]? = some (.cells #[.int .i64 5, .int .i64 3, .int .i64 9, .int .i64 3, .int .i64 1] 3 (0, 0)) ∧ w1.heap[w.heap.size + 1]? = some (.cells #[.bool true, .bool false] 4 (0, 0))) ⟨((Chg.refl _ _).alloc _).alloc _, by rw [Below.heap_alloc _ _ _ (by simp)]; exact ha_at _ _ rfl, ha_at _ _ (by simp)⟩ ?_
  rintro w1 ⟨hc1, hb1, hb2⟩
  refine (HEX.out w1 hb1 hb2).mono ?_
  rintro e w3 ⟨rfl, hc3⟩
  go_wp2_with fail
  refine (HG.out _ (hc1.trans hc3)).mono ?_
  rintro e w4 ⟨rfl, hc4⟩
  go_wp2_with fail
  go_ret
  exact ⟨rfl, (hc1.trans hc3).trans hc4⟩
end Go.Proofs.Ytjggkpmlffhjgaa
