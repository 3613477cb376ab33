/- A tree's making and items among a law's arguments, opened. -/
import Derived.ProofKit
import Derived.OpenShut
import Derived.Carry
import Derived.ChangeSame
import Derived.Deep.SlicePairs
import Derived.ChangeSlices
import Derived.Lib.SmallJoins
import Derived.Test.YtcabnhpnkaielaaA4
namespace Go.Proofs.Ytcabnhpnkaielaa
set_option linter.unusedSimpArgs false
set_option linter.unusedVariables false
open Go.ChangeShapes Go.WideShapes Go.ChangeAt Go.RowKit

section
variable {H : Type} {enc : TypeId × Value → H} {P : Program}

theorem trodAll_carry (hl : laidOutB P = true) {W W' : World} (hb : Below W.heap.size W W') : ∀ {ts : List TypeId} {vs : List Value} {ds : List (DataW H)} {ps : List MemPlace},
    (ts.all fun t => P.readableRec t && decide (t < P.types.size)) = true → DataW.TrodAll enc P W 0 (fun _ => true) true ts vs ds ps → (∀ x ∈ ps, x.block < W.heap.size) → ∀ sp : Nat → Bool, (∀ p ∈ ps, sp p.block = true) → DataW.TrodAll enc P W' 0 sp true ts vs ds ps
  | [], _, _, _, _, h, _, _, _ => by
    obtain ⟨rfl, rfl, rfl⟩ := trodAll_nil h
    exact trodAll_mk0
  | t :: ts, _, _, _, ht, h, hlt, sp, hsp => by
    obtain ⟨v, vs1, d, ds1, a, b, rfl, rfl, rfl, h1, h2⟩ := trodAll_cons h
    simp only [List.all_cons, Bool.and_eq_true, decide_eq_true_eq] at ht
    obtain ⟨⟨g1, g2⟩, g3⟩ := ht
    refine ⟨a, b, WideElems.Trod_stays hl g1 g2 h1 (fun x hx => hb.same (hlt x (List.mem_append.2 (.inl hx)))) (fun x hx => hsp x (List.mem_append.2 (.inl hx))), trodAll_carry hl hb g3 h2 (fun x hx => hlt x (List.mem_append.2 (.inr hx))) sp (fun x hx => hsp x (List.mem_append.2 (.inr hx))), rfl⟩

/-- A law's end: it returned true, and below the heap's old size nothing has turned. -/
theorem law_post {f : Func} {s : ChangeSpec} {apart fresh handsOn again : Bool} {W W' : World} {args : Array Value} {ds gs : List (DataW H)} {before : List MemPlace} {tb : TypeId} (hl : laidOutB P = true)
    (hts : (f.params.toList.all fun t => P.readableRec t && decide (t < P.types.size)) = true) (hr : f.resultTypes = #[tb]) (hb4 : P.underlying tb = some .bool)
    (hW : DataW.Whole enc P f.params.toList s.vars apart W args.toList ds gs before) (hv : s.vars = []) (hfn : s.fn H ds = { results := [.lit (.bool true)], args := ds }) (hb : Below W.heap.size W W') :
    s.post enc P f apart fresh handsOn again W args (.bool true) W' := by
  have hW0 := hW
  obtain ⟨p, q, hA, hV, rfl, hz, hn⟩ := hW0
  rw [hv] at hV
  obtain ⟨rfl, rfl⟩ := trodVars_none hV
  have hfn' : s.fn H (ds ++ []) = { results := [.lit (.bool true)], args := ds } := by rw [List.append_nil]; exact hfn
  have hvn : (s.fn H (ds ++ [])).vars = [] := by rw [hfn']
  have hlt : ∀ x ∈ p, x.block < W.heap.size := fun x hx => hW.lt x (by simpa using hx)
  have hres : ∀ (b : Nat) (sp : Nat → Bool) (hd : Bool), DataW.TrodAll enc P W' b sp hd f.resultTypes.toList ((Value.bool true).resultList f.resultTypes.size) (s.fn H (ds ++ [])).results [] := by
    intro b sp hd
    rw [hfn', hr]
    exact trodAll_mk1 (shut_bool hb4 _)
  have hargs : ∀ sp : Nat → Bool, (∀ x ∈ p, sp x.block = true) → DataW.TrodAll enc P W' 0 sp true f.params.toList args.toList (s.fn H (ds ++ [])).args p := by
    intro sp hsp
    rw [hfn']
    exact trodAll_carry hl hb hts hA hlt sp hsp
  have hvars : ∀ sp : Nat → Bool, DataW.TrodVars enc P W' sp s.vars (s.fn H (ds ++ [])).vars [] := by
    intro sp
    rw [hvn, hv]
    exact rfl
  have hold : ∀ x ∈ p, (fun b => decide (b < W.heap.size)) x.block = true := fun x hx => by simpa using hlt x hx
  refine ⟨ds, [], p ++ [], [], p, [], hW, hres _ _ _, hargs _ hold, hvars _, World.keptBut_mono (fun x hx => ⟨hx, ?_⟩) (hb.frame (· ∈ p ++ [])), fun _ => ?_⟩
  · simpa using hx
  · refine ⟨ok_one hr rfl (okWide_bool_mk hb4 _), _, _, ([] ++ p) ++ [], ⟨[] ++ p, [], trodAll_append (hargs _ (fun _ _ => rfl)) (hres _ _ _), hvars _, rfl, ?_, ?_⟩, ?_⟩
    · intro b off hp
      have hin : MemPlace.cell b off ∈ p := by simpa using hp
      rw [hb.frozen (hlt _ hin)]
      exact hz b off (by simpa using hin)
    · intro ha
      have := hn ha
      simpa using this
    · intro x hx _
      simpa using hx

/-- A slice of structs of two integers opened. -/
theorem open_items {r : Reach} {b0 : Nat} {t e t3 : TypeId} {f0 f1 : Field} {v : Value} {d : DataW H} {ps : List MemPlace} {w : World} (ht : P.underlying t = some (.slice e)) (he : P.underlying e = some (.struct #[f0, f1])) (ce : P.cellsOf e = 2) (o0 : f0.offset = 0) (o1 : f1.offset = 1)
    (g0 : f0.type = t3) (g1 : f1.type = t3) (c3 : P.cellsOf t3 = 1) (h3 : P.underlying t3 = some (.int .i64)) (hv : Value.okWide P w r b0 t v) (h : DataW.Trod enc P w 0 (fun _ => true) true t v d ps) :
    ∃ p l cap, v = .slice p l.length cap ∧ ItemsAt w p l ∧ l.length ≤ cap := by
  obtain ⟨a, len, cap, rfl⟩ := okWide_slice ht hv
  obtain ⟨fuel, hf⟩ := h
  rcases Deep.open_slice_pairs ht he ce o0 o1 (by rw [g0]; exact c3) (by rw [g1]; exact c3) hf with ⟨hc, _⟩ | ⟨a', len', cap', m, n, V0, V1, D0, D1, P0, P1, hcs, _, hlc, _, hm, _, hi⟩
  · simp only [Value.cells, List.cons.injEq, Value.slice.injEq, and_true] at hc
    obtain ⟨rfl, rfl, rfl⟩ := hc
    exact ⟨none, [], 0, rfl, .inl rfl, Nat.le_refl _⟩
  · simp only [Value.cells, List.cons.injEq, Value.slice.injEq, and_true] at hcs
    obtain ⟨rfl, rfl, rfl⟩ := hcs
    have hsp : a'.spot = none := by
      simp only [Value.okWide, ht, Cell.okWide, Cell.ok] at hv
      exact hv.2.2.2.1
    have haddr : a' = ⟨a'.block, a'.off, none⟩ := by
      obtain ⟨b1, o1, s1⟩ := a'
      obtain rfl : s1 = none := hsp
      rfl
    have hm' : m = cap := by simpa using hm
    subst hm'
    refine ⟨some a', (List.range len).map fun i => (intOf (V0 i), intOf (V1 i)), m, by simp, .inr ⟨a'.block, a'.off, ?_, fun i x hx => ?_⟩, by simpa using hlc⟩
    · exact congrArg some haddr
    · have hil : i < len := by
        have := (List.getElem?_eq_some_iff.1 hx).1
        simpa using this
      have hxe : x = (intOf (V0 i), intOf (V1 i)) := by
        rw [List.getElem?_map, List.getElem?_range hil] at hx
        simpa using hx.symm
      subst hxe
      obtain ⟨k0, k1, k2, k3⟩ := hi i (by omega)
      rw [g0] at k2
      rw [g1] at k3
      obtain ⟨n0, e0, _⟩ := DataW.trod_int h3 k2
      obtain ⟨n1, e1, _⟩ := DataW.trod_int h3 k3
      rw [haddr, add_none] at k0 k1
      have e0' : V0 i = .int .i64 n0 := by simpa using e0
      have e1' : V1 i = .int .i64 n1 := by simpa using e1
      rw [e0'] at k0
      rw [e1'] at k1
      rw [e0', e1']
      exact ⟨k0, by rw [Nat.add_assoc]; exact k1⟩
end
end Go.Proofs.Ytcabnhpnkaielaa

namespace Go.Proofs.Ytcabnhpnkaielaa
set_option linter.unusedSimpArgs false
set_option linter.unusedVariables false
open Go.ChangeShapes Go.WideShapes Go.ChangeAt Go.RowKit

section
variable {H : Type} {enc : TypeId × Value → H} {P : Program}

theorem open_nums {r : Reach} {b0 : Nat} {t e : TypeId} {v : Value} {d : DataW H} {ps : List MemPlace} {w : World} (ht : P.underlying t = some (.slice e)) (he : P.underlying e = some (.int .i64)) (ce : P.cellsOf e = 1)
    (hv : Value.okWide P w r b0 t v) (h : DataW.Trod enc P w 0 (fun _ => true) true t v d ps) : ∃ l, SlE intE w v l := by
  obtain ⟨a, len, cap, rfl⟩ := okWide_slice ht hv
  obtain ⟨fuel, hf⟩ := h
  rcases open_ints ht he ce hf with ⟨hc, _⟩ | ⟨a', len', cap', zs, hcs, _, hlc, _, hz, _, hi, _⟩
  · simp only [Value.cells, List.cons.injEq, Value.slice.injEq, and_true] at hc
    obtain ⟨rfl, rfl, rfl⟩ := hc
    exact ⟨[], none, 0, rfl, Nat.le_refl _, .inl rfl⟩
  · simp only [Value.cells, List.cons.injEq, Value.slice.injEq, and_true] at hcs
    obtain ⟨rfl, rfl, rfl⟩ := hcs
    have hsp : a'.spot = none := by
      simp only [Value.okWide, ht, Cell.okWide, Cell.ok] at hv
      exact hv.2.2.2.1
    have haddr : a' = ⟨a'.block, a'.off, none⟩ := by
      obtain ⟨b1, o1, s1⟩ := a'
      obtain rfl : s1 = none := hsp
      rfl
    have hz' : zs.length = cap := by simpa using hz
    have hl : (zs.take len).length = len := by simp; omega
    refine ⟨zs.take len, some a', cap, by rw [hl], by rw [hl]; exact hlc, .inr ⟨a'.block, a'.off, congrArg some haddr, fun j u hj => ?_⟩⟩
    have hfl : flat intE.par (zs.take len) = (zs.take len).map fun n => Value.int .i64 n := by
      induction zs.take len with
      | nil => rfl
      | cons x xs ih => rw [flat_cons, ih]; rfl
    rw [hfl, List.getElem?_map] at hj
    cases hx : (zs.take len)[j]? with
    | none => rw [hx] at hj; cases hj
    | some x =>
      rw [hx] at hj
      obtain rfl : Value.int .i64 x = u := Option.some.inj hj
      have hjl := (List.getElem?_eq_some_iff.1 hx).1
      rw [hl] at hjl
      have h2 := hi j (by omega)
      rw [haddr, add_none] at h2
      rw [List.getElem?_take_of_lt hjl] at hx
      simpa [List.getD, hx] using h2
end
end Go.Proofs.Ytcabnhpnkaielaa

namespace Go.Proofs.Ytcabnhpnkaielaa
set_option linter.unusedSimpArgs false
set_option linter.unusedVariables false
open Go.ChangeShapes Go.WideShapes Go.ChangeAt Go.RowKit

section
variable {H : Type} {enc : TypeId × Value → H} {P : Program}

theorem okWide_cell {r : Reach} {b0 : Nat} {w : World} {t u : TypeId} {fs : Array Field} {ts : List TypeId} {cs : Array Value} {i : Nat} {v : Value} (ht : P.underlying t = some (.struct fs)) (hts : P.cellTypes P.depth t = some ts)
    (hv : Value.okWide P w r b0 t (.agg cs)) (hi : cs[i]? = some v) (hu : ts[i]? = some u) : Cell.okWide P w r b0 u v := by
  simp only [Value.okWide, ht] at hv
  obtain ⟨cs', e, _, ts', h1, _, h2⟩ := hv
  obtain rfl : cs = cs' := by simpa using e
  rw [hts] at h1
  obtain rfl := Option.some.inj h1
  obtain ⟨u', h3, h4⟩ := h2 i v hi
  have hlt := (List.getElem?_eq_some_iff.1 hu).1
  rw [Nat.mod_eq_of_lt hlt, hu] at h3
  obtain rfl := Option.some.inj h3
  exact h4

theorem open_numsC {r : Reach} {b0 n : Nat} {t e : TypeId} {v : Value} {y : DataW H × List MemPlace} {w : World} (ht : P.underlying t = some (.slice e)) (he : P.underlying e = some (.int .i64)) (ce : P.cellsOf e = 1)
    (hv : Cell.okWide P w r b0 t v) (hf : DataW.trod enc P w 0 (fun _ => true) true n t [v] = some y) : ∃ l, SlE intE w v l := by
  have hv2 : Value.okWide P w r b0 t v := by simp only [Value.okWide, ht]; exact hv
  have hcl : v.cells = #[v] := by
    obtain ⟨a, len, cap, rfl⟩ := okWide_slice ht hv2
    rfl
  exact open_nums ht he ce hv2 (d := y.1) (ps := y.2) ⟨n, by rw [hcl]; exact hf⟩

set_option maxRecDepth 100000 in
theorem open_make {r : Reach} {b0 : Nat} {v : Value} {d : DataW H} {ps : List MemPlace} {w : World} (hv : Value.okWide Try.prog w r b0 24 v) (h : DataW.Trod enc Try.prog w 0 (fun _ => true) true 24 v d ps) :
    ∃ sv os dg nl, v = .agg #[sv, .int .i64 dg, .bool nl] ∧ SlE intE w sv os := by
  obtain ⟨v0, v1, v2, y0, y1, y2, n, rfl, _, _, h0, h1, h2⟩ := Go.Joins.open_agg3 Try.underlying24 (by kernel_rfl) (by kernel_rfl) hv h
  have c0 := okWide_cell (i := 0) (u := 22) Try.underlying24 (ts := [22, 3, 4]) (by kernel_rfl) hv rfl rfl
  obtain ⟨os, hs⟩ := open_numsC Try.underlying22 Try.underlying3 (by kernel_rfl) c0 h0
  obtain ⟨m, e1, _⟩ := DataW.trod_int Try.underlying3 h1
  obtain ⟨bb, e2, _⟩ := DataW.trod_bool Try.underlying4 h2
  have e1' : v1 = .int .i64 m := by simpa using e1
  have e2' : v2 = .bool bb := by simpa using e2
  subst e1' e2'
  exact ⟨v0, os, m, bb, rfl, hs⟩

set_option maxRecDepth 100000 in
theorem open_item {r : Reach} {b0 : Nat} {v : Value} {d : DataW H} {ps : List MemPlace} {w : World} (hv : Value.okWide Try.prog w r b0 26 v) (h : DataW.Trod enc Try.prog w 0 (fun _ => true) true 26 v d ps) :
    ∃ x : Int × Int, v = .agg #[.int .i64 x.1, .int .i64 x.2] := by
  obtain ⟨v0, v1, y0, y1, n, rfl, _, _, h0, h1⟩ := Go.Joins.open_agg2 Try.underlying26 (by kernel_rfl) (by kernel_rfl) hv h
  obtain ⟨m, e1, _⟩ := DataW.trod_int Try.underlying3 h0
  obtain ⟨m2, e2, _⟩ := DataW.trod_int Try.underlying3 h1
  have e1' : v0 = .int .i64 m := by simpa using e1
  have e2' : v1 = .int .i64 m2 := by simpa using e2
  subst e1' e2'
  exact ⟨(m, m2), rfl⟩
end
end Go.Proofs.Ytcabnhpnkaielaa
