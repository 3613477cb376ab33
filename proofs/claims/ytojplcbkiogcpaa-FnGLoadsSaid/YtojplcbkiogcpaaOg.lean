/- A tree's making and items among a law's arguments, opened. -/
import Derived.Test.YtojplcbkiogcpaaLif2
import Derived.Lib.SmallJoins
namespace Go.Proofs.Ytojplcbkiogcpaa
set_option linter.unusedSimpArgs false
set_option linter.unusedVariables false
open Go.ChangeShapes Go.WideShapes Go.ChangeAt Go.RowKit

section
variable {H : Type} {enc : TypeId × Value → H} {P : Program}

theorem okWide_cell {r : Reach} {b0 : Nat} {w : World} {t u : TypeId} {fs : Array Field} {ts : List TypeId} {cs : Array Value} {i : Nat} {v : Value} (ht : P.underlying t = some (.struct fs)) (hts : P.cellTypes P.depth t = some ts)
    (hv : Value.okWide P w r b0 t (.agg cs)) (hi : cs[i]? = some v) (hu : ts[i]? = some u) : Cell.okWide P w r b0 u v := by
  simp only [Value.okWide, ht] at hv
  obtain ⟨cs', e, _, ts', h1, _, h2⟩ := hv
  obtain rfl : cs = cs' := by simpa using e
  rw [hts] at h1
  obtain rfl := Option.some.inj h1
  obtain ⟨u', h3, h4⟩ := h2 i v hi
  have hlt := (List.getElem?_eq_some_iff.1 hu).1
  rw [Nat.mod_eq_of_lt hlt, hu] at h3
  obtain rfl := Option.some.inj h3
  exact h4

theorem open_numsC {r : Reach} {b0 n : Nat} {t e : TypeId} {v : Value} {y : DataW H × List MemPlace} {w : World} (ht : P.underlying t = some (.slice e)) (he : P.underlying e = some (.int .i64)) (ce : P.cellsOf e = 1)
    (hv : Cell.okWide P w r b0 t v) (hf : DataW.trod enc P w 0 (fun _ => true) true n t [v] = some y) : ∃ l, SlE intE w v l := by
  have hv2 : Value.okWide P w r b0 t v := by simp only [Value.okWide, ht]; exact hv
  have hcl : v.cells = #[v] := by
    obtain ⟨a, len, cap, rfl⟩ := okWide_slice ht hv2
    rfl
  exact open_nums ht he ce hv2 (d := y.1) (ps := y.2) ⟨n, by rw [hcl]; exact hf⟩

set_option maxRecDepth 100000 in
theorem open_make {r : Reach} {b0 : Nat} {v : Value} {d : DataW H} {ps : List MemPlace} {w : World} (hv : Value.okWide Try.prog w r b0 24 v) (h : DataW.Trod enc Try.prog w 0 (fun _ => true) true 24 v d ps) :
    ∃ sv os dg nl, v = .agg #[sv, .int .i64 dg, .bool nl] ∧ SlE intE w sv os := by
  obtain ⟨v0, v1, v2, y0, y1, y2, n, rfl, _, _, h0, h1, h2⟩ := Go.Joins.open_agg3 Try.underlying24 (by kernel_rfl) (by kernel_rfl) hv h
  have c0 := okWide_cell (i := 0) (u := 22) Try.underlying24 (ts := [22, 3, 4]) (by kernel_rfl) hv rfl rfl
  obtain ⟨os, hs⟩ := open_numsC Try.underlying22 Try.underlying3 (by kernel_rfl) c0 h0
  obtain ⟨m, e1, _⟩ := DataW.trod_int Try.underlying3 h1
  obtain ⟨bb, e2, _⟩ := DataW.trod_bool Try.underlying4 h2
  have e1' : v1 = .int .i64 m := by simpa using e1
  have e2' : v2 = .bool bb := by simpa using e2
  subst e1' e2'
  exact ⟨v0, os, m, bb, rfl, hs⟩

set_option maxRecDepth 100000 in
theorem open_item {r : Reach} {b0 : Nat} {v : Value} {d : DataW H} {ps : List MemPlace} {w : World} (hv : Value.okWide Try.prog w r b0 26 v) (h : DataW.Trod enc Try.prog w 0 (fun _ => true) true 26 v d ps) :
    ∃ x : Int × Int, v = .agg #[.int .i64 x.1, .int .i64 x.2] := by
  obtain ⟨v0, v1, y0, y1, n, rfl, _, _, h0, h1⟩ := Go.Joins.open_agg2 Try.underlying26 (by kernel_rfl) (by kernel_rfl) hv h
  obtain ⟨m, e1, _⟩ := DataW.trod_int Try.underlying3 h0
  obtain ⟨m2, e2, _⟩ := DataW.trod_int Try.underlying3 h1
  have e1' : v0 = .int .i64 m := by simpa using e1
  have e2' : v1 = .int .i64 m2 := by simpa using e2
  subst e1' e2'
  exact ⟨(m, m2), rfl⟩
end
end Go.Proofs.Ytojplcbkiogcpaa
