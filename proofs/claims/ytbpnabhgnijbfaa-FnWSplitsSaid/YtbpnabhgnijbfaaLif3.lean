/- A slice of strings among a law's arguments, opened. -/
import Derived.SliceStrings
import Derived.Test.YtbpnabhgnijbfaaA9
namespace Go.Proofs.Ytbpnabhgnijbfaa
set_option linter.unusedSimpArgs false
set_option linter.unusedVariables false
open Go.ChangeShapes Go.WideShapes Go.ChangeAt Go.RowKit

section
variable {H : Type} {enc : TypeId × Value → H} {P : Program}

theorem open_strl {r : Reach} {b0 : Nat} {t e : TypeId} {v : Value} {d : DataW H} {ps : List MemPlace} {w : World} (ht : P.underlying t = some (.slice e)) (he : P.underlying e = some .string) (ce : P.cellsOf e = 1)
    (hv : Value.okWide P w r b0 t v) (h : DataW.Trod enc P w 0 (fun _ => true) true t v d ps) : ∃ l, SlE strE w v l := by
  obtain ⟨a, len, cap, rfl⟩ := okWide_slice ht hv
  obtain ⟨fuel, hf⟩ := h
  rcases Go.ChangeShapes.open_strings ht he ce hf with ⟨hc, _⟩ | ⟨a', len', cap', zs, hcs, _, hlc, _, hz, _, hi, _⟩
  · simp only [Value.cells, List.cons.injEq, Value.slice.injEq, and_true] at hc
    obtain ⟨rfl, rfl, rfl⟩ := hc
    exact ⟨[], none, 0, rfl, Nat.le_refl _, .inl rfl⟩
  · simp only [Value.cells, List.cons.injEq, Value.slice.injEq, and_true] at hcs
    obtain ⟨rfl, rfl, rfl⟩ := hcs
    have hsp : a'.spot = none := by
      simp only [Value.okWide, ht, Cell.okWide, Cell.ok] at hv
      exact hv.2.2.2.1
    have haddr : a' = ⟨a'.block, a'.off, none⟩ := by
      obtain ⟨b1, o1, s1⟩ := a'
      obtain rfl : s1 = none := hsp
      rfl
    have hz' : zs.length = cap := by simpa using hz
    have hl : (zs.take len).length = len := by simp; omega
    refine ⟨zs.take len, some a', cap, by rw [hl], by rw [hl]; exact hlc, .inr ⟨a'.block, a'.off, congrArg some haddr, fun j u hj => ?_⟩⟩
    have hfl : flat strE.par (zs.take len) = (zs.take len).map fun n => Value.string n := by
      induction zs.take len with
      | nil => rfl
      | cons x xs ih => rw [flat_cons, ih]; rfl
    rw [hfl, List.getElem?_map] at hj
    cases hx : (zs.take len)[j]? with
    | none => rw [hx] at hj; cases hj
    | some x =>
      rw [hx] at hj
      obtain rfl : Value.string x = u := Option.some.inj hj
      have hjl := (List.getElem?_eq_some_iff.1 hx).1
      rw [hl] at hjl
      have h2 := hi j (by omega)
      rw [haddr, add_none] at h2
      rw [List.getElem?_take_of_lt hjl] at hx
      simpa [List.getD, hx] using h2
end
end Go.Proofs.Ytbpnabhgnijbfaa
