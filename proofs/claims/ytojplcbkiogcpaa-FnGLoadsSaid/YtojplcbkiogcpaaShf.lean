/- A row moved up by one place: the builtin copy within one row. No program in sight. -/
import Derived.Test.YtojplcbkiogcpaaOps
namespace Go.Proofs.Ytojplcbkiogcpaa
set_option linter.unusedSimpArgs false
set_option linter.unusedVariables false
open Go.RowKit

theorem upList {β : Type} (ys : List β) (z : β) (i : Nat) (hi : i ≤ ys.length) (rest : List β) : (ys ++ [z]).take (i + 1) ++ ys.drop i ++ (ys ++ [z]).drop (i + 1 + (ys.drop i).length) = (ys ++ [z]).take (i + 1) ++ ys.drop i := by
  have h : (ys ++ [z]).drop (i + 1 + (ys.drop i).length) = [] := List.drop_eq_nil_of_le (by simp; omega)
  rw [h, List.append_nil]

theorem upList_set {β : Type} (ys : List β) (z x : β) (i : Nat) (hi : i ≤ ys.length) : ((ys ++ [z]).take (i + 1) ++ ys.drop i).set i x = ys.take i ++ x :: ys.drop i := by
  have h1 : ((ys ++ [z]).take (i + 1)).length = i + 1 := by simp; omega
  rw [List.set_append_left _ _ (by omega), List.set_eq_take_append_cons_drop, if_pos (by omega), List.drop_eq_nil_of_le (by omega), List.take_take, Nat.min_eq_left (by omega)]
  rw [List.take_append_of_le_length hi]
  simp

theorem upList_len {β : Type} (ys : List β) (z : β) (i : Nat) (hi : i ≤ ys.length) : ((ys ++ [z]).take (i + 1) ++ ys.drop i).length = ys.length + 1 := by
  simp; omega

variable {α : Type} {P : Program} {p : Par α} {w0 w : World} {n : Nat} {r0 r : NodeR α} {l0 l : Lay}

theorem wpList_shift {ops : Array Oper} {rest : List Oper} {o' : Oper} {a : Act} {Q : Exit → Act → World → Prop} (hgd : o'.guard = none) (d s : Operand) (dT sT : TypeId)
    (ho : o'.op = .call { callee := .builtin .copy, args := #[d, s], argTypes := #[dT, sT] }) (elem : TypeId) (hu : P.underlying dT = some (.slice elem)) (hsz : (P.info? elem).map (·.size) = some p.es)
    (h1 : Run p w0 n r0 l0 w r l) (ys : List α) (z : α) (hr : r.items = ys ++ [z]) (i od dl dc sl sc : Nat) (hi : i ≤ ys.length) (hod : i < ys.length → od = l.io + (i + 1) * p.es) (hod2 : od = l.io ∨ od = l.io + (i + 1) * p.es)
    (hd : a.eval d = .slice (some ⟨l.ib, od, none⟩) dl dc) (so : Nat) (hs : a.eval s = .slice (some ⟨l.ib, so, none⟩) sl sc) (hso : so = l.io + i * p.es) (hdl : dl = ys.length - i) (hsl : sl = ys.length + 1 - i)
    (h : ∀ w', Chg (fun b _ => b = l.ib) w w' → Run p w0 n r0 l0 w' { r with items := (ys ++ [z]).take (i + 1) ++ ys.drop i } l → wpList P ops Q rest (a.put o'.dst (goInt (Nat.min sl dl))) w') : wpList P ops Q (o' :: rest) a w := by
  obtain ⟨q0, c, q1, q2, q3⟩ := h1.at_.row
  have hlen := h1.at_.len
  have hl1 : r.items.length = ys.length + 1 := by rw [hr]; simp
  have m1 : (ys.length + 1) * p.es ≤ l.ic * p.es := Nat.mul_le_mul_right _ (by omega)
  have m2 : (i + 1) * p.es ≤ (ys.length + 1) * p.es := Nat.mul_le_mul_right _ (by omega)
  have m3 : (i + 1) * p.es + (ys.length - i) * p.es = (ys.length + 1) * p.es := by rw [← Nat.add_mul]; congr 1; omega
  have hcl : (flat p (ys.drop i)).length = (ys.length - i) * p.es := by rw [flat_len]; simp
  have hmin : Nat.min sl dl = ys.length - i := by rw [hsl, hdl]; exact Nat.min_eq_right (by omega)
  refine wpList_copy_row hgd d s dT sT ho elem p.es hu hsz l.ib od dl dc hd _ sl sc hs (flat p (ys.drop i)) (by rw [hmin, hcl]) ?_ c p.TI q1 ?_ (flat_one p _) ?_
  · intro j v hj
    rw [add_none, hso]
    have e : (flat p r.items)[i * p.es + j]? = some v := by
      rw [← List.getElem?_drop, flat_drop, hr, List.drop_append_of_le_length hi, flat_append, List.getElem?_append_left (List.getElem?_eq_some_iff.1 hj).1]
      exact hj
    have := h1.at_.row.cell e
    rw [Nat.add_assoc]
    exact this
  · rw [hcl]
    rcases Nat.lt_or_ge i ys.length with hlt | hge
    · rw [hod hlt]; omega
    · rw [show ys.length - i = 0 by omega, Nat.zero_mul]
      rcases hod2 with e | e <;> omega
  · refine h _ ?_ ?_
    · refine putCells_chg (Chg.refl _ _) q1 ?_ (.inl fun _ _ _ => rfl)
      rw [hcl]
      rcases Nat.lt_or_ge i ys.length with hlt | hge
      · rw [hod hlt]; omega
      · rw [show ys.length - i = 0 by omega, Nat.zero_mul]
        rcases hod2 with e | e <;> omega
    · rcases Nat.lt_or_ge i ys.length with hlt | hge
      · have := h1.putItems (i + 1) (ys.drop i) (by rw [List.length_drop]; omega)
        rw [hr, upList ys z i hi []] at this
        rw [hod hlt]
        exact this
      · have e1 : ys.drop i = [] := List.drop_eq_nil_of_le hge
        have e2 : (ys ++ [z]).take (i + 1) = ys ++ [z] := List.take_of_length_le (by simp; omega)
        rw [e1, e2, List.append_nil, ← hr]
        refine h1.still (putCells_chg (Chg.refl _ _) q1 ?_ (.inl fun o h1 h2 => ?_))
        · simp only [flat_nil, List.length_nil]
          rcases hod2 with e | e <;> omega
        · simp only [flat_nil, List.length_nil] at h2
          omega

theorem wpList_shiftKids {ops : Array Oper} {rest : List Oper} {o' : Oper} {a : Act} {Q : Exit → Act → World → Prop} (hgd : o'.guard = none) (d s : Operand) (dT sT : TypeId)
    (ho : o'.op = .call { callee := .builtin .copy, args := #[d, s], argTypes := #[dT, sT] }) (elem : TypeId) (hu : P.underlying dT = some (.slice elem)) (hsz : (P.info? elem).map (·.size) = some 1)
    (h1 : Run p w0 n r0 l0 w r l) (ys : List (Option Nat)) (z : Option Nat) (hr : r.kids = some (ys ++ [z])) (i od dl dc sl sc : Nat) (hi : i ≤ ys.length) (hod : i < ys.length → od = l.co + (i + 1)) (hod2 : od = l.co ∨ od = l.co + (i + 1))
    (hd : a.eval d = .slice (some ⟨l.cb, od, none⟩) dl dc) (so : Nat) (hs : a.eval s = .slice (some ⟨l.cb, so, none⟩) sl sc) (hso : so = l.co + i) (hdl : dl = ys.length - i) (hsl : sl = ys.length + 1 - i)
    (h : ∀ w', Chg (fun b _ => b = l.cb) w w' → Run p w0 n r0 l0 w' { r with kids := some ((ys ++ [z]).take (i + 1) ++ ys.drop i) } l → wpList P ops Q rest (a.put o'.dst (goInt (Nat.min sl dl))) w') : wpList P ops Q (o' :: rest) a w := by
  obtain ⟨k1, k2⟩ := h1.at_.kid _ hr
  obtain ⟨q0, c, q1, q2, q3⟩ := k2
  have hlen := h1.at_.klen hr
  have hl1 : (ys ++ [z]).length = ys.length + 1 := by simp
  have hcl : ((ys.drop i).map kidV).length = ys.length - i := by simp
  have hmin : Nat.min sl dl = ys.length - i := by rw [hsl, hdl]; exact Nat.min_eq_right (by omega)
  refine wpList_copy_row hgd d s dT sT ho elem 1 hu hsz l.cb od dl dc hd _ sl sc hs ((ys.drop i).map kidV) (by rw [hmin, hcl, Nat.mul_one]) ?_ c p.TP q1 ?_ ?_ ?_
  · intro j v hj
    rw [add_none, hso]
    have e : ((ys ++ [z]).map kidV)[i + j]? = some v := by
      rw [← List.getElem?_drop, ← List.map_drop, List.drop_append_of_le_length hi, List.map_append, List.getElem?_append_left (List.getElem?_eq_some_iff.1 hj).1]
      exact hj
    have := (h1.at_.kid _ hr).2.cell e
    rw [Nat.add_assoc]
    exact this
  · rw [hcl]
    rcases Nat.lt_or_ge i ys.length with hlt | hge
    · rw [hod hlt]; omega
    · rcases hod2 with e | e <;> omega
  · intro u hu
    obtain ⟨x, _, rfl⟩ := List.mem_map.1 hu
    cases x <;> rfl
  · refine h _ ?_ ?_
    · refine putCells_chg (Chg.refl _ _) q1 ?_ (.inl fun _ _ _ => rfl)
      rw [hcl]
      rcases Nat.lt_or_ge i ys.length with hlt | hge
      · rw [hod hlt]; omega
      · rcases hod2 with e | e <;> omega
    · rcases Nat.lt_or_ge i ys.length with hlt | hge
      · have := h1.putKids hr (i + 1) (ys.drop i) (by rw [List.length_drop]; simp; omega)
        rw [upList ys z i hi []] at this
        rw [hod hlt]
        exact this
      · have e1 : ys.drop i = [] := List.drop_eq_nil_of_le hge
        have e2 : (ys ++ [z]).take (i + 1) = ys ++ [z] := List.take_of_length_le (by simp; omega)
        rw [e1, e2, List.append_nil, ← hr]
        refine h1.still (putCells_chg (Chg.refl _ _) q1 ?_ (.inl fun o h1 h2 => ?_))
        · simp only [List.map_nil, List.length_nil]
          rcases hod2 with e | e <;> omega
        · simp only [List.map_nil, List.length_nil] at h2
          omega
end Go.Proofs.Ytojplcbkiogcpaa
