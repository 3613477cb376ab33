/- append of a slice that may be nil; a sequential region's form. -/
import Derived.Test.YtojplcbkiogcpaaSb
namespace Go.Proofs.Ytojplcbkiogcpaa
set_option linter.unusedSimpArgs false
set_option linter.unusedVariables false
open Go.RowKit
variable {P : Program}

theorem run_append_opt (w : World) (t ty e : TypeId) (i : TypeInfo) (z : Value) (size bytes : Nat) (ht : P.underlying t = some (.slice e)) (hi : P.info? e = some i) (hz : i.zero = some z)
    (hsize : i.size = size) (hby : i.bytes = bytes) (hzs : z.cells.size = size)
    (b o len cap : Nat) (xs : List Value) (hrow : RowAt w e b o (cap * size) xs) (hxs : xs.length = len * size) (hcap : len ≤ cap)
    (p : Option Addr) (m c : Nat) (news : List Value) (hl : news.length = m * size) (hsrc : (∃ ad, p = some ad ∧ ∀ j u, news[j]? = some u → w.cell? (ad.add j) = some u) ∨ (m = 0 ∧ news = [])) (h1 : ∀ u ∈ news, u.oneCell' = true)
    (h63 : len + m ≤ maxLen) (hbytes : (len + m) * bytes ≤ 140737488355328) :
    ∃ b' o' cap' w', (Builtin.append_ #[t, t] ty #[.slice (some ⟨b, o, none⟩) len cap, .slice p m c]).run P w = .ok (.slice (some ⟨b', o', none⟩) (len + m) cap') w' ∧ Appd e size w b o len cap xs news m b' o' cap' w' := by
  cases p with
  | some ad =>
    refine run_append_row w t ty e i z size bytes ht hi hz hsize hby hzs b o len cap xs hrow hxs ad m c news hl ?_ h1 h63 hbytes
    rcases hsrc with ⟨ad', h, hc⟩ | ⟨_, rfl⟩
    · obtain rfl := Option.some.inj h; exact hc
    · intro j u h; simp at h
  | none =>
    rcases hsrc with ⟨ad', h, _⟩ | ⟨rfl, rfl⟩
    · cases h
    refine ⟨b, o, cap, w, ?_, by rw [List.append_nil]; exact hrow, Chg.refl _ _, by omega, .inl ⟨rfl, rfl, rfl⟩⟩
    subst hsize
    simp [Builtin.append_, run_underlying ht, sizeOf, typeInfo, hi, Builtin.lenOf, hcap, Builtin.firstCells, storeCells]

theorem wp_append_opt {o' : Oper} {a : Act} {w : World} {K : Act → World → Prop} {Q : Exit → Act → World → Prop} (s x : Operand) (t : TypeId)
    (ho : o'.op = .call { callee := .builtin .append, args := #[s, x], argTypes := #[t, t] })
    (e : TypeId) (i : TypeInfo) (z : Value) (size bytes : Nat) (ht : P.underlying t = some (.slice e)) (hi : P.info? e = some i) (hz : i.zero = some z)
    (hsize : i.size = size) (hby : i.bytes = bytes) (hzs : z.cells.size = size)
    (b o len cap : Nat) (hs : a.eval s = .slice (some ⟨b, o, none⟩) len cap) (xs : List Value) (hrow : RowAt w e b o (cap * size) xs) (hxs : xs.length = len * size) (hcap : len ≤ cap)
    (p : Option Addr) (m c : Nat) (hx : a.eval x = .slice p m c) (news : List Value) (hl : news.length = m * size) (hsrc : (∃ ad, p = some ad ∧ ∀ j u, news[j]? = some u → w.cell? (ad.add j) = some u) ∨ (m = 0 ∧ news = [])) (h1 : ∀ u ∈ news, u.oneCell' = true)
    (h63 : len + m ≤ maxLen) (hbytes : (len + m) * bytes ≤ 140737488355328)
    (h : ∀ b' o1 cap' w', Appd e size w b o len cap xs news m b' o1 cap' w' → K (a.put o'.dst (.slice (some ⟨b', o1, none⟩) (len + m) cap')) w') : o'.wp P a w K Q := by
  obtain ⟨b', o1, cap', w', hr, h2⟩ := run_append_opt (P := P) w t o'.type e i z size bytes ht hi hz hsize hby hzs b o len cap xs hrow hxs hcap p m c news hl hsrc h1 h63 hbytes
  unfold Oper.wp execOp
  simp only [ho, resolve, invoke, builtin, Sem.run_bind, Sem.run_pure, Result.andThen_ok, List.map_toArray, List.map_cons, List.map_nil, hs, hx, hr]
  exact h b' o1 cap' w' h2

theorem wpList_append_opt {ops : Array Oper} {rest : List Oper} {o' : Oper} {a : Act} {w : World} {Q : Exit → Act → World → Prop} (hgd : o'.guard = none) (s x : Operand) (t : TypeId)
    (ho : o'.op = .call { callee := .builtin .append, args := #[s, x], argTypes := #[t, t] })
    (e : TypeId) (i : TypeInfo) (z : Value) (size bytes : Nat) (ht : P.underlying t = some (.slice e)) (hi : P.info? e = some i) (hz : i.zero = some z)
    (hsize : i.size = size) (hby : i.bytes = bytes) (hzs : z.cells.size = size)
    (b o len cap : Nat) (hs : a.eval s = .slice (some ⟨b, o, none⟩) len cap) (xs : List Value) (hrow : RowAt w e b o (cap * size) xs) (hxs : xs.length = len * size) (hcap : len ≤ cap)
    (p : Option Addr) (m c : Nat) (hx : a.eval x = .slice p m c) (news : List Value) (hl : news.length = m * size) (hsrc : (∃ ad, p = some ad ∧ ∀ j u, news[j]? = some u → w.cell? (ad.add j) = some u) ∨ (m = 0 ∧ news = [])) (h1 : ∀ u ∈ news, u.oneCell' = true)
    (h63 : len + m ≤ maxLen) (hbytes : (len + m) * bytes ≤ 140737488355328)
    (h : ∀ b' o1 cap' w', Appd e size w b o len cap xs news m b' o1 cap' w' → wpList P ops Q rest (a.put o'.dst (.slice (some ⟨b', o1, none⟩) (len + m) cap')) w') : wpList P ops Q (o' :: rest) a w := by
  refine wpList_plain hgd fun K hK => ?_
  obtain ⟨b', o1, cap', w', hr, h2⟩ := run_append_opt (P := P) w t o'.type e i z size bytes ht hi hz hsize hby hzs b o len cap xs hrow hxs hcap p m c news hl hsrc h1 h63 hbytes
  unfold Oper.wp execOp
  simp only [ho, resolve, invoke, builtin, Sem.run_bind, Sem.run_pure, Result.andThen_ok, List.map_toArray, List.map_cons, List.map_nil, hs, hx, hr]
  exact hK _ _ (h b' o1 cap' w' h2)
end Go.Proofs.Ytojplcbkiogcpaa
