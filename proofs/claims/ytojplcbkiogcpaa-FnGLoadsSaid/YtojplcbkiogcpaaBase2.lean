/- The laws of append and copy over rows that lie anywhere in a block (RowAt), for one operation of a walk: plain, and inside a region that draws its order. -/
import Derived.Test.YtojplcbkiogcpaaBase
import Derived.Laws.CopyRow
import Derived.Laws.CopyOwn
namespace Go.Proofs.Ytojplcbkiogcpaa
set_option linter.unusedSimpArgs false
set_option linter.unusedVariables false
open Go.RowKit

/-- The cells of block b from o on are overwritten by cs. -/
def putCells (w : World) (b o : Nat) (cs : List Value) : World :=
  match w.heap[b]? with
  | some (.cells c _ _) => w.setRow b (c.toList.take o ++ cs ++ c.toList.drop (o + cs.length)).toArray
  | _ => w

theorem putCells_heap {w : World} {b o : Nat} {cs : List Value} {c : Array Value} {T : TypeId} {fr : Nat × Nat} (h : w.heap[b]? = some (.cells c T fr)) :
    (putCells w b o cs).heap[b]? = some (.cells (c.toList.take o ++ cs ++ c.toList.drop (o + cs.length)).toArray T fr) := by
  simp only [putCells, h]
  exact setRow_heap w b c _ T fr h

theorem splice_get {l cs : List Value} {o i : Nat} (h : o + cs.length ≤ l.length) :
    (l.take o ++ cs ++ l.drop (o + cs.length))[i]? = if o ≤ i ∧ i < o + cs.length then cs[i - o]? else l[i]? := by
  have hl : (l.take o).length = o := by simp; omega
  split
  · rename_i hi
    rw [List.append_assoc, List.getElem?_append_right (by omega), hl, List.getElem?_append_left (by omega)]
  · rename_i hi
    rcases Nat.lt_or_ge i o with h1 | h1
    · rw [List.append_assoc, List.getElem?_append_left (by omega), List.getElem?_take_of_lt h1]
    · rw [List.getElem?_append_right (by simp; omega), List.getElem?_drop]
      congr 1
      simp only [List.length_append, hl]
      omega

theorem putCells_chg {A : Nat → Nat → Prop} {w0 w : World} (h : Chg A w0 w) {b o : Nat} {cs : List Value} {c : Array Value} {T : TypeId} {fr : Nat × Nat} (hb : w.heap[b]? = some (.cells c T fr))
    (hfit : o + cs.length ≤ c.size) (hA : (∀ i, o ≤ i → i < o + cs.length → A b i) ∨ w0.heap.size ≤ b) : Chg A w0 (putCells w b o cs) := by
  refine h.trans' (A' := fun b' i => b' = b ∧ o ≤ i ∧ i < o + cs.length) ?_ (fun _ _ _ x => x) ?_
  · refine ⟨by simp only [putCells, hb]; rfl, by simp only [putCells, hb]; rfl, by simp only [putCells, hb]; rfl, by simp only [putCells, hb]; simp, ?_, ?_⟩
    · intro b' c' T' fr' hc
      by_cases hbb : b' = b
      · subst hbb
        rw [hb] at hc
        obtain ⟨rfl, rfl, rfl⟩ : c = c' ∧ T = T' ∧ fr = fr' := by simpa using hc
        refine ⟨_, putCells_heap hb, ?_, ?_⟩
        · simp; omega
        · intro i hi
          have := splice_get (l := c.toList) (cs := cs) (o := o) (i := i) (by simpa using hfit)
          rw [if_neg (fun x => hi ⟨rfl, x.1, x.2⟩)] at this
          simpa using this
      · refine ⟨c', ?_, rfl, fun _ _ => rfl⟩
        simp only [putCells, hb]
        rw [setRow_other w b b' _ hbb]; exact hc
    · intro b' _ hn
      have hbb : b' ≠ b := fun e => hn c T fr (e ▸ hb)
      simp only [putCells, hb]
      exact setRow_other w b b' _ hbb
  · rintro b' i hlt ⟨rfl, h1, h2⟩
    rcases hA with hA | hA
    · exact hA i h1 h2
    · omega

theorem RowAt.putCells {w : World} {T b o m : Nat} {xs : List Value} (h : RowAt w T b o m xs) (i : Nat) (cs : List Value) (hi : i ≤ xs.length) (hm : i + cs.length ≤ m) :
    RowAt (putCells w b (o + i) cs) T b o m (xs.take i ++ cs ++ xs.drop (i + cs.length)) := by
  obtain ⟨h0, c, h1, h2, h3⟩ := h
  refine ⟨by simp; omega, _, putCells_heap h1, by simp; omega, fun j hj => ?_⟩
  have e := splice_get (l := c.toList) (cs := cs) (o := o + i) (i := o + j) (by simp; omega)
  have hl : (xs.take i).length = i := by simp; omega
  have e' : (xs.take i ++ cs ++ xs.drop (i + cs.length))[j]? = if i ≤ j ∧ j < i + cs.length then cs[j - i]? else xs[j]? := by
    split
    · rw [List.append_assoc, List.getElem?_append_right (by omega), hl, List.getElem?_append_left (by omega)]
    · rcases Nat.lt_or_ge j i with h1 | h1
      · rw [List.append_assoc, List.getElem?_append_left (by omega), List.getElem?_take_of_lt h1]
      · rw [List.getElem?_append_right (by simp; omega), List.getElem?_drop]
        congr 1
        simp only [List.length_append, hl]
        omega
  rw [e', List.getElem?_toArray, e]
  by_cases hc : i ≤ j ∧ j < i + cs.length
  · rw [if_pos hc, if_pos (by omega)]
    congr 1; omega
  · rw [if_neg hc, if_neg (by omega)]
    simp only [Array.getElem?_toList]
    refine h3 j ?_
    rw [List.length_append, List.length_append, hl] at hj
    simp at hj
    omega

theorem add_none (b o j : Nat) : ({ block := b, off := o, spot := none } : Addr).add j = ⟨b, o + j, none⟩ := by
  unfold Addr.add; split <;> simp_all

theorem RowAt.adds {w : World} {T b o m : Nat} {xs : List Value} (h : RowAt w T b o m xs) : ∀ j v, xs[j]? = some v → w.cell? (({ block := b, off := o, spot := none } : Addr).add j) = some v := by
  intro j v hj
  rw [add_none]; exact h.cell hj

section
variable {P : Program}

/-- What append gives: the slice and the world. -/
structure Appd (e size : Nat) (w : World) (b o len cap : Nat) (xs news : List Value) (m : Nat) (b' o' cap' : Nat) (w' : World) : Prop where
  row : RowAt w' e b' o' (cap' * size) (xs ++ news)
  chg : Chg (fun B O => B = b ∧ o + len * size ≤ O ∧ O < o + cap * size) w w'
  room : len + m ≤ cap'
  place : (b' = b ∧ o' = o ∧ cap' = cap) ∨ (w.heap.size ≤ b' ∧ o' = 0 ∧ cap < len + m ∧ cap' ≤ maxLen)

theorem run_append_row (w : World) (t ty e : TypeId) (i : TypeInfo) (z : Value) (size bytes : Nat) (ht : P.underlying t = some (.slice e)) (hi : P.info? e = some i) (hz : i.zero = some z)
    (hsize : i.size = size) (hby : i.bytes = bytes) (hzs : z.cells.size = size)
    (b o len cap : Nat) (xs : List Value) (hrow : RowAt w e b o (cap * size) xs) (hxs : xs.length = len * size)
    (ad : Addr) (m c : Nat) (news : List Value) (hl : news.length = m * size) (hnews : ∀ j u, news[j]? = some u → w.cell? (ad.add j) = some u) (h1 : ∀ u ∈ news, u.oneCell' = true)
    (h63 : len + m ≤ maxLen) (hbytes : (len + m) * bytes ≤ 140737488355328) :
    ∃ b' o' cap' w', (Builtin.append_ #[t, t] ty #[.slice (some ⟨b, o, none⟩) len cap, .slice (some ad) m c]).run P w = .ok (.slice (some ⟨b', o', none⟩) (len + m) cap') w' ∧ Appd e size w b o len cap xs news m b' o' cap' w' := by
  subst hsize
  subst hby
  have hsmall : len + m ≤ 9223372036854775807 := by simp only [maxLen] at h63; omega
  have hrow' := hrow
  obtain ⟨h0, cc, hg, hfit, hcs⟩ := hrow
  by_cases hroom : len + m ≤ cap
  · have hmul : (len + m) * i.size ≤ cap * i.size := Nat.mul_le_mul_right _ hroom
    rw [Nat.add_mul] at hmul
    refine ⟨b, o, cap, Ytojplcbkiogcpaa.putCells w b (o + len * i.size) news, ?_, ?_, ?_, hroom, .inl ⟨rfl, rfl, rfl⟩⟩
    · have hf := run_firstCells_some (P := P) w i.size m ad m c news hl hnews
      have hst := run_storeCells_at P b (o + len * i.size) e news 0 cc w hg (by omega) h1
      simp only [Nat.add_zero] at hst
      simp only [Ytojplcbkiogcpaa.putCells, hg]
      simp [Builtin.append_, run_underlying ht, sizeOf, typeInfo, hi, Builtin.lenOf, hroom, hf, add_none, hst]
    · have := hrow'.putCells (len * i.size) news (by omega) (by omega)
      have e1 : xs.take (len * i.size) = xs := List.take_of_length_le (by omega)
      have e2 : xs.drop (len * i.size + news.length) = [] := List.drop_of_length_le (by omega)
      rw [e1, e2, List.append_nil] at this
      exact this
    · refine putCells_chg (Chg.refl _ _) hg (by omega) (.inl fun k h1 h2 => ⟨rfl, h1, by omega⟩)
  · have hr := run_append_grow (P := P) w t ty e i z ht hi hz ⟨b, o, none⟩ len cap xs hxs hrow'.adds ad m c news hl hnews (by omega) (by omega) (growslice_fits (by omega) hbytes)
    have hge := grownCap_ge w (len + m) cap e
    have hcm : grownCap w (len + m) cap e ≤ maxLen := grownCap_le_maxLen w (len + m) cap e h63
    refine ⟨_, _, _, _, hr, ?_, ((Chg.refl _ _).drew).alloc _, hge, .inr ⟨Nat.le_refl _, rfl, by omega, hcm⟩⟩
    have hs : (xs.toArray ++ news.toArray ++ Builtin.zeroCells z.cells (grownCap w (len + m) cap e - (len + m))).size = grownCap w (len + m) cap e * i.size := by
      simp only [Array.size_append, List.size_toArray, size_zeroCells, hzs, hxs, hl, ← Nat.add_mul]
      congr 1
      omega
    refine RowAt.of_block (heap_alloc_new w.drew _) _ _ ?_ ?_ ?_
    · rw [List.length_append, hxs, hl, ← Nat.add_mul]
      exact Nat.mul_le_mul_right _ hge
    · omega
    · intro j hj
      rw [Nat.zero_add, Array.getElem?_append_left (by simpa using hj)]
      simp

theorem wp_append_row {o' : Oper} {a : Act} {w : World} {K : Act → World → Prop} {Q : Exit → Act → World → Prop} (s x : Operand) (t : TypeId)
    (ho : o'.op = .call { callee := .builtin .append, args := #[s, x], argTypes := #[t, t] })
    (e : TypeId) (i : TypeInfo) (z : Value) (size bytes : Nat) (ht : P.underlying t = some (.slice e)) (hi : P.info? e = some i) (hz : i.zero = some z)
    (hsize : i.size = size) (hby : i.bytes = bytes) (hzs : z.cells.size = size)
    (b o len cap : Nat) (hs : a.eval s = .slice (some ⟨b, o, none⟩) len cap) (xs : List Value) (hrow : RowAt w e b o (cap * size) xs) (hxs : xs.length = len * size)
    (ad : Addr) (m c : Nat) (hx : a.eval x = .slice (some ad) m c) (news : List Value) (hl : news.length = m * size) (hnews : ∀ j u, news[j]? = some u → w.cell? (ad.add j) = some u) (h1 : ∀ u ∈ news, u.oneCell' = true)
    (h63 : len + m ≤ maxLen) (hbytes : (len + m) * bytes ≤ 140737488355328)
    (h : ∀ b' o1 cap' w', Appd e size w b o len cap xs news m b' o1 cap' w' → K (a.put o'.dst (.slice (some ⟨b', o1, none⟩) (len + m) cap')) w') : o'.wp P a w K Q := by
  obtain ⟨b', o1, cap', w', hr, h2⟩ := run_append_row (P := P) w t o'.type e i z size bytes ht hi hz hsize hby hzs b o len cap xs hrow hxs ad m c news hl hnews h1 h63 hbytes
  unfold Oper.wp execOp
  simp only [ho, resolve, invoke, builtin, Sem.run_bind, Sem.run_pure, Result.andThen_ok, List.map_toArray, List.map_cons, List.map_nil, hs, hx, hr]
  exact h b' o1 cap' w' h2

theorem wpList_append_row {ops : Array Oper} {rest : List Oper} {o' : Oper} {a : Act} {w : World} {Q : Exit → Act → World → Prop} (hgd : o'.guard = none) (s x : Operand) (t : TypeId)
    (ho : o'.op = .call { callee := .builtin .append, args := #[s, x], argTypes := #[t, t] })
    (e : TypeId) (i : TypeInfo) (z : Value) (size bytes : Nat) (ht : P.underlying t = some (.slice e)) (hi : P.info? e = some i) (hz : i.zero = some z)
    (hsize : i.size = size) (hby : i.bytes = bytes) (hzs : z.cells.size = size)
    (b o len cap : Nat) (hs : a.eval s = .slice (some ⟨b, o, none⟩) len cap) (xs : List Value) (hrow : RowAt w e b o (cap * size) xs) (hxs : xs.length = len * size)
    (ad : Addr) (m c : Nat) (hx : a.eval x = .slice (some ad) m c) (news : List Value) (hl : news.length = m * size) (hnews : ∀ j u, news[j]? = some u → w.cell? (ad.add j) = some u) (h1 : ∀ u ∈ news, u.oneCell' = true)
    (h63 : len + m ≤ maxLen) (hbytes : (len + m) * bytes ≤ 140737488355328)
    (h : ∀ b' o1 cap' w', Appd e size w b o len cap xs news m b' o1 cap' w' → wpList P ops Q rest (a.put o'.dst (.slice (some ⟨b', o1, none⟩) (len + m) cap')) w') : wpList P ops Q (o' :: rest) a w :=
  wpList_plain hgd fun _ hK => wp_append_row s x t ho e i z size bytes ht hi hz hsize hby hzs b o len cap hs xs hrow hxs ad m c hx news hl hnews h1 h63 hbytes fun b' o1 cap' w' h2 => hK _ _ (h b' o1 cap' w' h2)

theorem step_append_row {ops : Array Oper} {o' : Oper} {a : Act} {w : World} {K : Act → World → Prop} {Q : Exit → Act → World → Prop} {E : Prop} (hgd : o'.guard = none) (s x : Operand) (t : TypeId)
    (ho : o'.op = .call { callee := .builtin .append, args := #[s, x], argTypes := #[t, t] })
    (e : TypeId) (i : TypeInfo) (z : Value) (size bytes : Nat) (ht : P.underlying t = some (.slice e)) (hi : P.info? e = some i) (hz : i.zero = some z)
    (hsize : i.size = size) (hby : i.bytes = bytes) (hzs : z.cells.size = size)
    (b o len cap : Nat) (hs : a.eval s = .slice (some ⟨b, o, none⟩) len cap) (xs : List Value) (hrow : RowAt w e b o (cap * size) xs) (hxs : xs.length = len * size)
    (ad : Addr) (m c : Nat) (hx : a.eval x = .slice (some ad) m c) (news : List Value) (hl : news.length = m * size) (hnews : ∀ j u, news[j]? = some u → w.cell? (ad.add j) = some u) (h1 : ∀ u ∈ news, u.oneCell' = true)
    (h63 : len + m ≤ maxLen) (hbytes : (len + m) * bytes ≤ 140737488355328)
    (h : ∀ b' o1 cap' w', Appd e size w b o len cap xs news m b' o1 cap' w' → K (a.put o'.dst (.slice (some ⟨b', o1, none⟩) (len + m) cap')) w') :
    if Region.wanted o' (yielded ops a.tmps) = true then Oper.wp P o' a w K Q else E := by
  have hw : Region.wanted o' (yielded ops a.tmps) = true := by simp [Region.wanted, hgd]
  rw [if_pos hw]
  exact wp_append_row s x t ho e i z size bytes ht hi hz hsize hby hzs b o len cap hs xs hrow hxs ad m c hx news hl hnews h1 h63 hbytes h

/-- copy. -/
theorem run_copy_row (w : World) (dT sT ty elem : TypeId) (size : Nat) (hu : P.underlying dT = some (.slice elem)) (hsz : (P.info? elem).map (·.size) = some size)
    (b o dl dc : Nat) (sp : Addr) (sl sc : Nat) (cs : List Value) (hn : cs.length = Nat.min sl dl * size) (hsrc : ∀ j v, cs[j]? = some v → w.cell? (sp.add j) = some v)
    (c : Array Value) (T : TypeId) (hg : w.heap[b]? = some (.cells c T (0, 0))) (hfit : o + cs.length ≤ c.size) (h1 : ∀ u ∈ cs, u.oneCell' = true) :
    (Builtin.copy_ #[dT, sT] ty #[.slice (some ⟨b, o, none⟩) dl dc, .slice (some sp) sl sc]).run P w = .ok (goInt (Nat.min sl dl)) (putCells w b o cs) := by
  obtain ⟨i, hi, hs⟩ : ∃ i, P.info? elem = some i ∧ i.size = size := by
    cases h : P.info? elem with
    | none => simp [h] at hsz
    | some i => exact ⟨i, rfl, by simpa [h] using hsz⟩
  subst hs
  have hf := run_firstCells_some (P := P) w i.size (Nat.min sl dl) sp sl sc cs hn hsrc
  have hst := run_storeCells_at P b o T cs 0 c w hg (by omega) h1
  simp only [Nat.add_zero] at hst
  simp only [putCells, hg]
  simp [Builtin.copy_, run_underlying hu, sizeOf, typeInfo, hi, Builtin.lenOf, hf, hst]

theorem wp_copy_row {o' : Oper} {a : Act} {w : World} {K : Act → World → Prop} {Q : Exit → Act → World → Prop} (d s : Operand) (dT sT : TypeId)
    (ho : o'.op = .call { callee := .builtin .copy, args := #[d, s], argTypes := #[dT, sT] }) (elem : TypeId) (size : Nat) (hu : P.underlying dT = some (.slice elem)) (hsz : (P.info? elem).map (·.size) = some size)
    (b o dl dc : Nat) (hd : a.eval d = .slice (some ⟨b, o, none⟩) dl dc) (sp : Addr) (sl sc : Nat) (hs : a.eval s = .slice (some sp) sl sc)
    (cs : List Value) (hn : cs.length = Nat.min sl dl * size) (hsrc : ∀ j v, cs[j]? = some v → w.cell? (sp.add j) = some v)
    (c : Array Value) (T : TypeId) (hg : w.heap[b]? = some (.cells c T (0, 0))) (hfit : o + cs.length ≤ c.size) (h1 : ∀ u ∈ cs, u.oneCell' = true)
    (h : K (a.put o'.dst (goInt (Nat.min sl dl))) (putCells w b o cs)) : o'.wp P a w K Q := by
  have hr := run_copy_row (P := P) w dT sT o'.type elem size hu hsz b o dl dc sp sl sc cs hn hsrc c T hg hfit h1
  unfold Oper.wp execOp
  simp only [ho, resolve, invoke, builtin, Sem.run_bind, Sem.run_pure, Result.andThen_ok, List.map_toArray, List.map_cons, List.map_nil, hd, hs, hr]
  exact h

theorem wpList_copy_row {ops : Array Oper} {rest : List Oper} {o' : Oper} {a : Act} {w : World} {Q : Exit → Act → World → Prop} (hgd : o'.guard = none) (d s : Operand) (dT sT : TypeId)
    (ho : o'.op = .call { callee := .builtin .copy, args := #[d, s], argTypes := #[dT, sT] }) (elem : TypeId) (size : Nat) (hu : P.underlying dT = some (.slice elem)) (hsz : (P.info? elem).map (·.size) = some size)
    (b o dl dc : Nat) (hd : a.eval d = .slice (some ⟨b, o, none⟩) dl dc) (sp : Addr) (sl sc : Nat) (hs : a.eval s = .slice (some sp) sl sc)
    (cs : List Value) (hn : cs.length = Nat.min sl dl * size) (hsrc : ∀ j v, cs[j]? = some v → w.cell? (sp.add j) = some v)
    (c : Array Value) (T : TypeId) (hg : w.heap[b]? = some (.cells c T (0, 0))) (hfit : o + cs.length ≤ c.size) (h1 : ∀ u ∈ cs, u.oneCell' = true)
    (h : wpList P ops Q rest (a.put o'.dst (goInt (Nat.min sl dl))) (putCells w b o cs)) : wpList P ops Q (o' :: rest) a w :=
  wpList_plain hgd fun _ hK => wp_copy_row d s dT sT ho elem size hu hsz b o dl dc hd sp sl sc hs cs hn hsrc c T hg hfit h1 (hK _ _ h)
end
end Go.Proofs.Ytojplcbkiogcpaa
