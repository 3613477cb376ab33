/- What laws share: the examples, Fits. -/
import Derived.BigQuiet
import Derived.ProofKit
import Derived.OpenShut
import Derived.Carry
import Derived.ChangeSame
import Derived.Deep.SlicePairs
import Derived.StillTailTactics
import Derived.Deep.AppendLies
import Derived.ChangeSlices
import Derived.Laws.EntriesVeiled
import Derived.Deep.Cut
import Derived.Deep.CutRange
import Derived.Test.YtpgaedmhgchgeaaA1
import Derived.Test.YtpgaedmhgchgeaaA2
namespace Go.Proofs.Ytpgaedmhgchgeaa
set_option linter.unusedSimpArgs false
set_option linter.unusedVariables false
open Go.RowKit





def ltR (rk : Int → Int) (a b : Int × Int) : Bool := decide (rk a.1 < rk b.1)

def itemV (x : Int × Int) : Value := .agg #[.int .i64 x.1, .int .i64 x.2]

end Go.Proofs.Ytpgaedmhgchgeaa

namespace Go.Proofs.Ytpgaedmhgchgeaa
set_option linter.unusedSimpArgs false
set_option linter.unusedVariables false
open Go.RowKit

/-- A slice of items. -/
def ItemsAt (w : World) (p : Option Addr) (l : List (Int × Int)) : Prop :=
  l = [] ∨ ∃ b o, p = some ⟨b, o, none⟩ ∧ ∀ i x, l[i]? = some x → w.cell? ⟨b, o + i * 2, none⟩ = some (.int .i64 x.1) ∧ w.cell? ⟨b, o + i * 2 + 1, none⟩ = some (.int .i64 x.2)

theorem ItemsAt.chg {w w' : World} {p : Option Addr} {l : List (Int × Int)} (h : ItemsAt w p l) (c : Chg (fun _ _ => False) w w') : ItemsAt w' p l := by
  rcases h with h | ⟨b, o, h1, h2⟩
  · exact .inl h
  · exact .inr ⟨b, o, h1, fun i x hx => ⟨c.cell (fun h => h) (h2 i x hx).1, c.cell (fun h => h) (h2 i x hx).2⟩⟩

/-- Where x belongs: how many stand before it, and whether its equal is there. -/
def PlaceIs (lt : Int × Int → Int × Int → Bool) (l : List (Int × Int)) (x : Int × Int) (i : Nat) (b : Bool) : Prop :=
  i ≤ l.length ∧ (∀ j y, j < i → l[j]? = some y → lt y x = true) ∧ (∀ y, l[i]? = some y → lt y x = false) ∧ ((∃ y, l[i]? = some y ∧ lt x y = false ∧ b = true) ∨ ((∀ y, l[i]? = some y → lt x y = true) ∧ b = false))





end Go.Proofs.Ytpgaedmhgchgeaa

namespace Go.Proofs.Ytpgaedmhgchgeaa
set_option linter.unusedSimpArgs false
set_option linter.unusedVariables false
open Go.ChangeShapes Go.WideShapes Go.ChangeAt Go.RowKit

section
variable {H : Type} {enc : TypeId × Value → H} {P : Program}

theorem trodAll_carry (hl : laidOutB P = true) {W W' : World} (hb : Below W.heap.size W W') : ∀ {ts : List TypeId} {vs : List Value} {ds : List (DataW H)} {ps : List MemPlace},
    (ts.all fun t => P.readableRec t && decide (t < P.types.size)) = true → DataW.TrodAll enc P W 0 (fun _ => true) true ts vs ds ps → (∀ x ∈ ps, x.block < W.heap.size) → ∀ sp : Nat → Bool, (∀ p ∈ ps, sp p.block = true) → DataW.TrodAll enc P W' 0 sp true ts vs ds ps
  | [], _, _, _, _, h, _, _, _ => by
    obtain ⟨rfl, rfl, rfl⟩ := trodAll_nil h
    exact trodAll_mk0
  | t :: ts, _, _, _, ht, h, hlt, sp, hsp => by
    obtain ⟨v, vs1, d, ds1, a, b, rfl, rfl, rfl, h1, h2⟩ := trodAll_cons h
    simp only [List.all_cons, Bool.and_eq_true, decide_eq_true_eq] at ht
    obtain ⟨⟨g1, g2⟩, g3⟩ := ht
    refine ⟨a, b, WideElems.Trod_stays hl g1 g2 h1 (fun x hx => hb.same (hlt x (List.mem_append.2 (.inl hx)))) (fun x hx => hsp x (List.mem_append.2 (.inl hx))), trodAll_carry hl hb g3 h2 (fun x hx => hlt x (List.mem_append.2 (.inr hx))) sp (fun x hx => hsp x (List.mem_append.2 (.inr hx))), rfl⟩

/-- A law's end: it returned true, and below the heap's old size nothing has turned. -/
theorem law_post {f : Func} {s : ChangeSpec} {apart fresh handsOn again : Bool} {W W' : World} {args : Array Value} {ds gs : List (DataW H)} {before : List MemPlace} {tb : TypeId} (hl : laidOutB P = true)
    (hts : (f.params.toList.all fun t => P.readableRec t && decide (t < P.types.size)) = true) (hr : f.resultTypes = #[tb]) (hb4 : P.underlying tb = some .bool)
    (hW : DataW.Whole enc P f.params.toList s.vars apart W args.toList ds gs before) (hv : s.vars = []) (hfn : s.fn H ds = { results := [.lit (.bool true)], args := ds }) (hb : Below W.heap.size W W') :
    s.post enc P f apart fresh handsOn again W args (.bool true) W' := by
  have hW0 := hW
  obtain ⟨p, q, hA, hV, rfl, hz, hn⟩ := hW0
  rw [hv] at hV
  obtain ⟨rfl, rfl⟩ := trodVars_none hV
  have hfn' : s.fn H (ds ++ []) = { results := [.lit (.bool true)], args := ds } := by rw [List.append_nil]; exact hfn
  have hvn : (s.fn H (ds ++ [])).vars = [] := by rw [hfn']
  have hlt : ∀ x ∈ p, x.block < W.heap.size := fun x hx => hW.lt x (by simpa using hx)
  have hres : ∀ (b : Nat) (sp : Nat → Bool) (hd : Bool), DataW.TrodAll enc P W' b sp hd f.resultTypes.toList ((Value.bool true).resultList f.resultTypes.size) (s.fn H (ds ++ [])).results [] := by
    intro b sp hd
    rw [hfn', hr]
    exact trodAll_mk1 (shut_bool hb4 _)
  have hargs : ∀ sp : Nat → Bool, (∀ x ∈ p, sp x.block = true) → DataW.TrodAll enc P W' 0 sp true f.params.toList args.toList (s.fn H (ds ++ [])).args p := by
    intro sp hsp
    rw [hfn']
    exact trodAll_carry hl hb hts hA hlt sp hsp
  have hvars : ∀ sp : Nat → Bool, DataW.TrodVars enc P W' sp s.vars (s.fn H (ds ++ [])).vars [] := by
    intro sp
    rw [hvn, hv]
    exact rfl
  have hold : ∀ x ∈ p, (fun b => decide (b < W.heap.size)) x.block = true := fun x hx => by simpa using hlt x hx
  refine ⟨ds, [], p ++ [], [], p, [], hW, hres _ _ _, hargs _ hold, hvars _, World.keptBut_mono (fun x hx => ⟨hx, ?_⟩) (hb.frame (· ∈ p ++ [])), fun _ => ?_⟩
  · simpa using hx
  · refine ⟨ok_one hr rfl (okWide_bool_mk hb4 _), _, _, ([] ++ p) ++ [], ⟨[] ++ p, [], trodAll_append (hargs _ (fun _ _ => rfl)) (hres _ _ _), hvars _, rfl, ?_, ?_⟩, ?_⟩
    · intro b off hp
      have hin : MemPlace.cell b off ∈ p := by simpa using hp
      rw [hb.frozen (hlt _ hin)]
      exact hz b off (by simpa using hin)
    · intro ha
      have := hn ha
      simpa using this
    · intro x hx _
      simpa using hx

/-- A slice of structs of two integers opened. -/
theorem open_items {r : Reach} {b0 : Nat} {t e t3 : TypeId} {f0 f1 : Field} {v : Value} {d : DataW H} {ps : List MemPlace} {w : World} (ht : P.underlying t = some (.slice e)) (he : P.underlying e = some (.struct #[f0, f1])) (ce : P.cellsOf e = 2) (o0 : f0.offset = 0) (o1 : f1.offset = 1)
    (g0 : f0.type = t3) (g1 : f1.type = t3) (c3 : P.cellsOf t3 = 1) (h3 : P.underlying t3 = some (.int .i64)) (hv : Value.okWide P w r b0 t v) (h : DataW.Trod enc P w 0 (fun _ => true) true t v d ps) :
    ∃ p l cap, v = .slice p l.length cap ∧ ItemsAt w p l ∧ l.length ≤ cap := by
  obtain ⟨a, len, cap, rfl⟩ := okWide_slice ht hv
  obtain ⟨fuel, hf⟩ := h
  rcases Deep.open_slice_pairs ht he ce o0 o1 (by rw [g0]; exact c3) (by rw [g1]; exact c3) hf with ⟨hc, _⟩ | ⟨a', len', cap', m, n, V0, V1, D0, D1, P0, P1, hcs, _, hlc, _, hm, _, hi⟩
  · simp only [Value.cells, List.cons.injEq, Value.slice.injEq, and_true] at hc
    obtain ⟨rfl, rfl, rfl⟩ := hc
    exact ⟨none, [], 0, rfl, .inl rfl, Nat.le_refl _⟩
  · simp only [Value.cells, List.cons.injEq, Value.slice.injEq, and_true] at hcs
    obtain ⟨rfl, rfl, rfl⟩ := hcs
    have hsp : a'.spot = none := by
      simp only [Value.okWide, ht, Cell.okWide, Cell.ok] at hv
      exact hv.2.2.2.1
    have haddr : a' = ⟨a'.block, a'.off, none⟩ := by
      obtain ⟨b1, o1, s1⟩ := a'
      obtain rfl : s1 = none := hsp
      rfl
    have hm' : m = cap := by simpa using hm
    subst hm'
    refine ⟨some a', (List.range len).map fun i => (intOf (V0 i), intOf (V1 i)), m, by simp, .inr ⟨a'.block, a'.off, ?_, fun i x hx => ?_⟩, by simpa using hlc⟩
    · exact congrArg some haddr
    · have hil : i < len := by
        have := (List.getElem?_eq_some_iff.1 hx).1
        simpa using this
      have hxe : x = (intOf (V0 i), intOf (V1 i)) := by
        rw [List.getElem?_map, List.getElem?_range hil] at hx
        simpa using hx.symm
      subst hxe
      obtain ⟨k0, k1, k2, k3⟩ := hi i (by omega)
      rw [g0] at k2
      rw [g1] at k3
      obtain ⟨n0, e0, _⟩ := DataW.trod_int h3 k2
      obtain ⟨n1, e1, _⟩ := DataW.trod_int h3 k3
      rw [haddr, add_none] at k0 k1
      have e0' : V0 i = .int .i64 n0 := by simpa using e0
      have e1' : V1 i = .int .i64 n1 := by simpa using e1
      rw [e0'] at k0
      rw [e1'] at k1
      rw [e0', e1']
      exact ⟨k0, by rw [Nat.add_assoc]; exact k1⟩
end
end Go.Proofs.Ytpgaedmhgchgeaa

namespace Go.Proofs.Ytpgaedmhgchgeaa
set_option linter.unusedSimpArgs false
set_option linter.unusedVariables false
open Go.RowKit
variable {P : Program}

theorem run_append_opt (w : World) (t ty e : TypeId) (i : TypeInfo) (z : Value) (size bytes : Nat) (ht : P.underlying t = some (.slice e)) (hi : P.info? e = some i) (hz : i.zero = some z)
    (hsize : i.size = size) (hby : i.bytes = bytes) (hzs : z.cells.size = size)
    (b o len cap : Nat) (xs : List Value) (hrow : RowAt w e b o (cap * size) xs) (hxs : xs.length = len * size) (hcap : len ≤ cap)
    (p : Option Addr) (m c : Nat) (news : List Value) (hl : news.length = m * size) (hsrc : (∃ ad, p = some ad ∧ ∀ j u, news[j]? = some u → w.cell? (ad.add j) = some u) ∨ (m = 0 ∧ news = [])) (h1 : ∀ u ∈ news, u.oneCell' = true)
    (h63 : len + m ≤ maxLen) (hbytes : (len + m) * bytes ≤ 140737488355328) :
    ∃ b' o' cap' w', (Builtin.append_ #[t, t] ty #[.slice (some ⟨b, o, none⟩) len cap, .slice p m c]).run P w = .ok (.slice (some ⟨b', o', none⟩) (len + m) cap') w' ∧ Appd e size w b o len cap xs news m b' o' cap' w' := by
  cases p with
  | some ad =>
    refine run_append_row w t ty e i z size bytes ht hi hz hsize hby hzs b o len cap xs hrow hxs ad m c news hl ?_ h1 h63 hbytes
    rcases hsrc with ⟨ad', h, hc⟩ | ⟨_, rfl⟩
    · obtain rfl := Option.some.inj h; exact hc
    · intro j u h; simp at h
  | none =>
    rcases hsrc with ⟨ad', h, _⟩ | ⟨rfl, rfl⟩
    · cases h
    refine ⟨b, o, cap, w, ?_, by rw [List.append_nil]; exact hrow, Chg.refl _ _, by omega, .inl ⟨rfl, rfl, rfl⟩⟩
    subst hsize
    simp [Builtin.append_, run_underlying ht, sizeOf, typeInfo, hi, Builtin.lenOf, hcap, Builtin.firstCells, storeCells]

theorem wp_append_opt {o' : Oper} {a : Act} {w : World} {K : Act → World → Prop} {Q : Exit → Act → World → Prop} (s x : Operand) (t : TypeId)
    (ho : o'.op = .call { callee := .builtin .append, args := #[s, x], argTypes := #[t, t] })
    (e : TypeId) (i : TypeInfo) (z : Value) (size bytes : Nat) (ht : P.underlying t = some (.slice e)) (hi : P.info? e = some i) (hz : i.zero = some z)
    (hsize : i.size = size) (hby : i.bytes = bytes) (hzs : z.cells.size = size)
    (b o len cap : Nat) (hs : a.eval s = .slice (some ⟨b, o, none⟩) len cap) (xs : List Value) (hrow : RowAt w e b o (cap * size) xs) (hxs : xs.length = len * size) (hcap : len ≤ cap)
    (p : Option Addr) (m c : Nat) (hx : a.eval x = .slice p m c) (news : List Value) (hl : news.length = m * size) (hsrc : (∃ ad, p = some ad ∧ ∀ j u, news[j]? = some u → w.cell? (ad.add j) = some u) ∨ (m = 0 ∧ news = [])) (h1 : ∀ u ∈ news, u.oneCell' = true)
    (h63 : len + m ≤ maxLen) (hbytes : (len + m) * bytes ≤ 140737488355328)
    (h : ∀ b' o1 cap' w', Appd e size w b o len cap xs news m b' o1 cap' w' → K (a.put o'.dst (.slice (some ⟨b', o1, none⟩) (len + m) cap')) w') : o'.wp P a w K Q := by
  obtain ⟨b', o1, cap', w', hr, h2⟩ := run_append_opt (P := P) w t o'.type e i z size bytes ht hi hz hsize hby hzs b o len cap xs hrow hxs hcap p m c news hl hsrc h1 h63 hbytes
  unfold Oper.wp execOp
  simp only [ho, resolve, invoke, builtin, Sem.run_bind, Sem.run_pure, Result.andThen_ok, List.map_toArray, List.map_cons, List.map_nil, hs, hx, hr]
  exact h b' o1 cap' w' h2

theorem wpList_append_opt {ops : Array Oper} {rest : List Oper} {o' : Oper} {a : Act} {w : World} {Q : Exit → Act → World → Prop} (hgd : o'.guard = none) (s x : Operand) (t : TypeId)
    (ho : o'.op = .call { callee := .builtin .append, args := #[s, x], argTypes := #[t, t] })
    (e : TypeId) (i : TypeInfo) (z : Value) (size bytes : Nat) (ht : P.underlying t = some (.slice e)) (hi : P.info? e = some i) (hz : i.zero = some z)
    (hsize : i.size = size) (hby : i.bytes = bytes) (hzs : z.cells.size = size)
    (b o len cap : Nat) (hs : a.eval s = .slice (some ⟨b, o, none⟩) len cap) (xs : List Value) (hrow : RowAt w e b o (cap * size) xs) (hxs : xs.length = len * size) (hcap : len ≤ cap)
    (p : Option Addr) (m c : Nat) (hx : a.eval x = .slice p m c) (news : List Value) (hl : news.length = m * size) (hsrc : (∃ ad, p = some ad ∧ ∀ j u, news[j]? = some u → w.cell? (ad.add j) = some u) ∨ (m = 0 ∧ news = [])) (h1 : ∀ u ∈ news, u.oneCell' = true)
    (h63 : len + m ≤ maxLen) (hbytes : (len + m) * bytes ≤ 140737488355328)
    (h : ∀ b' o1 cap' w', Appd e size w b o len cap xs news m b' o1 cap' w' → wpList P ops Q rest (a.put o'.dst (.slice (some ⟨b', o1, none⟩) (len + m) cap')) w') : wpList P ops Q (o' :: rest) a w := by
  refine wpList_plain hgd fun K hK => ?_
  obtain ⟨b', o1, cap', w', hr, h2⟩ := run_append_opt (P := P) w t o'.type e i z size bytes ht hi hz hsize hby hzs b o len cap xs hrow hxs hcap p m c news hl hsrc h1 h63 hbytes
  unfold Oper.wp execOp
  simp only [ho, resolve, invoke, builtin, Sem.run_bind, Sem.run_pure, Result.andThen_ok, List.map_toArray, List.map_cons, List.map_nil, hs, hx, hr]
  exact hK _ _ (h b' o1 cap' w' h2)
end Go.Proofs.Ytpgaedmhgchgeaa

namespace Go.Proofs.Ytpgaedmhgchgeaa
set_option linter.unusedSimpArgs false
set_option linter.unusedVariables false
open Go.RowKit

def flatI (l : List (Int × Int)) : List Value := l.flatMap fun x => [.int .i64 x.1, .int .i64 x.2]

theorem flatI_len : ∀ l : List (Int × Int), (flatI l).length = l.length * 2
  | [] => rfl
  | x :: l => by simp only [flatI, List.flatMap_cons, List.length_append, List.length_cons, List.length_nil]; have := flatI_len l; simp only [flatI] at this; omega

theorem flatI_app (a b : List (Int × Int)) : flatI (a ++ b) = flatI a ++ flatI b := by simp [flatI]

theorem flatI_get : ∀ (l : List (Int × Int)) (j : Nat) (u : Value), (flatI l)[j]? = some u → ∃ x, l[j / 2]? = some x ∧ ((j % 2 = 0 ∧ u = .int .i64 x.1) ∨ (j % 2 = 1 ∧ u = .int .i64 x.2))
  | [], j, u, h => by simp [flatI] at h
  | x :: l, 0, u, h => by simp [flatI] at h; exact ⟨x, by simp, .inl ⟨rfl, h.symm⟩⟩
  | x :: l, 1, u, h => by simp [flatI] at h; exact ⟨x, by simp, .inr ⟨rfl, h.symm⟩⟩
  | x :: l, j + 2, u, h => by
    have h' : (flatI l)[j]? = some u := by simpa [flatI] using h
    obtain ⟨y, h1, h2⟩ := flatI_get l j u h'
    refine ⟨y, ?_, ?_⟩
    · rw [show (j + 2) / 2 = j / 2 + 1 by omega]; simpa using h1
    · rw [show (j + 2) % 2 = j % 2 by omega]; exact h2

theorem flatI_one (l : List (Int × Int)) : ∀ u ∈ flatI l, u.oneCell' = true := by
  intro u hu
  obtain ⟨x, _, h⟩ := List.mem_flatMap.1 hu
  simp at h
  rcases h with rfl | rfl <;> rfl

/-- A part of the items as a row's cells. -/
theorem ItemsAt.src {w : World} {b o : Nat} {l : List (Int × Int)} (h : ∀ i x, l[i]? = some x → w.cell? ⟨b, o + i * 2, none⟩ = some (.int .i64 x.1) ∧ w.cell? ⟨b, o + i * 2 + 1, none⟩ = some (.int .i64 x.2)) (s : Nat) (n : Nat) :
    ∀ j u, (flatI ((l.drop s).take n))[j]? = some u → w.cell? ((⟨b, o + s * 2, none⟩ : Addr).add j) = some u := by
  intro j u hj
  rw [add_none]
  obtain ⟨x, h1, h2⟩ := flatI_get _ j u hj
  have h3 : l[s + j / 2]? = some x := by
    have hlt := (List.getElem?_eq_some_iff.1 h1).1
    simp only [List.length_take, List.length_drop] at hlt
    rw [List.getElem?_take_of_lt (by omega), List.getElem?_drop] at h1
    exact h1
  obtain ⟨g1, g2⟩ := h _ x h3
  rcases h2 with ⟨h2, rfl⟩ | ⟨h2, rfl⟩
  · rw [show o + s * 2 + j = o + (s + j / 2) * 2 by omega]; exact g1
  · rw [show o + s * 2 + j = o + (s + j / 2) * 2 + 1 by omega]; exact g2

theorem infoItem : (Try.prog.info? 34).map (fun i => (i.zero, i.size, i.bytes)) = some (some (.agg #[.int .i64 0, .int .i64 0]), 2, 16) := by kernel_rfl

/-- A new row that holds the items. -/
def RowI (w : World) (v : Value) (l : List (Int × Int)) (base : Nat) : Prop := ∃ b o cap, v = .slice (some ⟨b, o, none⟩) l.length cap ∧ l.length ≤ cap ∧ base ≤ b ∧ RowAt w 34 b o (cap * 2) (flatI l)

theorem RowI.items {w : World} {v : Value} {l : List (Int × Int)} {base : Nat} (h : RowI w v l base) : ∃ p cap, v = .slice p l.length cap ∧ ItemsAt w p l := by
  obtain ⟨b, o, cap, rfl, _, _, hr⟩ := h
  refine ⟨_, cap, rfl, .inr ⟨b, o, rfl, fun i x hx => ?_⟩⟩
  have hs : ∀ (l : List (Int × Int)) (i : Nat) (x : Int × Int), l[i]? = some x → (flatI l)[i * 2]? = some (.int .i64 x.1) ∧ (flatI l)[i * 2 + 1]? = some (.int .i64 x.2) := by
    intro l
    induction l with
    | nil => intro i x h; simp at h
    | cons y l ih =>
      intro i x h
      cases i with
      | zero => obtain rfl : y = x := by simpa using h
                simp [flatI]
      | succ i =>
        obtain ⟨h1, h2⟩ := ih i x (by simpa using h)
        rw [show (i + 1) * 2 = i * 2 + 2 by omega]
        simp only [flatI] at h1 h2 ⊢
        simp [h1, h2]
  obtain ⟨g1, g2⟩ := hs l i x hx
  exact ⟨hr.cell g1, by have := hr.cell g2; rw [Nat.add_assoc]; exact this⟩
end Go.Proofs.Ytpgaedmhgchgeaa

namespace Go.Proofs.Ytpgaedmhgchgeaa
set_option linter.unusedSimpArgs false
set_option linter.unusedVariables false
open Go.RowKit

def CellsAt (w : World) (b o : Nat) (l : List (Int × Int)) : Prop := ∀ i x, l[i]? = some x → w.cell? ⟨b, o + i * 2, none⟩ = some (.int .i64 x.1) ∧ w.cell? ⟨b, o + i * 2 + 1, none⟩ = some (.int .i64 x.2)

theorem CellsAt.chg {w w' : World} {b o : Nat} {l : List (Int × Int)} (h : CellsAt w b o l) (c : Chg (fun _ _ => False) w w') : CellsAt w' b o l := fun i x hx => ⟨c.cell (fun h => h) (h i x hx).1, c.cell (fun h => h) (h i x hx).2⟩

/-- A Found as a value. -/
def foundV (o : Option (Int × Int)) : Value := match o with
  | some x => .agg #[.int .i64 x.1, .int .i64 x.2, .bool true]
  | none => .agg #[.int .i64 0, .int .i64 0, .bool false]

def putL (l : List (Int × Int)) (x : Int × Int) (i : Nat) (b : Bool) : List (Int × Int) := l.take i ++ x :: (if b then l.drop (i + 1) else l.drop i)
def putF (l : List (Int × Int)) (i : Nat) (b : Bool) : Option (Int × Int) := if b then l[i]? else none

def PutPost (rk : Int → Int) (l : List (Int × Int)) (x : Int × Int) (w : World) (e : Ending) (w' : World) : Prop :=
  ∃ v i b, PlaceIs (ltR rk) l x i b ∧ e = .returned (.tuple #[v, foundV (putF l i b)]) ∧ RowI w' v (putL l x i b) w.heap.size ∧ Chg (fun _ _ => False) w w'





end Go.Proofs.Ytpgaedmhgchgeaa

namespace Go.Proofs.Ytpgaedmhgchgeaa
set_option linter.unusedSimpArgs false
set_option linter.unusedVariables false
open Go.RowKit

def intE : El Int where
  es := 1
  enc := fun x => [.int .i64 x]
  T := 3
  epos := by omega
  elen := fun _ => rfl
  eone := by intro x v hv; simp at hv; subst hv; rfl

def itemE : El (Int × Int) where
  es := 2
  enc := fun x => [.int .i64 x.1, .int .i64 x.2]
  T := 34
  epos := by omega
  elen := fun _ => rfl
  eone := by intro x v hv; simp at hv; rcases hv with rfl | rfl <;> rfl


theorem infoInt : (Try.prog.info? 3).map (fun i => (i.zero, i.size, i.bytes)) = some (some (.int .i64 0), 1, 8) := by kernel_rfl

theorem SlE.int {w : World} {a : Option Addr} {n cap : Nat} {xs : List Int} (h : SlE intE w (.slice a n cap) xs) {j : Nat} {x : Int} (hj : xs[j]? = some x) : ∃ b o, a = some ⟨b, o, none⟩ ∧ w.cell? ⟨b, o + j, none⟩ = some (.int .i64 x) := by
  obtain ⟨b, o, h1, h2⟩ := h.cell hj
  exact ⟨b, o, h1, by have := h2 0 _ rfl; simpa [intE] using this⟩

theorem SlE.item {w : World} {a : Option Addr} {n cap : Nat} {xs : List (Int × Int)} (h : SlE itemE w (.slice a n cap) xs) {j : Nat} {x : Int × Int} (hj : xs[j]? = some x) : ∃ b o, a = some ⟨b, o, none⟩ ∧ w.cell? ⟨b, o + j * 2, none⟩ = some (.int .i64 x.1) ∧ w.cell? ⟨b, o + j * 2 + 1, none⟩ = some (.int .i64 x.2) := by
  obtain ⟨b, o, h1, h2⟩ := h.cell hj
  exact ⟨b, o, h1, by have := h2 0 _ rfl; simpa [itemE] using this, by have := h2 1 _ rfl; rw [Nat.add_assoc]; simpa [itemE] using this⟩


/-- A slice of items, in the elder words. -/
theorem SlE.itemsAt {w : World} {v : Value} {xs : List (Int × Int)} (h : SlE itemE w v xs) : ∃ a cap, v = .slice a xs.length cap ∧ ItemsAt w a xs ∧ xs.length ≤ cap := by
  obtain ⟨a, cap, rfl, h2, h3⟩ := id h
  refine ⟨a, cap, rfl, ?_, h2⟩
  rcases h3 with rfl | ⟨b, o, rfl, _⟩
  · exact .inl rfl
  · refine .inr ⟨b, o, rfl, fun i x hx => ?_⟩
    obtain ⟨b', o', e, g0, g1⟩ := h.item hx
    obtain ⟨rfl, rfl⟩ : b = b' ∧ o = o' := by simpa using e
    exact ⟨g0, g1⟩

theorem flatI_flat : ∀ xs : List (Int × Int), flat itemE.par xs = flatI xs
  | [] => rfl
  | x :: xs => by rw [flat_cons]; have := flatI_flat xs; simp only [flatI, List.flatMap_cons] at this ⊢; rw [this]; rfl

theorem ItemsAt.sl {w : World} {a : Option Addr} {cap : Nat} {xs : List (Int × Int)} (h : ItemsAt w a xs) (hc : xs.length ≤ cap) : SlE itemE w (.slice a xs.length cap) xs := by
  refine ⟨a, cap, rfl, hc, h.imp id ?_⟩
  rintro ⟨b, o, rfl, hcell⟩
  refine ⟨b, o, rfl, fun j u hj => ?_⟩
  rw [flatI_flat] at hj
  have := ItemsAt.src (l := xs) hcell 0 xs.length j u (by simpa using hj)
  rw [add_none] at this
  simpa using this

set_option maxRecDepth 100000 in
theorem equal_int (v v' : Value) (xs : List Int) (w : World) (h : SlE intE w v xs) (h' : SlE intE w v' xs) (hlen : xs.length ≤ 9223372036854775806) :
    Calls Try.prog 5 #[v, v'] w fun e w' => e = .returned (.bool true) ∧ Chg (fun _ _ => False) w w' := by
  obtain ⟨a, cap, rfl⟩ := h.form
  obtain ⟨a', cap', rfl⟩ := h'.form
  have HS := Lib.hid h
  have HS' := Lib.hid h'
  clear h h'
  go_enter Try.func5, Try.ntmps5
  go_wp2
  go_loopw [13] (fun i wr => ∃ (j : Nat), j ≤ xs.length ∧ i = .int .i64 j ∧ Chg (fun _ _ => False) w wr) (fun i _ => xs.length - (intOf i).toNat)
  case atStart => exact ⟨0, Nat.zero_le _, rfl, Chg.refl _ _⟩
  case round =>
    obtain ⟨j, hj, rfl, hc⟩ := hrel
    by_cases hlt : j < xs.length
    · obtain ⟨x, hx⟩ : ∃ x, xs[j]? = some x := ⟨_, List.getElem?_eq_getElem hlt⟩
      obtain ⟨b, o, rfl, g0⟩ := (HS.out.chg hc).int hx
      obtain ⟨b', o', rfl, g0'⟩ := (HS'.out.chg hc).int hx
      skip
      clear hx
      have i0 : (0 : Int) ≤ (j : Int) := by omega
      have i1 : (j : Int) < (xs.length : Int) := by omega
      go_wp2
      go_quiet (fail)
      go_wp2
      go_roundw
      case rel => exact ⟨j + 1, by omega, by go_num, hc.drewN _⟩
      case measure => simp [intOf]; omega
    · obtain rfl : j = xs.length := by omega
      go_wp2
      go_ret
      exact ⟨rfl, hc⟩
end Go.Proofs.Ytpgaedmhgchgeaa

namespace Go.Proofs.Ytpgaedmhgchgeaa
set_option linter.unusedSimpArgs false
set_option linter.unusedVariables false
open Go.ChangeShapes Go.WideShapes Go.ChangeAt Go.RowKit

section
variable {H : Type} {enc : TypeId × Value → H} {P : Program}

theorem open_nums {r : Reach} {b0 : Nat} {t e : TypeId} {v : Value} {d : DataW H} {ps : List MemPlace} {w : World} (ht : P.underlying t = some (.slice e)) (he : P.underlying e = some (.int .i64)) (ce : P.cellsOf e = 1)
    (hv : Value.okWide P w r b0 t v) (h : DataW.Trod enc P w 0 (fun _ => true) true t v d ps) : ∃ l, SlE intE w v l := by
  obtain ⟨a, len, cap, rfl⟩ := okWide_slice ht hv
  obtain ⟨fuel, hf⟩ := h
  rcases open_ints ht he ce hf with ⟨hc, _⟩ | ⟨a', len', cap', zs, hcs, _, hlc, _, hz, _, hi, _⟩
  · simp only [Value.cells, List.cons.injEq, Value.slice.injEq, and_true] at hc
    obtain ⟨rfl, rfl, rfl⟩ := hc
    exact ⟨[], none, 0, rfl, Nat.le_refl _, .inl rfl⟩
  · simp only [Value.cells, List.cons.injEq, Value.slice.injEq, and_true] at hcs
    obtain ⟨rfl, rfl, rfl⟩ := hcs
    have hsp : a'.spot = none := by
      simp only [Value.okWide, ht, Cell.okWide, Cell.ok] at hv
      exact hv.2.2.2.1
    have haddr : a' = ⟨a'.block, a'.off, none⟩ := by
      obtain ⟨b1, o1, s1⟩ := a'
      obtain rfl : s1 = none := hsp
      rfl
    have hz' : zs.length = cap := by simpa using hz
    have hl : (zs.take len).length = len := by simp; omega
    refine ⟨zs.take len, some a', cap, by rw [hl], by rw [hl]; exact hlc, .inr ⟨a'.block, a'.off, congrArg some haddr, fun j u hj => ?_⟩⟩
    have hfl : flat intE.par (zs.take len) = (zs.take len).map fun n => Value.int .i64 n := by
      induction zs.take len with
      | nil => rfl
      | cons x xs ih => rw [flat_cons, ih]; rfl
    rw [hfl, List.getElem?_map] at hj
    cases hx : (zs.take len)[j]? with
    | none => rw [hx] at hj; cases hj
    | some x =>
      rw [hx] at hj
      obtain rfl : Value.int .i64 x = u := Option.some.inj hj
      have hjl := (List.getElem?_eq_some_iff.1 hx).1
      rw [hl] at hjl
      have h2 := hi j (by omega)
      rw [haddr, add_none] at h2
      rw [List.getElem?_take_of_lt hjl] at hx
      simpa [List.getD, hx] using h2
end
end Go.Proofs.Ytpgaedmhgchgeaa

namespace Go.Proofs.Ytpgaedmhgchgeaa
set_option linter.unusedSimpArgs false
set_option linter.unusedVariables false
open Go.RowKit

/-- Items handed on one by one, until the function says no. -/
def runL {α : Type} (cont : List α → Bool) : List α → List α → List α × Bool
  | acc, [] => (acc, true)
  | acc, x :: l => if cont (acc ++ [x]) then runL cont (acc ++ [x]) l else (acc ++ [x], false)

theorem runL_append {α : Type} (cont : List α → Bool) : ∀ (l1 l2 acc : List α), runL cont acc (l1 ++ l2) = if (runL cont acc l1).2 then runL cont (runL cont acc l1).1 l2 else runL cont acc l1
  | [], l2, acc => by simp [runL]
  | x :: l1, l2, acc => by
    rw [List.cons_append, runL, runL]
    split
    · exact runL_append cont l1 l2 _
    · simp

theorem runL_true {α : Type} (cont : List α → Bool) : ∀ (l acc : List α), (runL cont acc l).2 = true → (runL cont acc l).1 = acc ++ l
  | [], acc, _ => by simp [runL]
  | x :: l, acc, h => by
    rw [runL] at h ⊢
    split at h
    · rename_i hc
      rw [if_pos hc, runL_true cont l _ h]; simp
    · cases h

theorem runL_len {α : Type} (cont : List α → Bool) : ∀ (l acc : List α), (runL cont acc l).1.length ≤ acc.length + l.length
  | [], acc => by simp [runL]
  | x :: l, acc => by
    rw [runL]
    split
    · have := runL_len cont l (acc ++ [x]); simp at this ⊢; omega
    · simp

/-- A bound: n calls, no bound for n below 1. -/
def contN {α : Type} (n : Int) (l : List α) : Bool := decide (n < 1) || decide ((l.length : Int) < n)

def firstN {α : Type} (n : Int) (l : List α) : List α := if n < 1 ∨ (l.length : Int) < n then l else l.take n.toNat

theorem runL_contN {α : Type} (n : Int) : ∀ (l acc : List α), (n < 1 ∨ (acc.length : Int) < n) → (runL (contN n) acc l).1 = acc ++ firstN (n - if n < 1 then 0 else acc.length) l
  | [], acc, h => by simp [runL, firstN]
  | x :: l, acc, h => by
    rw [runL]
    by_cases h1 : n < 1
    · have hc : contN n (acc ++ [x]) = true := by simp [contN, h1]
      rw [if_pos hc, runL_contN n l (acc ++ [x]) (.inl h1)]
      simp [firstN, h1]
    · by_cases h2 : ((acc ++ [x]).length : Int) < n
      · have hc : contN n (acc ++ [x]) = true := by simp only [contN, Bool.or_eq_true, decide_eq_true_eq]; exact .inr h2
        rw [if_pos hc, runL_contN n l (acc ++ [x]) (.inr h2)]
        simp only [if_neg h1, List.append_assoc]
        congr 1
        simp only [List.length_append, List.length_cons, List.length_nil] at h2 ⊢
        unfold firstN
        by_cases h3 : ((x :: l).length : Int) < n - acc.length
        · have h4 : (l.length : Int) < n - ((acc.length + (0 + 1) : Nat) : Int) := by simp only [List.length_cons] at h3; omega
          rw [if_pos (.inr h4), if_pos (.inr h3)]; rfl
        · have h4 : ¬ (n - ((acc.length + (0 + 1) : Nat) : Int) < 1 ∨ (l.length : Int) < n - ((acc.length + (0 + 1) : Nat) : Int)) := by simp only [List.length_cons] at h3; omega
          have h5 : ¬ (n - (acc.length : Int) < 1 ∨ ((x :: l).length : Int) < n - (acc.length : Int)) := by omega
          rw [if_neg h4, if_neg h5]
          have : (n - (acc.length : Int)).toNat = (n - ((acc.length + (0 + 1) : Nat) : Int)).toNat + 1 := by omega
          rw [this]; rfl
      · have hc : contN n (acc ++ [x]) = false := by simp only [contN, Bool.or_eq_false_iff, decide_eq_false_iff_not]; exact ⟨h1, h2⟩
        rw [if_neg (by rw [hc]; simp)]
        simp only [if_neg h1]
        have e : n - (acc.length : Int) = 1 := by
          rcases h with h | h
          · exact absurd h h1
          · simp at h2; omega
        show acc ++ [x] = acc ++ firstN (n - acc.length) (x :: l)
        congr 1
        rw [e]
        unfold firstN
        rw [if_neg (by simp; omega)]; rfl

theorem runL_first {α : Type} (n : Int) (l : List α) : (runL (contN n) [] l).1 = firstN n l := by
  have := runL_contN n l [] (by simp; omega)
  simpa using this

/-- The function's own variables: the slice at ob, the pointer to it at b2, the bound at b3, the inner function at cb; what was kept lies from rb on. -/
structure KeptI (n : Int) (ob b2 b3 rb : Nat) (w : World) (acc : List Int) : Prop where
  o : ∃ v, w.heap[ob]? = some (.cells #[v] 22 (0, 0)) ∧ OwnE intE w v acc rb
  p2 : w.heap[b2]? = some (.cells #[.pointer (some ⟨ob, 0, none⟩)] 43 (0, 0))
  p3 : w.heap[b3]? = some (.cells #[.int .i64 n] 3 (0, 0))
  lo : ob < rb
  l2 : b2 < rb
  l3 : b3 < rb
  n2 : ob ≠ b2
  n3 : ob ≠ b3
  rw_ : rb ≤ w.heap.size

theorem KeptI.keep {n : Int} {ob b2 b3 rb : Nat} {w w' : World} {acc : List Int} (h : KeptI n ob b2 b3 rb w acc) (c : Chg (fun _ _ => False) w w') : KeptI n ob b2 b3 rb w' acc := by
  obtain ⟨⟨v, h1, h2⟩, p2, p3, l0, l2, l3, n2, n3, hr⟩ := h
  have hb : ∀ {b : Nat} {o : Obj}, w.heap[b]? = some o → w'.heap[b]? = some o := fun h => by rw [c.block (heap_lt h) (fun _ h => h)]; exact h
  exact ⟨⟨v, hb h1, h2.keep c⟩, hb p2, hb p3, l0, l2, l3, n2, n3, Nat.le_trans hr c.size⟩

def TakeB (ob rb : Nat) (b : Nat) : Prop := b = ob ∨ rb ≤ b

set_option maxRecDepth 100000 in
set_option maxHeartbeats 1000000 in
theorem taker1I_any {n : Int} {ob b2 b3 rb : Nat} {w : World} {acc : List Int} (x : Int) (h : KeptI n ob b2 b3 rb w acc) (hlen : acc.length ≤ 1000000000000) :
    Calls Try.prog 32 #[.int .i64 x, .pointer (some ⟨b2, 0, none⟩), .pointer (some ⟨b3, 0, none⟩)] w fun e w' =>
      e = .returned (.bool (contN n (acc ++ [x]))) ∧ KeptI n ob b2 b3 rb w' (acc ++ [x]) ∧ Chg (fun b _ => TakeB ob rb b) w w' := by
  obtain ⟨i0, hi0, hz0, hz1, hz2⟩ := info_parts infoInt
  have HK := Lib.hid h
  go_enter Try.func32, Try.ntmps32
  go_wp2
  refine name_world (fun w1 => Chg (fun _ _ => False) w w1) (Chg.refl _ _) ?_
  clear h
  rintro w1 hc1
  obtain ⟨v, g1, g2⟩ := HK.out.o
  obtain ⟨_, p2, p3, l0, l2, l3, n2, n3, hr⟩ := HK.out.keep hc1
  have h1 : w1.heap[ob]? = some (.cells #[v] 22 (0, 0)) := by rw [hc1.block (heap_lt g1) (fun _ h => h)]; exact g1
  have h2 := g2.keep hc1
  have hvl : ∀ b, v.ownBlock = some b → rb ≤ b ∧ b < w.heap.size := fun b hb => g2.own_lt hb
  have HVL := Lib.hid hvl
  clear g1 g2 hvl
  have o0 := cell_of_block h1 0
  have q2 := cell_of_block p2 0
  have z0 := frozen_of_block h1 0
  simp only [List.getElem?_toArray, List.getElem?_cons_zero, List.getElem?_cons_succ] at o0 q2
  have hsz1 := hc1.size
  have HOW := Lib.hid h2
  have HB := Lib.hid h1
  clear h2 h1
  refine wp_region_script (fun w' => w'.cell? ⟨ob, 0, none⟩ = some v ∧ w'.cell? ⟨b2, 0, none⟩ = some (.pointer (some ⟨ob, 0, none⟩))) 8
    [(0, true), (1, true), (2, true), (3, true), (4, true), (5, false), (6, false), (7, true), (8, false)] (by kernel_rfl) (by kernel_rfl) (fun _ _ _ _ _ h => h) ⟨o0, q2⟩ ?_
  refine script_soft (by rfl) ?_ (by simp [Region.wanted, yielded]) ?_ ?_
  rotate_left
  · intro w' hS
    try obtain ⟨a1, a2⟩ := hS
    go_simp
    try with_reducible rfl
  simp only [Act.put, List.setIfInBounds_toArray, List.set_cons_zero, List.set_cons_succ]
  refine script_soft (by rfl) ?_ (by simp [Region.wanted, yielded]) ?_ ?_
  rotate_left
  · intro w' hS
    try obtain ⟨a1, a2⟩ := hS
    go_simp
    try with_reducible rfl
  simp only [Act.put, List.setIfInBounds_toArray, List.set_cons_zero, List.set_cons_succ]
  refine script_soft (by rfl) ?_ (by simp [Region.wanted, yielded]) ?_ ?_
  rotate_left
  · intro w' hS
    try obtain ⟨a1, a2⟩ := hS
    go_simp
    try with_reducible rfl
  simp only [Act.put, List.setIfInBounds_toArray, List.set_cons_zero, List.set_cons_succ]
  refine script_soft (by rfl) ?_ (by simp [Region.wanted, yielded]) ?_ ?_
  rotate_left
  · intro w' hS
    try obtain ⟨a1, a2⟩ := hS
    go_simp
    try with_reducible rfl
  simp only [Act.put, List.setIfInBounds_toArray, List.set_cons_zero, List.set_cons_succ]
  refine script_soft (by rfl) ?_ (by simp [Region.wanted, yielded]) ?_ ?_
  rotate_left
  · intro w' hS
    try obtain ⟨a1, a2⟩ := hS
    go_simp
    try with_reducible rfl
  simp only [Act.put, List.setIfInBounds_toArray, List.set_cons_zero, List.set_cons_succ]
  refine script_hard (by rfl) (by simp [Region.wanted, yielded]) (fun K hK => ?_)
  go_simp
  have hc2 : Chg (fun _ _ => False) w1 (w1.alloc (.cells #[.int .i64 x] 3)).drew := ((Chg.refl _ _).alloc _).drew
  refine hK _ _ (fun _ => ⟨hc2.cell (fun h => h) o0, hc2.cell (fun h => h) q2⟩) ?_
  clear hK K
  refine script_hard (by rfl) (by simp [Region.wanted, yielded]) (fun K hK => ?_)
  refine wp_append_E2 intE _ _ _ (by rfl) i0 _ 8 Try.underlying22 hi0 hz0 hz1 hz2 rfl v (by rfl) acc rb (HOW.out.keep hc2) (Nat.le_trans hr hc2.size) ⟨w1.heap.size, 0, none⟩ 1 _ (by rfl) [x] rfl (by decide) ?_ ?_ ?_ ?_
  · exact El.src1 intE (c := #[.int .i64 x]) (ha_at _ _ (by simp)) _ rfl
  · unfold maxLen; omega
  · omega
  intro v' w2 g1 g2 _
  obtain ⟨a1, c1, hv', hlc⟩ : ∃ a1 c1, v' = .slice a1 (acc.length + 1) c1 ∧ True := by
    obtain ⟨a1, c1, e, _⟩ := g1.sl
    exact ⟨a1, c1, by rw [e]; simp, trivial⟩
  subst hv'
  have hgv : Chg (fun b _ => v.ownBlock = some b) w1 w2 := (hc2.mono (fun _ _ _ h => h.elim)).trans g2
  have hg : Chg (fun b _ => rb ≤ b) w1 w2 := hgv.mono (fun b _ _ h => (HVL.out b h).1)
  have hs : ∀ {b : Nat} {ob : Obj}, b < rb → w1.heap[b]? = some ob → w2.heap[b]? = some ob := fun h g => by rw [hg.block (heap_lt g) (fun _ h2 => by omega)]; exact g
  have o0' := hg.cell (a := ⟨ob, 0, none⟩) (fun h => by have h2 : rb ≤ ob := h; omega) o0
  have q2' := hg.cell (a := ⟨b2, 0, none⟩) (fun h => by have h2 : rb ≤ b2 := h; omega) q2
  have h1' := hs l0 HB.out
  have p2' := hs l2 p2
  have p3' := hs l3 p3
  refine hK _ _ (fun _ => ⟨o0', q2'⟩) ?_
  clear hK K
  have z0' := frozen_of_block h1' 0
  have HB2 := Lib.hid h1'
  have HP2 := Lib.hid p2'
  have HP3 := Lib.hid p3'
  have hsz2 := hg.size
  clear h1' p2' p3' p2 p3 z0
  refine script_soft (by rfl) ?_ (by simp [Region.wanted, yielded]) ?_ ?_
  rotate_left
  · intro w' hS
    try obtain ⟨a1, a2⟩ := hS
    go_simp
    try with_reducible rfl
  simp only [Act.put, List.setIfInBounds_toArray, List.set_cons_zero, List.set_cons_succ]
  refine script_hard (by rfl) (by simp [Region.wanted, yielded]) (fun K hK => ?_)
  go_simp
  refine hK _ _ (fun h => absurd h (by decide)) (script_nil ?_)
  clear hK K
  have hob : (w2.setCell ⟨ob, 0, none⟩ (.slice a1 (acc.length + 1) c1)).heap[ob]? = some (.cells #[.slice a1 (acc.length + 1) c1] 22 (0, 0)) := by rw [hs_same HB2.out]; rfl
  have hst : Chg (fun b _ => b = ob) w2 (w2.setCell ⟨ob, 0, none⟩ (.slice a1 (acc.length + 1) c1)) := (Chg.refl _ _).setCell (.inl rfl) _
  have hfin : KeptI n ob b2 b3 rb (w2.setCell ⟨ob, 0, none⟩ (.slice a1 (acc.length + 1) c1)) (acc ++ [x]) := by
    have ho : ∀ {b : Nat} {o : Obj}, ob ≠ b → w2.heap[b]? = some o → (w2.setCell ⟨ob, 0, none⟩ (.slice a1 (acc.length + 1) c1)).heap[b]? = some o := fun h g => by rw [hst.block (heap_lt g) (fun _ e => h e.symm)]; exact g
    exact ⟨⟨_, hob, g1.chgOwn hst (fun b _ hb e => by have := (g1.own_lt hb).1; omega)⟩, ho n2 HP2.out, ho n3 HP3.out, l0, l2, l3, n2, n3, Nat.le_trans hr (Nat.le_trans hsz2 hst.size)⟩
  have hall : Chg (fun b _ => TakeB ob rb b) w (w2.setCell ⟨ob, 0, none⟩ (.slice a1 (acc.length + 1) c1)) := ((hc1.mono (fun _ _ _ h => h.elim)).trans (hg.mono (fun _ _ _ h => .inr h))).trans (hst.mono (fun _ _ _ h => .inl h))
  have HFIN := Lib.hid hfin
  have HALL := Lib.hid hall
  have k1 := cell_of_block hob 0
  have k2 := hst.cell (a := ⟨b2, 0, none⟩) (fun h => n2 h.symm) q2'
  have k3 := hst.cell (a := ⟨b3, 0, none⟩) (fun h => n3 h.symm) (cell_of_block HP3.out 0)
  simp only [List.getElem?_toArray, List.getElem?_cons_zero, List.getElem?_cons_succ] at k1 k3
  clear hob hst hfin hall o0 q2 o0' q2' hc2 hg hgv g1 g2
  have hcn : contN n (acc ++ [x]) = (decide (n < 1) || decide (((acc.length : Int) + 1) < n)) := by unfold contN; simp
  have HCN := Lib.hid hcn
  clear hcn
  have la1 : (0 : Int) ≤ (acc.length : Int) := by omega
  have la2 : (acc.length : Int) ≤ 1000000000000 := by omega
  by_cases hn1 : n < 1
  · have HD := Lib.hid (show contN n (acc ++ [x]) = true by rw [HCN.out]; simp [hn1])
    go_wp2_with fail
    go_quiet (fail)
    go_wp2
    go_ret
    refine ⟨?_, HFIN.out.keep ((Chg.refl _ _).drewN _), HALL.out.drewN _⟩
    show Ending.returned (.bool true) = _
    rw [HD.out]
  · have hd : decide (n < 1) = false := by simpa using hn1
    have HD := Lib.hid (show contN n (acc ++ [x]) = decide (((acc.length : Int) + 1) < n) by rw [HCN.out, hd]; rfl)
    go_wp2_with fail
    go_quiet (fail)
    go_wp2
    go_ret
    refine ⟨?_, HFIN.out.keep ((Chg.refl _ _).drewN _), HALL.out.drewN _⟩
    show Ending.returned (.bool (decide (((acc.length : Int) + 1) < n))) = _
    rw [HD.out]

theorem taker_any (ob : Nat) (n : Int) (w : World) :
    Calls Try.prog 19 #[.pointer (some ⟨ob, 0, none⟩), .int .i64 n] w fun e w' =>
      e = .returned (.func (.func 32) #[] #[.pointer (some ⟨w.heap.size, 0, none⟩), .pointer (some ⟨w.heap.size + 1, 0, none⟩)]) ∧
      w' = (w.alloc (.cells #[.pointer (some ⟨ob, 0, none⟩)] 43)).alloc (.cells #[.int .i64 n] 3) := by
  have hmf : ∀ (fn : Fn) (first cap : Array Value) (w : World), (Instr.makeFunc fn first cap).run Try.prog w = .ok (.func fn first cap) w := fun _ _ _ _ => rfl
  go_enter Try.func19, Try.ntmps19
  go_wp2
  go_ret
  exact ⟨rfl, rfl⟩

def fnI (b2 b3 : Nat) : Value := .func (.func 32) #[] #[.pointer (some ⟨b2, 0, none⟩), .pointer (some ⟨b3, 0, none⟩)]

theorem takerI_kept {n : Int} {ob : Nat} {w : World} (ho : w.heap[ob]? = some (.cells #[.slice none 0 0] 22 (0, 0))) :
    KeptI n ob w.heap.size (w.heap.size + 1) ((w.alloc (.cells #[.pointer (some ⟨ob, 0, none⟩)] 43)).alloc (.cells #[.int .i64 n] 3)).heap.size ((w.alloc (.cells #[.pointer (some ⟨ob, 0, none⟩)] 43)).alloc (.cells #[.int .i64 n] 3)) [] := by
  have hol := heap_lt ho
  refine ⟨⟨_, ?_, OwnE.nil _ _ _⟩, ?_, ?_, by simp only [World.size_alloc]; omega, by simp only [World.size_alloc]; omega, by simp only [World.size_alloc]; omega, by omega, by omega, Nat.le_refl _⟩
  · rw [ha_lt _ _ (by simp only [World.size_alloc]; omega), ha_lt _ _ hol]; exact ho
  · rw [ha_lt _ _ (by simp only [World.size_alloc]; omega)]; exact ha_at _ _ rfl
  · exact ha_at _ _ (by simp)

/-- The function that Set.Ascend hands on: its variable lies at b2, the keeping one's at b3 and behind it. -/
structure Kept (n : Int) (ob b2 b3 rb : Nat) (w : World) (acc : List Int) : Prop where
  i : KeptI n ob b3 (b3 + 1) rb w acc
  f : w.heap[b2]? = some (.cells #[fnI b3 (b3 + 1)] 41 (0, 0))
  l : b2 < rb
  ne : b2 ≠ ob

theorem Kept.keep {n : Int} {ob b2 b3 rb : Nat} {w w' : World} {acc : List Int} (h : Kept n ob b2 b3 rb w acc) (c : Chg (fun _ _ => False) w w') : Kept n ob b2 b3 rb w' acc :=
  ⟨h.i.keep c, by rw [c.block (heap_lt h.f) (fun _ h => h)]; exact h.f, h.l, h.ne⟩

def fnG (b2 _b3 : Nat) : Value := .func (.func 31) #[] #[.pointer (some ⟨b2, 0, none⟩)]

set_option maxRecDepth 100000 in
theorem taker1_any {n : Int} {ob b2 b3 rb : Nat} {w : World} {acc : List Int} (x : Int) (h : Kept n ob b2 b3 rb w acc) (hlen : acc.length ≤ 1000000000000) :
    Calls Try.prog 31 #[.int .i64 x, .agg #[], .pointer (some ⟨b2, 0, none⟩)] w fun e w' =>
      e = .returned (.bool (contN n (acc ++ [x]))) ∧ Kept n ob b2 b3 rb w' (acc ++ [x]) ∧ Chg (fun b _ => TakeB ob rb b) w w' := by
  have HI := Lib.hid (fun w1 (c : Chg (fun _ _ => False) w w1) => taker1I_any x (h.i.keep c) hlen)
  have HF := Lib.hid h
  clear h
  go_enter Try.func31, Try.ntmps31
  go_upto_region 1 with fail
  refine name_world (fun w1 => Chg (fun _ _ => False) w w1) ((Chg.refl _ _).alloc _) ?_
  intro w1 hc1
  have c0 := cell_of_block (HF.out.keep hc1).f 0
  unfold fnI at c0
  simp only [List.getElem?_toArray, List.getElem?_cons_zero] at c0
  go_wp2_with fail
  refine (HI.out _ hc1).mono ?_
  rintro e w2 ⟨rfl, hk2, hc2⟩
  have hcc : Chg (fun b _ => TakeB ob rb b) w w2 := (hc1.mono (fun _ _ _ h => h.elim)).trans hc2
  have hb2 : w2.heap[b2]? = some (.cells #[fnI b3 (b3 + 1)] 41 (0, 0)) := by
    rw [hcc.block (heap_lt HF.out.f) (fun _ h => by
      rcases h with h | h
      · exact HF.out.ne h
      · have := HF.out.l; omega)]
    exact HF.out.f
  have FIN : Hid (Kept n ob b2 b3 rb w2 (acc ++ [x])) := Lib.hid ⟨hk2, hb2, HF.out.l, HF.out.ne⟩
  clear hb2 c0
  go_wp2_with fail
  go_ret
  exact ⟨rfl, FIN.out, hcc⟩

theorem runL_cons {α : Type} {cont : List α → Bool} {acc : List α} {x : α} {l : List α} (h : cont (acc ++ [x]) = true) : runL cont acc (x :: l) = runL cont (acc ++ [x]) l := by rw [runL, if_pos h]
theorem runL_stop {α : Type} {cont : List α → Bool} {acc : List α} {x : α} {l : List α} (h : cont (acc ++ [x]) = false) : runL cont acc (x :: l) = (acc ++ [x], false) := by rw [runL, if_neg (by rw [h]; simp)]
theorem runL_app_true {α : Type} {cont : List α → Bool} {acc : List α} {l1 l2 : List α} (h : (runL cont acc l1).2 = true) : runL cont acc (l1 ++ l2) = runL cont (runL cont acc l1).1 l2 := by rw [runL_append, if_pos h]
theorem runL_app_false {α : Type} {cont : List α → Bool} {acc : List α} {l1 l2 : List α} (h : (runL cont acc l1).2 = false) : runL cont acc (l1 ++ l2) = runL cont acc l1 := by rw [runL_append, if_neg (by rw [h]; simp)]


/-- What a walk over items with the keeping function leaves. -/
def RunPost (n : Int) (ob b2 b3 rb : Nat) (acc l : List Int) (w : World) (e : Ending) (w' : World) : Prop :=
  e = .returned (.bool (runL (contN n) acc l).2) ∧ Kept n ob b2 b3 rb w' (runL (contN n) acc l).1 ∧ Chg (fun b _ => TakeB ob rb b) w w'

end Go.Proofs.Ytpgaedmhgchgeaa

namespace Go.Proofs.Ytpgaedmhgchgeaa
set_option linter.unusedSimpArgs false
set_option linter.unusedVariables false
open Go.RowKit

/-- A slice of items of the call's own: nil, or a row from base on. -/
def OutI (w : World) (v : Value) (l : List (Int × Int)) (base : Nat) : Prop := (l = [] ∧ v = .slice none 0 0) ∨ RowI w v l base

theorem RowI.chg {w w' : World} {v : Value} {l : List (Int × Int)} {base : Nat} (h : RowI w v l base) (c : Chg (fun _ _ => False) w w') : RowI w' v l base := by
  obtain ⟨b, o, cap, h1, h2, h3, h4⟩ := h
  exact ⟨b, o, cap, h1, h2, h3, h4.chg c (fun _ _ h => h)⟩

theorem RowI.mono {w : World} {v : Value} {l : List (Int × Int)} {base base' : Nat} (h : RowI w v l base) (hb : base' ≤ base) : RowI w v l base' := by
  obtain ⟨b, o, cap, h1, h2, h3, h4⟩ := h
  exact ⟨b, o, cap, h1, h2, by omega, h4⟩

theorem OutI.chg {w w' : World} {v : Value} {l : List (Int × Int)} {base : Nat} (h : OutI w v l base) (c : Chg (fun _ _ => False) w w') : OutI w' v l base := h.imp id (fun h => h.chg c)

theorem OutI.items {w : World} {v : Value} {l : List (Int × Int)} {base : Nat} (h : OutI w v l base) : ∃ p cap, v = .slice p l.length cap ∧ ItemsAt w p l ∧ l.length ≤ cap := by
  rcases h with ⟨rfl, rfl⟩ | h
  · exact ⟨none, 0, rfl, .inl rfl, Nat.le_refl _⟩
  · obtain ⟨p, cap, h1, h2⟩ := h.items
    obtain ⟨b, o, cap', h3, h4, _⟩ := h
    rw [h1] at h3
    have : cap = cap' := by injection h3
    exact ⟨p, cap, h1, h2, by omega⟩

theorem putL_ins {lt : Int × Int → Int × Int → Bool} {l : List (Int × Int)} {x : Int × Int} {i : Nat} {b : Bool}
    (h : i ≤ l.length ∧ (∀ j y, j < i → l[j]? = some y → lt y x = true) ∧ (∀ y, l[i]? = some y → lt y x = false) ∧ ((∃ y, l[i]? = some y ∧ lt x y = false ∧ b = true) ∨ ((∀ y, l[i]? = some y → lt x y = true) ∧ b = false))) :
    putL l x i b = insL lt x l ∧ putF l i b = fndL lt x l := by
  obtain ⟨h1, h2, h3, h4⟩ := h
  have hp : ∀ a ∈ l.take i, lt a x = true := by
    intro a ha
    obtain ⟨j, g1, g2⟩ := mem_take_get ha
    exact h2 j a g1 g2
  have e1 : insL lt x l = l.take i ++ insL lt x (l.drop i) := by
    conv => lhs; rw [← List.take_append_drop i l]
    exact insL_pre hp
  have e2 : fndL lt x l = fndL lt x (l.drop i) := by
    conv => lhs; rw [← List.take_append_drop i l]
    exact fndL_pre hp
  rcases h4 with ⟨y, hy, hxy, rfl⟩ | ⟨h4, rfl⟩
  · have hi := (List.getElem?_eq_some_iff.1 hy).1
    have hd : l.drop i = y :: l.drop (i + 1) := by rw [List.drop_eq_getElem_cons hi, (List.getElem?_eq_some_iff.1 hy).2]
    rw [e1, e2, hd]
    have := h3 y hy
    exact ⟨by simp [putL, insL, this, hxy], by simp [putF, fndL, this, hxy, hy]⟩
  · rw [e1, e2]
    cases hd : l.drop i with
    | nil => exact ⟨by simp [putL, insL, hd], by simp [putF, fndL]⟩
    | cons y ys =>
      have hy : l[i]? = some y := by
        have := List.getElem?_drop (xs := l) (i := i) (j := 0)
        rw [hd] at this; simpa using this.symm
      exact ⟨by simp [putL, insL, hd, h3 y hy, h4 y hy], by simp [putF, fndL, h3 y hy, h4 y hy]⟩

def PutPost2 (rk : Int → Int) (l : List (Int × Int)) (x : Int × Int) (w : World) (e : Ending) (w' : World) : Prop :=
  ∃ v, e = .returned (.tuple #[v, foundV (fndL (ltR rk) x l)]) ∧ RowI w' v (insL (ltR rk) x l) w.heap.size ∧ Chg (fun _ _ => False) w w'





def treeL (lt : Int × Int → Int × Int → Bool) (l : List (Int × Int)) : List (Int × Int) := l.foldl (fun acc x => insL lt x acc) []

theorem treeL_take {lt : Int × Int → Int × Int → Bool} {l : List (Int × Int)} {j : Nat} {x : Int × Int} (h : l[j]? = some x) : treeL lt (l.take (j + 1)) = insL lt x (treeL lt (l.take j)) := by
  unfold treeL
  rw [List.take_add_one, h, List.foldl_append]; rfl

theorem treeL_len' (lt : Int × Int → Int × Int → Bool) : ∀ (l acc : List (Int × Int)), (l.foldl (fun acc x => insL lt x acc) acc).length ≤ acc.length + l.length
  | [], acc => by simp
  | x :: l, acc => by
    have h1 := treeL_len' lt l (insL lt x acc)
    have h2 := insL_len (lt := lt) (x := x) (l := acc)
    simp only [List.foldl_cons, List.length_cons]
    split at h2 <;> omega

theorem treeL_len (lt : Int × Int → Int × Int → Bool) (l : List (Int × Int)) : (treeL lt l).length ≤ l.length := by
  have := treeL_len' lt l []
  simpa [treeL] using this

theorem treeL_take_len (lt : Int × Int → Int × Int → Bool) (l : List (Int × Int)) (j : Nat) : (treeL lt (l.take j)).length ≤ l.length := by
  have := treeL_len lt (l.take j)
  simp only [List.length_take] at this
  omega

def TreePost (lt : Int × Int → Int × Int → Bool) (l : List (Int × Int)) (w : World) (e : Ending) (w' : World) : Prop := ∃ v, e = .returned v ∧ OutI w' v (treeL lt l) w.heap.size ∧ Chg (fun _ _ => False) w w'





end Go.Proofs.Ytpgaedmhgchgeaa

namespace Go.Proofs.Ytpgaedmhgchgeaa
set_option linter.unusedSimpArgs false
set_option linter.unusedVariables false
open Go.RowKit

def atL (l : List (Int × Int)) (i : Int) : Option (Int × Int) := if 0 ≤ i then l[i.toNat]? else none
def cutL0 (l : List (Int × Int)) (i : Int) : List (Int × Int) := if 0 ≤ i then l.take i.toNat ++ l.drop (i.toNat + 1) else l

def CutPost (p : Option Addr) (cap : Nat) (l : List (Int × Int)) (i : Int) (w : World) (e : Ending) (w' : World) : Prop :=
  ∃ v, e = .returned (.tuple #[v, foundV (atL l i)]) ∧ ((v = .slice p l.length cap ∧ atL l i = none) ∨ (RowI w' v (cutL0 l i) w.heap.size ∧ (atL l i).isSome)) ∧ Chg (fun _ _ => False) w w'









def makeV (ordv : Value) (d : Int) (b : Bool) : Value := .agg #[ordv, .int .i64 d, .bool b]

end Go.Proofs.Ytpgaedmhgchgeaa

namespace Go.Proofs.Ytpgaedmhgchgeaa
set_option linter.unusedSimpArgs false
set_option linter.unusedVariables false
open Go.RowKit

def OwnPost {α : Type} (p : El α) (xs : List α) (w : World) (e : Ending) (w' : World) : Prop := ∃ v, e = .returned v ∧ OwnE p w' v xs w.heap.size ∧ Chg (fun _ _ => False) w w'

set_option maxRecDepth 100000 in
theorem specKeys_any (v : Value) (xs : List (Int × Int)) (w : World) (h : SlE itemE w v xs) (hlen : xs.length ≤ 2147483648) :
    Calls Try.prog 9 #[v] w (OwnPost intE (xs.map Prod.fst) w) := by
  obtain ⟨a, cap, rfl⟩ := h.form
  have HS := Lib.hid h
  clear h
  obtain ⟨i0, hi0, hz0, hz1, hz2⟩ := info_parts infoInt
  go_enter Try.func9, Try.ntmps9
  go_wp2
  go_loopw [3, 8] (fun v i wr => ∃ (j : Nat), j ≤ xs.length ∧ i = .int .i64 j ∧ OwnE intE wr v ((xs.map Prod.fst).take j) w.heap.size ∧ Chg (fun _ _ => False) w wr) (fun _ i _ => xs.length - (intOf i).toNat)
  case atStart => exact ⟨0, Nat.zero_le _, rfl, OwnE.nil _ _ _, Chg.refl _ _⟩
  case round =>
    obtain ⟨j, hj, rfl, how, hc⟩ := hrel
    have hsz := hc.size
    by_cases hlt : j < xs.length
    · obtain ⟨x, hx⟩ : ∃ x, xs[j]? = some x := ⟨_, List.getElem?_eq_getElem hlt⟩
      obtain ⟨b, o, rfl, g0, g1⟩ := (HS.out.chg hc).item hx
      have ht : (xs.map Prod.fst).take (j + 1) = (xs.map Prod.fst).take j ++ [x.1] := by rw [List.take_add_one, List.getElem?_map, hx]; rfl
      have HT := Lib.hid ht
      clear hx ht
      have i0' : (0 : Int) ≤ (j : Int) := by omega
      have i1 : (j : Int) < (xs.length : Int) := by omega
      have hc2 : Chg (fun _ _ => False) w ((wr.alloc (.cells #[.int .i64 x.1, .int .i64 x.2] 34)).alloc (.cells #[.int .i64 x.1] 3)) := (hc.alloc _).alloc _
      have how2 := how.keep (((Chg.refl (fun _ _ => False) wr).alloc (.cells #[.int .i64 x.1, .int .i64 x.2] 34)).alloc (.cells #[.int .i64 x.1] 3))
      have HOW := Lib.hid how2
      clear how how2
      go_wp2_with (refine wpList_append_E intE (by rfl) _ _ _ (by rfl) i0 _ 8 Try.underlying22 hi0 hz0 hz1 hz2 rfl _ (by rfl) _ w.heap.size HOW.out hc2.size ⟨wr.heap.size + 1, 0, none⟩ 1 _ (by rfl) [x.1] rfl (by decide) ?_ ?_ ?_ ?_)
      · exact El.src1 intE (c := #[.int .i64 x.1]) (ha_at _ _ (by simp)) _ rfl
      · have : ((xs.map Prod.fst).take j).length ≤ xs.length := by simp; omega
        unfold maxLen; omega
      · have : ((xs.map Prod.fst).take j).length ≤ xs.length := by simp; omega
        omega
      intro v' w' h1 h2 _
      have hc3 : Chg (fun _ _ => False) w w' := hc2.trans' h2 (fun _ _ _ h => h) (fun b o hb h => by omega)
      go_wp2
      go_roundw
      case rel => exact ⟨j + 1, by omega, by go_num, by rw [HT.out]; exact h1, hc3⟩
      case measure => simp [intOf]; omega
    · obtain rfl : j = xs.length := by omega
      go_wp2
      go_ret
      exact ⟨_, rfl, by rw [List.take_of_length_le (by simp)] at how; exact how, hc⟩

end Go.Proofs.Ytpgaedmhgchgeaa

namespace Go.Proofs.Ytpgaedmhgchgeaa
set_option linter.unusedSimpArgs false
set_option linter.unusedVariables false
open Go.RowKit

def exL : List (Int × Int) := [(5, 1), (3, 2), (9, 3), (3, 4), (1, 5), (7, 6), (8, 7)]

def exCells : Array Value := #[.int .i64 5, .int .i64 1, .int .i64 3, .int .i64 2, .int .i64 9, .int .i64 3, .int .i64 3, .int .i64 4, .int .i64 1, .int .i64 5, .int .i64 7, .int .i64 6, .int .i64 8, .int .i64 7]

def ExPost (w : World) (e : Ending) (w' : World) : Prop := ∃ p, e = .returned (.slice p exL.length 7) ∧ ItemsAt w' p exL ∧ Chg (fun _ _ => False) w w'







end Go.Proofs.Ytpgaedmhgchgeaa
