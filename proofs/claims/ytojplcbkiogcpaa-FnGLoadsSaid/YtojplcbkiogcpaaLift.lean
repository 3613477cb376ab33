/- From a law's contract to its row: the arguments read as they did; a slice of items opened. -/
import Derived.ProofKit
import Derived.OpenShut
import Derived.Carry
import Derived.ChangeSame
import Derived.Deep.SlicePairs
import Derived.Test.YtojplcbkiogcpaaSb
namespace Go.Proofs.Ytojplcbkiogcpaa
set_option linter.unusedSimpArgs false
set_option linter.unusedVariables false
open Go.ChangeShapes Go.WideShapes Go.ChangeAt Go.RowKit

section
variable {H : Type} {enc : TypeId × Value → H} {P : Program}

theorem trodAll_carry (hl : laidOutB P = true) {W W' : World} (hb : Below W.heap.size W W') : ∀ {ts : List TypeId} {vs : List Value} {ds : List (DataW H)} {ps : List MemPlace},
    (ts.all fun t => P.readableRec t && decide (t < P.types.size)) = true → DataW.TrodAll enc P W 0 (fun _ => true) true ts vs ds ps → (∀ x ∈ ps, x.block < W.heap.size) → ∀ sp : Nat → Bool, (∀ p ∈ ps, sp p.block = true) → DataW.TrodAll enc P W' 0 sp true ts vs ds ps
  | [], _, _, _, _, h, _, _, _ => by
    obtain ⟨rfl, rfl, rfl⟩ := trodAll_nil h
    exact trodAll_mk0
  | t :: ts, _, _, _, ht, h, hlt, sp, hsp => by
    obtain ⟨v, vs1, d, ds1, a, b, rfl, rfl, rfl, h1, h2⟩ := trodAll_cons h
    simp only [List.all_cons, Bool.and_eq_true, decide_eq_true_eq] at ht
    obtain ⟨⟨g1, g2⟩, g3⟩ := ht
    refine ⟨a, b, WideElems.Trod_stays hl g1 g2 h1 (fun x hx => hb.same (hlt x (List.mem_append.2 (.inl hx)))) (fun x hx => hsp x (List.mem_append.2 (.inl hx))), trodAll_carry hl hb g3 h2 (fun x hx => hlt x (List.mem_append.2 (.inr hx))) sp (fun x hx => hsp x (List.mem_append.2 (.inr hx))), rfl⟩

/-- A law's end: it returned true, and below the heap's old size nothing has turned. -/
theorem law_post {f : Func} {s : ChangeSpec} {apart fresh handsOn again : Bool} {W W' : World} {args : Array Value} {ds gs : List (DataW H)} {before : List MemPlace} {tb : TypeId} (hl : laidOutB P = true)
    (hts : (f.params.toList.all fun t => P.readableRec t && decide (t < P.types.size)) = true) (hr : f.resultTypes = #[tb]) (hb4 : P.underlying tb = some .bool)
    (hW : DataW.Whole enc P f.params.toList s.vars apart W args.toList ds gs before) (hv : s.vars = []) (hfn : s.fn H ds = { results := [.lit (.bool true)], args := ds }) (hb : Below W.heap.size W W') :
    s.post enc P f apart fresh handsOn again W args (.bool true) W' := by
  have hW0 := hW
  obtain ⟨p, q, hA, hV, rfl, hz, hn⟩ := hW0
  rw [hv] at hV
  obtain ⟨rfl, rfl⟩ := trodVars_none hV
  have hfn' : s.fn H (ds ++ []) = { results := [.lit (.bool true)], args := ds } := by rw [List.append_nil]; exact hfn
  have hvn : (s.fn H (ds ++ [])).vars = [] := by rw [hfn']
  have hlt : ∀ x ∈ p, x.block < W.heap.size := fun x hx => hW.lt x (by simpa using hx)
  have hres : ∀ (b : Nat) (sp : Nat → Bool) (hd : Bool), DataW.TrodAll enc P W' b sp hd f.resultTypes.toList ((Value.bool true).resultList f.resultTypes.size) (s.fn H (ds ++ [])).results [] := by
    intro b sp hd
    rw [hfn', hr]
    exact trodAll_mk1 (shut_bool hb4 _)
  have hargs : ∀ sp : Nat → Bool, (∀ x ∈ p, sp x.block = true) → DataW.TrodAll enc P W' 0 sp true f.params.toList args.toList (s.fn H (ds ++ [])).args p := by
    intro sp hsp
    rw [hfn']
    exact trodAll_carry hl hb hts hA hlt sp hsp
  have hvars : ∀ sp : Nat → Bool, DataW.TrodVars enc P W' sp s.vars (s.fn H (ds ++ [])).vars [] := by
    intro sp
    rw [hvn, hv]
    exact rfl
  have hold : ∀ x ∈ p, (fun b => decide (b < W.heap.size)) x.block = true := fun x hx => by simpa using hlt x hx
  refine ⟨ds, [], p ++ [], [], p, [], hW, hres _ _ _, hargs _ hold, hvars _, World.keptBut_mono (fun x hx => ⟨hx, ?_⟩) (hb.frame (· ∈ p ++ [])), fun _ => ?_⟩
  · simpa using hx
  · refine ⟨ok_one hr rfl (okWide_bool_mk hb4 _), _, _, ([] ++ p) ++ [], ⟨[] ++ p, [], trodAll_append (hargs _ (fun _ _ => rfl)) (hres _ _ _), hvars _, rfl, ?_, ?_⟩, ?_⟩
    · intro b off hp
      have hin : MemPlace.cell b off ∈ p := by simpa using hp
      rw [hb.frozen (hlt _ hin)]
      exact hz b off (by simpa using hin)
    · intro ha
      have := hn ha
      simpa using this
    · intro x hx _
      simpa using hx

/-- A slice of structs of two integers opened. -/
theorem open_items {r : Reach} {b0 : Nat} {t e t3 : TypeId} {f0 f1 : Field} {v : Value} {d : DataW H} {ps : List MemPlace} {w : World} (ht : P.underlying t = some (.slice e)) (he : P.underlying e = some (.struct #[f0, f1])) (ce : P.cellsOf e = 2) (o0 : f0.offset = 0) (o1 : f1.offset = 1)
    (g0 : f0.type = t3) (g1 : f1.type = t3) (c3 : P.cellsOf t3 = 1) (h3 : P.underlying t3 = some (.int .i64)) (hv : Value.okWide P w r b0 t v) (h : DataW.Trod enc P w 0 (fun _ => true) true t v d ps) :
    ∃ p l cap, v = .slice p l.length cap ∧ ItemsAt w p l ∧ l.length ≤ cap := by
  obtain ⟨a, len, cap, rfl⟩ := okWide_slice ht hv
  obtain ⟨fuel, hf⟩ := h
  rcases Deep.open_slice_pairs ht he ce o0 o1 (by rw [g0]; exact c3) (by rw [g1]; exact c3) hf with ⟨hc, _⟩ | ⟨a', len', cap', m, n, V0, V1, D0, D1, P0, P1, hcs, _, hlc, _, hm, _, hi⟩
  · simp only [Value.cells, List.cons.injEq, Value.slice.injEq, and_true] at hc
    obtain ⟨rfl, rfl, rfl⟩ := hc
    exact ⟨none, [], 0, rfl, .inl rfl, Nat.le_refl _⟩
  · simp only [Value.cells, List.cons.injEq, Value.slice.injEq, and_true] at hcs
    obtain ⟨rfl, rfl, rfl⟩ := hcs
    have hsp : a'.spot = none := by
      simp only [Value.okWide, ht, Cell.okWide, Cell.ok] at hv
      exact hv.2.2.2.1
    have haddr : a' = ⟨a'.block, a'.off, none⟩ := by
      obtain ⟨b1, o1, s1⟩ := a'
      obtain rfl : s1 = none := hsp
      rfl
    have hm' : m = cap := by simpa using hm
    subst hm'
    refine ⟨some a', (List.range len).map fun i => (intOf (V0 i), intOf (V1 i)), m, by simp, .inr ⟨a'.block, a'.off, ?_, fun i x hx => ?_⟩, by simpa using hlc⟩
    · exact congrArg some haddr
    · have hil : i < len := by
        have := (List.getElem?_eq_some_iff.1 hx).1
        simpa using this
      have hxe : x = (intOf (V0 i), intOf (V1 i)) := by
        rw [List.getElem?_map, List.getElem?_range hil] at hx
        simpa using hx.symm
      subst hxe
      obtain ⟨k0, k1, k2, k3⟩ := hi i (by omega)
      rw [g0] at k2
      rw [g1] at k3
      obtain ⟨n0, e0, _⟩ := DataW.trod_int h3 k2
      obtain ⟨n1, e1, _⟩ := DataW.trod_int h3 k3
      rw [haddr, add_none] at k0 k1
      have e0' : V0 i = .int .i64 n0 := by simpa using e0
      have e1' : V1 i = .int .i64 n1 := by simpa using e1
      rw [e0'] at k0
      rw [e1'] at k1
      rw [e0', e1']
      exact ⟨k0, by rw [Nat.add_assoc]; exact k1⟩
end
end Go.Proofs.Ytojplcbkiogcpaa
