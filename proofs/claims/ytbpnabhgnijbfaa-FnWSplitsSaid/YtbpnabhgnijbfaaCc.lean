/- slices.Grow of nothing and slices.Concat of two lists of items. -/
import Derived.BigQuiet
import Derived.Lib.AppendZeros
import Derived.Test.YtbpnabhgnijbfaaA3
import Derived.Test.YtbpnabhgnijbfaaA9
namespace Go.Proofs.Ytbpnabhgnijbfaa
set_option linter.unusedSimpArgs false
set_option linter.unusedVariables false
open Go.RowKit

section
variable {P : Program} {α : Type}

theorem run_append_zero (w : World) (t ty e : TypeId) (i : TypeInfo) (ht : P.underlying t = some (.slice e)) (hi : P.info? e = some i) (a b : Option Addr) (n cap c : Nat) (hn : n ≤ cap) :
    (Builtin.append_ #[t, t] ty #[.slice a n cap, .slice b 0 c]).run P w = .ok (.slice a n cap) w := by
  cases b with
  | none => cases a <;> simp [Builtin.append_, run_underlying ht, sizeOf, typeInfo, hi, Builtin.lenOf, Builtin.firstCells, hn, storeCells]
  | some b =>
    have hf := run_firstCells_some (P := P) w i.size 0 b 0 c [] (by simp) (by simp)
    cases a <;> simp [Builtin.append_, run_underlying ht, sizeOf, typeInfo, hi, Builtin.lenOf, hn, storeCells, hf]

theorem wpList_append_zero {ops : Array Oper} {rest : List Oper} {o' : Oper} {ac : Act} {w : World} {Q : Exit → Act → World → Prop} (hgd : o'.guard = none) (s x : Operand) (t : TypeId)
    (ho : o'.op = .call { callee := .builtin .append, args := #[s, x], argTypes := #[t, t] }) (e : TypeId) (i : TypeInfo) (ht : P.underlying t = some (.slice e)) (hi : P.info? e = some i)
    (a b : Option Addr) (n cap c : Nat) (hs : ac.eval s = .slice a n cap) (hx : ac.eval x = .slice b 0 c) (hn : n ≤ cap)
    (h : wpList P ops Q rest (ac.put o'.dst (.slice a n cap)) w) : wpList P ops Q (o' :: rest) ac w := by
  refine wpList_plain hgd fun K hK => ?_
  have hr := run_append_zero (P := P) w t o'.type e i ht hi a b n cap c hn
  unfold Oper.wp execOp
  simp only [ho, resolve, invoke, builtin, Sem.run_bind, Sem.run_pure, Result.andThen_ok, List.map_toArray, List.map_cons, List.map_nil, hs, hx, hr]
  exact hK _ _ h

theorem wpList_append_run {ops : Array Oper} {rest : List Oper} {o' : Oper} {ac : Act} {w : World} {Q : Exit → Act → World → Prop} (hgd : o'.guard = none) (s x : Operand) (t tn : TypeId)
    (ho : o'.op = .call { callee := .builtin .append, args := #[s, x], argTypes := #[t, tn] }) (vs vx : Value) (hs : ac.eval s = vs) (hx : ac.eval x = vx) (v' : Value) (w' : World)
    (hr : (Builtin.append_ #[t, tn] o'.type #[vs, vx]).run P w = .ok v' w') (h : wpList P ops Q rest (ac.put o'.dst v') w') : wpList P ops Q (o' :: rest) ac w := by
  refine wpList_plain hgd fun K hK => ?_
  unfold Oper.wp execOp
  simp only [ho, resolve, invoke, builtin, Sem.run_bind, Sem.run_pure, Result.andThen_ok, List.map_toArray, List.map_cons, List.map_nil, hs, hx, hr]
  exact hK _ _ h
end

/-- append of a whole list to a list of the call's own. -/
theorem own_append (w : World) (v : Value) (xs : List (ByteArray × Int)) (base : Nat) (how : OwnE wordE w v xs base) (hbase : base ≤ w.heap.size) (x : Value) (ys : List (ByteArray × Int)) (hx : SlE wordE w x ys) (h63 : xs.length + ys.length ≤ 8589934592) (ty : TypeId) :
    ∃ v' w', (Builtin.append_ #[22, 22] ty #[v, x]).run Try.prog w = .ok v' w' ∧ OwnE wordE w' v' (xs ++ ys) base ∧ Chg (fun b _ => v.ownBlock = some b) w w' := by
  obtain ⟨i0, hi0, hz0, hz1, hz2⟩ := info_parts infoWord
  obtain ⟨a, cap, rfl, hcap, hc⟩ := hx
  by_cases h0 : ys.length = 0
  · have hnil : ys = [] := List.eq_nil_of_length_eq_zero h0
    rw [h0, hnil, List.append_nil]
    rcases how with ⟨rfl, rfl⟩ | ⟨b, o, c2, rfl, h2, h3, h4⟩
    · exact ⟨_, _, run_append_zero w _ _ _ i0 Try.underlying22 hi0 none a 0 0 cap (Nat.le_refl _), .inl ⟨rfl, rfl⟩, Chg.refl _ _⟩
    · exact ⟨_, _, run_append_zero w _ _ _ i0 Try.underlying22 hi0 _ a _ _ cap h2, .inr ⟨b, o, c2, rfl, h2, h3, h4⟩, Chg.refl _ _⟩
  · rcases hc with h | ⟨b, o, rfl, hcell⟩
    · rw [h] at h0; exact absurd rfl h0
    · obtain ⟨v', w', hr, h2, h3, _, _⟩ := run_append_E2 (P := Try.prog) wordE w 22 ty i0 _ 24 Try.underlying22 hi0 hz0 hz1 hz2 rfl v xs base how hbase ⟨b, o, none⟩ ys.length cap ys rfl (by omega)
        (fun j u hj => by rw [add_none]; exact hcell j u hj) (by unfold maxLen; omega) (by omega)
      exact ⟨v', w', hr, h2, h3⟩

set_option maxRecDepth 100000 in
theorem grow_nil (n : Nat) (w : World) (hn : n ≤ 8589934592) :
    Calls Try.prog 35 #[.slice none 0 0, .int .i64 n] w fun e w' => ∃ v, e = .returned v ∧ OwnE wordE w' v [] w.heap.size ∧ Chg (fun _ _ => False) w w' := by
  obtain ⟨i0, hi0, hz0, hz1, hz2⟩ := info_parts infoWord
  have s1 : IntKind.i64.wrap (n : Int) = (n : Int) := IntWalk.i64_in _ (by omega)
  have n0 : ¬ ((n : Int) < 0) := by omega
  by_cases h0 : n = 0
  · subst h0
    go_enter Try.func35, Try.ntmps35
    go_wp2_with fail
    go_ret
    exact ⟨_, rfl, .inl ⟨rfl, rfl⟩, Chg.refl _ _⟩
  · have hgt : (0 : Int) < (n : Int) := by omega
    go_enter Try.func35, Try.ntmps35
    have hcg := grownCap_ge w n 0 35
    have hcm : grownCap w n 0 35 ≤ maxLen := grownCap_le_maxLen w n 0 35 (by unfold maxLen; omega)
    have hrun := Lib.run_append_nil_zeros (P := Try.prog) w 22 3 22 35 i0 _ .i64 .i64 Try.underlying22 Try.underlying3 hi0 hz0 n (by omega) (by rw [hz1]; decide) (by omega) (by rw [hz2]; omega)
    unfold maxLen at hcm
    generalize grownCap w n 0 35 = cp at hcg hcm hrun
    have HRUN := Lib.hid hrun
    have c0 : (0 : Int) ≤ (n : Int) := by omega
    have c1 : ¬ cp = 0 := by omega
    clear hrun
    go_wp2_with (refine wpList_append_run (by rfl) _ _ _ _ (by rfl) (.slice none 0 0) (.int .i64 n) (by rfl) (by rfl) _ _ HRUN.out ?_)
    refine name_prop (fun w2 => RowAt w2 35 w.heap.size 0 (cp * 2) [] ∧ Chg (fun _ _ => False) w w2) ⟨?_, ?_⟩ ?_
    · refine RowAt.of_block (by first | exact heap_alloc_new w.drew _ | (rw [hd_drew]; exact ha_at _ _ rfl)) _ _ (by simp) ?_ (by simp)
      have e : (Value.agg #[Value.string ⟨#[]⟩, Value.int IntKind.i64 0]).cells.size = 2 := rfl
      simp only [Array.size_append, size_zeroCells, e]
      show 0 + cp * 2 ≤ n * 2 + (cp - n) * 2
      omega
    · repeat (first | refine Chg.drew ?_ | refine Chg.alloc ?_ _ | exact Chg.refl _ _)
    rintro w2 ⟨hrow, hc⟩
    go_ret
    exact ⟨_, rfl, .inr ⟨w.heap.size, 0, cp, rfl, Nat.zero_le _, Nat.le_refl _, hrow⟩, hc⟩

set_option maxRecDepth 100000 in
set_option maxHeartbeats 1000000 in
theorem concat_two (bq cq : Nat) (v1 v2 : Value) (l1 l2 : List (ByteArray × Int)) (w : World) (hq : w.heap[bq]? = some (.cells #[v1, v2] 22 (0, 0))) (h1 : SlE wordE w v1 l1) (h2 : SlE wordE w v2 l2) (hl : l1.length + l2.length ≤ 8589934592) :
    Calls Try.prog 18 #[.slice (some ⟨bq, 0, none⟩) 2 cq] w fun e w' => ∃ v, e = .returned v ∧ OwnE wordE w' v (l1 ++ l2) w.heap.size ∧ Chg (fun _ _ => False) w w' := by
  have H1 := Lib.hid h1
  have H2 := Lib.hid h2
  obtain ⟨a1, c1, rfl⟩ := h1.form
  obtain ⟨a2, c2, rfl⟩ := h2.form
  have q0 := cell_of_block hq 0
  have q1 := cell_of_block hq 1
  simp only [List.getElem?_toArray, List.getElem?_cons_zero, List.getElem?_cons_succ] at q0 q1
  have HQ := Lib.hid hq
  clear hq h1 h2
  go_enter Try.func18, Try.ntmps18
  go_wp2_with fail
  go_loopw [3, 11] (fun sv iv wr => ∃ (j s : Nat), sv = .int .i64 s ∧ iv = .int .i64 j ∧ ((j = 0 ∧ s = 0) ∨ (j = 1 ∧ s = l1.length) ∨ (j = 2 ∧ s = l1.length + l2.length)) ∧ Chg (fun _ _ => False) w wr) (fun _ iv _ => 2 - (intOf iv).toNat)
  case atStart => exact ⟨0, 0, rfl, rfl, .inl ⟨rfl, rfl⟩, Chg.refl _ _⟩
  case round =>
    obtain ⟨j, s, rfl, rfl, hj, hcw⟩ := hrel
    replace q0 := hcw.cell (fun h => h) q0
    replace q1 := hcw.cell (fun h => h) q1
    rcases hj with ⟨rfl, rfl⟩ | ⟨rfl, rfl⟩ | ⟨rfl, rfl⟩
    · have s1 : IntKind.i64.wrap (l1.length : Int) = (l1.length : Int) := IntWalk.i64_in _ (by omega)
      have s2 : ¬ (l1.length : Int) < 0 := by omega
      go_wp2_with fail
      go_roundw
      case rel => exact ⟨1, l1.length, rfl, rfl, .inr (.inl ⟨rfl, rfl⟩), hcw⟩
      case measure => simp [intOf]
    · have s1 : IntKind.i64.wrap ((l1.length : Int) + (l2.length : Int)) = ((l1.length + l2.length : Nat) : Int) := (by rw [IntWalk.i64_in _ (by omega)]; omega)
      have s2 : ¬ ((l1.length + l2.length : Nat) : Int) < 0 := by omega
      go_wp2_with fail
      go_roundw
      case rel => exact ⟨2, l1.length + l2.length, rfl, rfl, .inr (.inr ⟨rfl, rfl⟩), hcw⟩
      case measure => simp [intOf]
    · have hg := grow_nil (l1.length + l2.length) wr hl
      rw [Int.natCast_add] at hg
      have HG := Lib.hid hg
      clear hg
      go_wp2_with fail
      refine HG.out.mono ?_
      rintro e w1 ⟨v0, rfl, hv0', hc1'⟩
      have hv0 := hv0'.mono hcw.size
      have hc1 := hcw.trans hc1'
      clear q0 q1 hv0' hc1' hcw
      go_wp2_with fail
      go_loopw [6, 27] (fun sv iv wr => ∃ (j : Nat) (L : List (ByteArray × Int)), iv = .int .i64 j ∧ OwnE wordE wr sv L w.heap.size ∧ ((j = 0 ∧ L = []) ∨ (j = 1 ∧ L = l1) ∨ (j = 2 ∧ L = l1 ++ l2)) ∧ Chg (fun _ _ => False) w wr) (fun _ iv _ => 2 - (intOf iv).toNat)
      case atStart => exact ⟨0, [], rfl, hv0, .inl ⟨rfl, rfl⟩, hc1⟩
      case round =>
        obtain ⟨j, L, rfl, how, hj, hc⟩ := hrel
        rcases hj with ⟨rfl, rfl⟩ | ⟨rfl, hL⟩ | ⟨rfl, rfl⟩
        · have hq2 : wr.heap[bq]? = some (.cells #[.slice a1 l1.length c1, .slice a2 l2.length c2] 22 (0, 0)) := by rw [hc.block (heap_lt HQ.out) (fun _ h => h)]; exact HQ.out
          have q0 := cell_of_block hq2 0
          have q1 := cell_of_block hq2 1
          simp only [List.getElem?_toArray, List.getElem?_cons_zero, List.getElem?_cons_succ] at q0 q1
          obtain ⟨v', w', hr, h2, h3⟩ := own_append wr u6 [] w.heap.size how hc.size (.slice a1 l1.length c1) l1 (H1.out.chg hc) (by first | omega | (simp; omega)) 22
          have HR := Lib.hid hr
          have H22 := Lib.hid h2
          have hc3 : Chg (fun _ _ => False) w w' := hc.trans' h3 (fun _ _ _ h => h) (fun b o hb e => by have := (how.own_lt e).1; omega)
          clear hq2 hr h2 h3 how hc
          go_wp2_with (refine wpList_append_run (by rfl) _ _ _ _ (by rfl) u6 (.slice a1 l1.length c1) (by rfl) (by rfl) _ _ HR.out ?_)
          go_roundw
          case rel => exact ⟨1, _, rfl, H22.out, .inr (.inl ⟨rfl, rfl⟩), hc3⟩
          case measure => simp [intOf]
        · have hL' := hL.symm
          subst hL'
          have hq2 : wr.heap[bq]? = some (.cells #[.slice a1 l1.length c1, .slice a2 l2.length c2] 22 (0, 0)) := by rw [hc.block (heap_lt HQ.out) (fun _ h => h)]; exact HQ.out
          have q0 := cell_of_block hq2 0
          have q1 := cell_of_block hq2 1
          simp only [List.getElem?_toArray, List.getElem?_cons_zero, List.getElem?_cons_succ] at q0 q1
          obtain ⟨v', w', hr, h2, h3⟩ := own_append wr u6 _ w.heap.size how hc.size (.slice a2 l2.length c2) l2 (H2.out.chg hc) (by first | omega | (simp; omega)) 22
          have HR := Lib.hid hr
          have H22 := Lib.hid h2
          have hc3 : Chg (fun _ _ => False) w w' := hc.trans' h3 (fun _ _ _ h => h) (fun b o hb e => by have := (how.own_lt e).1; omega)
          clear hq2 hr h2 h3 how hc
          go_wp2_with (refine wpList_append_run (by rfl) _ _ _ _ (by rfl) u6 (.slice a2 l2.length c2) (by rfl) (by rfl) _ _ HR.out ?_)
          go_roundw
          case rel => exact ⟨2, _, rfl, H22.out, .inr (.inr ⟨rfl, rfl⟩), hc3⟩
          case measure => simp [intOf]
        · go_wp2_with fail
          go_ret
          exact ⟨_, rfl, how, hc⟩
end Go.Proofs.Ytbpnabhgnijbfaa
