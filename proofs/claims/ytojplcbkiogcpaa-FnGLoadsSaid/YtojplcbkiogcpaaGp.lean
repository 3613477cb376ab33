/- What makes a tree: the copy of the order, the function less, NewBTreeGOptions; Set on whatever tree. -/
import Derived.Test.YtojplcbkiogcpaaWo
import Derived.Test.YtojplcbkiogcpaaEl
import Derived.Stop.Asserts
namespace Go.Proofs.Ytojplcbkiogcpaa
set_option linter.unusedSimpArgs false
set_option linter.unusedVariables false
open Go.RowKit
variable {ord : List Int}

/-- The degree that a tree takes. -/
def dg (d : Int) : Nat := if d = 0 then 32 else d.toNat
def mnD (d : Int) : Nat := (2 * dg d - 1) / 2
def mxD (d : Int) : Nat := 2 * dg d - 1
def FitD (d : Int) : Prop := d = 0 ∨ (2 ≤ d ∧ d ≤ 128)

theorem FitD.dims {d : Int} (h : FitD d) : 1 ≤ mnD d ∧ 3 ≤ mxD d ∧ mxD d ≤ 1000 ∧ mnD d ≤ mxD d / 2 ∧ mnD d ≤ mxD d - (mxD d / 2 + 1) := by
  have : 2 ≤ dg d ∧ dg d ≤ 128 := by
    unfold dg
    rcases h with h | ⟨h1, h2⟩
    · rw [if_pos h]; omega
    · rw [if_neg (by omega)]; omega
  unfold mnD mxD
  omega

theorem noCopier (v : Value) (xT : TypeId) (w : World) : (Instr.typeAssert (.iface 26 v) xT 128 true).run Try.prog w = .ok (.tuple #[.nilIface, .bool false]) w := run_typeAssert_lacksB Try.underlying128 (by kernel_rfl) (by kernel_rfl) v xT w
theorem noIsoCopier (v : Value) (xT : TypeId) (w : World) : (Instr.typeAssert (.iface 26 v) xT 131 true).run Try.prog w = .ok (.tuple #[.nilIface, .bool false]) w := run_typeAssert_lacksB Try.underlying131 (by kernel_rfl) (by kernel_rfl) v xT w

theorem degree_any (d : Int) (w : World) (h : FitD d) :
    Calls Try.prog 124 #[.int .i64 d] w fun e w' => e = .returned (.tuple #[.int .i64 (mnD d), .int .i64 (mxD d)]) ∧ w = w' := by
  rcases h with rfl | ⟨h1, h2⟩
  · have e1 : ((mnD 0 : Nat) : Int) = 31 := by simp [mnD, dg]
    have e2 : ((mxD 0 : Nat) : Int) = 63 := by simp [mxD, dg]
    rw [e1, e2]
    clear e1 e2
    go_enter Try.func124, Try.ntmps124
    go_wp2
    go_ret2
    exact ⟨rfl, rfl⟩
  · have hdg : dg d = d.toNat := if_neg (by omega)
    have i1 : ((mnD d : Nat) : Int) = (2 * d - 1) / 2 := by unfold mnD; rw [hdg]; omega
    have i2 : ((mxD d : Nat) : Int) = 2 * d - 1 := by unfold mxD; rw [hdg]; omega
    rw [i1, i2]
    clear i1 i2 hdg
    have e1 : (d * 2 - 1).tdiv 2 = (2 * d - 1) / 2 := by rw [Int.tdiv_eq_ediv_of_nonneg (by omega)]; omega
    have e2 : d * 2 - 1 = 2 * d - 1 := by omega
    go_enter Try.func124, Try.ntmps124
    go_wp2
    go_ret2
    exact ⟨rfl, rfl⟩

set_option maxRecDepth 100000 in
theorem init_fresh (k : Kc ord) (t : Nat) (d : Int) (w : World) (h : FitD d) (hb : w.heap[t]? = some (.cells #[.int .u64 k.iso, .pointer (some ⟨k.ctr, 0, none⟩), .pointer none, .int .i64 0, .bool false, .bool false, lessV k, .int .i64 0, .int .i64 0, .int .i64 0, .int .i64 0] 99 (0, 0))) (ho : OrdAt k w) (h1 : t ≠ k.ob) (h2 : t ≠ k.rb) :
    Calls Try.prog 108 #[.pointer (some ⟨t, 0, none⟩), .int .i64 d] w fun e w' => e = .returned (.tuple #[]) ∧ Chg (fun b _ => b = t) w w' ∧ MapBlk k (mnD d) (mxD d) w' t none 0 := by
  have c4 := cell_of_block hb 7
  have c5 := cell_of_block hb 8
  have c6 := cell_of_block hb 10
  have c7 := cell_of_block hb 9
  have c8 := cell_of_block hb 4
  have c9 := cell_of_block hb 5
  have z6 := frozen_of_block hb 10
  have z7 := frozen_of_block hb 9
  have z8 := frozen_of_block hb 4
  have z9 := frozen_of_block hb 5
  simp only [List.getElem?_toArray, List.getElem?_cons_zero, List.getElem?_cons_succ] at c4 c5 c6 c7 c8 c9
  have HB := Lib.hid hb
  have HO := Lib.hid ho
  clear hb ho
  have f1 := noCopier
  have f2 := noIsoCopier
  have hdd := degree_any d
  obtain ⟨mn, hmn⟩ : ∃ mn, mnD d = mn := ⟨_, rfl⟩
  obtain ⟨mx, hmx⟩ : ∃ mx, mxD d = mx := ⟨_, rfl⟩
  rw [hmn, hmx] at hdd ⊢
  clear hmn hmx
  go_enter Try.func108, Try.ntmps108
  go_wp2_with (go_at_call 124; refine (hdd _ h).mono ?_; rintro e w' ⟨rfl, rfl⟩)
  go_end0
  generalize hwf : World.setCell _ _ _ = wf
  have hc : Chg (fun b _ => b = t) w wf := by
    rw [← hwf]
    repeat (first | refine Chg.drew ?_ | refine Chg.drewN ?_ _ | refine Chg.alloc ?_ _ | refine Chg.setCell ?_ (.inl rfl) _ | exact Chg.refl _ _)
  refine ⟨rfl, hc, ?_, HO.out.chg hc (fun _ e => h1 e.symm) (fun _ e => h2 e.symm), h1, h2⟩
  rw [← hwf, hs_same (hs_same (hs_same (hs_same HB.out _) _) _)]
  rfl

theorem newIso_any (c : Nat) (w : World) (hb : w.heap[c]? = some (.cells #[.int .u64 0] 95 (0, 0))) :
    Calls Try.prog 107 #[.pointer (some ⟨c, 0, none⟩)] w fun e w' => e = .returned (.int .u64 1) ∧ w' = w.setCell ⟨c, 0, none⟩ (.int .u64 1) := by
  have c0 := cell_of_block hb 0
  have z0 := frozen_of_block hb 0
  simp only [List.getElem?_toArray, List.getElem?_cons_zero] at c0
  clear hb
  go_enter Try.func107, Try.ntmps107
  go_wp2
  go_ret
  exact ⟨rfl, rfl⟩

/-- Of these numbers the function reads the two blocks alone. -/
theorem OrdAt.other {k k2 : Kc ord} {w : World} (h : OrdAt k w) (h1 : k2.ob = k.ob) (h2 : k2.rb = k.rb) : OrdAt k2 w := by
  unfold OrdAt at h ⊢
  rw [h1, h2]; exact h

set_option maxRecDepth 100000 in
theorem new_any (k0 : Kc ord) (d : Int) (b : Bool) (w : World) (h : FitD d) (ho : OrdAt k0 w) :
    Calls Try.prog 83 #[lessV k0, .agg #[.int .i64 d, .bool b]] w fun e w' => e = .returned (.pointer (some ⟨w.heap.size + 1, 0, none⟩)) ∧ Chg (fun _ _ => False) w w' ∧
      MapBlk (⟨1, w.heap.size + 2, k0.ob, k0.rb⟩ : Kc ord) (mnD d) (mxD d) w' (w.heap.size + 1) none 0 := by
  have HO := Lib.hid ho
  have hl := ho.lt
  clear ho
  have hsf := fun (a : Addr) (c : Array Value) (w : World) => run_store Try.prog w a (.func (.func 110) #[] c) .plain rfl
  unfold lessV
  go_enter Try.func83, Try.ntmps83
  go_wp2_with fail
  refine name_calls (fun w1 => Chg (fun _ _ => False) w w1 ∧ w1.heap[w.heap.size]? = some (.cells #[.int .i64 d, .bool b] 86 (0, 0)) ∧ w1.heap[w.heap.size + 1]? = some (.cells #[.int .u64 0, .pointer (some ⟨w.heap.size + 2, 0, none⟩), .pointer none, .int .i64 0, .bool false, .bool false, .nilFunc, .int .i64 0, .int .i64 0, .int .i64 0, .int .i64 0] 99 (0, 0)) ∧
    w1.heap[w.heap.size + 2]? = some (.cells #[.int .u64 0] 95 (0, 0))) ⟨?_, ?_, ?_, ?_⟩ ?_
  · repeat (first | exact Chg.refl _ _ | refine Chg.alloc ?_ _)
  · rw [ha_lt _ _ (by simp; try omega), ha_lt _ _ (by simp; try omega)]; exact ha_at _ _ rfl
  · rw [ha_lt _ _ (by simp; try omega)]; exact ha_at _ _ (by simp)
  · exact ha_at _ _ (by simp)
  rintro w1 ⟨hc1, hb0, hb1, hb2⟩
  have o0 := cell_of_block hb0 0
  have t0 := cell_of_block hb1 0
  have t6 := cell_of_block hb1 6
  have z0 := frozen_of_block hb1 0
  have z6 := frozen_of_block hb1 6
  simp only [List.getElem?_toArray, List.getElem?_cons_zero, List.getElem?_cons_succ] at o0 t0 t6
  have hl1 := heap_lt hb2
  have HB1 := Lib.hid hb1
  refine (newIso_any _ w1 hb2).mono ?_
  rintro e w2 ⟨rfl, rfl⟩
  clear hb0 hb1 hb2
  go_wp2_with fail
  generalize hw3 : World.setCell _ _ _ = w3
  have hc3 : Chg (fun b _ => b = w.heap.size + 1 ∨ b = w.heap.size + 2) w1 w3 := by
    rw [← hw3]
    repeat (first | refine Chg.drew ?_ | refine Chg.drewN ?_ _ | refine Chg.setCell ?_ (.inl (by simp)) _ | exact Chg.refl _ _)
  have hb3 : w3.heap[w.heap.size + 1]? = some (.cells #[.int .u64 1, .pointer (some ⟨w.heap.size + 2, 0, none⟩), .pointer none, .int .i64 0, .bool false, .bool false, lessV k0, .int .i64 0, .int .i64 0, .int .i64 0, .int .i64 0] 99 (0, 0)) := by
    have h2 : (w1.setCell ⟨w.heap.size + 2, 0, none⟩ (.int .u64 1)).heap[w.heap.size + 1]? = _ := (hs_ne _ (by simp)).trans HB1.out
    rw [← hw3, hs_same (hs_same h2 _)]
    rfl
  clear hw3
  have hc03 : Chg (fun _ _ => False) w w3 := hc1.trans' hc3 (fun _ _ _ h => h) (fun b o hb h => by omega)
  refine (init_fresh (⟨1, w.heap.size + 2, k0.ob, k0.rb⟩ : Kc ord) (w.heap.size + 1) d w3 h hb3 ((HO.out.chg hc03 (fun _ h => h) (fun _ h => h)).other rfl rfl) (by show w.heap.size + 1 ≠ k0.ob; omega) (by show w.heap.size + 1 ≠ k0.rb; omega)).mono ?_
  rintro e w4 ⟨rfl, hc4, hB4⟩
  go_wp2_with fail
  go_ret
  exact ⟨rfl, hc03.trans' hc4 (fun _ _ _ h => h) (fun b o hb h => by omega), hB4⟩
end Go.Proofs.Ytojplcbkiogcpaa
