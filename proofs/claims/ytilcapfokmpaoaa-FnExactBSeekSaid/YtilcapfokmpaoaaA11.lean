/- A tree of interfaces grown from a list. -/
import Derived.Stop.Asserts
import Derived.Laws.EntriesVeiled
import Derived.Test.YtilcapfokmpaoaaA9
import Derived.Test.YtilcapfokmpaoaaA4
import Derived.Test.YtilcapfokmpaoaaA10
namespace Go.Proofs.Ytilcapfokmpaoaa
set_option linter.unusedSimpArgs false
set_option linter.unusedVariables false
open Go.RowKit
variable {ord : List Int}

/-- The degree that a tree takes. -/
def dg (d : Int) : Nat := if d = 0 then 32 else d.toNat
def mnD (d : Int) : Nat := (2 * dg d - 1) / 2
def mxD (d : Int) : Nat := 2 * dg d - 1
def FitD (d : Int) : Prop := d = 0 ∨ (2 ≤ d ∧ d ≤ 128)

theorem FitD.dims {d : Int} (h : FitD d) : 1 ≤ mnD d ∧ 3 ≤ mxD d ∧ mxD d ≤ 1000 ∧ mnD d ≤ mxD d / 2 ∧ mnD d ≤ mxD d - (mxD d / 2 + 1) := by
  have : 2 ≤ dg d ∧ dg d ≤ 128 := by
    unfold dg
    rcases h with h | ⟨h1, h2⟩
    · rw [if_pos h]; omega
    · rw [if_neg (by omega)]; omega
  unfold mnD mxD
  omega

theorem noCopier (xT : TypeId) (w : World) : (Instr.typeAssert .nilIface xT 97 true).run Try.prog w = .ok (.tuple #[.nilIface, .bool false]) w := by kernel_rfl
theorem noIsoCopier (xT : TypeId) (w : World) : (Instr.typeAssert .nilIface xT 100 true).run Try.prog w = .ok (.tuple #[.nilIface, .bool false]) w := by kernel_rfl

theorem degree_any (d : Int) (w : World) (h : FitD d) :
    Calls Try.prog 48 #[.int .i64 d] w fun e w' => e = .returned (.tuple #[.int .i64 (mnD d), .int .i64 (mxD d)]) ∧ w = w' := by
  rcases h with rfl | ⟨h1, h2⟩
  · have e1 : ((mnD 0 : Nat) : Int) = 31 := by simp [mnD, dg]
    have e2 : ((mxD 0 : Nat) : Int) = 63 := by simp [mxD, dg]
    rw [e1, e2]
    clear e1 e2
    go_enter Try.func48, Try.ntmps48
    go_wp2
    go_ret2
    exact ⟨rfl, rfl⟩
  · have hdg : dg d = d.toNat := if_neg (by omega)
    have i1 : ((mnD d : Nat) : Int) = (2 * d - 1) / 2 := by unfold mnD; rw [hdg]; omega
    have i2 : ((mxD d : Nat) : Int) = 2 * d - 1 := by unfold mxD; rw [hdg]; omega
    rw [i1, i2]
    clear i1 i2 hdg
    have e1 : (d * 2 - 1).tdiv 2 = (2 * d - 1) / 2 := by rw [Int.tdiv_eq_ediv_of_nonneg (by omega)]; omega
    have e2 : d * 2 - 1 = 2 * d - 1 := by omega
    go_enter Try.func48, Try.ntmps48
    go_wp2
    go_ret2
    exact ⟨rfl, rfl⟩

set_option maxRecDepth 100000 in
theorem init_fresh (k : Kc ord) (t : Nat) (d : Int) (w : World) (h : FitD d) (hb : w.heap[t]? = some (.cells #[.int .u64 k.iso, .pointer (some ⟨k.ctr, 0, none⟩), .pointer none, .int .i64 0, .bool false, .bool false, lessV k, .nilIface, .int .i64 0, .int .i64 0] 83 (0, 0))) (ho : OrdAt k w) (h1 : t ≠ k.ob) (h2 : t ≠ k.rb) (h3 : t ≠ k.lb) :
    Calls Try.prog 39 #[.pointer (some ⟨t, 0, none⟩), .int .i64 d] w fun e w' => e = .returned (.tuple #[]) ∧ Chg (fun b _ => b = t) w w' ∧ MapBlk k (mnD d) (mxD d) w' t none 0 := by
  have c4 := cell_of_block hb 7
  have c5 := cell_of_block hb 7
  have c6 := cell_of_block hb 9
  have c7 := cell_of_block hb 8
  have c8 := cell_of_block hb 4
  have c9 := cell_of_block hb 5
  have z6 := frozen_of_block hb 9
  have z7 := frozen_of_block hb 8
  have z8 := frozen_of_block hb 4
  have z9 := frozen_of_block hb 5
  simp only [List.getElem?_toArray, List.getElem?_cons_zero, List.getElem?_cons_succ] at c4 c5 c6 c7 c8 c9
  have HB := Lib.hid hb
  have HO := Lib.hid ho
  clear hb ho
  have f1 := noCopier
  have f2 := noIsoCopier
  have hdd := degree_any d
  obtain ⟨mn, hmn⟩ : ∃ mn, mnD d = mn := ⟨_, rfl⟩
  obtain ⟨mx, hmx⟩ : ∃ mx, mxD d = mx := ⟨_, rfl⟩
  rw [hmn, hmx] at hdd ⊢
  clear hmn hmx
  go_enter Try.func39, Try.ntmps39
  go_wp2_with (go_at_call 48; refine (hdd _ h).mono ?_; rintro e w' ⟨rfl, rfl⟩)
  go_end0
  generalize hwf : World.setCell _ _ _ = wf
  have hc : Chg (fun b _ => b = t) w wf := by
    rw [← hwf]
    repeat (first | refine Chg.drew ?_ | refine Chg.drewN ?_ _ | refine Chg.alloc ?_ _ | refine Chg.setCell ?_ (.inl rfl) _ | exact Chg.refl _ _)
  refine ⟨rfl, hc, ?_, HO.out.chg hc (fun _ e => h1 e.symm) (fun _ e => h2 e.symm) (fun _ e => h3 e.symm), h1, h2, h3⟩
  rw [← hwf, hs_same (hs_same (hs_same (hs_same HB.out _) _) _)]
  rfl

theorem newIso_any (c : Nat) (w : World) (hb : w.heap[c]? = some (.cells #[.int .u64 0] 80 (0, 0))) :
    Calls Try.prog 38 #[.pointer (some ⟨c, 0, none⟩)] w fun e w' => e = .returned (.int .u64 1) ∧ w' = w.setCell ⟨c, 0, none⟩ (.int .u64 1) := by
  have c0 := cell_of_block hb 0
  have z0 := frozen_of_block hb 0
  simp only [List.getElem?_toArray, List.getElem?_cons_zero] at c0
  clear hb
  go_enter Try.func38, Try.ntmps38
  go_wp2
  go_ret
  exact ⟨rfl, rfl⟩

/-- Of these numbers the function reads the two blocks alone. -/
theorem OrdAt.other {k k2 : Kc ord} {w : World} (h : OrdAt k w) (h1 : k2.ob = k.ob) (h2 : k2.rb = k.rb) (h3 : k2.lb = k.lb) : OrdAt k2 w := by
  unfold OrdAt fnV at h ⊢
  rw [h1, h2, h3]; exact h

set_option maxRecDepth 100000 in
theorem new_any (k0 : Kc ord) (d : Int) (b : Bool) (w : World) (h : FitD d) (ho : OrdAt k0 w) :
    Calls Try.prog 29 #[lessV k0, .agg #[.int .i64 d, .bool b]] w fun e w' => e = .returned (.pointer (some ⟨w.heap.size + 1, 0, none⟩)) ∧ Chg (fun _ _ => False) w w' ∧
      MapBlk (⟨1, w.heap.size + 2, k0.ob, k0.rb, k0.lb⟩ : Kc ord) (mnD d) (mxD d) w' (w.heap.size + 1) none 0 := by
  have HO := Lib.hid ho
  have hl := ho.lt
  clear ho
  have hsf := fun (a : Addr) (c : Array Value) (w : World) => run_store Try.prog w a (.func (.func 31) #[] c) .plain rfl
  unfold lessV
  go_enter Try.func29, Try.ntmps29
  go_wp2_with fail
  refine name_calls (fun w1 => Chg (fun _ _ => False) w w1 ∧ w1.heap[w.heap.size]? = some (.cells #[.int .i64 d, .bool b] 52 (0, 0)) ∧ w1.heap[w.heap.size + 1]? = some (.cells #[.int .u64 0, .pointer (some ⟨w.heap.size + 2, 0, none⟩), .pointer none, .int .i64 0, .bool false, .bool false, .nilFunc, .nilIface, .int .i64 0, .int .i64 0] 83 (0, 0)) ∧
    w1.heap[w.heap.size + 2]? = some (.cells #[.int .u64 0] 80 (0, 0))) ⟨?_, ?_, ?_, ?_⟩ ?_
  · repeat (first | exact Chg.refl _ _ | refine Chg.alloc ?_ _)
  · rw [ha_lt _ _ (by simp; try omega), ha_lt _ _ (by simp; try omega)]; exact ha_at _ _ rfl
  · rw [ha_lt _ _ (by simp; try omega)]; exact ha_at _ _ (by simp)
  · exact ha_at _ _ (by simp)
  rintro w1 ⟨hc1, hb0, hb1, hb2⟩
  have o0 := cell_of_block hb0 0
  have t0 := cell_of_block hb1 0
  have t6 := cell_of_block hb1 6
  have z0 := frozen_of_block hb1 0
  have z6 := frozen_of_block hb1 6
  simp only [List.getElem?_toArray, List.getElem?_cons_zero, List.getElem?_cons_succ] at o0 t0 t6
  have hl1 := heap_lt hb2
  have HB1 := Lib.hid hb1
  refine (newIso_any _ w1 hb2).mono ?_
  rintro e w2 ⟨rfl, rfl⟩
  clear hb0 hb1 hb2
  go_wp2_with fail
  generalize hw3 : World.setCell _ _ _ = w3
  have hc3 : Chg (fun b _ => b = w.heap.size + 1 ∨ b = w.heap.size + 2) w1 w3 := by
    rw [← hw3]
    repeat (first | refine Chg.drew ?_ | refine Chg.drewN ?_ _ | refine Chg.setCell ?_ (.inl (by simp)) _ | exact Chg.refl _ _)
  have hb3 : w3.heap[w.heap.size + 1]? = some (.cells #[.int .u64 1, .pointer (some ⟨w.heap.size + 2, 0, none⟩), .pointer none, .int .i64 0, .bool false, .bool false, lessV k0, .nilIface, .int .i64 0, .int .i64 0] 83 (0, 0)) := by
    have h2 : (w1.setCell ⟨w.heap.size + 2, 0, none⟩ (.int .u64 1)).heap[w.heap.size + 1]? = _ := (hs_ne _ (by simp)).trans HB1.out
    rw [← hw3, hs_same (hs_same h2 _)]
    rfl
  clear hw3
  have hc03 : Chg (fun _ _ => False) w w3 := hc1.trans' hc3 (fun _ _ _ h => h) (fun b o hb h => by omega)
  refine (init_fresh (⟨1, w.heap.size + 2, k0.ob, k0.rb, k0.lb⟩ : Kc ord) (w.heap.size + 1) d w3 h hb3 ((HO.out.chg hc03 (fun _ h => h) (fun _ h => h)).other rfl rfl rfl) (by show w.heap.size + 1 ≠ k0.ob; omega) (by show w.heap.size + 1 ≠ k0.rb; omega) (by show w.heap.size + 1 ≠ k0.lb; omega)).mono ?_
  rintro e w4 ⟨rfl, hc4, hB4⟩
  go_wp2_with fail
  go_ret
  exact ⟨rfl, hc03.trans' hc4 (fun _ _ _ h => h) (fun b o hb h => by omega), hB4⟩
end Go.Proofs.Ytilcapfokmpaoaa

namespace Go.Proofs.Ytilcapfokmpaoaa
set_option linter.unusedSimpArgs false
set_option linter.unusedVariables false
open Go.RowKit
variable {ord : List Int} {k : Kc ord}

/-- The numbers of the order, as the inner function reads them. -/
def NumAt (ord : List Int) (ob rb : Nat) (w : World) : Prop :=
  rb < w.heap.size ∧ ord.length ≤ 2147483647 ∧ ∃ v, w.heap[ob]? = some (.cells #[v] 22 (0, 0)) ∧
    ((ord = [] ∧ v = .slice none 0 0) ∨ ∃ o cap, v = .slice (some ⟨rb, o, none⟩) ord.length cap ∧ ∀ j x, ord[j]? = some x → w.cell? ⟨rb, o + j, none⟩ = some (.int .i64 x))

theorem NumAt.chg {ob rb : Nat} {w w' : World} (h : NumAt ord ob rb w) (c : Chg (fun _ _ => False) w w') : NumAt ord ob rb w' := by
  obtain ⟨g1, g2, v, g3, g4⟩ := h
  refine ⟨Nat.lt_of_lt_of_le g1 c.size, g2, v, by rw [c.block (heap_lt g3) (fun _ h => h)]; exact g3, g4.imp id ?_⟩
  rintro ⟨o, cap, e, g⟩
  exact ⟨o, cap, e, fun j x hx => c.cell (fun h => h) (g j x hx)⟩

def ClonePost (ord : List Int) (w : World) (e : Ending) (w' : World) : Prop :=
  ∃ v', e = .returned v' ∧ Chg (fun _ _ => False) w w' ∧ ((ord = [] ∧ v' = .slice none 0 0) ∨ ∃ b o cap, v' = .slice (some ⟨b, o, none⟩) ord.length cap ∧ w.heap.size ≤ b ∧ b < w'.heap.size ∧ ∀ j x, ord[j]? = some x → w'.cell? ⟨b, o + j, none⟩ = some (.int .i64 x))

theorem flat_int (xs : List Int) (j : Nat) (x : Int) (h : xs[j]? = some x) : (flat intE.par xs)[j]? = some (.int .i64 x) := by
  have h2 : (intE.par.enc x)[0]? = some (.int .i64 x) := rfl
  have := flat_get intE.par h h2
  have e : intE.par.es = 1 := rfl
  rw [e] at this
  simpa using this

set_option maxRecDepth 100000 in
theorem clone_any (v : Value) (w : World) (hs : SlE intE w v ord) (hlen : ord.length ≤ 2147483647) :
    Calls Try.prog 40 #[v] w (ClonePost ord w) := by
  obtain ⟨a, cap, rfl, hcap, hc⟩ := hs
  have qS : ∀ (w : World) (a : Option Addr) (n c : Nat), (binOp .eql 22 (.slice a n c) (.slice none 0 0)).run Try.prog w = .ok (.bool a.isNone) w := fun w a n c => Lib.run_eql_slice_nil w _ _ _ _ _ _ _ Try.underlying22
  rcases a with _ | ad
  · have h0 : ord = [] := by
      rcases hc with h | ⟨b, o, h, _⟩
      · exact h
      · cases h
    have hl0 : ord.length = 0 := by rw [h0]; rfl
    rw [hl0]
    have H0 := Lib.hid h0
    clear hc h0 hl0 hcap
    go_enter Try.func40, Try.ntmps40
    go_wp2
    go_ret
    exact ⟨_, rfl, Chg.refl _ _, .inl ⟨H0.out, rfl⟩⟩
  · have hsrc : (∃ ad', some ad = some ad' ∧ ∀ j u, (flat intE.par ord)[j]? = some u → w.cell? (ad'.add j) = some u) ∨ (ord.length = 0 ∧ flat intE.par ord = []) := by
      rcases hc with h | ⟨b, o, h, hcell⟩
      · exact .inr ⟨by rw [h]; rfl, by rw [h]; rfl⟩
      · refine .inl ⟨ad, rfl, fun j u hj => ?_⟩
        obtain rfl := Option.some.inj h
        rw [add_none]; exact hcell j u hj
    have HS := Lib.hid hsrc
    obtain ⟨n, hn⟩ : ∃ n, ord.length = n := ⟨_, rfl⟩
    have HN := Lib.hid hn
    rw [hn] at hlen ⊢
    clear hc hsrc hn
    obtain ⟨i0, hi0, hz0, hz1, hz2⟩ := info_parts infoInt
    go_enter Try.func40, Try.ntmps40
    have hca : Chg (fun _ _ => False) w (w.alloc (.cells #[] 3)) := (Chg.refl _ _).alloc _
    go_wp2_with (refine wpList_append_opt (by rfl) _ _ _ (by rfl) 3 i0 _ 1 8 Try.underlying22 hi0 hz0 hz1 hz2 rfl w.heap.size 0 0 0 (by rfl) [] ?_ rfl (Nat.le_refl _) (some ad) n _ (by rfl) (flat intE.par ord) ?_ ?_ (flat_one _ _) ?_ ?_ ?_)
    · exact RowAt.of_block (c := #[]) (ha_at _ _ rfl) _ _ (by simp) (by simp) (by simp)
    · have := flat_len intE.par ord
      have e : intE.par.es = 1 := rfl
      rw [this, e, HN.out]
    · rcases HS.out with ⟨ad', h1, h2⟩ | ⟨h1, h2⟩
      · exact .inl ⟨ad', h1, fun j u hj => hca.cell (fun h => h) (h2 j u hj)⟩
      · exact .inr ⟨by rw [← HN.out]; exact h1, h2⟩
    · unfold maxLen; omega
    · omega
    intro b' o' cap' w' happ
    have hrow := happ.row
    rw [List.nil_append] at hrow
    have hpl : w.heap.size ≤ b' := by
      rcases happ.place with h | h
      · have := h.1; omega
      · have h2 := h.1; simp at h2; omega
    have hcc : Chg (fun _ _ => False) w w' := hca.trans' happ.chg (fun _ _ _ h => h) (fun b o hb h => by have := h.1; omega)
    have FIN := Lib.hid (show ClonePost ord w (.returned (.slice (some ⟨b', o', none⟩) n cap')) w' from ⟨_, rfl, hcc, .inr ⟨b', o', cap', by rw [HN.out], hpl, hrow.lt, fun j x hx => hrow.cell (flat_int ord j x hx)⟩⟩)
    clear happ hrow hpl hcc
    go_wp2
    go_ret
    exact FIN.out

def BeforePost (ord : List Int) (w : World) (e : Ending) (w' : World) : Prop :=
  ∃ ob rb, e = .returned (.func (.func 41) #[] #[.pointer (some ⟨ob, 0, none⟩)]) ∧ Chg (fun _ _ => False) w w' ∧ w.heap.size ≤ ob ∧ w.heap.size ≤ rb ∧ NumAt ord ob rb w'

theorem before_any' (v : Value) (w : World) (hs : SlE intE w v ord) (hlen : ord.length ≤ 2147483647) :
    Calls Try.prog 30 #[v] w (BeforePost ord w) := by
  have hmf : ∀ (fn : Fn) (first cap : Array Value) (w : World), (Instr.makeFunc fn first cap).run Try.prog w = .ok (.func fn first cap) w := fun _ _ _ _ => rfl
  have HC := Lib.hid (clone_any v w hs hlen)
  clear hs
  go_enter Try.func30, Try.ntmps30
  go_wp2_with fail
  refine HC.out.mono ?_
  rintro e w1 ⟨v', rfl, hc1, hv⟩
  have hsz := hc1.size
  have fin : ∀ w2, w2 = w1.alloc (.cells #[v'] 22) → BeforePost ord w (.returned (.func (.func 41) #[] #[.pointer (some ⟨w1.heap.size, 0, none⟩)])) w2 := by
    rintro w2 rfl
    have hal : Chg (fun _ _ => False) w1 (w1.alloc (.cells #[v'] 22)) := (Chg.refl _ _).alloc _
    rcases hv with ⟨h1, h2⟩ | ⟨b, o, cap, h1, h2, h3, h4⟩
    · exact ⟨w1.heap.size, w1.heap.size, rfl, hc1.trans hal, hsz, hsz, ⟨by show w1.heap.size < _; simp, hlen, v', ha_at _ _ rfl, .inl ⟨h1, h2⟩⟩⟩
    · exact ⟨w1.heap.size, b, rfl, hc1.trans hal, hsz, h2, ⟨by show b < _; simp; omega, hlen, v', ha_at _ _ rfl, .inr ⟨o, cap, h1, fun j x hx => hal.cell (fun h => h) (h4 j x hx)⟩⟩⟩
  have FIN := Lib.hid fin
  have hv2 : ∃ a n c, v' = .slice a n c := by
    rcases hv with ⟨_, h2⟩ | ⟨b, o, cap, h1, _⟩
    · exact ⟨_, _, _, h2⟩
    · exact ⟨_, _, _, h1⟩
  obtain ⟨a, n, c, rfl⟩ := hv2
  clear fin hv
  go_wp2
  go_ret
  exact FIN.out _ rfl

theorem options_any (v : Value) (d : Int) (b : Bool) (w : World) (hv : ∃ a n c, v = .slice a n c) :
    Calls Try.prog 21 #[.agg #[v, .int .i64 d, .bool b]] w fun e w' => e = .returned (.agg #[.int .i64 d, .bool b]) ∧ Chg (fun _ _ => False) w w' := by
  obtain ⟨a, n, c, rfl⟩ := hv
  go_enter Try.func21, Try.ntmps21
  go_wp2_with fail
  refine name_prop (fun w1 => Chg (fun _ _ => False) w w1 ∧ w1.heap[w.heap.size + 1]? = some (.cells #[.int .i64 d, .bool b] 52 (0, 0))) ⟨?_, ?_⟩ ?_
  · repeat (first | refine Chg.drew ?_ | refine Chg.drewN ?_ _ | refine Chg.alloc ?_ _ | refine Chg.setCell ?_ (.inr (by simp)) _ | exact Chg.refl _ _)
  · exact ha_at _ _ (by simp)
  rintro w1 ⟨hc, hb⟩
  have p0 := cell_of_block hb 0
  have p1 := cell_of_block hb 1
  simp only [List.getElem?_toArray, List.getElem?_cons_zero, List.getElem?_cons_succ] at p0 p1
  refine bodyPost_ret (v := .agg #[.int .i64 d, .bool b]) (by simp [results, Try.results21, go_sem, p0, p1]) rfl ?_
  exact ⟨rfl, hc⟩

def BeforeAnyPost (ord : List Int) (w : World) (e : Ending) (w' : World) : Prop :=
  ∃ ob rb lb, e = .returned (.func (.func 31) #[] #[.pointer (some ⟨lb, 0, none⟩)]) ∧ Chg (fun _ _ => False) w w' ∧ w.heap.size ≤ ob ∧ w.heap.size ≤ rb ∧ w.heap.size ≤ lb ∧ ∀ iso ctr, OrdAt (⟨iso, ctr, ob, rb, lb⟩ : Kc ord) w'

theorem beforeAny_any (v : Value) (w : World) (hs : SlE intE w v ord) (hlen : ord.length ≤ 2147483647) :
    Calls Try.prog 20 #[v] w (BeforeAnyPost ord w) := by
  have hmf : ∀ (fn : Fn) (first cap : Array Value) (w : World), (Instr.makeFunc fn first cap).run Try.prog w = .ok (.func fn first cap) w := fun _ _ _ _ => rfl
  have hsf := fun (a : Addr) (c : Array Value) (w : World) => run_store Try.prog w a (.func (.func 41) #[] c) .plain rfl
  have HC := Lib.hid (before_any' v w hs hlen)
  clear hs
  go_enter Try.func20, Try.ntmps20
  go_wp2_with fail
  refine HC.out.mono ?_
  rintro e w1 ⟨ob, rb, rfl, hc1, h1, h2, hN⟩
  have hsz := hc1.size
  have fin : ∀ w2, Chg (fun _ _ => False) w1 w2 → w2.heap[w1.heap.size]? = some (.cells #[.func (.func 41) #[] #[.pointer (some ⟨ob, 0, none⟩)]] 74 (0, 0)) → BeforeAnyPost ord w (.returned (.func (.func 31) #[] #[.pointer (some ⟨w1.heap.size, 0, none⟩)])) w2 :=
    fun w2 hc hb => ⟨ob, rb, w1.heap.size, rfl, hc1.trans hc, h1, h2, hsz, fun iso ctr => ⟨hb, hN.chg hc⟩⟩
  have FIN := Lib.hid fin
  clear fin hN HC
  go_wp2_with fail
  refine name_prop (fun w2 => Chg (fun _ _ => False) w1 w2 ∧ w2.heap[w1.heap.size]? = some (.cells #[.func (.func 41) #[] #[.pointer (some ⟨ob, 0, none⟩)]] 74 (0, 0))) ⟨?_, ?_⟩ ?_
  · repeat (first | refine Chg.drew ?_ | refine Chg.drewN ?_ _ | refine Chg.alloc ?_ _ | refine Chg.setCell ?_ (.inr (by simp)) _ | exact Chg.refl _ _)
  · first | exact ha_at _ _ rfl | (rw [hs_same (ha_at _ _ rfl)]; rfl)
  rintro w2 ⟨hc2, hb2⟩
  go_ret
  exact FIN.out _ hc2 hb2

set_option maxRecDepth 100000 in
theorem newOptions_any (k0 : Kc ord) (d : Int) (b : Bool) (w : World) (h : FitD d) (ho : OrdAt k0 w) :
    Calls Try.prog 19 #[lessV k0, .agg #[.int .i64 d, .bool b]] w fun e w' => ∃ t hp c, e = .returned (.pointer (some ⟨hp, 0, none⟩)) ∧ Chg (fun _ _ => False) w w' ∧ w.heap.size ≤ t ∧ w.heap.size ≤ hp ∧
      w'.heap[hp]? = some (.cells #[.pointer (some ⟨t, 0, none⟩)] 73 (0, 0)) ∧ MapBlk (⟨1, c, k0.ob, k0.rb, k0.lb⟩ : Kc ord) (mnD d) (mxD d) w' t none 0 ∧ hp ≠ t := by
  have HN := Lib.hid (fun w1 (c : Chg (fun _ _ => False) w w1) => new_any k0 d b w1 h (ho.chg c (fun _ h => h) (fun _ h => h)))
  clear ho
  have qF : ∀ (c : Array Value) (w : World), (binOp .eql 49 (.func (.func 31) #[] c) .nilFunc).run Try.prog w = .ok (.bool false) w := fun c w => by kernel_rfl
  unfold lessV at HN ⊢
  go_enter Try.func19, Try.ntmps19
  go_wp2_with fail
  refine name_calls (fun w1 => Chg (fun _ _ => False) w w1) ((Chg.refl _ _).alloc _) ?_
  intro w1 hc1
  refine (HN.out w1 hc1).mono ?_
  rintro e w2 ⟨rfl, hc2, hB⟩
  have hsz1 := hc1.size
  have hsz2 := hc2.size
  have hlt := hB.lt
  have fin : ∀ w3, w3 = w2.alloc (.cells #[.pointer (some ⟨w1.heap.size + 1, 0, none⟩)] 73) → ∃ t hp c, Ending.returned (.pointer (some ⟨w2.heap.size, 0, none⟩)) = .returned (.pointer (some ⟨hp, 0, none⟩)) ∧ Chg (fun _ _ => False) w w3 ∧ w.heap.size ≤ t ∧ w.heap.size ≤ hp ∧
      w3.heap[hp]? = some (.cells #[.pointer (some ⟨t, 0, none⟩)] 73 (0, 0)) ∧ MapBlk (⟨1, c, k0.ob, k0.rb, k0.lb⟩ : Kc ord) (mnD d) (mxD d) w3 t none 0 ∧ hp ≠ t := by
    rintro w3 rfl
    have hal : Chg (fun _ _ => False) w2 (w2.alloc (.cells #[.pointer (some ⟨w1.heap.size + 1, 0, none⟩)] 73)) := (Chg.refl _ _).alloc _
    exact ⟨_, _, _, rfl, (hc1.trans hc2).trans hal, by omega, by omega, ha_at _ _ rfl, hB.chg hal (fun _ _ _ h => h), by omega⟩
  have FIN := Lib.hid fin
  clear fin hB HN
  go_wp2
  go_ret
  exact FIN.out _ rfl
end Go.Proofs.Ytilcapfokmpaoaa

namespace Go.Proofs.Ytilcapfokmpaoaa
set_option linter.unusedSimpArgs false
set_option linter.unusedVariables false
open Go.RowKit

theorem exMake_any (w : World) : Calls Try.prog 6 #[] w fun e w' => e = .returned (.agg #[.slice none 0 0, .int .i64 2, .bool false]) ∧ Chg (fun _ _ => False) w w' := by
  go_enter Try.func6, Try.ntmps6
  go_wp2_with fail
  refine name_prop (fun w1 => Chg (fun _ _ => False) w w1 ∧ w1.heap[w.heap.size]? = some (.cells #[.slice none 0 0, .int .i64 2, .bool false] 24 (0, 0))) ⟨?_, ?_⟩ ?_
  · repeat (first | refine Chg.drew ?_ | refine Chg.drewN ?_ _ | refine Chg.alloc ?_ _ | refine Chg.setCell ?_ (.inr (by simp)) _ | exact Chg.refl _ _)
  · exact ha_at _ _ rfl
  rintro w1 ⟨hc, hb⟩
  have p0 := cell_of_block hb 0
  have p1 := cell_of_block hb 1
  have p2 := cell_of_block hb 2
  simp only [List.getElem?_toArray, List.getElem?_cons_zero, List.getElem?_cons_succ] at p0 p1 p2
  refine bodyPost_ret (v := .agg #[.slice none 0 0, .int .i64 2, .bool false]) (by simp [results, Try.results6, go_sem, p0, p1, p2]) rfl ?_
  exact ⟨rfl, hc⟩

theorem zzFits1_any (a : Option Addr) (n c : Nat) (d : Int) (b : Bool) (w : World) : Calls Try.prog 4 #[.agg #[.slice a n c, .int .i64 d, .bool b]] w fun e w' => e = .returned (.bool (decide (n ≤ 2147483647))) ∧ Chg (fun _ _ => False) w w' := by
  by_cases h : n ≤ 2147483647
  · have h2 : ¬ (2147483647 : Int) < (n : Int) := by omega
    have e : decide (n ≤ 2147483647) = true := by simpa using h
    rw [e]
    go_enter Try.func4, Try.ntmps4
    go_wp2
    go_ret
    exact ⟨rfl, (Chg.refl _ _).alloc _⟩
  · have h2 : (2147483647 : Int) < (n : Int) := by omega
    have e : decide (n ≤ 2147483647) = false := by simpa using h
    rw [e]
    go_enter Try.func4, Try.ntmps4
    go_wp2
    go_ret
    exact ⟨rfl, (Chg.refl _ _).alloc _⟩

theorem fits_fit (d : Int) (w : World) (h : FitD d) : Calls Try.prog 8 #[.int .i64 d] w fun e w' => e = .returned (.bool true) ∧ w = w' := by
  rcases h with rfl | ⟨h1, h2⟩
  · exact fits_zero w
  · exact fits_yes d w h1 h2
theorem fits_not (d : Int) (w : World) (h : ¬ FitD d) : Calls Try.prog 8 #[.int .i64 d] w fun e w' => e = .returned (.bool false) ∧ w = w' :=
  fits_no d w (fun e => h (.inl e)) (by
    by_cases h2 : d < 2
    · exact .inl h2
    · refine .inr ?_
      by_cases h3 : 128 < d
      · exact h3
      · exact absurd (.inr ⟨by omega, by omega⟩) h)

theorem Less_any {ord : List Int} {k : Kc ord} {mn mx t : Nat} {w : World} (h : MapAt k mn mx w t) (a b : It ord) :
    Calls Try.prog 64 #[.pointer (some ⟨t, 0, none⟩), aggM a, aggM b] w fun e w' => e = .returned (.bool (ltM a b)) ∧ Chg (fun _ _ => False) w w' := by
  have c6 := h.c6l
  unfold lessV at c6
  have HL := Lib.hid (fun w1 (c : Chg (fun _ _ => False) w w1) => less_any a b w1 (h.ord.chg c (fun _ h => h) (fun _ h => h)))
  clear h
  unfold aggM
  go_enter Try.func64, Try.ntmps64
  go_wp2_with fail
  refine (HL.out w (Chg.refl _ _)).mono ?_
  rintro e w2 ⟨rfl, hc2⟩
  go_wp2_with fail
  go_ret
  exact ⟨rfl, hc2⟩

/-- The cell of a tree of interfaces, and the tree that it points at. -/
def HeapAt {ord : List Int} (k : Kc ord) (w : World) (hp t : Nat) : Prop := w.heap[hp]? = some (.cells #[.pointer (some ⟨t, 0, none⟩)] 73 (0, 0))

end Go.Proofs.Ytilcapfokmpaoaa

namespace Go.Proofs.Ytilcapfokmpaoaa
set_option linter.unusedSimpArgs false
set_option linter.unusedVariables false
open Go.RowKit
variable {ord : List Int} {k : Kc ord}

theorem SetHint_any {mn mx : Nat} {w : World} {F : Nat → Prop} {t : Nat} {l : List (It ord)} (h : MapIn k mn mx w F t l) (x : It ord) (hl : l.length < 100000000000000) (hmn : 1 ≤ mn) (hmx : 3 ≤ mx) (hmx2 : mx ≤ 1000) (hmh : mn ≤ mx / 2) (hmh2 : mn ≤ mx - (mx / 2 + 1)) :
    Calls Try.prog 43 #[.pointer (some ⟨t, 0, none⟩), aggM x, .pointer none] w (SetPost k mn mx w F t l x) := by
  have HC := Lib.hid (set_any h x hl hmn hmx hmx2 hmh hmh2)
  clear h
  unfold aggM at HC ⊢
  go_enter Try.func43, Try.ntmps43
  go_wp2_with fail
  refine HC.out.mono ?_
  rintro e w2 ⟨hret, hrest⟩
  have HR := Lib.hid hrest
  clear hrest
  have hret2 := hret
  rcases hret2 with ⟨y, _, rfl⟩ | ⟨_, rfl⟩
  all_goals
    go_wp2_with fail
    go_ret2
    exact ⟨hret, HR.out⟩

/-- What Set of a tree of interfaces leaves. -/
def HSetPost (k : Kc ord) (mn mx : Nat) (w : World) (F : Nat → Prop) (t : Nat) (l : List (It ord)) (x : It ord) (e : Ending) (w' : World) : Prop :=
  e = .returned (optV (fndL ltM x l)) ∧ ∃ F', MapIn k mn mx w' F' t (insL ltM x l) ∧ Chg (fun b _ => F b ∨ b = t) w w' ∧ ∀ b, F' b → F b ∨ w.heap.size ≤ b

theorem HSetHint_any {mn mx : Nat} {w : World} {F : Nat → Prop} {hp t : Nat} {l : List (It ord)} (hh : HeapAt k w hp t) (h : MapIn k mn mx w F t l) (x : It ord) (hl : l.length < 100000000000000) (hmn : 1 ≤ mn) (hmx : 3 ≤ mx) (hmx2 : mx ≤ 1000) (hmh : mn ≤ mx / 2) (hmh2 : mn ≤ mx - (mx / 2 + 1)) :
    Calls Try.prog 32 #[.pointer (some ⟨hp, 0, none⟩), aggM x, .pointer none] w (HSetPost k mn mx w F t l x) := by
  have c0 := cell_of_block hh 0
  simp only [List.getElem?_toArray, List.getElem?_cons_zero] at c0
  have HC := Lib.hid (SetHint_any h x hl hmn hmx hmx2 hmh hmh2)
  clear h hh
  unfold aggM at HC ⊢
  go_enter Try.func32, Try.ntmps32
  go_wp2_with fail
  refine HC.out.mono ?_
  rintro e w2 ⟨hret, hrest⟩
  have HR := Lib.hid hrest
  clear hrest
  rcases hret with ⟨y, hy, rfl⟩ | ⟨hy, rfl⟩
  all_goals
    go_wp2_with fail
    go_ret
    exact ⟨by rw [hy]; rfl, HR.out⟩

theorem HSet_any {mn mx : Nat} {w : World} {F : Nat → Prop} {hp t : Nat} {l : List (It ord)} (hh : HeapAt k w hp t) (h : MapIn k mn mx w F t l) (x : It ord) (hl : l.length < 100000000000000) (hmn : 1 ≤ mn) (hmx : 3 ≤ mx) (hmx2 : mx ≤ 1000) (hmh : mn ≤ mx / 2) (hmh2 : mn ≤ mx - (mx / 2 + 1)) :
    Calls Try.prog 22 #[.pointer (some ⟨hp, 0, none⟩), aggM x] w (HSetPost k mn mx w F t l x) := by
  have HC := Lib.hid (HSetHint_any hh h x hl hmn hmx hmx2 hmh hmh2)
  clear h hh
  unfold aggM at HC ⊢
  go_enter Try.func22, Try.ntmps22
  go_wp2_with fail
  refine HC.out.mono ?_
  rintro e w2 ⟨rfl, hrest⟩
  have HR := Lib.hid hrest
  clear hrest
  go_wp2_with fail
  go_ret
  exact ⟨rfl, HR.out⟩
end Go.Proofs.Ytilcapfokmpaoaa

namespace Go.Proofs.Ytilcapfokmpaoaa
set_option linter.unusedSimpArgs false
set_option linter.unusedVariables false
open Go.RowKit

def GrowPost (ord : List Int) (d : Int) (w : World) (l : List (It ord)) (e : Ending) (w' : World) : Prop :=
  ∃ (k : Kc ord) (hp t : Nat) (F : Nat → Prop), e = .returned (.pointer (some ⟨hp, 0, none⟩)) ∧ HeapAt k w' hp t ∧ MapIn k (mnD d) (mxD d) w' F t (growL l) ∧ Chg (fun _ _ => False) w w' ∧ (∀ b, F b → w.heap.size ≤ b) ∧ (∀ b, MOwn k t b → w.heap.size ≤ b) ∧ w.heap.size ≤ hp ∧ hp ≠ t ∧ ¬ F hp

set_option maxRecDepth 100000 in
set_option maxHeartbeats 2000000 in
theorem grow_big {ord : List Int} (v : Value) (d : Int) (nl : Bool) (p : Option Addr) (cap : Nat) (l : List (It ord)) (w : World) (hd : FitD d) (hs : SlE intE w v ord) (hol : ord.length ≤ 2147483647) (hl : ItemsAt w p l) (hlen : l.length ≤ 8589934592) :
    Calls Try.prog 12 #[.agg #[v, .int .i64 d, .bool nl], .slice p l.length cap] w (GrowPost ord d w l) := by
  have hv : ∃ a n c, v = .slice a n c := by
    obtain ⟨a, c, e, _⟩ := hs
    exact ⟨_, _, _, e⟩
  have HS := Lib.hid hs
  have HL := Lib.hid hl
  have hdim := hd.dims
  have HOP := Lib.hid (fun w1 => options_any v d nl w1 hv)
  have hbf := fun w1 (c : Chg (fun _ _ => False) w w1) => beforeAny_any v w1 (HS.out.chg c) hol
  have HBF := Lib.hid hbf
  obtain ⟨a, n, c, rfl⟩ := hv
  clear hs hl hbf
  go_enter Try.func12, Try.ntmps12
  go_wp2_with fail
  refine name_world (fun w1 => Chg (fun _ _ => False) w w1 ∧ w1.heap[w.heap.size]? = some (.cells #[.slice a n c, .int .i64 d, .bool nl] 24 (0, 0))) ⟨(Chg.refl _ _).alloc _, ha_at _ _ rfl⟩ ?_
  rintro w1 ⟨hc1, hb1⟩
  have q0 := cell_of_block hb1 0
  have q1 := cell_of_block hb1 1
  have q2 := cell_of_block hb1 2
  simp only [List.getElem?_toArray, List.getElem?_cons_zero, List.getElem?_cons_succ] at q0 q1 q2
  have hsz1 := hc1.size
  clear hb1
  refine wp_region_scr (fun w' => w'.cell? ⟨w.heap.size, 0, none⟩ = some (.slice a n c) ∧ w'.cell? ⟨w.heap.size, 1, none⟩ = some (.int .i64 d) ∧ w'.cell? ⟨w.heap.size, 2, none⟩ = some (.bool nl)) (.soft 0 (.soft 1 (.soft 3 (.hard 2 (.hard 4 (.hard 5 (.soft 6 .nil))))))) (by kernel_rfl) (by kernel_rfl) (fun _ _ _ _ _ h => h) ⟨q0, q1, q2⟩ ?_
  repeat
    first
    | (refine scr_soft (by rfl) ?_ ?_ ?_ ?_
       rotate_left
       · simp [Region.wanted, yielded]; done
       · intro w' hS
         try obtain ⟨a1, a2, a3⟩ := hS
         go_simp
         try with_reducible rfl
       simp only [Act.put, List.setIfInBounds_toArray, List.set_cons_zero, List.set_cons_succ])
    | (refine scr_skip (by rfl) ?_ ?_
       · simp [Region.wanted, yielded]; done
       simp only [Act.put, List.setIfInBounds_toArray, List.set_cons_zero, List.set_cons_succ])
  refine scr_hard (by rfl) (by simp [Region.wanted, yielded]) (fun K hK => ?_)
  go_simp
  refine (HBF.out _ hc1.drew).mono ?_
  rintro e w2 ⟨ob, rb, lb, rfl, hc2, hob, hrb, hlb, hord⟩
  refine hK _ _ ⟨hc2.cell (fun h => h) q0, hc2.cell (fun h => h) q1, hc2.cell (fun h => h) q2⟩ ?_
  clear hK K
  repeat
    first
    | (refine scr_soft (by rfl) ?_ ?_ ?_ ?_
       rotate_left
       · simp [Region.wanted, yielded]; done
       · intro w' hS
         try obtain ⟨a1, a2, a3⟩ := hS
         go_simp
         try with_reducible rfl
       simp only [Act.put, List.setIfInBounds_toArray, List.set_cons_zero, List.set_cons_succ])
    | (refine scr_skip (by rfl) ?_ ?_
       · simp [Region.wanted, yielded]; done
       simp only [Act.put, List.setIfInBounds_toArray, List.set_cons_zero, List.set_cons_succ])
  refine scr_hard (by rfl) (by simp [Region.wanted, yielded]) (fun K hK => ?_)
  go_simp
  refine (HOP.out w2).mono ?_
  rintro e w3 ⟨rfl, hc3⟩
  have hc13 := hc2.trans hc3
  refine hK _ _ ⟨hc13.cell (fun h => h) q0, hc13.cell (fun h => h) q1, hc13.cell (fun h => h) q2⟩ ?_
  clear hK K
  repeat
    first
    | (refine scr_soft (by rfl) ?_ ?_ ?_ ?_
       rotate_left
       · simp [Region.wanted, yielded]; done
       · intro w' hS
         try obtain ⟨a1, a2, a3⟩ := hS
         go_simp
         try with_reducible rfl
       simp only [Act.put, List.setIfInBounds_toArray, List.set_cons_zero, List.set_cons_succ])
    | (refine scr_skip (by rfl) ?_ ?_
       · simp [Region.wanted, yielded]; done
       simp only [Act.put, List.setIfInBounds_toArray, List.set_cons_zero, List.set_cons_succ])
  refine scr_hard (by rfl) (by simp [Region.wanted, yielded]) (fun K hK => ?_)
  go_simp
  refine (newOptions_any (⟨0, 0, ob, rb, lb⟩ : Kc ord) d nl w3 hd ((hord 0 0).chg hc3 (fun _ h => h) (fun _ h => h))).mono ?_
  rintro e w4 ⟨t, hp, c4, rfl, hc4, ht4, hp4, hH4, hB4, hne⟩
  have hc14 := hc13.trans hc4
  refine hK _ _ ⟨hc14.cell (fun h => h) q0, hc14.cell (fun h => h) q1, hc14.cell (fun h => h) q2⟩ ?_
  clear hK K
  repeat
    first
    | (refine scr_soft (by rfl) ?_ ?_ ?_ ?_
       rotate_left
       · simp [Region.wanted, yielded]; done
       · intro w' hS
         try obtain ⟨a1, a2, a3⟩ := hS
         go_simp
         try with_reducible rfl
       simp only [Act.put, List.setIfInBounds_toArray, List.set_cons_zero, List.set_cons_succ])
    | (refine scr_skip (by rfl) ?_ ?_
       · simp [Region.wanted, yielded]; done
       simp only [Act.put, List.setIfInBounds_toArray, List.set_cons_zero, List.set_cons_succ])
  refine scr_nil ?_
  have hc04 : Chg (fun _ _ => False) w w4 := (hc1.trans (Chg.refl _ _).drew).trans hc14
  have HNE := Lib.hid hne
  clear hne
  have hsz3 := hc13.size
  have hszd : w1.drew.heap.size = w1.heap.size := rfl
  obtain ⟨kk, hkk⟩ : ∃ kk : Kc ord, kk = ⟨1, c4, ob, rb, lb⟩ := ⟨_, rfl⟩
  rw [← hkk] at hB4
  have hown : ∀ b, MOwn kk t b → w.heap.size ≤ b := by
    rw [hkk]
    rintro b (h | h | h | h)
    · omega
    · have h2 : b = ob := h; omega
    · have h2 : b = rb := h; omega
    · have h2 : b = lb := h; omega
  have hpw : w.heap.size ≤ hp := by omega
  clear hkk hord hc4 hc13 hc14 hc2 hc3 q0 q1 q2 HBF HOP HS hob hrb hlb ht4 hp4
  go_wp2_with fail
  go_loopw [16] (fun i wr => ∃ (j : Nat) (F : Nat → Prop), j ≤ l.length ∧ i = .int .i64 j ∧ MapIn kk (mnD d) (mxD d) wr F t (growL (l.take j)) ∧ Chg (fun _ _ => False) w wr ∧ (∀ b, F b → w.heap.size ≤ b) ∧ HeapAt kk wr hp t ∧ ¬ F hp) (fun i _ => l.length - (intOf i).toNat)
  case atStart => exact ⟨0, fun _ => False, Nat.zero_le _, rfl, .inl ⟨rfl, fun _ h => h, hB4⟩, hc04, fun _ h => h.elim, hH4, fun h => h⟩
  case round =>
    obtain ⟨j, F, hj, rfl, hM, hc, hF, hH, hnF⟩ := hrel
    have hsz := hc.size
    by_cases hlt : j < l.length
    · obtain ⟨x, hx⟩ : ∃ x, l[j]? = some x := ⟨_, List.getElem?_eq_getElem hlt⟩
      rcases HL.out.chg hc with hl0 | ⟨b, o, rfl, hcell⟩
      · subst hl0; simp at hlt
      obtain ⟨g0, g1⟩ := hcell j x hx
      have i0 : (0 : Int) ≤ (j : Int) := by omega
      have i1 : (j : Int) < (l.length : Int) := by omega
      have hgl := growL_take_len l j
      have hgt := growL_take hx
      have htl := hown t MOwn.self
      clear hcell hx
      have hal : Chg (fun _ _ => False) wr (wr.alloc (.cells #[.int .i64 x.1, .int .i64 x.2] 27)) := (Chg.refl (fun _ _ => False) wr).alloc _
      have hH1 : HeapAt kk (wr.alloc (.cells #[.int .i64 x.1, .int .i64 x.2] 27)) hp t := by
        unfold HeapAt at hH ⊢
        rw [hal.block (heap_lt hH) (fun _ h => h)]; exact hH
      have hpl := heap_lt hH
      have hs1 := HSet_any hH1 (hM.chg hal) x (by omega) hdim.1 hdim.2.1 hdim.2.2.1 hdim.2.2.2.1 hdim.2.2.2.2
      unfold aggM at hs1
      have HS1 := Lib.hid hs1
      have HH1 := Lib.hid hH1
      clear hs1 hH1 hH
      go_wp2_with fail
      refine HS1.out.mono ?_
      rintro e w2 ⟨rfl, F', hM2, hc2, hF2⟩
      have hc02 : Chg (fun _ _ => False) w w2 := (hc.trans hal).trans' hc2 (fun _ _ _ h => h) (fun b o hb h => by
        rcases h with h | h
        · have := hF b h; omega
        · omega)
      have hasz := hal.size
      have hF2' : ∀ b, F' b → w.heap.size ≤ b := fun b hb => by
        rcases hF2 b hb with h | h
        · exact hF b h
        · omega
      have hnF' : ¬ F' hp := fun h => by
        rcases hF2 hp h with h | h
        · exact hnF h
        · omega
      have hH2 : HeapAt kk w2 hp t := by
        have h1 := HH1.out
        unfold HeapAt at h1 ⊢
        rw [hc2.block (heap_lt h1) (fun _ h => by
          rcases h with h | h
          · exact hnF h
          · exact HNE.out h)]
        exact h1
      have HH2 := Lib.hid hH2
      clear hH2
      go_wp2_with fail
      go_roundw
      case rel => exact ⟨j + 1, F', by omega, by go_num, by rw [hgt]; exact hM2, hc02, hF2', HH2.out, hnF'⟩
      case measure => simp [intOf]; omega
    · obtain rfl : j = l.length := by omega
      go_wp2_with fail
      go_ret
      exact ⟨kk, hp, t, F, rfl, hH, by rw [List.take_length] at hM; exact hM, hc, hF, hown, hpw, HNE.out, hnF⟩

theorem grow_any {ord : List Int} (v : Value) (d : Int) (nl : Bool) (p : Option Addr) (cap : Nat) (l : List (It ord)) (w : World) (hd : FitD d) (hs : SlE intE w v ord) (hol : ord.length ≤ 2147483647) (hl : ItemsAt w p l) (hlen : l.length ≤ 2147483647) :
    Calls Try.prog 12 #[.agg #[v, .int .i64 d, .bool nl], .slice p l.length cap] w (GrowPost ord d w l) :=
  grow_big v d nl p cap l w hd hs hol hl (by omega)
end Go.Proofs.Ytilcapfokmpaoaa
