/- spec: First, From, GAscend. -/
import Derived.BigQuiet
import Derived.Deep.Cut
import Derived.Deep.CutRange
import Derived.Deep.QuietTactic
import Derived.StillTailTactics
import Derived.Test.YtilcapfokmpaoaaA9
import Derived.Test.YtilcapfokmpaoaaA12
namespace Go.Proofs.Ytilcapfokmpaoaa
set_option linter.unusedSimpArgs false
set_option linter.unusedVariables false
open Go.RowKit

def stkE : El (Nat × Int) where
  es := 2
  enc := fun x => [.pointer (some ⟨x.1, 0, none⟩), .int .i64 x.2]
  T := 58
  epos := by omega
  elen := fun _ => rfl
  eone := by intro x v hv; simp at hv; rcases hv with rfl | rfl <;> rfl

theorem infoStk : (Try.prog.info? 58).map (fun i => (i.zero, i.size, i.bytes)) = some (some (.agg #[.pointer none, .int .i64 0]), 2, 16) := by kernel_rfl

/-- The iterator's own cells. -/
def ItAt (w : World) (ib t : Nat) (sk a e : Bool) (st x : Value) : Prop :=
  w.heap[ib]? = some (.cells #[.pointer (some ⟨t, 0, none⟩), .bool false, .bool false, .bool sk, .bool a, .bool e, .pointer none, .int .i64 0, .pointer none, .int .i64 0, .pointer none, .int .i64 0, .pointer none, .int .i64 0, st, x] 64 (0, 0))

section
variable {w w' : World} {ib t : Nat} {sk a e : Bool} {st x : Value}
theorem ItAt.lt (h : ItAt w ib t sk a e st x) : ib < w.heap.size := heap_lt h
theorem ItAt.c0 (h : ItAt w ib t sk a e st x) : w.cell? ⟨ib, 0, none⟩ = some (.pointer (some ⟨t, 0, none⟩)) := by rw [cell_of_block h]; rfl
theorem ItAt.c1 (h : ItAt w ib t sk a e st x) : w.cell? ⟨ib, 1, none⟩ = some (.bool false) := by rw [cell_of_block h]; rfl
theorem ItAt.c2 (h : ItAt w ib t sk a e st x) : w.cell? ⟨ib, 2, none⟩ = some (.bool false) := by rw [cell_of_block h]; rfl
theorem ItAt.c3 (h : ItAt w ib t sk a e st x) : w.cell? ⟨ib, 3, none⟩ = some (.bool sk) := by rw [cell_of_block h]; rfl
theorem ItAt.c4 (h : ItAt w ib t sk a e st x) : w.cell? ⟨ib, 4, none⟩ = some (.bool a) := by rw [cell_of_block h]; rfl
theorem ItAt.c5 (h : ItAt w ib t sk a e st x) : w.cell? ⟨ib, 5, none⟩ = some (.bool e) := by rw [cell_of_block h]; rfl
theorem ItAt.c14 (h : ItAt w ib t sk a e st x) : w.cell? ⟨ib, 14, none⟩ = some st := by rw [cell_of_block h]; rfl
theorem ItAt.c15 (h : ItAt w ib t sk a e st x) : w.cell? ⟨ib, 15, none⟩ = some x := by rw [cell_of_block h]; rfl
theorem ItAt.fz (h : ItAt w ib t sk a e st x) (j : Nat) : w.frozen? ⟨ib, j, none⟩ = false := by simp [World.frozen?, show w.heap[ib]? = _ from h]
theorem ItAt.put3 (h : ItAt w ib t sk a e st x) (v : Bool) : ItAt (w.setCell ⟨ib, 3, none⟩ (.bool v)) ib t v a e st x := by unfold ItAt; rw [hs_same h]; rfl
theorem ItAt.put5 (h : ItAt w ib t sk a e st x) (v : Bool) : ItAt (w.setCell ⟨ib, 5, none⟩ (.bool v)) ib t sk a v st x := by unfold ItAt; rw [hs_same h]; rfl
theorem ItAt.put14 (h : ItAt w ib t sk a e st x) (v : Value) : ItAt (w.setCell ⟨ib, 14, none⟩ v) ib t sk a e v x := by unfold ItAt; rw [hs_same h]; rfl
theorem ItAt.put15 (h : ItAt w ib t sk a e st x) (v : Value) : ItAt (w.setCell ⟨ib, 15, none⟩ v) ib t sk a e st v := by unfold ItAt; rw [hs_same h]; rfl
theorem ItAt.chg {A : Nat → Nat → Prop} (h : ItAt w ib t sk a e st x) (c : Chg A w w') (hA : ∀ o, ¬ A ib o) : ItAt w' ib t sk a e st x := by
  unfold ItAt; rw [c.block (heap_lt h) hA]; exact h
end

/-! A row in a block of whatever type: append. -/
section
variable {P : Program} {α : Type}
theorem run_append_T (p : El α) (w : World) (t ty : TypeId) (i : TypeInfo) (z : Value) (bytes : Nat) (ht : P.underlying t = some (.slice p.T)) (hi : P.info? p.T = some i) (hz : i.zero = some z)
    (hsize : i.size = p.es) (hby : i.bytes = bytes) (hzs : z.cells.size = p.es) (b o cap T : Nat) (xs : List α) (hrow : RowAt w T b o (cap * p.es) (flat p.par xs))
    (ad : Addr) (m c : Nat) (ys : List α) (hm : ys.length = m) (hsrc : ∀ j u, (flat p.par ys)[j]? = some u → w.cell? (ad.add j) = some u) (h63 : xs.length + m ≤ maxLen) (hbytes : (xs.length + m) * bytes ≤ 140737488355328) :
    ∃ b' o' cap' T' w', (Builtin.append_ #[t, t] ty #[.slice (some ⟨b, o, none⟩) xs.length cap, .slice (some ad) m c]).run P w = .ok (.slice (some ⟨b', o', none⟩) (xs.length + m) cap') w' ∧ xs.length + m ≤ cap' ∧ RowAt w' T' b' o' (cap' * p.es) (flat p.par (xs ++ ys)) ∧ Chg (fun B _ => B = b) w w' ∧ (b' = b ∨ w.heap.size ≤ b') := by
  have hl : (flat p.par ys).length = m * i.size := by rw [flat_len, hm, hsize]; rfl
  have hxs : (flat p.par xs).length = xs.length * i.size := by rw [flat_len, hsize]; rfl
  have h1 : ∀ u ∈ flat p.par ys, u.oneCell' = true := flat_one p.par ys
  have hsmall : xs.length + m ≤ 9223372036854775807 := by simp only [maxLen] at h63; omega
  rw [← hsize] at hrow hzs ⊢
  rw [flat_append]
  subst hby
  have hrow' := hrow
  obtain ⟨h0, cc, hg, hfit, hcs⟩ := hrow
  by_cases hroom : xs.length + m ≤ cap
  · have hmul : (xs.length + m) * i.size ≤ cap * i.size := Nat.mul_le_mul_right _ hroom
    rw [Nat.add_mul] at hmul
    refine ⟨b, o, cap, T, Ytilcapfokmpaoaa.putCells w b (o + xs.length * i.size) (flat p.par ys), ?_, hroom, ?_, ?_, .inl rfl⟩
    · have hf := run_firstCells_some (P := P) w i.size m ad m c (flat p.par ys) hl hsrc
      have hst := run_storeCells_at P b (o + xs.length * i.size) T (flat p.par ys) 0 cc w hg (by omega) h1
      simp only [Nat.add_zero] at hst
      simp only [Ytilcapfokmpaoaa.putCells, hg]
      simp [Builtin.append_, run_underlying ht, sizeOf, typeInfo, hi, Builtin.lenOf, hroom, hf, add_none, hst]
    · have := hrow'.putCells (xs.length * i.size) (flat p.par ys) (by omega) (by omega)
      have e1 : (flat p.par xs).take (xs.length * i.size) = flat p.par xs := List.take_of_length_le (by omega)
      have e2 : (flat p.par xs).drop (xs.length * i.size + (flat p.par ys).length) = [] := List.drop_of_length_le (by omega)
      rw [e1, e2, List.append_nil] at this
      exact this
    · exact putCells_chg (Chg.refl _ _) hg (by omega) (.inl fun k h1 h2 => rfl)
  · have hr := run_append_grow (P := P) w t ty p.T i z ht hi hz ⟨b, o, none⟩ xs.length cap (flat p.par xs) hxs hrow'.adds ad m c (flat p.par ys) hl hsrc (by omega) (by omega) (growslice_fits (by omega) hbytes)
    have hge := grownCap_ge w (xs.length + m) cap p.T
    refine ⟨_, _, _, p.T, _, hr, hge, ?_, ((Chg.refl _ _).drew).alloc _, .inr (Nat.le_refl _)⟩
    have hs : ((flat p.par xs).toArray ++ (flat p.par ys).toArray ++ Builtin.zeroCells z.cells (grownCap w (xs.length + m) cap p.T - (xs.length + m))).size = grownCap w (xs.length + m) cap p.T * i.size := by
      simp only [Array.size_append, List.size_toArray, size_zeroCells, hzs, hxs, hl, ← Nat.add_mul]
      congr 1
      omega
    refine RowAt.of_block (heap_alloc_new w.drew _) _ _ ?_ ?_ ?_
    · rw [List.length_append, hxs, hl, ← Nat.add_mul]
      exact Nat.mul_le_mul_right _ hge
    · omega
    · intro j hj
      rw [Nat.zero_add, Array.getElem?_append_left (by simpa using hj)]
      simp
end

/-- A stack in a block from base on, but not the iterator's. -/
def StkAt (ib : Nat) (w : World) (v : Value) (xs : List (Nat × Int)) (base : Nat) : Prop :=
  ∃ b o cap T, v = .slice (some ⟨b, o, none⟩) xs.length cap ∧ xs.length ≤ cap ∧ base ≤ b ∧ b ≠ ib ∧ RowAt w T b o (cap * 2) (flat stkE.par xs)

theorem StkAt.chg {ib : Nat} {w w' : World} {v : Value} {xs : List (Nat × Int)} {base : Nat} {A : Nat → Nat → Prop} (h : StkAt ib w v xs base) (c : Chg A w w') (hA : ∀ b o, base ≤ b → b ≠ ib → ¬ A b o) : StkAt ib w' v xs base := by
  obtain ⟨b, o, cap, T, h1, h2, h3, h4, h5⟩ := h
  exact ⟨b, o, cap, T, h1, h2, h3, h4, h5.chg c (fun j _ => hA _ _ h3 h4)⟩
theorem StkAt.keep {ib : Nat} {w w' : World} {v : Value} {xs : List (Nat × Int)} {base : Nat} (h : StkAt ib w v xs base) (c : Chg (fun _ _ => False) w w') : StkAt ib w' v xs base := h.chg c (fun _ _ _ _ h => h)

theorem wpList_append_S {ops : Array Oper} {rest : List Oper} {o' : Oper} {a : Act} {w : World} {Q : Exit → Act → World → Prop} (hgd : o'.guard = none) (s x : Operand)
    (ho : o'.op = .call { callee := .builtin .append, args := #[s, x], argTypes := #[60, 60] }) (v : Value) (hs : a.eval s = v) (ib : Nat) (xs : List (Nat × Int)) (base : Nat) (how : StkAt ib w v xs base) (hbase : base ≤ w.heap.size) (hib : ib < w.heap.size)
    (ad : Addr) (c : Nat) (hx : a.eval x = .slice (some ad) 1 c) (y : Nat × Int) (hsrc : ∀ j u, (flat stkE.par [y])[j]? = some u → w.cell? (ad.add j) = some u) (h63 : xs.length ≤ 1000000000000)
    (h : ∀ v' w', StkAt ib w' v' (xs ++ [y]) base → Chg (fun b _ => base ≤ b ∧ b ≠ ib) w w' → wpList Try.prog ops Q rest (a.put o'.dst v') w') : wpList Try.prog ops Q (o' :: rest) a w := by
  obtain ⟨i0, hi0, hz0, hz1, hz2⟩ := info_parts infoStk
  obtain ⟨b, o, cap, T, rfl, h2, h3, h4, h5⟩ := how
  obtain ⟨b', o1, cap', T', w', hr, g1, g2, g3, g4⟩ := run_append_T (P := Try.prog) stkE w 60 o'.type i0 _ 16 Try.underlying60 hi0 hz0 hz1 hz2 rfl b o cap T xs h5 ad 1 c [y] rfl hsrc (by unfold maxLen; omega) (by omega)
  refine wpList_plain hgd fun K hK => ?_
  unfold Oper.wp execOp
  simp only [ho, resolve, invoke, builtin, Sem.run_bind, Sem.run_pure, Result.andThen_ok, List.map_toArray, List.map_cons, List.map_nil, hs, hx, hr]
  refine hK _ _ (h _ w' ⟨b', o1, cap', T', by simp, by simpa using g1, ?_, ?_, g2⟩ (g3.mono fun B _ _ hB => ⟨by omega, by omega⟩))
  · rcases g4 with g4 | g4 <;> omega
  · rcases g4 with g4 | g4 <;> omega

/-! The stack's rows. -/
theorem stk_flat_set (l : List (Nat × Int)) (n : Nat) (i v : Int) : (flat stkE.par (l ++ [(n, i)])).set (l.length * 2 + 1) (.int .i64 v) = flat stkE.par (l ++ [(n, v)]) := by
  rw [flat_append, flat_append, List.set_append_right]
  · have hl : (flat stkE.par l).length = l.length * 2 := flat_len _ _
    rw [hl, show l.length * 2 + 1 - l.length * 2 = 1 by omega]
    rfl
  · have hl : (flat stkE.par l).length = l.length * 2 := flat_len _ _
    omega

structure StkTop (ib : Nat) (w : World) (st : Value) (l : List (Nat × Int)) (n : Nat) (i : Int) (base b o cap : Nat) : Prop where
  eq : st = .slice (some ⟨b, o, none⟩) (l.length + 1) cap
  room : l.length + 1 ≤ cap
  lo : base ≤ b
  hi : b < w.heap.size
  ni : b ≠ ib
  c0 : w.cell? ⟨b, o + l.length * 2, none⟩ = some (.pointer (some ⟨n, 0, none⟩))
  c1 : w.cell? ⟨b, o + l.length * 2 + 1, none⟩ = some (.int .i64 i)
  fz : ∀ j, w.frozen? ⟨b, j, none⟩ = false
  put : ∀ v, StkAt ib (w.setCell ⟨b, o + l.length * 2 + 1, none⟩ (.int .i64 v)) st (l ++ [(n, v)]) base
  pop : StkAt ib w (.slice (some ⟨b, o, none⟩) l.length cap) l base

theorem stk_top {ib : Nat} {w : World} {st : Value} {l : List (Nat × Int)} {n : Nat} {i : Int} {base : Nat} (h : StkAt ib w st (l ++ [(n, i)]) base) : ∃ b o cap, StkTop ib w st l n i base b o cap := by
  obtain ⟨b, o, cap, T, rfl, h2, h3, hnb, h4⟩ := h
  have hll : (l ++ [(n, i)]).length = l.length + 1 := by simp
  rw [hll] at h2 ⊢
  have hx : (l ++ [(n, i)])[l.length]? = some (n, i) := by simp
  have g0 := h4.cell (flat_get stkE.par hx (q := 0) (v := .pointer (some ⟨n, 0, none⟩)) rfl)
  have g1 := h4.cell (flat_get stkE.par hx (q := 1) (v := .int .i64 i) rfl)
  refine ⟨b, o, cap, rfl, h2, h3, h4.lt, hnb, g0, by rw [Nat.add_assoc]; exact g1, h4.frozen, fun v => ?_, ?_⟩
  · have h5 := h4.setCell (l.length * 2 + 1) (.int .i64 v)
    rw [stk_flat_set] at h5
    exact ⟨b, o, cap, T, by simp, by simpa using h2, h3, hnb, by rw [Nat.add_assoc]; exact h5⟩
  · have h5 := h4.part 0 (l.length * 2) (cap * 2) (by rw [flat_len, hll]; show 0 + l.length * 2 ≤ (l.length + 1) * 2; omega) (by omega) (by rw [Nat.zero_add]; exact Nat.le_refl _)
    refine ⟨b, o, cap, T, rfl, by omega, h3, hnb, ?_⟩
    rw [List.drop_zero, Nat.add_zero] at h5
    have e : (flat stkE.par (l ++ [(n, i)])).take (l.length * 2) = flat stkE.par l := by
      have hl : (flat stkE.par l).length = l.length * 2 := flat_len _ _
      rw [flat_append]; exact List.take_left' hl
    rw [e] at h5
    exact h5

/-- The frames above a subtree of height h, the nearest first, and what comes behind the subtree. -/
def Frm {ord : List Int} (H : Nat → Option (NodeR (It ord))) (mn mx h0 : Nat) : List (Nat × Int) → Nat → List (It ord) → Prop
  | [], h, R => h = h0 ∧ R = []
  | f :: fs, h, R => ∃ (T : BT (It ord) (h + 1)) (k : Nat) (R' : List (It ord)), f = (rid T, (k : Int)) ∧ IsT H (h + 1) T ∧ Sh mn mx (h + 1) T ∧ k ≤ T.2.1.length ∧ Frm H mn mx h0 fs (h + 1) R' ∧ R = post (T.2.1.drop k) ((T.2.2.map (toL h)).drop (k + 1)) ++ R'

theorem Frm.len {ord : List Int} {H : Nat → Option (NodeR (It ord))} {mn mx h0 : Nat} : ∀ {fs : List (Nat × Int)} {h : Nat} {R : List (It ord)}, Frm H mn mx h0 fs h R → fs.length + h = h0
  | [], h, R, hf => by have := hf.1; simp [this]
  | f :: fs, h, R, ⟨T, k, R', _, _, _, _, hf, _⟩ => by have := hf.len; rw [List.length_cons]; omega

def stkLen (o : Option Value) : Nat := match o with
  | some (.slice _ n _) => n
  | _ => 0

/-- What a move of an iterator leaves: the next item of R, or none. -/
def ItPost {ord : List Int} (w : World) (ib t base : Nat) (R : List (It ord)) (e : Ending) (w' : World) : Prop :=
  (∃ y R' b o n c, R = y :: R' ∧ e = .returned (.bool true) ∧ ItAt w' ib t true false false (.slice (some ⟨b, o, none⟩) n c) (aggM y) ∧ Chg (fun b _ => base ≤ b) w w') ∨ (R = [] ∧ e = .returned (.bool false) ∧ (∃ sk a en b o n c, ItAt w' ib t sk a en (.slice (some ⟨b, o, none⟩) n c) .nilIface) ∧ Chg (fun b _ => base ≤ b) w w')
end Go.Proofs.Ytilcapfokmpaoaa

namespace Go.Proofs.Ytilcapfokmpaoaa
set_option linter.unusedSimpArgs false
set_option linter.unusedVariables false
open Go.RowKit


set_option maxRecDepth 100000 in
set_option maxHeartbeats 8000000 in
theorem next_leaf {ord : List Int} {k : Kc ord} {mn mx : Nat} {w : World} {F : Nat → Prop} {H : Nat → Option (NodeR (It ord))} {t h0 : Nat} {T' : BT (It ord) 0} {ib base : Nat} {fs : List (Nat × Int)} {R1 : List (It ord)} {st : Value} {k1 : Nat} (hfam : Fam (parM k) w F H) (hT : IsT H 0 T') (hs : Sh mn mx 0 T') (hmx : mx ≤ 1000) (hh0 : h0 ≤ 1000000000000)
    (hit : ItAt w ib t true false false st .nilIface) (how : StkAt ib w st (fs.reverse ++ [(rid T', (k1 : Int) - 1)]) base) (hk1 : k1 ≤ T'.2.length) (hfr : Frm H mn mx h0 fs 0 R1) (hF : ∀ b, F b → b < base) (hib : base ≤ ib) (hbase : base ≤ w.heap.size) :
    Calls Try.prog 55 #[.pointer (some ⟨ib, 0, none⟩)] w (ItPost w ib t base (T'.2.drop k1 ++ R1)) := by
  obtain ⟨R0, hR0⟩ : ∃ R0, R0 = T'.2.drop k1 ++ R1 := ⟨_, rfl⟩
  rw [← hR0]
  have HR0 := Lib.hid hR0
  clear hR0
  have hfl := hfr.len
  have HOF := Lib.hid (show ∀ b (_ : Nat), F b → ¬ base ≤ b from fun b _ hb h => by have := hF b hb; omega)
  have HFM := Lib.hid hfam
  have HFR := Lib.hid hfr
  obtain ⟨b, o, cap, hst⟩ := stk_top how
  have hrv : fs.reverse.length = fs.length := List.length_reverse
  obtain ⟨q, hq⟩ : ∃ q, fs.length = q := ⟨_, rfl⟩
  obtain ⟨N, hN⟩ : ∃ N, q + 1 = N := ⟨_, rfl⟩
  have hste : st = .slice (some ⟨b, o, none⟩) N cap := by rw [hst.eq, hrv, hq, hN]
  subst hste
  have hk1000 : T'.2.length ≤ 1000 := Nat.le_trans hs hmx
  have s4 : IntKind.i64.wrap ((k1 : Int) - 1 + 1) = (k1 : Int) := (by rw [IntWalk.i64_in _ (by omega)]; omega)
  obtain ⟨kv, hkv⟩ : ∃ kv : Int, kv = (k1 : Int) - 1 := ⟨_, rfl⟩
  have g0 := hst.c0
  have g1 := hst.c1
  have gz := hst.fz (o + q * 2 + 1)
  rw [hrv, hq] at g0 g1
  rw [← hkv] at g1 s4 how
  have hbi : b ≠ ib := hst.ni
  have hblo := hst.lo
  have s1 : IntKind.i64.wrap ((N : Int) - 1) = (q : Int) := (by rw [IntWalk.i64_in _ (by omega)]; omega)
  have s2 : (0 : Int) ≤ (q : Int) := by omega
  have s3 : (q : Int) < (N : Int) := by omega
  have s5 : ¬ N = 0 := by omega
  have s6 : ((N : Int) == 0) = false := beq_eq_false_iff_ne.2 (by omega)
  have HIT := Lib.hid hit
  have HOW0 := Lib.hid how
  have HNQ := Lib.hid (And.intro hN hq)
  have HK0 := Lib.hid hk1
  have e0 := HIT.out.c0
  have e1 := HIT.out.c1
  have e3 := HIT.out.c3
  have e4 := HIT.out.c4
  have e5 := HIT.out.c5
  have e14 := HIT.out.c14
  have e15 := HIT.out.c15
  have z3 := HIT.out.fz 3
  have z5 := HIT.out.fz 5
  have z14 := HIT.out.fz 14
  have z15 := HIT.out.fz 15
  clear hfam hfr hst how hrv hN hq hkv hk1 hit hF
  go_enter Try.func55, Try.ntmps55
  go_upto_region 9 with fail
  go_quiet (fail)
  refine name_prop (fun wq => Chg (fun _ _ => False) w wq) ((Chg.refl _ _).drewN _) ?_
  intro wq hcq
  obtain ⟨b2, o2, cap2, hst2⟩ := stk_top (HOW0.out.keep hcq)
  have he2 := hst2.eq
  injection he2 with e1' e2' e3'
  injection e1' with e1'
  injection e1' with e4' e5' e6'
  subst e4'
  subst e5'
  subst e3'
  clear e2' e6'
  have hput := hst2.put (k1 : Int)
  have hrv : fs.reverse.length = fs.length := List.length_reverse
  rw [hrv, HNQ.out.2] at hput
  have hiq := HIT.out.chg hcq (fun _ h => h)
  have hblt := hst2.hi
  replace g0 := hcq.cell (fun h => h) g0
  replace g1 := hcq.cell (fun h => h) g1
  replace gz : wq.frozen? ⟨b, o + q * 2 + 1, none⟩ = false := hst2.fz _
  have HPUT := Lib.hid hput
  have HIQ := Lib.hid hiq
  have hcs := (Chg.refl (fun b' _ => b' = b) wq).setCell (a := ⟨b, o + q * 2 + 1, none⟩) (.inl rfl) (.int .i64 (k1 : Int))
  have HCS := Lib.hid hcs
  clear hst2 hput hiq hcs hrv
  go_upto_region 11 with fail
  refine name_world (fun wz => StkAt ib wz (.slice (some ⟨b, o, none⟩) N cap) (fs.reverse ++ [(rid T', (k1 : Int))]) base ∧ Chg (fun b' _ => b' = b) wq wz) ⟨HPUT.out, HCS.out⟩ ?_
  rintro w1 ⟨how1, hcs⟩
  have hc1 : Chg (fun b _ => base ≤ b) w w1 := (hcq.trans' hcs (B := fun b' _ => b' = b) (fun _ _ _ h => h.elim) (fun _ _ _ h => h)).mono (fun b' _ _ h => by rw [show b' = b from h]; exact hblo)
  have hi1 := HIQ.out.chg hcs (fun _ h => hbi h.symm)
  clear g0 g1 gz HIQ HIT HPUT HCS HOW0 hcs hblt
  clear e0 e1 e3 e4 e5 e14 e15 z3 z5 z14 z15
  have HIT := Lib.hid hi1
  clear hi1
  have e0 := HIT.out.c0
  have e1 := HIT.out.c1
  have e3 := HIT.out.c3
  have e4 := HIT.out.c4
  have e5 := HIT.out.c5
  have e14 := HIT.out.c14
  have e15 := HIT.out.c15
  have z3 := HIT.out.fz 3
  have z5 := HIT.out.fz 5
  have z14 := HIT.out.fz 14
  have z15 := HIT.out.fz 15
  have hf1 := HFM.out.chg hc1 HOF.out
  obtain ⟨l2, hn2⟩ := hf1.node hT.root
  have hsz1 := hc1.size
  obtain ⟨b2, o2, cap2, hst2⟩ := stk_top (how1)
  have he2 := hst2.eq
  injection he2 with e1' e2' e3'
  injection e1' with e1'
  injection e1' with e4' e5' e6'
  subst e4'
  subst e5'
  subst e3'
  clear e2' e6'
  have g0 := hst2.c0
  have g1 := hst2.c1
  have hrv : fs.reverse.length = fs.length := List.length_reverse
  rw [hrv, HNQ.out.2] at g0 g1
  have HO1 := Lib.hid how1
  have HC1 := Lib.hid hc1
  clear hst2 hrv how1 hc1
  have n3 := hn2.c3n rfl
  go_wp2_with (go_at_call 54; refine (leaf_any _ none _ ?_).mono ?_; (focus go_simp); rintro e w' ⟨rfl, rfl⟩)
  have n2 : w1.cell? ⟨rid T', 2, none⟩ = some (.slice (some ⟨l2.ib, l2.io, none⟩) T'.2.length l2.ic) := hn2.c2
  have hk1l : k1 ≤ T'.2.length := HK0.out
  by_cases hlt : k1 < T'.2.length
  · have hcmp : ((k1 : Int) == (T'.2.length : Int)) = false := beq_eq_false_iff_ne.2 (by omega)
    go_quiet (fail)
    refine name_prop (fun wq => Chg (fun _ _ => False) w1 wq) ((Chg.refl _ _).drewN _) ?_
    intro w2 hcm
    have how2 := HO1.out.keep hcm
    have hcx := HC1.out.trans' hcm (fun _ _ _ h => h) (fun _ _ _ h => h.elim)
    have hf7 := HFM.out.chg hcx HOF.out
    replace hn2 := hn2.chg hcm (fun _ _ _ h => h)
    replace HIT := Lib.hid (HIT.out.chg hcm (fun _ h => h))
    obtain ⟨y, hy⟩ : ∃ y, T'.2[k1]? = some y := ⟨_, List.getElem?_eq_getElem hlt⟩
    have HY := Lib.hid hy
    clear g0 g1 n2 n3 hcmp s1 s2 s3 s4 s5 s6
    have n2 : w2.cell? ⟨rid T', 2, none⟩ = some (.slice (some ⟨l2.ib, l2.io, none⟩) T'.2.length l2.ic) := hn2.c2
    have hjl : k1 < T'.2.length := (List.getElem?_eq_some_iff.1 hy).1
    have ik : w2.cell? ⟨l2.ib, l2.io + k1, none⟩ = some (.iface 27 (.agg #[.int .i64 y.1, .int .i64 y.2])) := hn2.mval (j := k1) hy
    obtain ⟨b, o, cap, hst⟩ := stk_top how2
    have hrv : fs.reverse.length = fs.length := List.length_reverse
    obtain ⟨q, hq⟩ : ∃ q, fs.length = q := ⟨_, rfl⟩
    obtain ⟨N, hN⟩ : ∃ N, q + 1 = N := ⟨_, rfl⟩
    clear e0 e1 e3 e4 e5 e14 e15 z3 z5 z14 z15
    have e0 := HIT.out.c0
    have e1 := HIT.out.c1
    have e3 := HIT.out.c3
    have e4 := HIT.out.c4
    have e5 := HIT.out.c5
    have e14 := HIT.out.c14
    have e15 := HIT.out.c15
    have z3 := HIT.out.fz 3
    have z5 := HIT.out.fz 5
    have z14 := HIT.out.fz 14
    have z15 := HIT.out.fz 15
    replace e14 : w2.cell? ⟨ib, 14, none⟩ = some (.slice (some ⟨b, o, none⟩) N cap) := by rw [HIT.out.c14, hst.eq, hrv, hq, hN]
    have g0 := hst.c0
    have g1 := hst.c1
    rw [hrv, hq] at g0 g1
    obtain ⟨z, hz⟩ : ∃ z : Nat, z = k1 := ⟨_, rfl⟩
    rw [← hz] at ik hjl
    replace g1 : w2.cell? ⟨b, o + q * 2 + 1, none⟩ = some (.int .i64 (z : Int)) := by rw [hz]; exact g1
    have s1 : IntKind.i64.wrap ((N : Int) - 1) = (q : Int) := (by rw [IntWalk.i64_in _ (by omega)]; omega)
    have s2 : (0 : Int) ≤ (q : Int) := by omega
    have s3 : (q : Int) < (N : Int) := by omega
    have s5 : ¬ N = 0 := by omega
    have j0 : (0 : Int) ≤ (z : Int) := by omega
    have j1 : (z : Int) < (T'.2.length : Int) := by omega
    have HCX := Lib.hid hcx
    have HNE := Lib.hid hn2
    have HNQ := Lib.hid (And.intro hN (And.intro hq hz))
    clear hst how2 hcx hrv hN hq hf7 hy hn2 hz hjl
    go_wp2_with fail
    go_quiet (fail)
    refine name_prop (fun wq => Chg (fun _ _ => False) w2 wq) ((Chg.refl _ _).drewN _) ?_
    intro wq hcq
    have a0 := hcq.cell (fun h => h) g0
    have a1 := hcq.cell (fun h => h) g1
    have a2 := hcq.cell (fun h => h) n2
    have a3 := hcq.cell (fun h => h) ik
    have hit8 := HIT.out.chg hcq (fun _ h => h)
    clear e0 e1 e3 e4 e5 e14 e15 z3 z5 z14 z15
    clear g0 g1 n2 ik
    replace HIT := Lib.hid hit8
    clear hit8
    have e0 := HIT.out.c0
    have e1 := HIT.out.c1
    have e3 := HIT.out.c3
    have e4 := HIT.out.c4
    have e5 := HIT.out.c5
    have e14 := HIT.out.c14
    have e15 := HIT.out.c15
    have z3 := HIT.out.fz 3
    have z5 := HIT.out.fz 5
    have z14 := HIT.out.fz 14
    have z15 := HIT.out.fz 15
    have HIF := Lib.hid (show ItAt (wq.setCell ⟨ib, 15, none⟩ (aggM y)) ib t true false false _ (aggM y) from HIT.out.put15 (aggM y))
    have HCF := Lib.hid (HCX.out.trans' hcq (fun _ _ _ h => h) (fun _ _ _ h => h.elim))
    go_wp2_with fail
    go_still_tail 14, (by kernel_rfl)
    go_upto_region 25 with fail
    refine name_world (fun wz => ItAt wz ib t true false false _ (aggM y) ∧ Chg (fun b _ => base ≤ b) w wz) ⟨HIF.out, (HCF.out.setCell (a := ⟨ib, 15, none⟩) (Or.inl hib) _).drew⟩ ?_
    rintro w9 ⟨hi9, hc9⟩
    go_wp2_with fail
    go_ret
    obtain ⟨RX, hRX⟩ : ∃ RX, R0 = y :: RX := ⟨_, by rw [HR0.out, drop_cons HY.out]; rfl⟩
    exact .inl ⟨y, RX, _, _, _, _, hRX, rfl, hi9, hc9⟩
  · have hk1e : k1 = T'.2.length := by omega
    have hcmp : ((k1 : Int) == (T'.2.length : Int)) = true := by simp [hk1e]
    have HX1 := Lib.hid (show R0 = R1 by rw [HR0.out, hk1e, List.drop_length]; rfl)
    clear hlt hk1e
    go_quiet (fail)
    refine name_prop (fun wq => Chg (fun _ _ => False) w1 wq) ((Chg.refl _ _).drewN _) ?_
    intro w2 hcm
    have how2 := HO1.out.keep hcm
    have hcx := HC1.out.trans' hcm (fun _ _ _ h => h) (fun _ _ _ h => h.elim)
    have hf7 := HFM.out.chg hcx HOF.out
    replace hn2 := hn2.chg hcm (fun _ _ _ h => h)
    replace HIT := Lib.hid (HIT.out.chg hcm (fun _ h => h))
    clear g0 g1 n2 n3 hcmp s1 s2 s3 s4 s5 s6 hf7
    go_wp2_with fail
    go_loopw [3] (fun _ wr => ∃ (fs : List (Nat × Int)) (f : Nat × Int) (hc' : Nat) (st : Value), Frm H mn mx h0 fs hc' R0 ∧ ItAt wr ib t true false false st .nilIface ∧ StkAt ib wr st (fs.reverse ++ [f]) base ∧ Chg (fun b _ => base ≤ b) w wr) (fun _ wr => stkLen (wr.cell? ⟨ib, 14, none⟩))
    case atStart => exact ⟨fs, (rid T', (k1 : Int)), 0, _, by rw [HX1.out]; exact HFR.out, HIT.out, how2, hcx⟩
    case round =>
      obtain ⟨fs, ⟨fn, fi⟩, hc', st, hfr, hia, how, hc⟩ := hrel
      have hsz := hc.size
      have hfl := hfr.len
      obtain ⟨b, o, cap, hst⟩ := stk_top how
      have hrv : fs.reverse.length = fs.length := List.length_reverse
      obtain ⟨q, hq⟩ : ∃ q, fs.length = q := ⟨_, rfl⟩
      obtain ⟨N, hN⟩ : ∃ N, q + 1 = N := ⟨_, rfl⟩
      have hste : st = .slice (some ⟨b, o, none⟩) N cap := by rw [hst.eq, hrv, hq, hN]
      subst hste
      have hpop := hst.pop
      have hroom := hst.room
      rw [hrv, hq] at hpop hroom
      have hbi : b ≠ ib := hst.ni
      have hqb : q ≤ 1000000000000 := by omega
      have s1 : IntKind.i64.wrap ((N : Int) - 1) = (q : Int) := (by rw [IntWalk.i64_in _ (by omega)]; omega)
      have s2 : (0 : Int) ≤ (q : Int) := by omega
      have s3 : (q : Int) ≤ (cap : Int) := by omega
      have s5 : ¬ N = 0 := by omega
      have s6 : ¬ cap = 0 := by omega
      have s7 : q ≤ cap := by omega
      clear e0 e1 e3 e4 e5 e14 e15 z3 z5 z14 z15
      replace HIT := Lib.hid hia
      have e0 := HIT.out.c0
      have e1 := HIT.out.c1
      have e3 := HIT.out.c3
      have e4 := HIT.out.c4
      have e5 := HIT.out.c5
      have e14 := HIT.out.c14
      have e15 := HIT.out.c15
      have z3 := HIT.out.fz 3
      have z5 := HIT.out.fz 5
      have z14 := HIT.out.fz 14
      have z15 := HIT.out.fz 15
      have hid1 := (hia.chg (Chg.refl (fun _ _ => False) wr).drew (fun _ h => h)).put14 (.slice (some ⟨b, o, none⟩) q cap)
      have hpo1 := hpop.chg (((Chg.refl (fun b' _ => b' = ib) wr).drew).setCell (a := ⟨ib, 14, none⟩) (.inl rfl) (.slice (some ⟨b, o, none⟩) q cap)) (fun b' _ hb h1 h => h1 h)
      have hch1 := hc.trans ((((Chg.refl (fun b _ => base ≤ b) wr).drew).setCell (a := ⟨ib, 14, none⟩) (Or.inl hib) (.slice (some ⟨b, o, none⟩) q cap)))
      have HP1 := Lib.hid (And.intro hid1 (And.intro hpo1 hch1))
      have HM0 := Lib.hid hia.c14
      have HFR2 := Lib.hid hfr
      have HNQ2 := Lib.hid (And.intro hN hq)
      clear hid1 hpo1 hch1 hfr hst hia how hc hpop hroom hrv hN hq
      go_wp2_with fail
      go_still_tail 12, (by kernel_rfl)
      go_upto_region 14 with fail
      refine name_world (fun wz => ItAt wz ib t true false false (.slice (some ⟨b, o, none⟩) q cap) .nilIface ∧ StkAt ib wz (.slice (some ⟨b, o, none⟩) q cap) fs.reverse base ∧ Chg (fun b _ => base ≤ b) w wz) HP1.out ?_
      rintro w3 ⟨hi3, how3, hc3⟩
      clear e0 e1 e3 e4 e5 e14 e15 z3 z5 z14 z15
      clear s1 s2 s3 s5 s6 s7 HP1
      replace HIT := Lib.hid hi3
      clear hi3
      have e0 := HIT.out.c0
      have e1 := HIT.out.c1
      have e3 := HIT.out.c3
      have e4 := HIT.out.c4
      have e5 := HIT.out.c5
      have e14 := HIT.out.c14
      have e15 := HIT.out.c15
      have z3 := HIT.out.fz 3
      have z5 := HIT.out.fz 5
      have z14 := HIT.out.fz 14
      have z15 := HIT.out.fz 15
      rcases fs with _ | ⟨f2, fs⟩
      · have hq0 : q = 0 := HNQ2.out.2.symm
        have hcmp : ((q : Int) == 0) = true := by simp [hq0]
        have HRE := Lib.hid HFR2.out.2
        have HC3 := Lib.hid hc3
        clear hq0 how3 hc3
        go_upto_region 16 with fail
        refine name_world (fun wz => (∃ sk a e b o n c, ItAt wz ib t sk a e (.slice (some ⟨b, o, none⟩) n c) .nilIface) ∧ Chg (fun b _ => base ≤ b) w wz) ⟨⟨_, _, _, _, _, _, _, HIT.out.put5 _⟩, HC3.out.setCell (Or.inl hib) _⟩ ?_
        rintro w4 ⟨hex, hc4⟩
        clear e0 e1 e3 e4 e5 e14 e15 z3 z5 z14 z15
        go_wp2_with fail
        go_ret
        exact .inr ⟨HRE.out, rfl, hex, hc4⟩
      · obtain ⟨T', k1, R2, hfe, hT, hs, hk1l, hfr2, hR⟩ := HFR2.out
        subst hfe
        rw [List.length_cons] at hfl
        rw [List.reverse_cons] at how3
        have hf7 := HFM.out.chg hc3 HOF.out
        obtain ⟨l2, hn2⟩ := hf7.node hT.root
        obtain ⟨q2, hq2⟩ : ∃ q2, fs.length = q2 := ⟨_, rfl⟩
        have hq2q : q2 + 1 = q := by have := HNQ2.out.2; rw [List.length_cons] at this; omega
        obtain ⟨b2, o2, cap2, hst2⟩ := stk_top (how3)
        have he2 := hst2.eq
        injection he2 with e1' e2' e3'
        injection e1' with e1'
        injection e1' with e4' e5' e6'
        subst e4'
        subst e5'
        subst e3'
        clear e2' e6'
        have g0 := hst2.c0
        have g1 := hst2.c1
        have hrv : fs.reverse.length = fs.length := List.length_reverse
        rw [hrv, hq2] at g0 g1
        have n2 : w3.cell? ⟨rid T', 2, none⟩ = some (.slice (some ⟨l2.ib, l2.io, none⟩) T'.2.1.length l2.ic) := hn2.c2
        have hqN := HNQ2.out.1
        have s1 : IntKind.i64.wrap ((q : Int) - 1) = (q2 : Int) := (by rw [IntWalk.i64_in _ (by omega)]; omega)
        have s2 : (0 : Int) ≤ (q2 : Int) := by omega
        have s3 : (q2 : Int) < (q : Int) := by omega
        have s5 : ¬ q = 0 := by omega
        have s6 : ((q : Int) == 0) = false := beq_eq_false_iff_ne.2 (by omega)
        have HQ := Lib.hid (And.intro hqN hq2q)
        have HFR3 := Lib.hid hfr2
        have HR3 := Lib.hid hR
        have HO1 := Lib.hid how3
        have HC1 := Lib.hid hc3
        have hkc : T'.2.2.length = T'.2.1.length + 1 := hs.2.1
        clear hst2 hrv hq2 hq2q how3 hc3 hfr2 hR hqN hf7
        go_upto_region 17 with fail
        go_quiet (fail)
        refine name_prop (fun wq => Chg (fun _ _ => False) w3 wq) ((Chg.refl _ _).drewN _) ?_
        intro w4 hcm
        have how2 := HO1.out.keep hcm
        have hcx := HC1.out.trans' hcm (fun _ _ _ h => h) (fun _ _ _ h => h.elim)
        have hf7 := HFM.out.chg hcx HOF.out
        replace hn2 := hn2.chg hcm (fun _ _ _ h => h)
        replace HIT := Lib.hid (HIT.out.chg hcm (fun _ h => h))
        replace g0 := hcm.cell (fun h => h) g0
        replace g1 := hcm.cell (fun h => h) g1
        replace n2 := hcm.cell (fun h => h) n2
        replace HO1 := Lib.hid how2
        replace HC1 := Lib.hid hcx
        clear how2 hcx hf7 hcm
        by_cases hlt : k1 < T'.2.1.length
        · have hcmp : (k1 : Int) < (T'.2.1.length : Int) := by omega
          obtain ⟨y, hy⟩ : ∃ y, T'.2.1[k1]? = some y := ⟨_, List.getElem?_eq_getElem hlt⟩
          obtain ⟨c, hcj⟩ : ∃ c, T'.2.2[k1 + 1]? = some c := ⟨_, List.getElem?_eq_getElem (by omega)⟩
          have HTOT := Lib.hid (show R0 = y :: ((toL hc' c ++ post (T'.2.1.drop (k1 + 1)) ((T'.2.2.map (toL hc')).drop (k1 + 1 + 1))) ++ R2) by
            rw [HR3.out]
            have h3 := post_drop (ts := T'.2.2.map (toL hc')) hy (t := toL hc' c) (by simp [hcj])
            rw [h3]; simp)
          clear hcj hkc
          go_upto_region 18 with fail
          go_quiet (fail)
          refine name_prop (fun wq => Chg (fun _ _ => False) w4 wq) ((Chg.refl _ _).drewN _) ?_
          intro w5 hcm
          have how2 := HO1.out.keep hcm
          have hcx := HC1.out.trans' hcm (fun _ _ _ h => h) (fun _ _ _ h => h.elim)
          have hf7 := HFM.out.chg hcx HOF.out
          replace hn2 := hn2.chg hcm (fun _ _ _ h => h)
          replace HIT := Lib.hid (HIT.out.chg hcm (fun _ h => h))
          have HY := Lib.hid hy
          clear g0 g1 n2 hcmp s1 s2 s3 s5 s6
          have n2 : w5.cell? ⟨rid T', 2, none⟩ = some (.slice (some ⟨l2.ib, l2.io, none⟩) T'.2.1.length l2.ic) := hn2.c2
          have hjl : k1 < T'.2.1.length := (List.getElem?_eq_some_iff.1 hy).1
          have ik : w5.cell? ⟨l2.ib, l2.io + k1, none⟩ = some (.iface 27 (.agg #[.int .i64 y.1, .int .i64 y.2])) := hn2.mval (j := k1) hy
          obtain ⟨b, o, cap, hst⟩ := stk_top how2
          have hrv : fs.reverse.length = fs.length := List.length_reverse
          obtain ⟨q, hq⟩ : ∃ q, fs.length = q := ⟨_, rfl⟩
          obtain ⟨N, hN⟩ : ∃ N, q + 1 = N := ⟨_, rfl⟩
          clear e0 e1 e3 e4 e5 e14 e15 z3 z5 z14 z15
          have e0 := HIT.out.c0
          have e1 := HIT.out.c1
          have e3 := HIT.out.c3
          have e4 := HIT.out.c4
          have e5 := HIT.out.c5
          have e14 := HIT.out.c14
          have e15 := HIT.out.c15
          have z3 := HIT.out.fz 3
          have z5 := HIT.out.fz 5
          have z14 := HIT.out.fz 14
          have z15 := HIT.out.fz 15
          replace e14 : w5.cell? ⟨ib, 14, none⟩ = some (.slice (some ⟨b, o, none⟩) N cap) := by rw [HIT.out.c14, hst.eq, hrv, hq, hN]
          have g0 := hst.c0
          have g1 := hst.c1
          rw [hrv, hq] at g0 g1
          obtain ⟨z, hz⟩ : ∃ z : Nat, z = k1 := ⟨_, rfl⟩
          rw [← hz] at ik hjl
          replace g1 : w5.cell? ⟨b, o + q * 2 + 1, none⟩ = some (.int .i64 (z : Int)) := by rw [hz]; exact g1
          have s1 : IntKind.i64.wrap ((N : Int) - 1) = (q : Int) := (by rw [IntWalk.i64_in _ (by omega)]; omega)
          have s2 : (0 : Int) ≤ (q : Int) := by omega
          have s3 : (q : Int) < (N : Int) := by omega
          have s5 : ¬ N = 0 := by omega
          have j0 : (0 : Int) ≤ (z : Int) := by omega
          have j1 : (z : Int) < (T'.2.1.length : Int) := by omega
          have HCX := Lib.hid hcx
          have HNE := Lib.hid hn2
          have HNQ := Lib.hid (And.intro hN (And.intro hq hz))
          clear hst how2 hcx hrv hN hq hf7 hy hn2 hz hjl
          go_wp2_with fail
          go_quiet (fail)
          refine name_prop (fun wq => Chg (fun _ _ => False) w5 wq) ((Chg.refl _ _).drewN _) ?_
          intro wq hcq
          have a0 := hcq.cell (fun h => h) g0
          have a1 := hcq.cell (fun h => h) g1
          have a2 := hcq.cell (fun h => h) n2
          have a3 := hcq.cell (fun h => h) ik
          have hit8 := HIT.out.chg hcq (fun _ h => h)
          clear e0 e1 e3 e4 e5 e14 e15 z3 z5 z14 z15
          clear g0 g1 n2 ik
          replace HIT := Lib.hid hit8
          clear hit8
          have e0 := HIT.out.c0
          have e1 := HIT.out.c1
          have e3 := HIT.out.c3
          have e4 := HIT.out.c4
          have e5 := HIT.out.c5
          have e14 := HIT.out.c14
          have e15 := HIT.out.c15
          have z3 := HIT.out.fz 3
          have z5 := HIT.out.fz 5
          have z14 := HIT.out.fz 14
          have z15 := HIT.out.fz 15
          have HIF := Lib.hid (show ItAt (wq.setCell ⟨ib, 15, none⟩ (aggM y)) ib t true false false _ (aggM y) from HIT.out.put15 (aggM y))
          have HCF := Lib.hid (HCX.out.trans' hcq (fun _ _ _ h => h) (fun _ _ _ h => h.elim))
          go_wp2_with fail
          go_still_tail 14, (by kernel_rfl)
          go_upto_region 25 with fail
          refine name_world (fun wz => ItAt wz ib t true false false _ (aggM y) ∧ Chg (fun b _ => base ≤ b) w wz) ⟨HIF.out, (HCF.out.setCell (a := ⟨ib, 15, none⟩) (Or.inl hib) _).drew⟩ ?_
          rintro w9 ⟨hi9, hc9⟩
          go_wp2_with fail
          go_ret
          obtain ⟨RX, hRX⟩ : ∃ RX, R0 = y :: RX := ⟨_, HTOT.out⟩
          exact .inl ⟨y, RX, _, _, _, _, hRX, rfl, hi9, hc9⟩
        · have hcmp : ¬ (k1 : Int) < (T'.2.1.length : Int) := by omega
          have HRE := Lib.hid (show R0 = R2 by
            rw [HR3.out, post_nil (by omega)]; rfl)
          clear hlt
          go_upto_region 18 with fail
          go_quiet (fail)
          refine name_prop (fun wq => Chg (fun _ _ => False) w4 wq) ((Chg.refl _ _).drewN _) ?_
          intro w5 hcm
          have how2 := HO1.out.keep hcm
          have hcx := HC1.out.trans' hcm (fun _ _ _ h => h) (fun _ _ _ h => h.elim)
          have hf7 := HFM.out.chg hcx HOF.out
          replace hn2 := hn2.chg hcm (fun _ _ _ h => h)
          replace HIT := Lib.hid (HIT.out.chg hcm (fun _ h => h))
          have HM1 := Lib.hid HIT.out.c14
          clear g0 g1 n2 hcmp s1 s2 s3 s5 s6 hf7
          go_wp2_with fail
          go_roundw
          case rel => exact ⟨fs, (rid T', (k1 : Int)), hc' + 1, _, by rw [HRE.out]; exact HFR3.out, HIT.out, how2, hcx⟩
          case measure => rw [HM0.out, HM1.out]; show q < N; have := HQ.out.1; omega
end Go.Proofs.Ytilcapfokmpaoaa

namespace Go.Proofs.Ytilcapfokmpaoaa
set_option linter.unusedSimpArgs false
set_option linter.unusedVariables false
open Go.RowKit

set_option maxRecDepth 100000 in
set_option maxHeartbeats 8000000 in
theorem seek_any {ord : List Int} {k : Kc ord} {mn mx : Nat} {w : World} {F : Nat → Prop} {t ib sb base : Nat} {l : List (It ord)} (key : It ord) (hM : MapIn k mn mx w F t l) (hmn : 1 ≤ mn) (hlen : l.length ≤ 1000000000000)
    (hit : ItAt w ib t false false false (.slice (some ⟨sb, 6, none⟩) 0 4) .nilIface) (how : StkAt ib w (.slice (some ⟨sb, 6, none⟩) 0 4) [] base) (hF : ∀ b, F b → b < base) (hMO : ∀ b, MOwn k t b → b < base) (hib : base ≤ ib) (hbase : base ≤ w.heap.size) :
    Calls Try.prog 45 #[.pointer (some ⟨ib, 0, none⟩), aggM key, .pointer none] w (ItPost w ib t base (upp ltM key l)) := by
  obtain ⟨tot, htot⟩ : ∃ tot, tot = upp ltM key l := ⟨_, rfl⟩
  rw [← htot]
  have HTOT := Lib.hid htot
  clear htot
  have HIT := Lib.hid hit
  have HOW0 := Lib.hid how
  have HOT := Lib.hid (show ∀ b (_ : Nat), MOwn k t b → ¬ base ≤ b from fun b _ hb h => by have := hMO b hb; omega)
  have HOF := Lib.hid (show ∀ b (_ : Nat), F b → ¬ base ≤ b from fun b _ hb h => by have := hF b hb; omega)
  have e0 := HIT.out.c0
  have e1 := HIT.out.c1
  have e3 := HIT.out.c3
  have e4 := HIT.out.c4
  have e5 := HIT.out.c5
  have e14 := HIT.out.c14
  have e15 := HIT.out.c15
  have z3 := HIT.out.fz 3
  have z5 := HIT.out.fz 5
  have z14 := HIT.out.fz 14
  have z15 := HIT.out.fz 15
  clear hit how hF hMO
  have HM := Lib.hid hM
  clear hM
  unfold aggM
  go_enter Try.func45, Try.ntmps45
  go_upto_region 4 with fail
  refine name_world (fun wz => ItAt wz ib t true false false (.slice (some ⟨sb, 6, none⟩) 0 4) .nilIface ∧ Chg (fun b _ => b = ib) w wz) ⟨HIT.out.put3 _, ((Chg.refl (fun b _ => b = ib) w)).setCell (Or.inl rfl) _⟩ ?_
  rintro w1 ⟨hi1, hc1⟩
  clear e0 e1 e3 e4 e5 e14 e15 z3 z5 z14 z15
  replace HIT := Lib.hid hi1
  clear hi1
  have e0 := HIT.out.c0
  have e1 := HIT.out.c1
  have e3 := HIT.out.c3
  have e4 := HIT.out.c4
  have e5 := HIT.out.c5
  have e14 := HIT.out.c14
  have e15 := HIT.out.c15
  have z3 := HIT.out.fz 3
  have z5 := HIT.out.fz 5
  have z14 := HIT.out.fz 14
  have z15 := HIT.out.fz 15
  go_upto_region 5 with fail
  refine name_world (fun wz => ItAt wz ib t true false false (.slice (some ⟨sb, 6, none⟩) 0 4) .nilIface ∧ Chg (fun b _ => b = ib) w wz) ⟨HIT.out.put14 _, hc1.setCell (Or.inl rfl) _⟩ ?_
  rintro w2 ⟨hi2, hc2⟩
  clear e0 e1 e3 e4 e5 e14 e15 z3 z5 z14 z15
  replace HIT := Lib.hid hi2
  clear hi2 hc1
  have e0 := HIT.out.c0
  have e1 := HIT.out.c1
  have e3 := HIT.out.c3
  have e4 := HIT.out.c4
  have e5 := HIT.out.c5
  have e14 := HIT.out.c14
  have e15 := HIT.out.c15
  have z3 := HIT.out.fz 3
  have z5 := HIT.out.fz 5
  have z14 := HIT.out.fz 14
  have z15 := HIT.out.fz 15
  have HOW := Lib.hid (HOW0.out.chg hc2 (fun b _ _ h1 h => h1 h))
  have hcb : Chg (fun b _ => base ≤ b) w w2 := hc2.mono (fun b _ _ h => by rw [show b = ib from h]; exact hib)
  clear HOW0 hc2
  rcases HM.out with ⟨rfl, _, hB⟩ | ⟨H, h, T, hI, hB, rfl, h1⟩
  · have c2 : w2.cell? ⟨t, 2, none⟩ = some (.pointer none) := (hB.chg hcb (fun b o hb => HOT.out b o hb)).c2
    clear hB HM
    go_wp2_with fail
    go_ret
    exact .inr ⟨HTOT.out, rfl, ⟨_, _, _, _, _, _, _, HIT.out⟩, hcb⟩
  · have HB := Lib.hid hB
    have HI := Lib.hid hI
    have hmx := hI.m1000
    have hhl := height_le hmn h T hI.sh h1
    have hB2 := hB.chg hcb (fun b o hb => HOT.out b o hb)
    have b2 : w2.cell? ⟨t, 2, none⟩ = some (.pointer (some ⟨rid T, 0, none⟩)) := hB2.c2
    have b0 := hB2.at_.c0
    obtain ⟨l0, hn0⟩ := (hI.fam.chg hcb HOF.out).node hI.isT.root
    have n0 := hn0.c0
    clear hB hI hn0 hB2 HM
    go_upto_region 7 with fail
    go_quiet ((go_at_call 52; exact Calls.quiet_of (isoLoad_any t (rid T) k _ _ _ b2 n0 b0)))
    refine name_prop (fun w8 => Chg (fun _ _ => False) w2 w8) ((Chg.refl _ _).drewN _) ?_
    intro w3 hc3
    have hc03 := hcb.trans' hc3 (B := fun b _ => base ≤ b) (fun _ _ _ h => h) (fun _ _ _ h => h.elim)
    have hi3 := HIT.out.chg hc3 (fun _ h => h)
    have how3 := HOW.out.keep hc3
    clear e0 e1 e3 e4 e5 e14 e15 z3 z5 z14 z15
    clear b2 b0 n0 HIT HOW
    have hfr0 : Frm H mn mx h [] h ([] : List (It ord)) := ⟨rfl, rfl⟩
    go_wp2_with fail
    go_loopw [7, 8] (fun nv dv wr => ∃ (h' : Nat) (T' : BT (It ord) h') (dp : Int) (fs : List (Nat × Int)) (R : List (It ord)) (st : Value), nv = .pointer (some ⟨rid T', 0, none⟩) ∧ dv = .int .i64 dp ∧ IsT H h' T' ∧ Sh mn mx h' T' ∧ 1 ≤ (its T').length ∧ Srt ltM (toL h' T') ∧ Frm H mn mx h fs h' R ∧ upp ltM key (toL h' T') ++ R = tot ∧ ItAt wr ib t true false false st .nilIface ∧ StkAt ib wr st fs.reverse base ∧ Chg (fun b _ => base ≤ b) w wr) (fun nv _ _ => mOf H nv)
    case atStart => exact ⟨h, T, 0, [], [], _, rfl, rfl, HI.out.isT, HI.out.sh, h1, HI.out.srt, hfr0, by rw [HTOT.out, List.append_nil], hi3, how3, hc03⟩
    case round =>
      obtain ⟨h', T', dp, fs, R, st, rfl, rfl, hT, hs, hit, hsrt, hfr, hto, hia, how, hc⟩ := hrel
      have hsz := hc.size
      have hfl := hfr.len
      have hfam := HI.out.fam.chg hc HOF.out
      obtain ⟨l1, hn1⟩ := hfam.node hT.root
      have hits := its_srt hs hsrt
      have hsl := hs.len
      have hse := find_any t key dp ((HB.out.chg hc (fun b o hb => HOT.out b o hb)).at_) hn1 (by rw [recOf_items]; exact hits) (by rw [recOf_items]; omega)
      rw [recOf_items] at hse
      unfold aggM at hse
      have HSE := Lib.hid hse
      have HFR := Lib.hid hfr
      have HTO := Lib.hid hto
      have HIT := Lib.hid hia
      have HOW1 := Lib.hid how
      have HC0 := Lib.hid hc
      have e0 := HIT.out.c0
      have e1 := HIT.out.c1
      have e3 := HIT.out.c3
      have e4 := HIT.out.c4
      have e5 := HIT.out.c5
      have e14 := HIT.out.c14
      have e15 := HIT.out.c15
      have z3 := HIT.out.fz 3
      have z5 := HIT.out.fz 5
      have z14 := HIT.out.fz 14
      have z15 := HIT.out.fz 15
      clear hse hfr hto hia how hc hfam hn1
      go_wp2_with fail
      refine HSE.out.mono ?_
      rintro e w3 ⟨i, f, rfl, hw3, hf⟩
      have hc3 : Chg (fun _ _ => False) wr w3 := hw3
      have hi3 := HIT.out.chg hc3 (fun _ h => h)
      have HO1 := Lib.hid (HOW1.out.keep hc3)
      have HC1 := Lib.hid (HC0.out.trans' hc3 (B := fun b _ => base ≤ b) (fun _ _ _ h => h) (fun _ _ _ h => h.elim))
      have hb3 : base ≤ w3.heap.size := Nat.le_trans (Nat.le_trans hbase hsz) hc3.size
      clear e0 e1 e3 e4 e5 e14 e15 z3 z5 z14 z15
      replace HIT := Lib.hid hi3
      have e0 := HIT.out.c0
      have e1 := HIT.out.c1
      have e3 := HIT.out.c3
      have e4 := HIT.out.c4
      have e5 := HIT.out.c5
      have e14 := HIT.out.c14
      have e15 := HIT.out.c15
      have z3 := HIT.out.fz 3
      have z5 := HIT.out.fz 5
      have z14 := HIT.out.fz 14
      have z15 := HIT.out.fz 15
      clear hw3 hi3 hc3 HOW1 HC0 HSE
      rcases hf with ⟨rfl, y, hy⟩ | ⟨rfl, hp⟩
      · have HY := Lib.hid hy
        have hilt := (List.getElem?_eq_some_iff.1 hy.at_).1
        clear hy
        have hca := (Chg.refl (fun _ _ => False) w3).alloc (.cells #[.pointer (some ⟨rid T', 0, none⟩), .int .i64 (i : Int)] 58)
        have HOW := Lib.hid (HO1.out.keep hca)
        go_wp2_with (refine wpList_append_S (by rfl) _ _ (by rfl) _ (by rfl) ib fs.reverse base HOW.out (Nat.le_trans hb3 hca.size) (Nat.lt_of_lt_of_le HIT.out.lt hca.size) ⟨w3.heap.size, 0, none⟩ _ (by rfl) (rid T', (i : Int)) ?_ ?_ ?_)
        · first | exact El.src1 stkE (c := #[.pointer (some ⟨rid T', 0, none⟩), .int .i64 (i : Int)]) (ha_at _ _ (by first | rfl | simp)) _ rfl | exact fun _ _ h => h
        · rw [List.length_reverse]; omega
        intro v6 w6 g1 g2
        have hca6 : Chg (fun b _ => base ≤ b ∧ b ≠ ib) w3 w6 := hca.trans' g2 (B := fun b _ => base ≤ b ∧ b ≠ ib) (fun _ _ _ h => h.elim) (fun _ _ _ h => h)
        have hi6 := HIT.out.chg hca6 (fun _ h => h.2 rfl)
        have hc6 := HC1.out.trans (hca6.mono (fun _ _ _ h => h.1))
        obtain ⟨b6, o6, cap6, T6, hv6, _⟩ := id g1
        have hrl : (fs.reverse ++ [(rid T', (i : Int))]).length = fs.length + 1 := by simp
        rw [hrl] at hv6
        subst hv6
        clear hca hca6 hrl g2
        clear e0 e1 e3 e4 e5 e14 e15 z3 z5 z14 z15
        replace HIT := Lib.hid hi6
        clear hi6
        have e0 := HIT.out.c0
        have e1 := HIT.out.c1
        have e3 := HIT.out.c3
        have e4 := HIT.out.c4
        have e5 := HIT.out.c5
        have e14 := HIT.out.c14
        have e15 := HIT.out.c15
        have z3 := HIT.out.fz 3
        have z5 := HIT.out.fz 5
        have z14 := HIT.out.fz 14
        have z15 := HIT.out.fz 15
        go_upto_region 11 with fail
        refine name_world (fun wz => ItAt wz ib t true false false (.slice (some ⟨b6, o6, none⟩) (fs.length + 1) cap6) .nilIface ∧ StkAt ib wz (.slice (some ⟨b6, o6, none⟩) (fs.length + 1) cap6) (fs.reverse ++ [(rid T', (i : Int))]) base ∧ Chg (fun b _ => base ≤ b) w wz) ⟨HIT.out.put14 _, g1.chg ((Chg.refl (fun b _ => b = ib) _).setCell (.inl rfl) _) (fun b _ hb h1 h => h1 h), hc6.setCell (Or.inl hib) _⟩ ?_
        rintro w7 ⟨hi7, how7, hc7⟩
        clear g1 hc6
        clear e0 e1 e3 e4 e5 e14 e15 z3 z5 z14 z15
        replace HIT := Lib.hid hi7
        clear hi7
        have e0 := HIT.out.c0
        have e1 := HIT.out.c1
        have e3 := HIT.out.c3
        have e4 := HIT.out.c4
        have e5 := HIT.out.c5
        have e14 := HIT.out.c14
        have e15 := HIT.out.c15
        have z3 := HIT.out.fz 3
        have z5 := HIT.out.fz 5
        have z14 := HIT.out.fz 14
        have z15 := HIT.out.fz 15
        have hf7 := HI.out.fam.chg hc7 HOF.out
        obtain ⟨l2, hn2⟩ := hf7.node hT.root
        have hsz7 := hc7.size
        have n2 : w7.cell? ⟨rid T', 2, none⟩ = some (.slice (some ⟨l2.ib, l2.io, none⟩) (recOf h' T').items.length l2.ic) := hn2.c2
        rw [recOf_items] at n2
        have hyi : (recOf h' T').items[i]? = some y := by rw [recOf_items]; exact HY.out.at_
        have iv : w7.cell? ⟨l2.ib, l2.io + i, none⟩ = some (.iface 27 (.agg #[.int .i64 y.1, .int .i64 y.2])) := hn2.mval hyi
        have i0 : (0 : Int) ≤ (i : Int) := by omega
        have i1 : (i : Int) < ((its T').length : Int) := by omega
        have hRX : ∃ RX, tot = y :: RX := by
          rw [← HTO.out]
          have hyy := HY.out
          rcases h' with _ | h'
          · rw [upp_leaf_hit (l := toL 0 T') hsrt hyy]
            exact ⟨_, by rw [drop_cons (show (toL 0 T')[i]? = some y from hyy.at_)]; rfl⟩
          · have hu := upp_hit hs hsrt hyy
            have hkl : (T'.2.2.map (toL h')).length = T'.2.1.length + 1 := by simpa using hs.2.1
            obtain ⟨u, hu2⟩ : ∃ u, (T'.2.2.map (toL h'))[i + 1]? = some u := ⟨_, List.getElem?_eq_getElem (by have : i < T'.2.1.length := hilt; omega)⟩
            rw [hu, post_drop (show T'.2.1[i]? = some y from hyy.at_) hu2]
            exact ⟨_, rfl⟩
        have HRX := Lib.hid hRX
        have HO7 := Lib.hid how7
        have HC7 := Lib.hid hc7
        have HIF := Lib.hid (show ItAt (w7.setCell ⟨ib, 15, none⟩ (aggM y)) ib t true false false _ (aggM y) from HIT.out.put15 (aggM y))
        clear hyi hn2 hf7 how7 hc7 hRX hilt
        go_upto_region 13 with fail
        refine name_world (fun wz => ItAt wz ib t true false false (.slice (some ⟨b6, o6, none⟩) (fs.length + 1) cap6) (aggM y) ∧ Chg (fun b _ => base ≤ b) w wz) ⟨HIF.out, HC7.out.setCell (Or.inl hib) _⟩ ?_
        rintro w9 ⟨hi9, hc9⟩
        go_wp2_with fail
        go_ret
        obtain ⟨RX, hRX⟩ := HRX.out
        exact .inl ⟨y, RX, _, _, _, _, hRX, rfl, hi9, hc9⟩
      · have HP := Lib.hid hp
        have hple : i ≤ (its T').length := hp.le
        clear hp
        have hca := (Chg.refl (fun _ _ => False) w3).alloc (.cells #[.pointer (some ⟨rid T', 0, none⟩), .int .i64 (i : Int)] 58)
        have HOW := Lib.hid (HO1.out.keep hca)
        go_wp2_with (refine wpList_append_S (by rfl) _ _ (by rfl) _ (by rfl) ib fs.reverse base HOW.out (Nat.le_trans hb3 hca.size) (Nat.lt_of_lt_of_le HIT.out.lt hca.size) ⟨w3.heap.size, 0, none⟩ _ (by rfl) (rid T', (i : Int)) ?_ ?_ ?_)
        · first | exact El.src1 stkE (c := #[.pointer (some ⟨rid T', 0, none⟩), .int .i64 (i : Int)]) (ha_at _ _ (by first | rfl | simp)) _ rfl | exact fun _ _ h => h
        · rw [List.length_reverse]; omega
        intro v6 w6 g1 g2
        have hca6 : Chg (fun b _ => base ≤ b ∧ b ≠ ib) w3 w6 := hca.trans' g2 (B := fun b _ => base ≤ b ∧ b ≠ ib) (fun _ _ _ h => h.elim) (fun _ _ _ h => h)
        have hi6 := HIT.out.chg hca6 (fun _ h => h.2 rfl)
        have hc6 := HC1.out.trans (hca6.mono (fun _ _ _ h => h.1))
        obtain ⟨b6, o6, cap6, T6, hv6, _⟩ := id g1
        have hrl : (fs.reverse ++ [(rid T', (i : Int))]).length = fs.length + 1 := by simp
        rw [hrl] at hv6
        subst hv6
        clear hca hca6 hrl g2
        clear e0 e1 e3 e4 e5 e14 e15 z3 z5 z14 z15
        replace HIT := Lib.hid hi6
        clear hi6
        have e0 := HIT.out.c0
        have e1 := HIT.out.c1
        have e3 := HIT.out.c3
        have e4 := HIT.out.c4
        have e5 := HIT.out.c5
        have e14 := HIT.out.c14
        have e15 := HIT.out.c15
        have z3 := HIT.out.fz 3
        have z5 := HIT.out.fz 5
        have z14 := HIT.out.fz 14
        have z15 := HIT.out.fz 15
        go_upto_region 11 with fail
        refine name_world (fun wz => ItAt wz ib t true false false (.slice (some ⟨b6, o6, none⟩) (fs.length + 1) cap6) .nilIface ∧ StkAt ib wz (.slice (some ⟨b6, o6, none⟩) (fs.length + 1) cap6) (fs.reverse ++ [(rid T', (i : Int))]) base ∧ Chg (fun b _ => base ≤ b) w wz) ⟨HIT.out.put14 _, g1.chg ((Chg.refl (fun b _ => b = ib) _).setCell (.inl rfl) _) (fun b _ hb h1 h => h1 h), hc6.setCell (Or.inl hib) _⟩ ?_
        rintro w7 ⟨hi7, how7, hc7⟩
        clear g1 hc6
        clear e0 e1 e3 e4 e5 e14 e15 z3 z5 z14 z15
        replace HIT := Lib.hid hi7
        clear hi7
        have e0 := HIT.out.c0
        have e1 := HIT.out.c1
        have e3 := HIT.out.c3
        have e4 := HIT.out.c4
        have e5 := HIT.out.c5
        have e14 := HIT.out.c14
        have e15 := HIT.out.c15
        have z3 := HIT.out.fz 3
        have z5 := HIT.out.fz 5
        have z14 := HIT.out.fz 14
        have z15 := HIT.out.fz 15
        have hf7 := HI.out.fam.chg hc7 HOF.out
        obtain ⟨l2, hn2⟩ := hf7.node hT.root
        have hsz7 := hc7.size
        rcases h' with _ | h'
        · have n3 := hn2.c3n rfl
          go_wp2_with (go_at_call 54; refine (leaf_any _ none _ ?_).mono ?_; (focus go_simp); rintro e w' ⟨rfl, rfl⟩)
          have hto2 : tot = T'.2.drop i ++ R := by rw [← HTO.out, show upp ltM key (toL 0 T') = T'.2.drop i from upp_leaf_pos HP.out]
          obtain ⟨q, hq⟩ : ∃ q, fs.length = q := ⟨_, rfl⟩
          obtain ⟨N, hN⟩ : ∃ N, q + 1 = N := ⟨_, rfl⟩
          rw [hq, hN] at how7 HIT e14
          have HO7 := Lib.hid how7
          obtain ⟨b2, o2, cap2, hst2⟩ := stk_top how7
          have hrv : fs.reverse.length = fs.length := List.length_reverse
          have he2 := hst2.eq
          injection he2 with e1' e2' e3'
          injection e1' with e1'
          injection e1' with e4' e5' e6'
          subst e4'
          subst e5'
          subst e3'
          clear e2' e6'
          have g0 := hst2.c0
          have g1 := hst2.c1
          rw [hrv, hq] at g0 g1
          have gz := hst2.fz (o6 + q * 2 + 1)
          have hput := hst2.put ((i : Int) - 1)
          rw [hrv, hq] at hput
          have hnb := hst2.ni
          have hlo := hst2.lo
          have hmb : i ≤ 1000 := by
            have h2 : (its T').length ≤ mx := hs
            omega
          have s1 : IntKind.i64.wrap ((N : Int) - 1) = (q : Int) := (by rw [IntWalk.i64_in _ (by omega)]; omega)
          have s2 : (0 : Int) ≤ (q : Int) := by omega
          have s3 : (q : Int) < (N : Int) := by omega
          have s4 : IntKind.i64.wrap ((i : Int) - 1) = (i : Int) - 1 := IntWalk.i64_in _ (by omega)
          have s5 : ¬ N = 0 := by omega
          have HPUT := Lib.hid hput
          have HHL := Lib.hid hhl
          have HC7 := Lib.hid hc7
          have HTO2 := Lib.hid hto2
          have HPL := Lib.hid hple
          have HF7 := Lib.hid hf7
          have HNH := Lib.hid hnb
          clear hst2 hrv hn2 hf7 how7 hc7 hto2 hput hple hhl hN hq
          go_wp2_with fail
          go_still_tail 14, (by kernel_rfl)
          go_upto_region 16 with fail
          refine name_world (fun wz => StkAt ib wz (.slice (some ⟨b6, o6, none⟩) N cap6) (fs.reverse ++ [(rid T', (i : Int) - 1)]) base ∧ Chg (fun b' _ => b' = b6) w7 wz) ⟨HPUT.out, ((Chg.refl (fun b' _ => b' = b6) w7).setCell (a := ⟨b6, o6 + q * 2 + 1, none⟩) (.inl rfl) _).drew⟩ ?_
          rintro w8 ⟨how8, hc8⟩
          have hi8 := HIT.out.chg hc8 (fun _ h => HNH.out h.symm)
          have hc78 : Chg (fun b _ => base ≤ b) w7 w8 := hc8.mono (fun b' _ _ h => by rw [show b' = b6 from h]; exact hlo)
          have hc08 := HC7.out.trans hc78
          have hsz8 := hc08.size
          have HN := Lib.hid (next_leaf (HF7.out.chg hc78 HOF.out) hT hs hmx (by have := HHL.out; omega) hi8 how8 HPL.out HFR.out (fun b hb => by have := HOF.out b 0 hb; omega) hib (by omega))
          have HC8 := Lib.hid hc08
          clear hi8 how8 hc08 hc78 hc8 g0 g1 gz
          clear e0 e1 e3 e4 e5 e14 e15 z3 z5 z14 z15
          go_wp2_with fail
          refine HN.out.mono ?_
          rw [← HTO2.out]
          rintro e w9 (⟨y, R', b9, o9, n9, c9, hR, rfl, hi9, hc9⟩ | ⟨hR, rfl, hx9, hc9⟩)
          · have H9 := Lib.hid (And.intro hi9 hc9)
            clear hi9 hc9
            go_wp2_with fail
            go_ret
            exact .inl ⟨y, R', b9, o9, n9, c9, hR, rfl, H9.out.1, HC8.out.trans H9.out.2⟩
          · have H9 := Lib.hid (And.intro hx9 hc9)
            clear hx9 hc9
            go_wp2_with fail
            go_ret
            exact .inr ⟨hR, rfl, H9.out.1, HC8.out.trans H9.out.2⟩
        · have hple2 : i ≤ T'.2.1.length := hple
          have hkl : T'.2.2.length = T'.2.1.length + 1 := hs.2.1
          obtain ⟨c, hcj⟩ : ∃ c, T'.2.2[i]? = some c := ⟨_, List.getElem?_eq_getElem (by omega)⟩
          have hcm : c ∈ T'.2.2 := List.mem_of_getElem? hcj
          have hk : (recOf (h' + 1) T').kids = some (T'.2.2.map fun c => some (rid c)) := rfl
          have n3 := hn2.c3s hk
          have nc := hn2.cc hk
          rw [List.length_map] at nc
          have kc : w7.cell? ⟨l2.cb, l2.co + i, none⟩ = some (.pointer (some ⟨rid c, 0, none⟩)) := hn2.kidc hk (j := i) (o := some (rid c)) (by simp [hcj])
          have i0 : (0 : Int) ≤ (i : Int) := by omega
          have i1 : (i : Int) < (T'.2.2.length : Int) := by omega
          obtain ⟨lc, hnc⟩ := hf7.node (hT.kid hcm).root
          have nc0 := hnc.c0
          have hB7 := HB.out.chg hc7 (fun b o hb => HOT.out b o hb)
          have cw0 := hB7.at_.c0
          have hgt := kid_lt hs hcm hit
          have m1 := mOf_root hT
          have m2 := mOf_root (hT.kid hcm)
          have hks : mn ≤ (its c).length := (hs.2.2 c hcm).1
          have hto2 : upp ltM key (toL h' c) ++ (post (T'.2.1.drop i) ((T'.2.2.map (toL h')).drop (i + 1)) ++ R) = tot := by
            rw [← HTO.out, upp_kid hs hcj hsrt HP.out, List.append_assoc]
          have HTO2 := Lib.hid hto2
          have HSB := Lib.hid (sub_srt hs hcj hsrt)
          have HO7 := Lib.hid how7
          have HC7 := Lib.hid hc7
          clear hn2 hnc hf7 hcj hB7 hto2 how7 hc7 hkl
          go_wp2_with (go_at_call 54; refine (leaf_any _ (some ⟨l2.cc, 0, none⟩) _ n3).mono ?_; rintro e w' ⟨rfl, rfl⟩)
          go_quiet ((go_at_call 52; exact Calls.quiet_of (isoLoad_any t (rid c) k _ _ _ kc nc0 cw0)))
          refine name_prop (fun w8 => Chg (fun _ _ => False) w7 w8) ((Chg.refl _ _).drewN _) ?_
          intro w8 hc8
          go_wp2_with fail
          go_roundw
          case rel => exact ⟨h', c, _, (rid T', (i : Int)) :: fs, post (T'.2.1.drop i) ((T'.2.2.map (toL h')).drop (i + 1)) ++ R, _, rfl, rfl, hT.kid hcm, (hs.2.2 c hcm).2, by omega, HSB.out, ⟨T', i, R, rfl, hT, hs, hple2, HFR.out, rfl⟩, HTO2.out, HIT.out.chg hc8 (fun _ h => h), by rw [List.reverse_cons]; exact HO7.out.keep hc8, HC7.out.trans' hc8 (fun _ _ _ h => h) (fun _ _ _ h => h.elim)⟩
          case measure => rw [m1, m2]; exact hgt
end Go.Proofs.Ytilcapfokmpaoaa

namespace Go.Proofs.Ytilcapfokmpaoaa
set_option linter.unusedSimpArgs false
set_option linter.unusedVariables false
open Go.RowKit

def firstN {α : Type} (n : Int) (l : List α) : List α := if n < 1 ∨ (l.length : Int) < n then l else l.take n.toNat

theorem SlE.take {α : Type} {p : El α} {w : World} {a : Option Addr} {cap : Nat} {xs : List α} (h : SlE p w (.slice a xs.length cap) xs) (k : Nat) (hk : k ≤ xs.length) : SlE p w (.slice a k cap) (xs.take k) := by
  obtain ⟨a', cap', h1, h2, h3⟩ := h
  injection h1 with e1 e2 e3
  subst e1 e3
  have hl : (xs.take k).length = k := by simp; omega
  refine ⟨a, cap, by rw [hl], by omega, ?_⟩
  rcases h3 with rfl | ⟨b, o, rfl, hc⟩
  · exact .inl (by simp)
  · refine .inr ⟨b, o, rfl, fun j u hj => hc j u ?_⟩
    have e : flat p.par (xs.take k) = (flat p.par xs).take (k * p.par.es) := (flat_take p.par xs k).symm
    rw [e] at hj
    have hjl : j < k * p.par.es := by
      have := (List.getElem?_eq_some_iff.1 hj).1
      simp at this; omega
    rw [List.getElem?_take_of_lt hjl] at hj
    exact hj

theorem First_any (v : Value) (xs : List (Int × Int)) (n : Int) (w : World) (h : SlE itemE w v xs) (hlen : xs.length ≤ 2147483648) :
    Calls Try.prog 16 #[v, .int .i64 n] w fun e w' => ∃ v', e = .returned v' ∧ SlE itemE w' v' (firstN n xs) ∧ Chg (fun _ _ => False) w w' := by
  obtain ⟨a, cap, rfl⟩ := h.form
  obtain ⟨_, _, _, hcap0, _⟩ := id h
  have hcap : xs.length ≤ cap := by
    obtain ⟨a', cap', e, h2, _⟩ := id h
    injection e with e1 e2 e3
    omega
  have HS := Lib.hid h
  clear h
  by_cases h1 : n < 1
  · have hf : firstN n xs = xs := by unfold firstN; rw [if_pos (.inl h1)]
    rw [hf]
    go_enter Try.func16, Try.ntmps16
    go_wp2
    go_ret
    exact ⟨_, rfl, HS.out, Chg.refl _ _⟩
  by_cases h2 : (xs.length : Int) < n
  · have hf : firstN n xs = xs := by unfold firstN; rw [if_pos (.inr h2)]
    rw [hf]
    go_enter Try.func16, Try.ntmps16
    go_wp2
    go_ret
    exact ⟨_, rfl, HS.out, Chg.refl _ _⟩
  · obtain ⟨k, rfl⟩ : ∃ k : Nat, n = (k : Int) := ⟨n.toNat, by omega⟩
    have hf : firstN (k : Int) xs = xs.take k := by unfold firstN; rw [if_neg (by omega)]; simp
    rw [hf]
    have k0 : (0 : Int) ≤ (k : Int) := by omega
    have k1 : (k : Int) ≤ (cap : Int) := by omega
    have k2 : k ≤ cap := by omega
    have ht := HS.out.take k (by omega)
    have HT := Lib.hid ht
    clear ht hf
    go_enter Try.func16, Try.ntmps16
    go_wp2
    go_ret
    exact ⟨_, rfl, HT.out, Chg.refl _ _⟩

theorem firstN_len {α : Type} (n : Int) (l : List α) : (firstN n l).length ≤ l.length := by
  unfold firstN
  split
  · exact Nat.le_refl _
  · simp; omega



/-- What does not come before the pivot. -/
def uppL {α : Type} (lt : α → α → Bool) (x : α) (l : List α) : List α := l.dropWhile fun y => lt y x

theorem upp_drop {α : Type} {lt : α → α → Bool} {x : α} : ∀ {l : List α} {i : Nat}, (∀ j y, j < i → l[j]? = some y → lt y x = true) → (∀ y, l[i]? = some y → lt y x = false) → l.drop i = uppL lt x l
  | [], i, _, _ => by simp [uppL]
  | a :: t, 0, _, h2 => by
    have := h2 a rfl
    simp [uppL, List.dropWhile_cons, this]
  | a :: t, i + 1, h1, h2 => by
    have ha := h1 0 a (by omega) rfl
    have ih := upp_drop (lt := lt) (x := x) (l := t) (i := i) (fun j y hj hy => h1 (j + 1) y (by omega) (by simpa using hy)) (fun y hy => h2 y (by simpa using hy))
    simp only [List.drop_succ_cons, ih, uppL, List.dropWhile_cons, ha, if_true]

theorem SlE.drop {w : World} {b o n c : Nat} {xs : List (Int × Int)} (h : SlE itemE w (.slice (some ⟨b, o, none⟩) n c) xs) (i : Nat) (hi : i ≤ xs.length) : SlE itemE w (.slice (some ⟨b, o + i * 2, none⟩) (n - i) (c - i)) (xs.drop i) := by
  obtain ⟨a, cap, e, h2, h3⟩ := h
  injection e with e1 e2 e3
  subst e1
  subst e3
  have hl : (xs.drop i).length = n - i := by rw [List.length_drop, e2]
  refine ⟨some ⟨b, o + i * 2, none⟩, c - i, by rw [hl], by omega, ?_⟩
  rcases h3 with h3 | ⟨b', o', e4, h4⟩
  · subst h3; exact .inl (by simp)
  · obtain ⟨rfl, rfl⟩ : b = b' ∧ o = o' := by simpa using e4
    refine .inr ⟨b, o + i * 2, rfl, fun j u hj => ?_⟩
    have hd := flat_drop itemE.par xs i
    have hd' : (flat itemE.par xs).drop (i * 2) = flat itemE.par (xs.drop i) := hd
    rw [← hd', List.getElem?_drop] at hj
    have := h4 (i * 2 + j) u hj
    rw [Nat.add_assoc]; exact this


set_option maxRecDepth 100000 in
theorem From_any {ord : List Int} (sv : Value) (p : Option Addr) (cap : Nat) (l : List (Int × Int)) (x : Int × Int) (w : World) (hR : RankOk sv (rkL ord) w) (hs : ∃ a n c, sv = .slice a n c) (hl : ItemsAt w p l) (hcap : l.length ≤ cap) (hlen : l.length ≤ 2147483647) :
    Calls Try.prog 17 #[sv, .slice p l.length cap, .agg #[.int .i64 x.1, .int .i64 x.2]] w fun e w' => ∃ v', e = .returned v' ∧ SlE itemE w' v' (uppL (ltR (rkL ord)) x l) ∧ Chg (fun _ _ => False) w w' := by
  have HP := Lib.hid (fun w1 (c : Chg (fun _ _ => False) w w1) => place_any sv (rkL ord) p cap l x w1 (hR.chg c) (hl.chg c) (by omega))
  have HL := Lib.hid (hl.sl hcap)
  have HI := Lib.hid hl
  obtain ⟨sa, sn, sc, rfl⟩ := hs
  clear hR hl
  unfold itemV at HP
  go_enter Try.func17, Try.ntmps17
  go_wp2_with fail
  have hca : Chg (fun _ _ => False) w (w.alloc (.cells #[.int .i64 x.1, .int .i64 x.2] 27)) := (Chg.refl _ _).alloc _
  refine (HP.out _ hca).mono ?_
  rintro e w2 ⟨⟨i, b, rfl, hpl⟩, hc2⟩
  have hc := hca.trans hc2
  have hi := hpl.1
  have hu := upp_drop hpl.2.1 hpl.2.2.1
  have i0 : (0 : Int) ≤ (i : Int) := by omega
  have i1 : (i : Int) ≤ (l.length : Int) := by omega
  have i2 : (l.length : Int) ≤ (cap : Int) := by omega
  clear hpl
  rcases HI.out with hl0 | ⟨pb, po, rfl, _⟩
  · subst hl0
    have hi0 : i = 0 := by simpa using hi
    subst hi0
    have FIN : ∀ a' c', Hid (SlE itemE w2 (.slice a' 0 c') (uppL (ltR (rkL ord)) x [])) := fun a' c' => Lib.hid ⟨a', c', rfl, Nat.zero_le _, .inl rfl⟩
    clear hu HL
    rcases p with _ | ⟨pb, po, pf⟩
    · go_wp2_with fail
      go_ret
      exact ⟨_, rfl, (FIN _ _).out, hc⟩
    · by_cases hci : cap = 0
      · subst hci
        go_wp2_with fail
        go_ret
        exact ⟨_, rfl, (FIN _ _).out, hc⟩
      · go_wp2_with fail
        go_ret
        exact ⟨_, rfl, (FIN _ _).out, hc⟩
  · by_cases hci : cap = i
    · have hil : i = l.length := by omega
      have hn : uppL (ltR (rkL ord)) x l = [] := by rw [← hu, hil, List.drop_length]
      have e0 : l.length - i = 0 := by omega
      have FIN : ∀ a' c', Hid (SlE itemE w2 (.slice a' 0 c') (uppL (ltR (rkL ord)) x l)) := fun a' c' => Lib.hid (by rw [hn]; exact ⟨a', c', rfl, Nat.zero_le _, .inl rfl⟩)
      subst hci
      clear hu HL hn
      go_wp2_with fail
      go_ret
      exact ⟨_, rfl, (FIN _ _).out, hc⟩
    · have hci2 : ¬ i = cap := fun e => hci e.symm
      have hd := SlE.drop (HL.out.chg hc) i hi
      rw [hu] at hd
      have HD := Lib.hid hd
      clear hd hu
      go_wp2_with fail
      go_ret
      exact ⟨_, rfl, HD.out, hc⟩


set_option maxRecDepth 100000 in
theorem specGAscend_any {ord : List Int} (sv : Value) (d : Int) (nl : Bool) (p : Option Addr) (cap : Nat) (l : List (Int × Int)) (x : Int × Int) (n : Int) (w : World) (hs : SlE intE w sv ord) (hol : ord.length ≤ 2147483647) (hl : ItemsAt w p l) (hlen : l.length ≤ 2147483647) :
    Calls Try.prog 11 #[.agg #[sv, .int .i64 d, .bool nl], .slice p l.length cap, .agg #[.int .i64 x.1, .int .i64 x.2], .int .i64 n] w fun e w' => ∃ v', e = .returned v' ∧ SlE itemE w' v' (firstN n (uppL (ltR (rkL ord)) x (treeL (ltR (rkL ord)) l))) ∧ Chg (fun _ _ => False) w w' := by
  have HT := Lib.hid (fun w1 (c : Chg (fun _ _ => False) w w1) => tree_any sv (rkL ord) p cap l w1 (rank_list sv ord w1 (hs.chg c) hol) (hl.chg c) hlen)
  have HR := Lib.hid (fun w1 (c : Chg (fun _ _ => False) w w1) => rank_list sv ord w1 (hs.chg c) hol)
  have hlen2 := treeL_len (ltR (rkL ord)) l
  obtain ⟨sa, sc, rfl⟩ : ∃ a c, sv = .slice a ord.length c := hs.form
  clear hl hs
  go_enter Try.func11, Try.ntmps11
  go_wp2_with fail
  refine name_world (fun w1 => Chg (fun _ _ => False) w w1 ∧ w1.heap[w.heap.size]? = some (.cells #[.slice sa ord.length sc, .int .i64 d, .bool nl] 24 (0, 0)) ∧ w1.heap[w.heap.size + 1]? = some (.cells #[.int .i64 x.1, .int .i64 x.2] 27 (0, 0))) ⟨((Chg.refl _ _).alloc _).alloc _, ?_, ?_⟩ ?_
  · rw [ha_lt _ _ (by simp)]; exact ha_at _ _ rfl
  · exact ha_at _ _ (by simp)
  rintro w1 ⟨hc1, hb0, hb1⟩
  have m0 := cell_of_block hb0 0
  have q0 := cell_of_block hb1 0
  have q1 := cell_of_block hb1 1
  simp only [List.getElem?_toArray, List.getElem?_cons_zero, List.getElem?_cons_succ] at m0 q0 q1
  clear hb0 hb1
  refine wp_region_scr (fun w' => w'.cell? ⟨w.heap.size, 0, none⟩ = some (.slice sa ord.length sc) ∧ w'.cell? ⟨w.heap.size + 1, 0, none⟩ = some (.int .i64 x.1) ∧ w'.cell? ⟨w.heap.size + 1, 1, none⟩ = some (.int .i64 x.2)) (.soft 0 (.soft 1 (.soft 2 (.soft 3 (.soft 4 (.soft 6 (.soft 8 (.hard 5 (.hard 7 (.hard 9 (.soft 10 .nil))))))))))) (by kernel_rfl) (by kernel_rfl) (fun _ _ _ _ _ h => h) ⟨m0, q0, q1⟩ ?_
  repeat
    first
    | (refine scr_soft (by rfl) ?_ ?_ ?_ ?_
       rotate_left
       · simp [Region.wanted, yielded]; done
       · intro w' hS
         try obtain ⟨a1, a2, a3⟩ := hS
         go_simp
         try with_reducible rfl
       simp only [Act.put, List.setIfInBounds_toArray, List.set_cons_zero, List.set_cons_succ])
    | (refine scr_skip (by rfl) ?_ ?_
       · simp [Region.wanted, yielded]; done
       simp only [Act.put, List.setIfInBounds_toArray, List.set_cons_zero, List.set_cons_succ])
  refine scr_hard (by rfl) (by simp [Region.wanted, yielded]) (fun K hK => ?_)
  go_simp
  refine (HT.out _ hc1.drew).mono ?_
  rintro e w2 ⟨v2, rfl, hv2, hc2⟩
  have hc02 := hc1.drew.trans hc2
  obtain ⟨q, cap2, rfl, hi, hcap⟩ := hv2.items
  have HI := Lib.hid hi
  clear hv2 hi
  refine hK _ _ ⟨hc2.cell (fun h => h) m0, hc2.cell (fun h => h) q0, hc2.cell (fun h => h) q1⟩ ?_
  clear hK K
  repeat
    first
    | (refine scr_soft (by rfl) ?_ ?_ ?_ ?_
       rotate_left
       · simp [Region.wanted, yielded]; done
       · intro w' hS
         try obtain ⟨a1, a2, a3⟩ := hS
         go_simp
         try with_reducible rfl
       simp only [Act.put, List.setIfInBounds_toArray, List.set_cons_zero, List.set_cons_succ])
    | (refine scr_skip (by rfl) ?_ ?_
       · simp [Region.wanted, yielded]; done
       simp only [Act.put, List.setIfInBounds_toArray, List.set_cons_zero, List.set_cons_succ])
  refine scr_hard (by rfl) (by simp [Region.wanted, yielded]) (fun K hK => ?_)
  go_simp
  refine (From_any (ord := ord) _ q cap2 _ x _ (HR.out _ hc02) ⟨_, _, _, rfl⟩ HI.out hcap (by omega)).mono ?_
  rintro e w3 ⟨v3, rfl, hs3, hc3⟩
  have hc23 := hc2.trans hc3
  have HS3 := Lib.hid hs3
  have hl3 : (uppL (ltR (rkL ord)) x (treeL (ltR (rkL ord)) l)).length ≤ 2147483648 := Nat.le_trans (List.dropWhile_sublist _).length_le (by omega)
  obtain ⟨a3, c3, rfl⟩ := hs3.form
  clear hs3
  refine hK _ _ ⟨hc23.cell (fun h => h) m0, hc23.cell (fun h => h) q0, hc23.cell (fun h => h) q1⟩ ?_
  clear hK K
  repeat
    first
    | (refine scr_soft (by rfl) ?_ ?_ ?_ ?_
       rotate_left
       · simp [Region.wanted, yielded]; done
       · intro w' hS
         try obtain ⟨a1, a2, a3⟩ := hS
         go_simp
         try with_reducible rfl
       simp only [Act.put, List.setIfInBounds_toArray, List.set_cons_zero, List.set_cons_succ])
    | (refine scr_skip (by rfl) ?_ ?_
       · simp [Region.wanted, yielded]; done
       simp only [Act.put, List.setIfInBounds_toArray, List.set_cons_zero, List.set_cons_succ])
  refine scr_hard (by rfl) (by simp [Region.wanted, yielded]) (fun K hK => ?_)
  go_simp
  refine (First_any _ _ n _ HS3.out hl3).mono ?_
  rintro e w4 ⟨v4, rfl, hs4, hc4⟩
  have hc24 := hc23.trans hc4
  have HS4 := Lib.hid hs4
  obtain ⟨a4, c4, rfl⟩ := hs4.form
  clear hs4
  refine hK _ _ ⟨hc24.cell (fun h => h) m0, hc24.cell (fun h => h) q0, hc24.cell (fun h => h) q1⟩ ?_
  clear hK K
  repeat
    first
    | (refine scr_soft (by rfl) ?_ ?_ ?_ ?_
       rotate_left
       · simp [Region.wanted, yielded]; done
       · intro w' hS
         try obtain ⟨a1, a2, a3⟩ := hS
         go_simp
         try with_reducible rfl
       simp only [Act.put, List.setIfInBounds_toArray, List.set_cons_zero, List.set_cons_succ])
    | (refine scr_skip (by rfl) ?_ ?_
       · simp [Region.wanted, yielded]; done
       simp only [Act.put, List.setIfInBounds_toArray, List.set_cons_zero, List.set_cons_succ])
  refine scr_nil ?_
  go_wp2_with fail
  go_ret
  exact ⟨_, rfl, HS4.out, (hc02.trans hc3).trans hc4⟩
end Go.Proofs.Ytilcapfokmpaoaa
