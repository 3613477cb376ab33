/- An iterator's stack: frames on the way to an item, and what is still to come. -/
import Derived.Test.YtjggkpmlffhjgaaA3
import Derived.Test.YtjggkpmlffhjgaaZc
namespace Go.Proofs.Ytjggkpmlffhjgaa
set_option linter.unusedSimpArgs false
set_option linter.unusedVariables false
open Go.RowKit

def stkE : El (Nat × Int) where
  es := 2
  enc := fun x => [.pointer (some ⟨x.1, 0, none⟩), .int .i64 x.2]
  T := 213
  epos := by omega
  elen := fun _ => rfl
  eone := by intro x v hv; simp at hv; rcases hv with rfl | rfl <;> rfl

theorem infoStk : (Try.prog.info? 213).map (fun i => (i.zero, i.size, i.bytes)) = some (some (.agg #[.pointer none, .int .i64 0]), 2, 16) := by kernel_rfl

/-- The iterator's own cells. -/
def ItAt (w : World) (ib t : Nat) (sk a e : Bool) (st : Value) (k : Int) : Prop :=
  w.heap[ib]? = some (.cells #[.pointer (some ⟨t, 0, none⟩), .bool false, .bool sk, .bool a, .bool e, st, .int .i64 k] 111 (0, 0))

section
variable {w w' : World} {ib t : Nat} {sk a e : Bool} {st : Value} {k : Int}
theorem ItAt.lt (h : ItAt w ib t sk a e st k) : ib < w.heap.size := heap_lt h
theorem ItAt.c0 (h : ItAt w ib t sk a e st k) : w.cell? ⟨ib, 0, none⟩ = some (.pointer (some ⟨t, 0, none⟩)) := by rw [cell_of_block h]; rfl
theorem ItAt.c1 (h : ItAt w ib t sk a e st k) : w.cell? ⟨ib, 1, none⟩ = some (.bool false) := by rw [cell_of_block h]; rfl
theorem ItAt.c2 (h : ItAt w ib t sk a e st k) : w.cell? ⟨ib, 2, none⟩ = some (.bool sk) := by rw [cell_of_block h]; rfl
theorem ItAt.c3 (h : ItAt w ib t sk a e st k) : w.cell? ⟨ib, 3, none⟩ = some (.bool a) := by rw [cell_of_block h]; rfl
theorem ItAt.c4 (h : ItAt w ib t sk a e st k) : w.cell? ⟨ib, 4, none⟩ = some (.bool e) := by rw [cell_of_block h]; rfl
theorem ItAt.c5 (h : ItAt w ib t sk a e st k) : w.cell? ⟨ib, 5, none⟩ = some st := by rw [cell_of_block h]; rfl
theorem ItAt.c6 (h : ItAt w ib t sk a e st k) : w.cell? ⟨ib, 6, none⟩ = some (.int .i64 k) := by rw [cell_of_block h]; rfl
theorem ItAt.fz (h : ItAt w ib t sk a e st k) (j : Nat) : w.frozen? ⟨ib, j, none⟩ = false := by simp [World.frozen?, show w.heap[ib]? = _ from h]
theorem ItAt.put2 (h : ItAt w ib t sk a e st k) (v : Bool) : ItAt (w.setCell ⟨ib, 2, none⟩ (.bool v)) ib t v a e st k := by unfold ItAt; rw [hs_same h]; rfl
theorem ItAt.put3 (h : ItAt w ib t sk a e st k) (v : Bool) : ItAt (w.setCell ⟨ib, 3, none⟩ (.bool v)) ib t sk v e st k := by unfold ItAt; rw [hs_same h]; rfl
theorem ItAt.put4 (h : ItAt w ib t sk a e st k) (v : Bool) : ItAt (w.setCell ⟨ib, 4, none⟩ (.bool v)) ib t sk a v st k := by unfold ItAt; rw [hs_same h]; rfl
theorem ItAt.put5 (h : ItAt w ib t sk a e st k) (v : Value) : ItAt (w.setCell ⟨ib, 5, none⟩ v) ib t sk a e v k := by unfold ItAt; rw [hs_same h]; rfl
theorem ItAt.put6 (h : ItAt w ib t sk a e st k) (v : Int) : ItAt (w.setCell ⟨ib, 6, none⟩ (.int .i64 v)) ib t sk a e st v := by unfold ItAt; rw [hs_same h]; rfl
theorem ItAt.chg {A : Nat → Nat → Prop} (h : ItAt w ib t sk a e st k) (c : Chg A w w') (hA : ∀ o, ¬ A ib o) : ItAt w' ib t sk a e st k := by
  unfold ItAt; rw [c.block (heap_lt h) hA]; exact h
end

theorem iter_cells : Try.prog.cellsOf 111 = 7 := by kernel_rfl
theorem iter_byte : byteOfCell Try.prog Try.prog.depth 111 6 = some 40 := by kernel_rfl
theorem ItAt.pz {w : World} {ib t : Nat} {sk a e : Bool} {st : Value} {k : Int} (h : ItAt w ib t sk a e st k) : (partAt ⟨ib, 6, none⟩ 0 0).run Try.prog w = .ok ⟨ib, 6, none⟩ w := partAt_zero h iter_cells (by decide) iter_byte

/-! A stack of the call's own whose block is none of the blocks X. -/
def OwnX (X : Nat → Prop) (w : World) (v : Value) (xs : List (Nat × Int)) (base : Nat) : Prop := OwnE stkE w v xs base ∧ ∀ b, v.ownBlock = some b → ¬ X b

theorem OwnX.nil (X : Nat → Prop) (w : World) (base : Nat) : OwnX X w (.slice none 0 0) [] base := ⟨OwnE.nil _ _ _, fun b hb => by cases hb⟩
theorem OwnX.chg {X : Nat → Prop} {w w' : World} {v : Value} {xs : List (Nat × Int)} {base : Nat} {A : Nat → Nat → Prop} (h : OwnX X w v xs base) (c : Chg A w w') (hA : ∀ b o, base ≤ b → ¬ A b o) : OwnX X w' v xs base := ⟨h.1.chg c hA, h.2⟩
theorem OwnX.keep {X : Nat → Prop} {w w' : World} {v : Value} {xs : List (Nat × Int)} {base : Nat} (h : OwnX X w v xs base) (c : Chg (fun _ _ => False) w w') : OwnX X w' v xs base := ⟨h.1.keep c, h.2⟩
theorem OwnX.sl {X : Nat → Prop} {w : World} {v : Value} {xs : List (Nat × Int)} {base : Nat} (h : OwnX X w v xs base) : SlE stkE w v xs := h.1.sl

section
variable {P : Program} {X : Nat → Prop}
theorem wp_append_X {o' : Oper} {a : Act} {w : World} {K : Act → World → Prop} {Q : Exit → Act → World → Prop} (s x : Operand) (t : TypeId)
    (ho : o'.op = .call { callee := .builtin .append, args := #[s, x], argTypes := #[t, t] }) (i : TypeInfo) (z : Value) (bytes : Nat) (ht : P.underlying t = some (.slice stkE.T)) (hi : P.info? stkE.T = some i) (hz : i.zero = some z)
    (hsize : i.size = stkE.es) (hby : i.bytes = bytes) (hzs : z.cells.size = stkE.es) (v : Value) (hs : a.eval s = v) (xs : List (Nat × Int)) (base : Nat) (how : OwnX X w v xs base) (hbase : base ≤ w.heap.size) (hX : ∀ b, X b → b < w.heap.size)
    (ad : Addr) (m c : Nat) (hx : a.eval x = .slice (some ad) m c) (ys : List (Nat × Int)) (hm : ys.length = m) (hm0 : 0 < m) (hsrc : ∀ j u, (flat stkE.par ys)[j]? = some u → w.cell? (ad.add j) = some u) (h63 : xs.length + m ≤ maxLen) (hbytes : (xs.length + m) * bytes ≤ 140737488355328)
    (h : ∀ v' w', OwnX X w' v' (xs ++ ys) base → Chg (fun b _ => base ≤ b ∧ ¬ X b) w w' → K (a.put o'.dst v') w') : o'.wp P a w K Q := by
  refine wp_append_E2 (P := P) stkE s x t ho i z bytes ht hi hz hsize hby hzs v hs xs base how.1 hbase ad m c hx ys hm hm0 hsrc h63 hbytes ?_
  intro v' w' h1 h2 h3
  refine h v' w' ⟨h1, fun b hb => ?_⟩ (h2.mono fun b _ _ hb => ⟨(how.1.own_lt hb).1, how.2 b hb⟩)
  rcases h3 with h3 | ⟨nb, h3, hn⟩
  · exact how.2 b (h3 ▸ hb)
  · rw [h3] at hb
    have e : nb = b := Option.some.inj hb
    intro hxb
    have := hX b hxb
    omega

theorem wpList_append_X {ops : Array Oper} {rest : List Oper} {o' : Oper} {a : Act} {w : World} {Q : Exit → Act → World → Prop} (hgd : o'.guard = none) (s x : Operand) (t : TypeId)
    (ho : o'.op = .call { callee := .builtin .append, args := #[s, x], argTypes := #[t, t] }) (i : TypeInfo) (z : Value) (bytes : Nat) (ht : P.underlying t = some (.slice stkE.T)) (hi : P.info? stkE.T = some i) (hz : i.zero = some z)
    (hsize : i.size = stkE.es) (hby : i.bytes = bytes) (hzs : z.cells.size = stkE.es) (v : Value) (hs : a.eval s = v) (xs : List (Nat × Int)) (base : Nat) (how : OwnX X w v xs base) (hbase : base ≤ w.heap.size) (hX : ∀ b, X b → b < w.heap.size)
    (ad : Addr) (m c : Nat) (hx : a.eval x = .slice (some ad) m c) (ys : List (Nat × Int)) (hm : ys.length = m) (hm0 : 0 < m) (hsrc : ∀ j u, (flat stkE.par ys)[j]? = some u → w.cell? (ad.add j) = some u) (h63 : xs.length + m ≤ maxLen) (hbytes : (xs.length + m) * bytes ≤ 140737488355328)
    (h : ∀ v' w', OwnX X w' v' (xs ++ ys) base → Chg (fun b _ => base ≤ b ∧ ¬ X b) w w' → wpList P ops Q rest (a.put o'.dst v') w') : wpList P ops Q (o' :: rest) a w :=
  wpList_plain hgd fun _ hK => wp_append_X s x t ho i z bytes ht hi hz hsize hby hzs v hs xs base how hbase hX ad m c hx ys hm hm0 hsrc h63 hbytes fun v' w' h2 h3 => hK _ _ (h v' w' h2 h3)
end

/-! The stack's rows. -/
theorem stk_flat_set (l : List (Nat × Int)) (n : Nat) (i v : Int) : (flat stkE.par (l ++ [(n, i)])).set (l.length * 2 + 1) (.int .i64 v) = flat stkE.par (l ++ [(n, v)]) := by
  rw [flat_append, flat_append, List.set_append_right]
  · have hl : (flat stkE.par l).length = l.length * 2 := flat_len _ _
    rw [hl, show l.length * 2 + 1 - l.length * 2 = 1 by omega]
    rfl
  · have hl : (flat stkE.par l).length = l.length * 2 := flat_len _ _
    omega

structure StkTop (X : Nat → Prop) (w : World) (st : Value) (l : List (Nat × Int)) (n : Nat) (i : Int) (base b o cap : Nat) : Prop where
  eq : st = .slice (some ⟨b, o, none⟩) (l.length + 1) cap
  room : l.length + 1 ≤ cap
  lo : base ≤ b
  hi : b < w.heap.size
  nx : ¬ X b
  c0 : w.cell? ⟨b, o + l.length * 2, none⟩ = some (.pointer (some ⟨n, 0, none⟩))
  c1 : w.cell? ⟨b, o + l.length * 2 + 1, none⟩ = some (.int .i64 i)
  fz : ∀ j, w.frozen? ⟨b, j, none⟩ = false
  put : ∀ v, OwnX X (w.setCell ⟨b, o + l.length * 2 + 1, none⟩ (.int .i64 v)) st (l ++ [(n, v)]) base
  pop : OwnX X w (.slice (some ⟨b, o, none⟩) l.length cap) l base

theorem stk_top {X : Nat → Prop} {w : World} {st : Value} {l : List (Nat × Int)} {n : Nat} {i : Int} {base : Nat} (h : OwnX X w st (l ++ [(n, i)]) base) : ∃ b o cap, StkTop X w st l n i base b o cap := by
  obtain ⟨h, hnx⟩ := h
  rcases h with ⟨h0, _⟩ | ⟨b, o, cap, rfl, h2, h3, h4⟩
  · simp at h0
  · have hll : (l ++ [(n, i)]).length = l.length + 1 := by simp
    rw [hll] at h2 ⊢
    have hx : (l ++ [(n, i)])[l.length]? = some (n, i) := by simp
    have g0 := h4.cell (flat_get stkE.par hx (q := 0) (v := .pointer (some ⟨n, 0, none⟩)) rfl)
    have g1 := h4.cell (flat_get stkE.par hx (q := 1) (v := .int .i64 i) rfl)
    have hnb : ¬ X b := hnx b rfl
    refine ⟨b, o, cap, rfl, h2, h3, h4.lt, hnb, g0, by rw [Nat.add_assoc]; exact g1, h4.frozen, fun v => ?_, ?_⟩
    · have h5 := h4.setCell (l.length * 2 + 1) (.int .i64 v)
      rw [stk_flat_set] at h5
      refine ⟨.inr ⟨b, o, cap, by simp, by simpa using h2, h3, by rw [Nat.add_assoc]; exact h5⟩, hnx⟩
    · have h5 := h4.part 0 (l.length * 2) (cap * 2) (by rw [flat_len, hll]; show 0 + l.length * 2 ≤ (l.length + 1) * 2; omega) (by omega) (by rw [Nat.zero_add]; exact Nat.le_refl _)
      refine ⟨.inr ⟨b, o, cap, rfl, by omega, h3, ?_⟩, fun b' hb' => hnx b' hb'⟩
      rw [List.drop_zero, Nat.add_zero] at h5
      have e : (flat stkE.par (l ++ [(n, i)])).take (l.length * 2) = flat stkE.par l := by
        have hl : (flat stkE.par l).length = l.length * 2 := flat_len _ _
        rw [flat_append]; exact List.take_left' hl
      rw [e] at h5
      exact h5

/-! What is still to come. -/
theorem dropc {α : Type} {l : List α} {k : Nat} {x : α} (h : l[k]? = some x) : l.drop k = x :: l.drop (k + 1) := by
  obtain ⟨h1, rfl⟩ := List.getElem?_eq_some_iff.1 h
  exact List.drop_eq_getElem_cons h1

theorem postc {α : Type} {xs : List α} {ts : List (List α)} {k : Nat} {x : α} {t : List α} (hx : xs[k]? = some x) (ht : ts[k + 1]? = some t) : post (xs.drop k) (ts.drop (k + 1)) = x :: (t ++ post (xs.drop (k + 1)) (ts.drop (k + 1 + 1))) := by
  rw [dropc hx, dropc ht, post]; rfl

theorem postn {α : Type} {xs : List α} {ts : List (List α)} {k : Nat} (h : xs.length ≤ k) : post (xs.drop k) (ts.drop (k + 1)) = [] := by
  rw [List.drop_eq_nil_of_le h]; cases ts.drop (k + 1) <;> rfl

def sideL (d : Bool) {h : Nat} (T : BT (Int × Int) (h + 1)) (k : Nat) : List (Int × Int) :=
  if d then (pre (T.2.1.take k) ((T.2.2.map (toL h)).take k)).reverse else post (T.2.1.drop k) ((T.2.2.map (toL h)).drop (k + 1))
def turnL (d : Bool) (l : List (Int × Int)) : List (Int × Int) := if d then l.reverse else l

/-- The frames above a subtree of height h, the nearest first. -/
def Frm (H : Nat → Option (NodeR (Int × Int))) (mn mx h0 : Nat) (d : Bool) : List (Nat × Int) → Nat → List (Int × Int) → Prop
  | [], h, R => h = h0 ∧ R = []
  | f :: fs, h, R => ∃ (T : BT (Int × Int) (h + 1)) (k : Nat) (R' : List (Int × Int)), f = (rid T, (k : Int)) ∧ IsT H (h + 1) T ∧ Sh mn mx (h + 1) T ∧ 1 ≤ (its T).length ∧ (toL (h + 1) T).length ≤ 1000000000000 ∧ k ≤ T.2.1.length ∧ Frm H mn mx h0 d fs (h + 1) R' ∧ R = sideL d T k ++ R'

theorem Frm.len {H : Nat → Option (NodeR (Int × Int))} {mn mx h0 : Nat} {d : Bool} : ∀ {fs : List (Nat × Int)} {h : Nat} {R : List (Int × Int)}, Frm H mn mx h0 d fs h R → fs.length + h = h0
  | [], h, R, hf => by have := hf.1; simp [this]
  | f :: fs, h, R, ⟨T, k, R', _, _, _, _, _, _, hf, _⟩ => by have := hf.len; rw [List.length_cons]; omega

theorem height_lt {mn mx : Nat} (hmn : 1 ≤ mn) : ∀ {h : Nat} {T : BT (Int × Int) h}, Sh mn mx h T → 1 ≤ (its T).length → h < (toL h T).length
  | 0, T, _, h1 => h1
  | h + 1, T, hs, h1 => by
    have h2 : 1 ≤ T.2.1.length := h1
    have hkl := hs.2.1
    have hc : T.2.2[0]'(by omega) ∈ T.2.2 := List.getElem_mem _
    have h3 := (hs.2.2 _ hc).1
    have := height_lt hmn (hs.2.2 _ hc).2 (by omega)
    have := kid_lt hs hc h2
    omega

/-- What comes behind item k of a node at the top. -/
def nextR (d : Bool) : {h : Nat} → BT (Int × Int) h → Nat → List (Int × Int) → Prop
  | 0, T, k, X => X = if d then (T.2.take k).reverse else T.2.drop (k + 1)
  | h + 1, T, k, X => ∃ c, T.2.2[if d then k else k + 1]? = some c ∧ X = turnL d (toL h c) ++ sideL d T (if d then k else k + 1)

/-- At an item: y, and what is still to come. -/
def CurAt (H : Nat → Option (NodeR (Int × Int))) (mn mx h0 : Nat) (d : Bool) (fs : List (Nat × Int)) (y : Int × Int) (R : List (Int × Int)) : Prop :=
  ∃ (h : Nat) (T : BT (Int × Int) h) (k : Nat) (fs' : List (Nat × Int)) (R' X : List (Int × Int)), fs = (rid T, (k : Int)) :: fs' ∧ IsT H h T ∧ Sh mn mx h T ∧ 1 ≤ (its T).length ∧ (toL h T).length ≤ 1000000000000 ∧ (its T)[k]? = some y ∧ Frm H mn mx h0 d fs' h R' ∧ nextR d T k X ∧ R = X ++ R'

/-- The iterator stands at an item. -/
def ItOn (X : Nat → Prop) (w : World) (H : Nat → Option (NodeR (Int × Int))) (mn mx h0 : Nat) (d : Bool) (ib t base : Nat) (y : Int × Int) (R : List (Int × Int)) : Prop :=
  ∃ fs st, ItAt w ib t true false false st y.1 ∧ OwnX X w st fs.reverse base ∧ CurAt H mn mx h0 d fs y R

/-- What an iterator changes. -/
def ItCh (ib base : Nat) (X : Nat → Prop) (b _o : Nat) : Prop := b = ib ∨ (base ≤ b ∧ ¬ X b)

def ItPost (X : Nat → Prop) (w : World) (H : Nat → Option (NodeR (Int × Int))) (mn mx h0 : Nat) (d : Bool) (ib t base : Nat) (R : List (Int × Int)) (e : Ending) (w' : World) : Prop :=
  (∃ y R', R = y :: R' ∧ e = .returned (.bool true) ∧ ItOn X w' H mn mx h0 d ib t base y R' ∧ Chg (ItCh ib base X) w w') ∨ (R = [] ∧ e = .returned (.bool false) ∧ (∃ sk a e st k, ItAt w' ib t sk a e st k) ∧ Chg (ItCh ib base X) w w')
end Go.Proofs.Ytjggkpmlffhjgaa
