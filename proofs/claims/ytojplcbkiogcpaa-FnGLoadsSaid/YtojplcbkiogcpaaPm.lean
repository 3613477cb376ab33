/- The pairs of a map from int to int, in cells; what a node's record gives for a walk; naming a world. -/
import Derived.Test.YtojplcbkiogcpaaWa
namespace Go.Proofs.Ytojplcbkiogcpaa
set_option linter.unusedSimpArgs false
set_option linter.unusedVariables false
open Go.RowKit
variable {ord : List Int} {k : Kc ord}

/-- The world gets a name; of it only R is known. -/
theorem name_world {P : Program} {c : Code} {Q : Exit → Act → World → Prop} {a : Act} {w : World} (R : World → Prop) (hR : R w) (h : ∀ w1, R w1 → c.wp P Q a w1) : c.wp P Q a w := h w hR

theorem name_prop {Q : World → Prop} {w : World} (R : World → Prop) (hR : R w) (h : ∀ w1, R w1 → Q w1) : Q w := h w hR

theorem name_calls {P : Program} {f : FuncId} {args : Array Value} {Q : Ending → World → Prop} {w : World} (R : World → Prop) (hR : R w) (h : ∀ w1, R w1 → Calls P f args w1 Q) : Calls P f args w Q := h w hR

def encM (x : It ord) : List Value := [.int .i64 x.1, .int .i64 x.2]

def aggM (x : It ord) : Value := .agg #[.int .i64 x.1, .int .i64 x.2]

def parM (k : Kc ord) : Par (It ord) where
  es := 2
  enc := encM
  TN := 105
  TI := 26
  TS := 106
  TP := 97
  k := k.iso
  epos := by omega
  elen := fun _ => rfl
  eone := by intro x v hv; simp [encM] at hv; rcases hv with rfl | rfl <;> rfl

section
variable {α : Type} {p : Par α} {w : World} {n : Nat} {r : NodeR α} {l : Lay}

theorem cell_of_block {b : Nat} {c : Array Value} {T : TypeId} {fr : Nat × Nat} (h : w.heap[b]? = some (.cells c T fr)) (o : Nat) : w.cell? ⟨b, o, none⟩ = c[o]? := by
  simp [World.cell?, h]
theorem frozen_of_block {b : Nat} {c : Array Value} {T : TypeId} (h : w.heap[b]? = some (.cells c T (0, 0))) (o : Nat) : w.frozen? ⟨b, o, none⟩ = false := by
  simp [World.frozen?, h]

theorem NodeAt.c0 (h : NodeAt p w n r l) : w.cell? ⟨n, 0, none⟩ = some (.int .u64 p.k) := by rw [cell_of_block h.hd]; rfl
theorem NodeAt.c1 (h : NodeAt p w n r l) : w.cell? ⟨n, 1, none⟩ = some (.int .i64 r.cnt) := by rw [cell_of_block h.hd]; rfl
theorem NodeAt.c2 (h : NodeAt p w n r l) : w.cell? ⟨n, 2, none⟩ = some (.slice (some ⟨l.ib, l.io, none⟩) r.items.length l.ic) := by rw [cell_of_block h.hd]; rfl
theorem NodeAt.c3 (h : NodeAt p w n r l) : w.cell? ⟨n, 3, none⟩ = some (.pointer (r.kids.map fun _ => ⟨l.cc, 0, none⟩)) := by rw [cell_of_block h.hd]; rfl
theorem NodeAt.c3n (h : NodeAt p w n r l) (hk : r.kids = none) : w.cell? ⟨n, 3, none⟩ = some (.pointer none) := by rw [h.c3, hk]; rfl
theorem NodeAt.c3s (h : NodeAt p w n r l) {ks : List (Option Nat)} (hk : r.kids = some ks) : w.cell? ⟨n, 3, none⟩ = some (.pointer (some ⟨l.cc, 0, none⟩)) := by rw [h.c3, hk]; rfl
theorem NodeAt.fz (h : NodeAt p w n r l) (o : Nat) : w.frozen? ⟨n, o, none⟩ = false := frozen_of_block h.hd o
theorem NodeAt.ifz (h : NodeAt p w n r l) (o : Nat) : w.frozen? ⟨l.ib, o, none⟩ = false := h.row.frozen o
theorem NodeAt.item (h : NodeAt p w n r l) {j : Nat} {x : α} (hj : r.items[j]? = some x) (q : Nat) {v : Value} (hq : (p.enc x)[q]? = some v) : w.cell? ⟨l.ib, l.io + (j * p.es + q), none⟩ = some v :=
  h.row.cell (flat_get p hj hq)
theorem NodeAt.cc (h : NodeAt p w n r l) {ks : List (Option Nat)} (hk : r.kids = some ks) : w.cell? ⟨l.cc, 0, none⟩ = some (.slice (some ⟨l.cb, l.co, none⟩) ks.length l.ck) := by rw [cell_of_block (h.kid ks hk).1]; rfl
theorem NodeAt.ccz (h : NodeAt p w n r l) {ks : List (Option Nat)} (hk : r.kids = some ks) (o : Nat) : w.frozen? ⟨l.cc, o, none⟩ = false := frozen_of_block (h.kid ks hk).1 o
theorem NodeAt.kidc (h : NodeAt p w n r l) {ks : List (Option Nat)} (hk : r.kids = some ks) {j : Nat} {o : Option Nat} (hj : ks[j]? = some o) : w.cell? ⟨l.cb, l.co + j, none⟩ = some (kidV o) :=
  (h.kid ks hk).2.cell (by simp [hj])
theorem NodeAt.kidz (h : NodeAt p w n r l) {ks : List (Option Nat)} (hk : r.kids = some ks) (o : Nat) : w.frozen? ⟨l.cb, o, none⟩ = false := (h.kid ks hk).2.frozen o
end

theorem NodeAt.mval {k : Kc ord} {w : World} {n : Nat} {r : NodeR (It ord)} {l : Lay} (h : NodeAt (parM k) w n r l) {j : Nat} {x : It ord} (hj : r.items[j]? = some x) : w.cell? ⟨l.ib, l.io + j * 2, none⟩ = some (.int .i64 x.1) :=
  h.item hj 0 rfl
theorem NodeAt.mkey {k : Kc ord} {w : World} {n : Nat} {r : NodeR (It ord)} {l : Lay} (h : NodeAt (parM k) w n r l) {j : Nat} {x : It ord} (hj : r.items[j]? = some x) : w.cell? ⟨l.ib, l.io + j * 2 + 1, none⟩ = some (.int .i64 x.2) :=
  h.item hj 1 rfl

end Go.Proofs.Ytojplcbkiogcpaa
