/- The tree's own block. -/
import Derived.Test.YtojplcbkiogcpaaWl
namespace Go.Proofs.Ytojplcbkiogcpaa
set_option linter.unusedSimpArgs false
set_option linter.unusedVariables false
open Go.RowKit
variable {ord : List Int} {k : Kc ord}

/-- The tree's own block, and the order that it captures. -/
structure MapBlk (k : Kc ord) (mn mx : Nat) (w : World) (t : Nat) (root : Option Nat) (cnt : Int) : Prop where
  blk : w.heap[t]? = some (.cells #[.int .u64 k.iso, .pointer (some ⟨k.ctr, 0, none⟩), kidV root, .int .i64 cnt, .bool false, .bool false, lessV k, .int .i64 0, .int .i64 0, .int .i64 mx, .int .i64 mn] 99 (0, 0))
  ord : OrdAt k w
  ne1 : t ≠ k.ob
  ne2 : t ≠ k.rb

theorem MapBlk.at_ {k : Kc ord} {mn mx t : Nat} {w : World} {root : Option Nat} {cnt : Int} (h : MapBlk k mn mx w t root cnt) : MapAt k mn mx w t :=
  ⟨by rw [cell_of_block h.blk]; rfl, by rw [cell_of_block h.blk]; rfl, by rw [cell_of_block h.blk]; rfl, by rw [cell_of_block h.blk]; rfl, by rw [cell_of_block h.blk]; rfl, by rw [cell_of_block h.blk]; rfl, h.ord⟩
theorem MapBlk.c2 {k : Kc ord} {mn mx t : Nat} {w : World} {root : Option Nat} {cnt : Int} (h : MapBlk k mn mx w t root cnt) : w.cell? ⟨t, 2, none⟩ = some (kidV root) := by rw [cell_of_block h.blk]; rfl
theorem MapBlk.c3 {k : Kc ord} {mn mx t : Nat} {w : World} {root : Option Nat} {cnt : Int} (h : MapBlk k mn mx w t root cnt) : w.cell? ⟨t, 3, none⟩ = some (.int .i64 cnt) := by rw [cell_of_block h.blk]; rfl
theorem MapBlk.fz {k : Kc ord} {mn mx t : Nat} {w : World} {root : Option Nat} {cnt : Int} (h : MapBlk k mn mx w t root cnt) (o : Nat) : w.frozen? ⟨t, o, none⟩ = false := frozen_of_block h.blk o
theorem MapBlk.chg {A : Nat → Nat → Prop} {k : Kc ord} {mn mx t : Nat} {w w' : World} {root : Option Nat} {cnt : Int} (h : MapBlk k mn mx w t root cnt) (c : Chg A w w') (hA : ∀ b o, MOwn k t b → ¬ A b o) : MapBlk k mn mx w' t root cnt :=
  ⟨by rw [c.block (heap_lt h.blk) (fun o => hA t o MOwn.self)]; exact h.blk, h.ord.chg c (fun o => hA _ o (.inr (.inl rfl))) (fun o => hA _ o (.inr (.inr rfl))), h.ne1, h.ne2⟩
theorem MapBlk.lt {k : Kc ord} {mn mx t : Nat} {w : World} {root : Option Nat} {cnt : Int} (h : MapBlk k mn mx w t root cnt) : t < w.heap.size := heap_lt h.blk
theorem MapBlk.ordSet {k : Kc ord} {mn mx t : Nat} {w : World} {root : Option Nat} {cnt : Int} (h : MapBlk k mn mx w t root cnt) (o : Nat) (v : Value) : OrdAt k (w.setCell ⟨t, o, none⟩ v) :=
  h.ord.chg ((Chg.refl (fun b _ => b = t) w).setCell (.inl rfl) v) (fun _ e => h.ne1 e.symm) (fun _ e => h.ne2 e.symm)

theorem MapBlk.setCnt {k : Kc ord} {mn mx t : Nat} {w : World} {root : Option Nat} {cnt : Int} (h : MapBlk k mn mx w t root cnt) (c : Int) : MapBlk k mn mx (w.setCell ⟨t, 3, none⟩ (.int .i64 c)) t root c :=
  ⟨by rw [hs_same h.blk]; rfl, h.ordSet 3 _, h.ne1, h.ne2⟩
theorem MapBlk.setRoot {k : Kc ord} {mn mx t : Nat} {w : World} {root : Option Nat} {cnt : Int} (h : MapBlk k mn mx w t root cnt) (n : Option Nat) : MapBlk k mn mx (w.setCell ⟨t, 2, none⟩ (kidV n)) t n cnt :=
  ⟨by rw [hs_same h.blk]; rfl, h.ordSet 2 _, h.ne1, h.ne2⟩
end Go.Proofs.Ytojplcbkiogcpaa
