/- NewMap; Set on whatever map; growMap. -/
import Derived.Test.YtkgcjgedpefhjaaWo
import Derived.Stop.Asserts
namespace Go.Proofs.Ytkgcjgedpefhjaa
open Go.RowKit

theorem noCopier (v : Value) (xT : TypeId) (w : World) : (Instr.typeAssert (.iface 3 v) xT 139 true).run Try.prog w = .ok (.tuple #[.nilIface, .bool false]) w := run_typeAssert_lacksB Try.underlying139 (by kernel_rfl) (by kernel_rfl) v xT w
theorem noIsoCopier (v : Value) (xT : TypeId) (w : World) : (Instr.typeAssert (.iface 3 v) xT 142 true).run Try.prog w = .ok (.tuple #[.nilIface, .bool false]) w := run_typeAssert_lacksB Try.underlying142 (by kernel_rfl) (by kernel_rfl) v xT w

theorem degree_any (d : Int) (w : World) (h1 : 2 ≤ d) (h2 : d ≤ 128) :
    Calls Try.prog 110 #[.int .i64 d] w fun e w' => e = .returned (.tuple #[.int .i64 ((2 * d - 1) / 2), .int .i64 (2 * d - 1)]) ∧ w' = w := by
  have e1 : (d * 2 - 1).tdiv 2 = (2 * d - 1) / 2 := by rw [Int.tdiv_eq_ediv_of_nonneg (by omega)]; omega
  have e2 : d * 2 - 1 = 2 * d - 1 := by omega
  go_enter Try.func110, Try.ntmps110
  go_wp2
  go_ret2
  exact ⟨rfl, rfl⟩

set_option maxRecDepth 100000 in
theorem init_fresh (t : Nat) (d : Int) (w : World) (h1 : 2 ≤ d) (h2 : d ≤ 128) (hb : w.heap[t]? = some (.cells #[.int .u64 0, .pointer none, .pointer none, .int .i64 0, .int .i64 0, .int .i64 0, .int .i64 0, .int .i64 0, .bool false, .bool false] 96 (0, 0))) :
    Calls Try.prog 93 #[.pointer (some ⟨t, 0, none⟩), .int .i64 d] w fun e w' => e = .returned (.tuple #[]) ∧ Chg (fun b _ => b = t) w w' ∧ MapBlk 0 ((2 * d.toNat - 1) / 2) (2 * d.toNat - 1) w' t none 0 := by
  have c4 := cell_of_block hb 4
  have c6 := cell_of_block hb 6
  have c7 := cell_of_block hb 7
  have c8 := cell_of_block hb 8
  have c9 := cell_of_block hb 9
  have z6 := frozen_of_block hb 6
  have z7 := frozen_of_block hb 7
  have z8 := frozen_of_block hb 8
  have z9 := frozen_of_block hb 9
  simp only [List.getElem?_toArray, List.getElem?_cons_zero, List.getElem?_cons_succ] at c4 c6 c7 c8 c9
  have HB := Lib.hid hb
  clear hb
  have f1 := noCopier
  have f2 := noIsoCopier
  go_enter Try.func93, Try.ntmps93
  go_wp2_with (go_at_call 110; refine (degree_any d _ h1 h2).mono ?_; rintro e w' ⟨rfl, rfl⟩)
  go_end0
  have i1 : (2 * d - 1) / 2 = (((2 * d.toNat - 1) / 2 : Nat) : Int) := by omega
  have i2 : 2 * d - 1 = ((2 * d.toNat - 1 : Nat) : Int) := by omega
  refine ⟨rfl, ?_, ?_⟩
  · repeat (first | refine Chg.drew ?_ | refine Chg.drewN ?_ _ | refine Chg.alloc ?_ _ | refine Chg.setCell ?_ (.inl rfl) _ | exact Chg.refl _ _)
  · rw [i1, i2]
    unfold MapBlk
    rw [hs_same (hs_same (hs_same (hs_same HB.out _) _) _)]
    rfl

set_option maxRecDepth 100000 in
theorem newMap_any (d : Int) (w : World) (h1 : 2 ≤ d) (h2 : d ≤ 128) :
    Calls Try.prog 68 #[.int .i64 d] w fun e w' => e = .returned (.pointer (some ⟨w.heap.size, 0, none⟩)) ∧ Chg (fun _ _ => False) w w' ∧ MapBlk 0 ((2 * d.toNat - 1) / 2) (2 * d.toNat - 1) w' w.heap.size none 0 := by
  go_enter Try.func68, Try.ntmps68
  go_wp2_with fail
  refine (init_fresh w.heap.size d _ h1 h2 (ha_at _ _ rfl)).mono ?_
  rintro e w' ⟨rfl, hc, hB⟩
  go_wp2_with fail
  go_ret
  exact ⟨rfl, ((Chg.refl _ _).alloc _).trans' hc (fun _ _ _ h => h) (fun b o hb h => by omega), hB⟩

/-- The map t holds the list l; its nodes lie in F. -/
def MapIn (mn mx : Nat) (w : World) (F : Nat → Prop) (t : Nat) (l : List (Int × Int)) : Prop :=
  (l = [] ∧ (∀ b, ¬ F b) ∧ MapBlk 0 mn mx w t none 0) ∨ ∃ H h, ∃ T : BT (Int × Int) h, TreeIn 0 mn mx w F H t h T ∧ MapBlk 0 mn mx w t (some (rid T)) (toL h T).length ∧ toL h T = l ∧ 1 ≤ (its T).length

def SetPost (mn mx : Nat) (w : World) (F : Nat → Prop) (t : Nat) (l : List (Int × Int)) (x : Int × Int) (e : Ending) (w' : World) : Prop :=
  SetRet l x e ∧ ∃ F', MapIn mn mx w' F' t (insL ltM x l) ∧ Chg (fun b _ => F b ∨ b = t) w w' ∧ ∀ b, F' b → F b ∨ w.heap.size ≤ b

theorem set_any {mn mx : Nat} {w : World} {F : Nat → Prop} {t : Nat} {l : List (Int × Int)} (h : MapIn mn mx w F t l) (x : Int × Int) (hl : l.length < 100000000000000) (hmn : 1 ≤ mn) (hmx : 3 ≤ mx) (hmx2 : mx ≤ 1000) (hmh : mn ≤ mx / 2) (hmh2 : mn ≤ mx - (mx / 2 + 1)) :
    Calls Try.prog 69 #[.pointer (some ⟨t, 0, none⟩), .int .i64 x.1, .int .i64 x.2] w (SetPost mn mx w F t l x) := by
  have fin : ∀ (G : Nat → Prop) e w', (∀ b, G b → F b) → SetTop 0 mn mx w G t l x e w' → SetPost mn mx w F t l x e w' := by
    rintro G e w' hG ⟨hr, F', H', h', T', r1, r2, r3, r4, r5, r6⟩
    exact ⟨hr, F', .inr ⟨H', h', T', r1, r2, r3, r4⟩, r5.mono (fun b _ _ h => h.imp (hG b) id), fun b hb => (r6 b hb).imp (hG b) id⟩
  rcases h with ⟨rfl, hF, hB⟩ | ⟨H, h, T, hI, hB, rfl, h1⟩
  · exact (set_empty hB hmn hmx hmx2 hmh hmh2 x).mono fun e w' h => fin _ e w' (fun _ h => h.elim) h
  · by_cases ha : Avail mx h T x
    · exact (set_avail hI hB x ha h1 hl).mono fun e w' h => fin F e w' (fun _ h => h) h
    · exact (set_full hI hB x ha hl).mono fun e w' h => fin F e w' (fun _ h => h) h

/-- The list of a map grown from a list. -/
def growL (l : List (Int × Int)) : List (Int × Int) := l.foldl (fun acc x => insL ltM x acc) []

end Go.Proofs.Ytkgcjgedpefhjaa
