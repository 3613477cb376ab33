/- pairs makes the function that keeps items. -/
import Derived.Test.YtbpnabhgnijbfaaIt
import Derived.Laws.EntriesVeiled
namespace Go.Proofs.Ytbpnabhgnijbfaa
set_option linter.unusedSimpArgs false
set_option linter.unusedVariables false
open Go.RowKit

theorem taker_any (ob : Nat) (n : Int) (w : World) :
    Calls Try.prog 45 #[.pointer (some ⟨ob, 0, none⟩), .int .i64 n] w fun e w' =>
      e = .returned (.func (.func 61) #[] #[.pointer (some ⟨w.heap.size, 0, none⟩), .pointer (some ⟨w.heap.size + 1, 0, none⟩)]) ∧
      w' = (w.alloc (.cells #[.pointer (some ⟨ob, 0, none⟩)] 58)).alloc (.cells #[.int .i64 n] 3) := by
  have hmf : ∀ (fn : Fn) (first cap : Array Value) (w : World), (Instr.makeFunc fn first cap).run Try.prog w = .ok (.func fn first cap) w := fun _ _ _ _ => rfl
  go_enter Try.func45, Try.ntmps45
  go_wp2
  go_ret
  exact ⟨rfl, rfl⟩

def PairsPost (n : Int) (ob : Nat) (w : World) (e : Ending) (w' : World) : Prop :=
  ∃ b2 b3 cb, e = .returned (.func (.func 46) #[] #[.pointer (some ⟨cb, 0, none⟩)]) ∧ Kept n ob b2 b3 cb w'.heap.size w' [] ∧ Chg (fun _ _ => False) w w'

theorem pairs_any (ob : Nat) (n : Int) (w : World) (ho : w.heap[ob]? = some (.cells #[.slice none 0 0] 22 (0, 0))) :
    Calls Try.prog 33 #[.pointer (some ⟨ob, 0, none⟩), .int .i64 n] w (PairsPost n ob w) := by
  have hmf : ∀ (fn : Fn) (first cap : Array Value) (w : World), (Instr.makeFunc fn first cap).run Try.prog w = .ok (.func fn first cap) w := fun _ _ _ _ => rfl
  have hol := heap_lt ho
  have fin : ∀ w3 : World, w3 = ((w.alloc (.cells #[.pointer (some ⟨ob, 0, none⟩)] 58)).alloc (.cells #[.int .i64 n] 3)).alloc (.cells #[.func (.func 61) #[] #[.pointer (some ⟨w.heap.size, 0, none⟩), .pointer (some ⟨w.heap.size + 1, 0, none⟩)]] 41) →
      PairsPost n ob w (.returned (.func (.func 46) #[] #[.pointer (some ⟨w.heap.size + 1 + 1, 0, none⟩)])) w3 := by
    rintro w3 rfl
    refine ⟨w.heap.size, w.heap.size + 1, w.heap.size + 1 + 1, rfl, ?_, (((Chg.refl _ _).alloc _).alloc _).alloc _⟩
    refine ⟨⟨_, ?_, OwnE.nil _ _ _⟩, ?_, ?_, ?_, by simp only [World.size_alloc]; omega, by simp only [World.size_alloc]; omega, by simp only [World.size_alloc]; omega, by simp only [World.size_alloc]; omega, by omega, by omega, by omega, Nat.le_refl _⟩
    · rw [ha_lt _ _ (by simp only [World.size_alloc]; omega), ha_lt _ _ (by simp only [World.size_alloc]; omega), ha_lt _ _ hol]; exact ho
    · rw [ha_lt _ _ (by simp only [World.size_alloc]; omega), ha_lt _ _ (by simp only [World.size_alloc]; omega)]; exact ha_at _ _ rfl
    · rw [ha_lt _ _ (by simp only [World.size_alloc]; omega)]; exact ha_at _ _ (by simp)
    · exact ha_at _ _ (by simp)
  have FIN := Lib.hid fin
  clear fin ho
  go_enter Try.func33, Try.ntmps33
  go_wp2_with fail
  refine (taker_any ob n w).mono ?_
  rintro e w1 ⟨rfl, rfl⟩
  go_wp2_with fail
  go_ret
  exact FIN.out _ (by simp)
end Go.Proofs.Ytbpnabhgnijbfaa
