/- What laws share: the examples, Fits. -/
import Derived.Test.YtojplcbkiogcpaaSb
import Derived.BigQuiet
namespace Go.Proofs.Ytojplcbkiogcpaa
set_option linter.unusedSimpArgs false
set_option linter.unusedVariables false
open Go.RowKit

def exL : List (Int × Int) := [(5, 1), (3, 2), (9, 3), (3, 4), (1, 5), (7, 6), (8, 7)]

def exCells : Array Value := #[.int .i64 5, .int .i64 1, .int .i64 3, .int .i64 2, .int .i64 9, .int .i64 3, .int .i64 3, .int .i64 4, .int .i64 1, .int .i64 5, .int .i64 7, .int .i64 6, .int .i64 8, .int .i64 7]

def ExPost (w : World) (e : Ending) (w' : World) : Prop := ∃ p, e = .returned (.slice p exL.length 7) ∧ ItemsAt w' p exL ∧ Chg (fun _ _ => False) w w'

theorem exItems_any (w : World) : Calls Try.prog 20 #[] w (ExPost w) := by
  have fin : ExPost w (.returned (.slice (some ⟨w.heap.size, 0, none⟩) 7 7)) (w.alloc (.cells exCells 26)) := by
    refine ⟨_, rfl, .inr ⟨w.heap.size, 0, rfl, fun i x hx => ?_⟩, (Chg.refl _ _).alloc _⟩
    have hb : (w.alloc (.cells exCells 26)).heap[w.heap.size]? = some (.cells exCells 26 (0, 0)) := ha_at _ _ rfl
    rw [cell_of_block hb, cell_of_block hb]
    match i, hx with
    | 0, hx => simp [exL] at hx; subst hx; exact ⟨rfl, rfl⟩
    | 1, hx => simp [exL] at hx; subst hx; exact ⟨rfl, rfl⟩
    | 2, hx => simp [exL] at hx; subst hx; exact ⟨rfl, rfl⟩
    | 3, hx => simp [exL] at hx; subst hx; exact ⟨rfl, rfl⟩
    | 4, hx => simp [exL] at hx; subst hx; exact ⟨rfl, rfl⟩
    | 5, hx => simp [exL] at hx; subst hx; exact ⟨rfl, rfl⟩
    | 6, hx => simp [exL] at hx; subst hx; exact ⟨rfl, rfl⟩
    | n + 7, hx => simp [exL] at hx
  have FIN := Lib.hid fin
  clear fin
  go_enter Try.func20, Try.ntmps20
  go_wp2
  go_ret
  exact FIN.out

theorem fits_yes (d : Int) (w : World) (h1 : 2 ≤ d) (h2 : d ≤ 128) : Calls Try.prog 18 #[.int .i64 d] w fun e w' => e = .returned (.bool true) ∧ w = w' := by
  have h0 : (d == 0) = false := by simp; omega
  go_enter Try.func18, Try.ntmps18
  go_wp2
  go_ret
  exact ⟨rfl, rfl⟩

theorem fits_zero (w : World) : Calls Try.prog 18 #[.int .i64 0] w fun e w' => e = .returned (.bool true) ∧ w = w' := by
  go_enter Try.func18, Try.ntmps18
  go_wp2
  go_ret
  exact ⟨rfl, rfl⟩

theorem fits_no (d : Int) (w : World) (h0 : d ≠ 0) (h : d < 2 ∨ 128 < d) : Calls Try.prog 18 #[.int .i64 d] w fun e w' => e = .returned (.bool false) ∧ w = w' := by
  have h0 : (d == 0) = false := by simp; omega
  by_cases h2 : d < 2
  · have h3 : ¬ 2 ≤ d := by omega
    go_enter Try.func18, Try.ntmps18
    go_wp2
    go_ret
    exact ⟨rfl, rfl⟩
  · have h3 : 2 ≤ d := by omega
    have h4 : ¬ d ≤ 128 := by omega
    go_enter Try.func18, Try.ntmps18
    go_wp2
    go_ret
    exact ⟨rfl, rfl⟩
end Go.Proofs.Ytojplcbkiogcpaa
