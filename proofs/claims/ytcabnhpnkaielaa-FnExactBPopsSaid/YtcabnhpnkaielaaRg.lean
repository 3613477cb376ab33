/- nodeReverse over trees. -/
import Derived.Test.YtcabnhpnkaielaaKg
import Derived.Test.YtcabnhpnkaielaaBx
namespace Go.Proofs.Ytcabnhpnkaielaa
set_option linter.unusedSimpArgs false
set_option linter.unusedVariables false
open Go.RowKit

theorem runL_cons {α : Type} {cont : List α → Bool} {acc : List α} {x : α} {l : List α} (h : cont (acc ++ [x]) = true) : runL cont acc (x :: l) = runL cont (acc ++ [x]) l := by rw [runL, if_pos h]
theorem runL_stop {α : Type} {cont : List α → Bool} {acc : List α} {x : α} {l : List α} (h : cont (acc ++ [x]) = false) : runL cont acc (x :: l) = (acc ++ [x], false) := by rw [runL, if_neg (by rw [h]; simp)]
theorem runL_app_true {α : Type} {cont : List α → Bool} {acc : List α} {l1 l2 : List α} (h : (runL cont acc l1).2 = true) : runL cont acc (l1 ++ l2) = runL cont (runL cont acc l1).1 l2 := by rw [runL_append, if_pos h]
theorem runL_app_false {α : Type} {cont : List α → Bool} {acc : List α} {l1 l2 : List α} (h : (runL cont acc l1).2 = false) : runL cont acc (l1 ++ l2) = runL cont acc l1 := by rw [runL_append, if_neg (by rw [h]; simp)]


/-- What a walk over items with the keeping function leaves. -/
def RunPost (n : Int) (ob b2 b3 rb : Nat) (acc l : List (Int × Int)) (w : World) (e : Ending) (w' : World) : Prop :=
  e = .returned (.bool (runL (contN n) acc l).2) ∧ Kept n ob b2 b3 rb w' (runL (contN n) acc l).1 ∧ Chg (fun b _ => TakeB ob rb b) w w'

end Go.Proofs.Ytcabnhpnkaielaa
