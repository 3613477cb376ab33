/- spec: Rank, Before, Place. -/
import Derived.Test.YtojplcbkiogcpaaPm
import Derived.Test.YtojplcbkiogcpaaRegc
import Derived.BigQuiet
namespace Go.Proofs.Ytojplcbkiogcpaa
set_option linter.unusedSimpArgs false
set_option linter.unusedVariables false
open Go.RowKit

/-- The call of Rank on the order hands back rk of the key. -/
def RankOk (ordv : Value) (rk : Int → Int) (w : World) : Prop :=
  ∀ w', Chg (fun _ _ => False) w w' → ∀ key, Calls Try.prog 55 #[ordv, .int .i64 key] w' fun e w2 => e = .returned (.int .i64 (rk key)) ∧ w2 = w'

theorem RankOk.chg {ordv : Value} {rk : Int → Int} {w w' : World} (h : RankOk ordv rk w) (c : Chg (fun _ _ => False) w w') : RankOk ordv rk w' := fun w2 c2 key => h w2 (c.trans c2) key

theorem rank_nil (w : World) : RankOk (.slice none 0 0) id w := by
  intro w' _ key
  go_enter Try.func55, Try.ntmps55
  go_wp2
  go_ret
  exact ⟨rfl, rfl⟩

def ltR (rk : Int → Int) (a b : Int × Int) : Bool := decide (rk a.1 < rk b.1)

def itemV (x : Int × Int) : Value := .agg #[.int .i64 x.1, .int .i64 x.2]

theorem before_any (ordv : Value) (rk : Int → Int) (a b : Int × Int) (w : World) (hR : RankOk ordv rk w) :
    Calls Try.prog 25 #[ordv, itemV a, itemV b] w fun e w' => e = .returned (.bool (ltR rk a b)) ∧ Chg (fun _ _ => False) w w' := by
  have HR := Lib.hid hR
  clear hR
  unfold itemV
  go_enter Try.func25, Try.ntmps25
  go_wp2_with fail
  refine name_world (fun w1 => Chg (fun _ _ => False) w w1 ∧ w1.cell? ⟨w.heap.size, 0, none⟩ = some (.int .i64 a.1) ∧ w1.cell? ⟨w.heap.size + 1, 0, none⟩ = some (.int .i64 b.1)) ⟨((Chg.refl _ _).alloc _).alloc _, ?_, ?_⟩ ?_
  · rw [World.cell?_alloc_lt _ _ _ (by simp)]; exact cell_of_block (ha_at _ _ rfl) 0
  · exact cell_of_block (ha_at _ _ (by simp)) 0
  rintro w1 ⟨hc, c0, c1⟩
  go_quiet (first | (go_at_call 55; refine Calls.quiet_of_same (HR.out _ (hc.drewN _) _)))
  go_wp2
  go_ret
  exact ⟨rfl, hc.drewN _⟩
end Go.Proofs.Ytojplcbkiogcpaa
