/- The rank of a key in an order. No program in sight. -/
import Derived.Test.YtojplcbkiogcpaaBase
namespace Go.Proofs.Ytojplcbkiogcpaa
set_option linter.unusedSimpArgs false
set_option linter.unusedVariables false

/-- The rank: the key itself, or the number at the key modulo the length. -/
def rkL (os : List Int) (key : Int) : Int := if os.length = 0 then key else os[(key % (os.length : Int)).toNat]?.getD 0

theorem rem_twice {n : Int} (hn : 0 < n) (a : Int) : a.tmod n % n = a % n := by
  rw [Int.tmod_eq_emod]
  split
  · show (a % n - (0 : Int)) % n = _
    rw [Int.sub_zero, Int.emod_emod_of_dvd _ (Int.dvd_refl n)]
  · rw [Int.sub_emod]
    have : (n.natAbs : Int) = n := by omega
    simp [this]
end Go.Proofs.Ytojplcbkiogcpaa
