/- The items of a tree that is ordered by ranks; what stays the same of such a tree. No program in sight. -/
import Derived.Test.YtojplcbkiogcpaaBase
namespace Go.Proofs.Ytojplcbkiogcpaa
set_option linter.unusedSimpArgs false
set_option linter.unusedVariables false

/-- An item: its key and its value; the order goes with it. -/
abbrev It (_ : List Int) := Prod Int Int

/-- The isoid of a tree, the block of its counter, the block of the variable that the order's function captures, the block of its numbers. -/
structure Kc (ord : List Int) where
  iso : Int
  ctr : Nat
  ob : Nat
  rb : Nat
end Go.Proofs.Ytojplcbkiogcpaa
