/-
  No cell of these rows narrows 'for every input' (looked for: loops, veiled, ifaces, maps, wideKeys, modest, calm, conditions, laid).
  DERIVED. THE GIVEN ROWS OF THIS SEAT. 3 by the template 'for every input the law returns true; each argument reads behind the call as it read before'; 0 by the template 'total and deterministic' (their statements: YtbpnabhgnijbfaaTotals.lean).
  GIVEN WITH THE SEED: the statements are not yours to turn. If you find one false, say at which input.
  Laid BY PROGRAM, IN A SANDBOX (cutbox-rows.mjs): the forced cells as the released guide's own fill.sh prints them over the translation f4de917baa3b75ca… (all of the seat's roots in one cut). By AI agents, Wed Nov 11 2026. No macro, syntax, notation, axiom, sorry.
-/
import Derived.Test.YtbpnabhgnijbfaaChecked
import GoSem.Claim
import GoSem.ClaimJoined
import GoSem.ClaimMapViews
import Derived.JoinedTies
import Derived.KernelRfl
namespace Go.Proofs.Ytbpnabhgnijbfaa
/- THE CELL 'sum', in the pinned program and in every row, IS THE sha256 OF THE DUMP (.gsa) THAT YtbpnabhgnijbfaaProg.lean LOADS. Nothing in Lean hashes anything: it is a label: what it is worth is what the hold of that sum in a sandbox is worth. -/
noncomputable def Try.pinned : Pinned := { name := "ytbpnabhgnijbfaa", sum := "f4de917baa3b75cab77c38362c85be586228302341cc35cca4310579ca88c44e", checked := Try.checked }
namespace Rows
def none {H : Type} : Left H := { results := [], args := [] }

/-- 'laws.FnExactWGetAt': WHATEVER THE INPUT: true; the input reads as it did. -/
def fnExactWGetAtSpec : ChangeSpec := { name := "fnExactWGetAt", fn := fun _ => fun
  | [d1, d2, d3] => { results := [.lit (.bool true)], args := [d1, d2, d3] }
  | _ => none }
def fnExactWGetAtRow : OpenClaim := { program := "ytbpnabhgnijbfaa", sum := "f4de917baa3b75cab77c38362c85be586228302341cc35cca4310579ca88c44e", func := "pub-greenwood/laws.FnExactWGetAt", spec := "fnExactWGetAt", unfollowed := true, recurses := true, apart := false }
def FnExactWGetAtSaid : Prop := fnExactWGetAtRow.holds Try.pinned (OpenSpec.ofChange fnExactWGetAtSpec)

/-- ITS FALSE NEIGHBOUR: 'it returns false'. Refute it at one input. -/
def fnExactWGetAtWrong : ChangeSpec := { name := "fnExactWGetAt", fn := fun _ => fun
  | [d1, d2, d3] => { results := [.lit (.bool false)], args := [d1, d2, d3] }
  | _ => none }
def FnExactWGetAtWrongFalsely : Prop := fnExactWGetAtRow.holds Try.pinned (OpenSpec.ofChange fnExactWGetAtWrong)

/-- 'laws.FnExactWDelete': WHATEVER THE INPUT: true; the input reads as it did. -/
def fnExactWDeleteSpec : ChangeSpec := { name := "fnExactWDelete", fn := fun _ => fun
  | [d1, d2, d3] => { results := [.lit (.bool true)], args := [d1, d2, d3] }
  | _ => none }
def fnExactWDeleteRow : OpenClaim := { program := "ytbpnabhgnijbfaa", sum := "f4de917baa3b75cab77c38362c85be586228302341cc35cca4310579ca88c44e", func := "pub-greenwood/laws.FnExactWDelete", spec := "fnExactWDelete", unfollowed := true, recurses := true, apart := false }
def FnExactWDeleteSaid : Prop := fnExactWDeleteRow.holds Try.pinned (OpenSpec.ofChange fnExactWDeleteSpec)

/-- ITS FALSE NEIGHBOUR: 'it returns false'. Refute it at one input. -/
def fnExactWDeleteWrong : ChangeSpec := { name := "fnExactWDelete", fn := fun _ => fun
  | [d1, d2, d3] => { results := [.lit (.bool false)], args := [d1, d2, d3] }
  | _ => none }
def FnExactWDeleteWrongFalsely : Prop := fnExactWDeleteRow.holds Try.pinned (OpenSpec.ofChange fnExactWDeleteWrong)

/-- 'laws.FnWSplits': WHATEVER THE INPUT: true; the input reads as it did. -/
def fnWSplitsSpec : ChangeSpec := { name := "fnWSplits", fn := fun _ => fun
  | [d1, d2, d3] => { results := [.lit (.bool true)], args := [d1, d2, d3] }
  | _ => none }
def fnWSplitsRow : OpenClaim := { program := "ytbpnabhgnijbfaa", sum := "f4de917baa3b75cab77c38362c85be586228302341cc35cca4310579ca88c44e", func := "pub-greenwood/laws.FnWSplits", spec := "fnWSplits", unfollowed := true, recurses := true, apart := false }
def FnWSplitsSaid : Prop := fnWSplitsRow.holds Try.pinned (OpenSpec.ofChange fnWSplitsSpec)

/-- ITS FALSE NEIGHBOUR: 'it returns false'. Refute it at one input. -/
def fnWSplitsWrong : ChangeSpec := { name := "fnWSplits", fn := fun _ => fun
  | [d1, d2, d3] => { results := [.lit (.bool false)], args := [d1, d2, d3] }
  | _ => none }
def FnWSplitsWrongFalsely : Prop := fnWSplitsRow.holds Try.pinned (OpenSpec.ofChange fnWSplitsWrong)

/- THE SECOND FORM. 'bulk': how many values and letters a reading holds, each counted each time it is reached (what is shared counts as often as it is met; a slice's spare places count too). A statement '..UptoSaid' is the law's where the arguments, and the package variables that the reading takes, are together of bulk at most 1048576: NARROWER than '..Said'. Prove '..Said' where nothing that the law and all that it calls make is longer than what came in: it says more and counts as full. Else prove '..UptoSaid'. A law counts once. -/
mutual
def uptoBulk {H : Type} : DataW H → Nat
  | .lit (.string bytes) => bytes.length + 1
  | .lit _ => 1
  | .nil => 1
  | .ptr d => uptoBulk d + 1
  | .slice elems spare => uptoBulkAll elems + uptoBulkAll spare + 1
  | .agg parts => uptoBulkAll parts + 1
  | .iface _ d => uptoBulk d + 1
  | .map entries => uptoBulkEntries entries + 1
  | .held _ => 1
def uptoBulkAll {H : Type} : List (DataW H) → Nat
  | [] => 0
  | d :: r => uptoBulk d + uptoBulkAll r
def uptoBulkEntries {H : Type} : List (Lit × DataW H) → Nat
  | [] => 0
  | x :: r => uptoBulkEntry x + uptoBulkEntries r
def uptoBulkEntry {H : Type} : Lit × DataW H → Nat
  | (.string bytes, d) => bytes.length + uptoBulk d + 1
  | (_, d) => uptoBulk d + 1
 end
def uptoSmall : (H : Type) → List (DataW H) → Bool := fun _ ds => decide (uptoBulkAll ds ≤ 1048576)
def OpenSpec.upto (s : _root_.Go.ChangeSpec) : _root_.Go.OpenSpec := { _root_.Go.OpenSpec.ofChange s with cond := some uptoSmall }

/-- 'laws.FnExactWGetAt', WHERE WHAT IT READS IS OF BULK AT MOST 1048576: true; the input reads as it did. -/
def fnExactWGetAtUptoRow : OpenClaim := { program := "ytbpnabhgnijbfaa", sum := "f4de917baa3b75cab77c38362c85be586228302341cc35cca4310579ca88c44e", func := "pub-greenwood/laws.FnExactWGetAt", spec := "fnExactWGetAt", unfollowed := true, recurses := true, apart := false, narrowed := true }
def FnExactWGetAtUptoSaid : Prop := fnExactWGetAtUptoRow.holds Try.pinned (OpenSpec.upto fnExactWGetAtSpec)

/-- 'laws.FnExactWDelete', WHERE WHAT IT READS IS OF BULK AT MOST 1048576: true; the input reads as it did. -/
def fnExactWDeleteUptoRow : OpenClaim := { program := "ytbpnabhgnijbfaa", sum := "f4de917baa3b75cab77c38362c85be586228302341cc35cca4310579ca88c44e", func := "pub-greenwood/laws.FnExactWDelete", spec := "fnExactWDelete", unfollowed := true, recurses := true, apart := false, narrowed := true }
def FnExactWDeleteUptoSaid : Prop := fnExactWDeleteUptoRow.holds Try.pinned (OpenSpec.upto fnExactWDeleteSpec)

/-- 'laws.FnWSplits', WHERE WHAT IT READS IS OF BULK AT MOST 1048576: true; the input reads as it did. -/
def fnWSplitsUptoRow : OpenClaim := { program := "ytbpnabhgnijbfaa", sum := "f4de917baa3b75cab77c38362c85be586228302341cc35cca4310579ca88c44e", func := "pub-greenwood/laws.FnWSplits", spec := "fnWSplits", unfollowed := true, recurses := true, apart := false, narrowed := true }
def FnWSplitsUptoSaid : Prop := fnWSplitsUptoRow.holds Try.pinned (OpenSpec.upto fnWSplitsSpec)

end Rows
end Go.Proofs.Ytbpnabhgnijbfaa
