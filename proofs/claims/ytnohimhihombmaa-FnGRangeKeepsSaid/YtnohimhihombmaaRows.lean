/-
  No cell of these rows narrows 'for every input' (looked for: loops, veiled, ifaces, maps, wideKeys, modest, calm, conditions, laid).
  DERIVED. THE GIVEN ROWS OF THIS SEAT. 4 by the template 'for every input the law returns true; each argument reads behind the call as it read before'; 0 by the template 'total and deterministic' (their statements: YtnohimhihombmaaTotals.lean).
  GIVEN WITH THE SEED: the statements are not yours to turn. If you find one false, say at which input.
  Laid BY PROGRAM, IN A SANDBOX (cutbox-rows.mjs): the forced cells as the released guide's own fill.sh prints them over the translation 0534118bfd1c78c2… (all of the seat's roots in one cut). By AI agents, Wed Nov 11 2026. No macro, syntax, notation, axiom, sorry.
-/
import Derived.Test.YtnohimhihombmaaChecked
import GoSem.Claim
import GoSem.ClaimJoined
import GoSem.ClaimMapViews
import Derived.JoinedTies
import Derived.KernelRfl
namespace Go.Proofs.Ytnohimhihombmaa
/- THE CELL 'sum', in the pinned program and in every row, IS THE sha256 OF THE DUMP (.gsa) THAT YtnohimhihombmaaProg.lean LOADS. Nothing in Lean hashes anything: it is a label: what it is worth is what the hold of that sum in a sandbox is worth. -/
noncomputable def Try.pinned : Pinned := { name := "ytnohimhihombmaa", sum := "0534118bfd1c78c2dd820627fb63785fb3ec862c38257427ac5ba48a793d897b", checked := Try.checked }
namespace Rows
def none {H : Type} : Left H := { results := [], args := [] }

/-- 'laws.FnGKeeps': WHATEVER THE INPUT: true; the input reads as it did. -/
def fnGKeepsSpec : ChangeSpec := { name := "fnGKeeps", fn := fun _ => fun
  | [d1, d2, d3] => { results := [.lit (.bool true)], args := [d1, d2, d3] }
  | _ => none }
def fnGKeepsRow : OpenClaim := { program := "ytnohimhihombmaa", sum := "0534118bfd1c78c2dd820627fb63785fb3ec862c38257427ac5ba48a793d897b", func := "pub-greenwood/laws.FnGKeeps", spec := "fnGKeeps", unfollowed := true, recurses := true, apart := false }
def FnGKeepsSaid : Prop := fnGKeepsRow.holds Try.pinned (OpenSpec.ofChange fnGKeepsSpec)

/-- ITS FALSE NEIGHBOUR: 'it returns false'. Refute it at one input. -/
def fnGKeepsWrong : ChangeSpec := { name := "fnGKeeps", fn := fun _ => fun
  | [d1, d2, d3] => { results := [.lit (.bool false)], args := [d1, d2, d3] }
  | _ => none }
def FnGKeepsWrongFalsely : Prop := fnGKeepsRow.holds Try.pinned (OpenSpec.ofChange fnGKeepsWrong)

/-- 'laws.FnExactGList': WHATEVER THE INPUT: true; the input reads as it did. -/
def fnExactGListSpec : ChangeSpec := { name := "fnExactGList", fn := fun _ => fun
  | [d1, d2, d3, d4, d5] => { results := [.lit (.bool true)], args := [d1, d2, d3, d4, d5] }
  | _ => none }
def fnExactGListRow : OpenClaim := { program := "ytnohimhihombmaa", sum := "0534118bfd1c78c2dd820627fb63785fb3ec862c38257427ac5ba48a793d897b", func := "pub-greenwood/laws.FnExactGList", spec := "fnExactGList", unfollowed := true, recurses := true, apart := false }
def FnExactGListSaid : Prop := fnExactGListRow.holds Try.pinned (OpenSpec.ofChange fnExactGListSpec)

/-- ITS FALSE NEIGHBOUR: 'it returns false'. Refute it at one input. -/
def fnExactGListWrong : ChangeSpec := { name := "fnExactGList", fn := fun _ => fun
  | [d1, d2, d3, d4, d5] => { results := [.lit (.bool false)], args := [d1, d2, d3, d4, d5] }
  | _ => none }
def FnExactGListWrongFalsely : Prop := fnExactGListRow.holds Try.pinned (OpenSpec.ofChange fnExactGListWrong)

/-- 'laws.FnGRangeCounts': WHATEVER THE INPUT: true; the input reads as it did. -/
def fnGRangeCountsSpec : ChangeSpec := { name := "fnGRangeCounts", fn := fun _ => fun
  | [d1, d2, d3, d4] => { results := [.lit (.bool true)], args := [d1, d2, d3, d4] }
  | _ => none }
def fnGRangeCountsRow : OpenClaim := { program := "ytnohimhihombmaa", sum := "0534118bfd1c78c2dd820627fb63785fb3ec862c38257427ac5ba48a793d897b", func := "pub-greenwood/laws.FnGRangeCounts", spec := "fnGRangeCounts", unfollowed := true, recurses := true, apart := false }
def FnGRangeCountsSaid : Prop := fnGRangeCountsRow.holds Try.pinned (OpenSpec.ofChange fnGRangeCountsSpec)

/-- ITS FALSE NEIGHBOUR: 'it returns false'. Refute it at one input. -/
def fnGRangeCountsWrong : ChangeSpec := { name := "fnGRangeCounts", fn := fun _ => fun
  | [d1, d2, d3, d4] => { results := [.lit (.bool false)], args := [d1, d2, d3, d4] }
  | _ => none }
def FnGRangeCountsWrongFalsely : Prop := fnGRangeCountsRow.holds Try.pinned (OpenSpec.ofChange fnGRangeCountsWrong)

/-- 'laws.FnGRangeKeeps': WHATEVER THE INPUT: true; the input reads as it did. -/
def fnGRangeKeepsSpec : ChangeSpec := { name := "fnGRangeKeeps", fn := fun _ => fun
  | [d1, d2, d3, d4, d5] => { results := [.lit (.bool true)], args := [d1, d2, d3, d4, d5] }
  | _ => none }
def fnGRangeKeepsRow : OpenClaim := { program := "ytnohimhihombmaa", sum := "0534118bfd1c78c2dd820627fb63785fb3ec862c38257427ac5ba48a793d897b", func := "pub-greenwood/laws.FnGRangeKeeps", spec := "fnGRangeKeeps", unfollowed := true, recurses := true, apart := false }
def FnGRangeKeepsSaid : Prop := fnGRangeKeepsRow.holds Try.pinned (OpenSpec.ofChange fnGRangeKeepsSpec)

/-- ITS FALSE NEIGHBOUR: 'it returns false'. Refute it at one input. -/
def fnGRangeKeepsWrong : ChangeSpec := { name := "fnGRangeKeeps", fn := fun _ => fun
  | [d1, d2, d3, d4, d5] => { results := [.lit (.bool false)], args := [d1, d2, d3, d4, d5] }
  | _ => none }
def FnGRangeKeepsWrongFalsely : Prop := fnGRangeKeepsRow.holds Try.pinned (OpenSpec.ofChange fnGRangeKeepsWrong)

/- THE SECOND FORM. 'bulk': how many values and letters a reading holds, each counted each time it is reached (what is shared counts as often as it is met; a slice's spare places count too). A statement '..UptoSaid' is the law's where the arguments, and the package variables that the reading takes, are together of bulk at most 1048576: NARROWER than '..Said'. Prove '..Said' where nothing that the law and all that it calls make is longer than what came in: it says more and counts as full. Else prove '..UptoSaid'. A law counts once. -/
mutual
def uptoBulk {H : Type} : DataW H → Nat
  | .lit (.string bytes) => bytes.length + 1
  | .lit _ => 1
  | .nil => 1
  | .ptr d => uptoBulk d + 1
  | .slice elems spare => uptoBulkAll elems + uptoBulkAll spare + 1
  | .agg parts => uptoBulkAll parts + 1
  | .iface _ d => uptoBulk d + 1
  | .map entries => uptoBulkEntries entries + 1
  | .held _ => 1
def uptoBulkAll {H : Type} : List (DataW H) → Nat
  | [] => 0
  | d :: r => uptoBulk d + uptoBulkAll r
def uptoBulkEntries {H : Type} : List (Lit × DataW H) → Nat
  | [] => 0
  | x :: r => uptoBulkEntry x + uptoBulkEntries r
def uptoBulkEntry {H : Type} : Lit × DataW H → Nat
  | (.string bytes, d) => bytes.length + uptoBulk d + 1
  | (_, d) => uptoBulk d + 1
 end
def uptoSmall : (H : Type) → List (DataW H) → Bool := fun _ ds => decide (uptoBulkAll ds ≤ 1048576)
def OpenSpec.upto (s : _root_.Go.ChangeSpec) : _root_.Go.OpenSpec := { _root_.Go.OpenSpec.ofChange s with cond := some uptoSmall }

/-- 'laws.FnGKeeps', WHERE WHAT IT READS IS OF BULK AT MOST 1048576: true; the input reads as it did. -/
def fnGKeepsUptoRow : OpenClaim := { program := "ytnohimhihombmaa", sum := "0534118bfd1c78c2dd820627fb63785fb3ec862c38257427ac5ba48a793d897b", func := "pub-greenwood/laws.FnGKeeps", spec := "fnGKeeps", unfollowed := true, recurses := true, apart := false, narrowed := true }
def FnGKeepsUptoSaid : Prop := fnGKeepsUptoRow.holds Try.pinned (OpenSpec.upto fnGKeepsSpec)

/-- 'laws.FnExactGList', WHERE WHAT IT READS IS OF BULK AT MOST 1048576: true; the input reads as it did. -/
def fnExactGListUptoRow : OpenClaim := { program := "ytnohimhihombmaa", sum := "0534118bfd1c78c2dd820627fb63785fb3ec862c38257427ac5ba48a793d897b", func := "pub-greenwood/laws.FnExactGList", spec := "fnExactGList", unfollowed := true, recurses := true, apart := false, narrowed := true }
def FnExactGListUptoSaid : Prop := fnExactGListUptoRow.holds Try.pinned (OpenSpec.upto fnExactGListSpec)

/-- 'laws.FnGRangeCounts', WHERE WHAT IT READS IS OF BULK AT MOST 1048576: true; the input reads as it did. -/
def fnGRangeCountsUptoRow : OpenClaim := { program := "ytnohimhihombmaa", sum := "0534118bfd1c78c2dd820627fb63785fb3ec862c38257427ac5ba48a793d897b", func := "pub-greenwood/laws.FnGRangeCounts", spec := "fnGRangeCounts", unfollowed := true, recurses := true, apart := false, narrowed := true }
def FnGRangeCountsUptoSaid : Prop := fnGRangeCountsUptoRow.holds Try.pinned (OpenSpec.upto fnGRangeCountsSpec)

/-- 'laws.FnGRangeKeeps', WHERE WHAT IT READS IS OF BULK AT MOST 1048576: true; the input reads as it did. -/
def fnGRangeKeepsUptoRow : OpenClaim := { program := "ytnohimhihombmaa", sum := "0534118bfd1c78c2dd820627fb63785fb3ec862c38257427ac5ba48a793d897b", func := "pub-greenwood/laws.FnGRangeKeeps", spec := "fnGRangeKeeps", unfollowed := true, recurses := true, apart := false, narrowed := true }
def FnGRangeKeepsUptoSaid : Prop := fnGRangeKeepsUptoRow.holds Try.pinned (OpenSpec.upto fnGRangeKeepsSpec)

end Rows
end Go.Proofs.Ytnohimhihombmaa
