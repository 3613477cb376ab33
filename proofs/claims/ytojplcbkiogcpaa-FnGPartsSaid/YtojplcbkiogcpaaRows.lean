/-
  No cell of these rows narrows 'for every input' (looked for: loops, veiled, ifaces, maps, wideKeys, modest, calm, conditions, laid).
  DERIVED. THE GIVEN ROWS OF THIS SEAT. 12 by the template 'for every input the law returns true; each argument reads behind the call as it read before'; 0 by the template 'total and deterministic' (their statements: YtojplcbkiogcpaaTotals.lean).
  GIVEN WITH THE SEED: the statements are not yours to turn. If you find one false, say at which input.
  Laid BY PROGRAM, IN A SANDBOX (cutbox-rows.mjs): the forced cells as the released guide's own fill.sh prints them over the translation 9ab32fb22a6e32d8… (all of the seat's roots in one cut). By AI agents, Wed Nov 11 2026. No macro, syntax, notation, axiom, sorry.
-/
import Derived.Test.YtojplcbkiogcpaaChecked
import GoSem.Claim
import GoSem.ClaimJoined
import GoSem.ClaimMapViews
import Derived.JoinedTies
import Derived.KernelRfl
namespace Go.Proofs.Ytojplcbkiogcpaa
/- THE CELL 'sum', in the pinned program and in every row, IS THE sha256 OF THE DUMP (.gsa) THAT YtojplcbkiogcpaaProg.lean LOADS. Nothing in Lean hashes anything: it is a label: what it is worth is what the hold of that sum in a sandbox is worth. -/
noncomputable def Try.pinned : Pinned := { name := "ytojplcbkiogcpaa", sum := "9ab32fb22a6e32d802ccae27a3bbd3fbf10276353aeff2b17f8ed643579437bf", checked := Try.checked }
namespace Rows
def none {H : Type} : Left H := { results := [], args := [] }

/-- 'laws.FnExactGLess': WHATEVER THE INPUT: true; the input reads as it did. -/
def fnExactGLessSpec : ChangeSpec := { name := "fnExactGLess", fn := fun _ => fun
  | [d1, d2, d3] => { results := [.lit (.bool true)], args := [d1, d2, d3] }
  | _ => none }
def fnExactGLessRow : OpenClaim := { program := "ytojplcbkiogcpaa", sum := "9ab32fb22a6e32d802ccae27a3bbd3fbf10276353aeff2b17f8ed643579437bf", func := "pub-greenwood/laws.FnExactGLess", spec := "fnExactGLess", unfollowed := true, recurses := true, apart := false }
def FnExactGLessSaid : Prop := fnExactGLessRow.holds Try.pinned (OpenSpec.ofChange fnExactGLessSpec)

/-- ITS FALSE NEIGHBOUR: 'it returns false'. Refute it at one input. -/
def fnExactGLessWrong : ChangeSpec := { name := "fnExactGLess", fn := fun _ => fun
  | [d1, d2, d3] => { results := [.lit (.bool false)], args := [d1, d2, d3] }
  | _ => none }
def FnExactGLessWrongFalsely : Prop := fnExactGLessRow.holds Try.pinned (OpenSpec.ofChange fnExactGLessWrong)

/-- 'laws.FnExactGMaxMut': WHATEVER THE INPUT: true; the input reads as it did. -/
def fnExactGMaxMutSpec : ChangeSpec := { name := "fnExactGMaxMut", fn := fun _ => fun
  | [d1, d2] => { results := [.lit (.bool true)], args := [d1, d2] }
  | _ => none }
def fnExactGMaxMutRow : OpenClaim := { program := "ytojplcbkiogcpaa", sum := "9ab32fb22a6e32d802ccae27a3bbd3fbf10276353aeff2b17f8ed643579437bf", func := "pub-greenwood/laws.FnExactGMaxMut", spec := "fnExactGMaxMut", unfollowed := true, recurses := true, apart := false }
def FnExactGMaxMutSaid : Prop := fnExactGMaxMutRow.holds Try.pinned (OpenSpec.ofChange fnExactGMaxMutSpec)

/-- ITS FALSE NEIGHBOUR: 'it returns false'. Refute it at one input. -/
def fnExactGMaxMutWrong : ChangeSpec := { name := "fnExactGMaxMut", fn := fun _ => fun
  | [d1, d2] => { results := [.lit (.bool false)], args := [d1, d2] }
  | _ => none }
def FnExactGMaxMutWrongFalsely : Prop := fnExactGMaxMutRow.holds Try.pinned (OpenSpec.ofChange fnExactGMaxMutWrong)

/-- 'laws.FnExactGItemsMut': WHATEVER THE INPUT: true; the input reads as it did. -/
def fnExactGItemsMutSpec : ChangeSpec := { name := "fnExactGItemsMut", fn := fun _ => fun
  | [d1, d2] => { results := [.lit (.bool true)], args := [d1, d2] }
  | _ => none }
def fnExactGItemsMutRow : OpenClaim := { program := "ytojplcbkiogcpaa", sum := "9ab32fb22a6e32d802ccae27a3bbd3fbf10276353aeff2b17f8ed643579437bf", func := "pub-greenwood/laws.FnExactGItemsMut", spec := "fnExactGItemsMut", unfollowed := true, recurses := true, apart := false }
def FnExactGItemsMutSaid : Prop := fnExactGItemsMutRow.holds Try.pinned (OpenSpec.ofChange fnExactGItemsMutSpec)

/-- ITS FALSE NEIGHBOUR: 'it returns false'. Refute it at one input. -/
def fnExactGItemsMutWrong : ChangeSpec := { name := "fnExactGItemsMut", fn := fun _ => fun
  | [d1, d2] => { results := [.lit (.bool false)], args := [d1, d2] }
  | _ => none }
def FnExactGItemsMutWrongFalsely : Prop := fnExactGItemsMutRow.holds Try.pinned (OpenSpec.ofChange fnExactGItemsMutWrong)

/-- 'laws.FnGSorted': WHATEVER THE INPUT: true; the input reads as it did. -/
def fnGSortedSpec : ChangeSpec := { name := "fnGSorted", fn := fun _ => fun
  | [d1, d2] => { results := [.lit (.bool true)], args := [d1, d2] }
  | _ => none }
def fnGSortedRow : OpenClaim := { program := "ytojplcbkiogcpaa", sum := "9ab32fb22a6e32d802ccae27a3bbd3fbf10276353aeff2b17f8ed643579437bf", func := "pub-greenwood/laws.FnGSorted", spec := "fnGSorted", unfollowed := true, recurses := true, apart := false }
def FnGSortedSaid : Prop := fnGSortedRow.holds Try.pinned (OpenSpec.ofChange fnGSortedSpec)

/-- ITS FALSE NEIGHBOUR: 'it returns false'. Refute it at one input. -/
def fnGSortedWrong : ChangeSpec := { name := "fnGSorted", fn := fun _ => fun
  | [d1, d2] => { results := [.lit (.bool false)], args := [d1, d2] }
  | _ => none }
def FnGSortedWrongFalsely : Prop := fnGSortedRow.holds Try.pinned (OpenSpec.ofChange fnGSortedWrong)

/-- 'laws.FnExactGGet': WHATEVER THE INPUT: true; the input reads as it did. -/
def fnExactGGetSpec : ChangeSpec := { name := "fnExactGGet", fn := fun _ => fun
  | [d1, d2, d3] => { results := [.lit (.bool true)], args := [d1, d2, d3] }
  | _ => none }
def fnExactGGetRow : OpenClaim := { program := "ytojplcbkiogcpaa", sum := "9ab32fb22a6e32d802ccae27a3bbd3fbf10276353aeff2b17f8ed643579437bf", func := "pub-greenwood/laws.FnExactGGet", spec := "fnExactGGet", unfollowed := true, recurses := true, apart := false }
def FnExactGGetSaid : Prop := fnExactGGetRow.holds Try.pinned (OpenSpec.ofChange fnExactGGetSpec)

/-- ITS FALSE NEIGHBOUR: 'it returns false'. Refute it at one input. -/
def fnExactGGetWrong : ChangeSpec := { name := "fnExactGGet", fn := fun _ => fun
  | [d1, d2, d3] => { results := [.lit (.bool false)], args := [d1, d2, d3] }
  | _ => none }
def FnExactGGetWrongFalsely : Prop := fnExactGGetRow.holds Try.pinned (OpenSpec.ofChange fnExactGGetWrong)

/-- 'laws.FnExactGReverseMut': WHATEVER THE INPUT: true; the input reads as it did. -/
def fnExactGReverseMutSpec : ChangeSpec := { name := "fnExactGReverseMut", fn := fun _ => fun
  | [d1, d2, d3] => { results := [.lit (.bool true)], args := [d1, d2, d3] }
  | _ => none }
def fnExactGReverseMutRow : OpenClaim := { program := "ytojplcbkiogcpaa", sum := "9ab32fb22a6e32d802ccae27a3bbd3fbf10276353aeff2b17f8ed643579437bf", func := "pub-greenwood/laws.FnExactGReverseMut", spec := "fnExactGReverseMut", unfollowed := true, recurses := true, apart := false }
def FnExactGReverseMutSaid : Prop := fnExactGReverseMutRow.holds Try.pinned (OpenSpec.ofChange fnExactGReverseMutSpec)

/-- ITS FALSE NEIGHBOUR: 'it returns false'. Refute it at one input. -/
def fnExactGReverseMutWrong : ChangeSpec := { name := "fnExactGReverseMut", fn := fun _ => fun
  | [d1, d2, d3] => { results := [.lit (.bool false)], args := [d1, d2, d3] }
  | _ => none }
def FnExactGReverseMutWrongFalsely : Prop := fnExactGReverseMutRow.holds Try.pinned (OpenSpec.ofChange fnExactGReverseMutWrong)

/-- 'laws.FnExactGDescendMut': WHATEVER THE INPUT: true; the input reads as it did. -/
def fnExactGDescendMutSpec : ChangeSpec := { name := "fnExactGDescendMut", fn := fun _ => fun
  | [d1, d2, d3, d4] => { results := [.lit (.bool true)], args := [d1, d2, d3, d4] }
  | _ => none }
def fnExactGDescendMutRow : OpenClaim := { program := "ytojplcbkiogcpaa", sum := "9ab32fb22a6e32d802ccae27a3bbd3fbf10276353aeff2b17f8ed643579437bf", func := "pub-greenwood/laws.FnExactGDescendMut", spec := "fnExactGDescendMut", unfollowed := true, recurses := true, apart := false }
def FnExactGDescendMutSaid : Prop := fnExactGDescendMutRow.holds Try.pinned (OpenSpec.ofChange fnExactGDescendMutSpec)

/-- ITS FALSE NEIGHBOUR: 'it returns false'. Refute it at one input. -/
def fnExactGDescendMutWrong : ChangeSpec := { name := "fnExactGDescendMut", fn := fun _ => fun
  | [d1, d2, d3, d4] => { results := [.lit (.bool false)], args := [d1, d2, d3, d4] }
  | _ => none }
def FnExactGDescendMutWrongFalsely : Prop := fnExactGDescendMutRow.holds Try.pinned (OpenSpec.ofChange fnExactGDescendMutWrong)

/-- 'laws.FnExactGDescendHintMut': WHATEVER THE INPUT: true; the input reads as it did. -/
def fnExactGDescendHintMutSpec : ChangeSpec := { name := "fnExactGDescendHintMut", fn := fun _ => fun
  | [d1, d2, d3, d4] => { results := [.lit (.bool true)], args := [d1, d2, d3, d4] }
  | _ => none }
def fnExactGDescendHintMutRow : OpenClaim := { program := "ytojplcbkiogcpaa", sum := "9ab32fb22a6e32d802ccae27a3bbd3fbf10276353aeff2b17f8ed643579437bf", func := "pub-greenwood/laws.FnExactGDescendHintMut", spec := "fnExactGDescendHintMut", unfollowed := true, recurses := true, apart := false }
def FnExactGDescendHintMutSaid : Prop := fnExactGDescendHintMutRow.holds Try.pinned (OpenSpec.ofChange fnExactGDescendHintMutSpec)

/-- ITS FALSE NEIGHBOUR: 'it returns false'. Refute it at one input. -/
def fnExactGDescendHintMutWrong : ChangeSpec := { name := "fnExactGDescendHintMut", fn := fun _ => fun
  | [d1, d2, d3, d4] => { results := [.lit (.bool false)], args := [d1, d2, d3, d4] }
  | _ => none }
def FnExactGDescendHintMutWrongFalsely : Prop := fnExactGDescendHintMutRow.holds Try.pinned (OpenSpec.ofChange fnExactGDescendHintMutWrong)

/-- 'laws.FnGLoads': WHATEVER THE INPUT: true; the input reads as it did. -/
def fnGLoadsSpec : ChangeSpec := { name := "fnGLoads", fn := fun _ => fun
  | [d1, d2] => { results := [.lit (.bool true)], args := [d1, d2] }
  | _ => none }
def fnGLoadsRow : OpenClaim := { program := "ytojplcbkiogcpaa", sum := "9ab32fb22a6e32d802ccae27a3bbd3fbf10276353aeff2b17f8ed643579437bf", func := "pub-greenwood/laws.FnGLoads", spec := "fnGLoads", unfollowed := true, recurses := true, apart := false }
def FnGLoadsSaid : Prop := fnGLoadsRow.holds Try.pinned (OpenSpec.ofChange fnGLoadsSpec)

/-- ITS FALSE NEIGHBOUR: 'it returns false'. Refute it at one input. -/
def fnGLoadsWrong : ChangeSpec := { name := "fnGLoads", fn := fun _ => fun
  | [d1, d2] => { results := [.lit (.bool false)], args := [d1, d2] }
  | _ => none }
def FnGLoadsWrongFalsely : Prop := fnGLoadsRow.holds Try.pinned (OpenSpec.ofChange fnGLoadsWrong)

/-- 'laws.FnExactGDelete': WHATEVER THE INPUT: true; the input reads as it did. -/
def fnExactGDeleteSpec : ChangeSpec := { name := "fnExactGDelete", fn := fun _ => fun
  | [d1, d2, d3] => { results := [.lit (.bool true)], args := [d1, d2, d3] }
  | _ => none }
def fnExactGDeleteRow : OpenClaim := { program := "ytojplcbkiogcpaa", sum := "9ab32fb22a6e32d802ccae27a3bbd3fbf10276353aeff2b17f8ed643579437bf", func := "pub-greenwood/laws.FnExactGDelete", spec := "fnExactGDelete", unfollowed := true, recurses := true, apart := false }
def FnExactGDeleteSaid : Prop := fnExactGDeleteRow.holds Try.pinned (OpenSpec.ofChange fnExactGDeleteSpec)

/-- ITS FALSE NEIGHBOUR: 'it returns false'. Refute it at one input. -/
def fnExactGDeleteWrong : ChangeSpec := { name := "fnExactGDelete", fn := fun _ => fun
  | [d1, d2, d3] => { results := [.lit (.bool false)], args := [d1, d2, d3] }
  | _ => none }
def FnExactGDeleteWrongFalsely : Prop := fnExactGDeleteRow.holds Try.pinned (OpenSpec.ofChange fnExactGDeleteWrong)

/-- 'laws.FnGHintScans': WHATEVER THE INPUT: true; the input reads as it did. -/
def fnGHintScansSpec : ChangeSpec := { name := "fnGHintScans", fn := fun _ => fun
  | [d1, d2, d3, d4] => { results := [.lit (.bool true)], args := [d1, d2, d3, d4] }
  | _ => none }
def fnGHintScansRow : OpenClaim := { program := "ytojplcbkiogcpaa", sum := "9ab32fb22a6e32d802ccae27a3bbd3fbf10276353aeff2b17f8ed643579437bf", func := "pub-greenwood/laws.FnGHintScans", spec := "fnGHintScans", unfollowed := true, recurses := true, apart := false }
def FnGHintScansSaid : Prop := fnGHintScansRow.holds Try.pinned (OpenSpec.ofChange fnGHintScansSpec)

/-- ITS FALSE NEIGHBOUR: 'it returns false'. Refute it at one input. -/
def fnGHintScansWrong : ChangeSpec := { name := "fnGHintScans", fn := fun _ => fun
  | [d1, d2, d3, d4] => { results := [.lit (.bool false)], args := [d1, d2, d3, d4] }
  | _ => none }
def FnGHintScansWrongFalsely : Prop := fnGHintScansRow.holds Try.pinned (OpenSpec.ofChange fnGHintScansWrong)

/-- 'laws.FnGParts': WHATEVER THE INPUT: true; the input reads as it did. -/
def fnGPartsSpec : ChangeSpec := { name := "fnGParts", fn := fun _ => fun
  | [d1, d2, d3] => { results := [.lit (.bool true)], args := [d1, d2, d3] }
  | _ => none }
def fnGPartsRow : OpenClaim := { program := "ytojplcbkiogcpaa", sum := "9ab32fb22a6e32d802ccae27a3bbd3fbf10276353aeff2b17f8ed643579437bf", func := "pub-greenwood/laws.FnGParts", spec := "fnGParts", unfollowed := true, recurses := true, apart := false }
def FnGPartsSaid : Prop := fnGPartsRow.holds Try.pinned (OpenSpec.ofChange fnGPartsSpec)

/-- ITS FALSE NEIGHBOUR: 'it returns false'. Refute it at one input. -/
def fnGPartsWrong : ChangeSpec := { name := "fnGParts", fn := fun _ => fun
  | [d1, d2, d3] => { results := [.lit (.bool false)], args := [d1, d2, d3] }
  | _ => none }
def FnGPartsWrongFalsely : Prop := fnGPartsRow.holds Try.pinned (OpenSpec.ofChange fnGPartsWrong)

/- THE SECOND FORM. 'bulk': how many values and letters a reading holds, each counted each time it is reached (what is shared counts as often as it is met; a slice's spare places count too). A statement '..UptoSaid' is the law's where the arguments, and the package variables that the reading takes, are together of bulk at most 1048576: NARROWER than '..Said'. Prove '..Said' where nothing that the law and all that it calls make is longer than what came in: it says more and counts as full. Else prove '..UptoSaid'. A law counts once. -/
mutual
def uptoBulk {H : Type} : DataW H → Nat
  | .lit (.string bytes) => bytes.length + 1
  | .lit _ => 1
  | .nil => 1
  | .ptr d => uptoBulk d + 1
  | .slice elems spare => uptoBulkAll elems + uptoBulkAll spare + 1
  | .agg parts => uptoBulkAll parts + 1
  | .iface _ d => uptoBulk d + 1
  | .map entries => uptoBulkEntries entries + 1
  | .held _ => 1
def uptoBulkAll {H : Type} : List (DataW H) → Nat
  | [] => 0
  | d :: r => uptoBulk d + uptoBulkAll r
def uptoBulkEntries {H : Type} : List (Lit × DataW H) → Nat
  | [] => 0
  | x :: r => uptoBulkEntry x + uptoBulkEntries r
def uptoBulkEntry {H : Type} : Lit × DataW H → Nat
  | (.string bytes, d) => bytes.length + uptoBulk d + 1
  | (_, d) => uptoBulk d + 1
 end
def uptoSmall : (H : Type) → List (DataW H) → Bool := fun _ ds => decide (uptoBulkAll ds ≤ 1048576)
def OpenSpec.upto (s : _root_.Go.ChangeSpec) : _root_.Go.OpenSpec := { _root_.Go.OpenSpec.ofChange s with cond := some uptoSmall }

/-- 'laws.FnExactGLess', WHERE WHAT IT READS IS OF BULK AT MOST 1048576: true; the input reads as it did. -/
def fnExactGLessUptoRow : OpenClaim := { program := "ytojplcbkiogcpaa", sum := "9ab32fb22a6e32d802ccae27a3bbd3fbf10276353aeff2b17f8ed643579437bf", func := "pub-greenwood/laws.FnExactGLess", spec := "fnExactGLess", unfollowed := true, recurses := true, apart := false, narrowed := true }
def FnExactGLessUptoSaid : Prop := fnExactGLessUptoRow.holds Try.pinned (OpenSpec.upto fnExactGLessSpec)

/-- 'laws.FnExactGMaxMut', WHERE WHAT IT READS IS OF BULK AT MOST 1048576: true; the input reads as it did. -/
def fnExactGMaxMutUptoRow : OpenClaim := { program := "ytojplcbkiogcpaa", sum := "9ab32fb22a6e32d802ccae27a3bbd3fbf10276353aeff2b17f8ed643579437bf", func := "pub-greenwood/laws.FnExactGMaxMut", spec := "fnExactGMaxMut", unfollowed := true, recurses := true, apart := false, narrowed := true }
def FnExactGMaxMutUptoSaid : Prop := fnExactGMaxMutUptoRow.holds Try.pinned (OpenSpec.upto fnExactGMaxMutSpec)

/-- 'laws.FnExactGItemsMut', WHERE WHAT IT READS IS OF BULK AT MOST 1048576: true; the input reads as it did. -/
def fnExactGItemsMutUptoRow : OpenClaim := { program := "ytojplcbkiogcpaa", sum := "9ab32fb22a6e32d802ccae27a3bbd3fbf10276353aeff2b17f8ed643579437bf", func := "pub-greenwood/laws.FnExactGItemsMut", spec := "fnExactGItemsMut", unfollowed := true, recurses := true, apart := false, narrowed := true }
def FnExactGItemsMutUptoSaid : Prop := fnExactGItemsMutUptoRow.holds Try.pinned (OpenSpec.upto fnExactGItemsMutSpec)

/-- 'laws.FnGSorted', WHERE WHAT IT READS IS OF BULK AT MOST 1048576: true; the input reads as it did. -/
def fnGSortedUptoRow : OpenClaim := { program := "ytojplcbkiogcpaa", sum := "9ab32fb22a6e32d802ccae27a3bbd3fbf10276353aeff2b17f8ed643579437bf", func := "pub-greenwood/laws.FnGSorted", spec := "fnGSorted", unfollowed := true, recurses := true, apart := false, narrowed := true }
def FnGSortedUptoSaid : Prop := fnGSortedUptoRow.holds Try.pinned (OpenSpec.upto fnGSortedSpec)

/-- 'laws.FnExactGGet', WHERE WHAT IT READS IS OF BULK AT MOST 1048576: true; the input reads as it did. -/
def fnExactGGetUptoRow : OpenClaim := { program := "ytojplcbkiogcpaa", sum := "9ab32fb22a6e32d802ccae27a3bbd3fbf10276353aeff2b17f8ed643579437bf", func := "pub-greenwood/laws.FnExactGGet", spec := "fnExactGGet", unfollowed := true, recurses := true, apart := false, narrowed := true }
def FnExactGGetUptoSaid : Prop := fnExactGGetUptoRow.holds Try.pinned (OpenSpec.upto fnExactGGetSpec)

/-- 'laws.FnExactGReverseMut', WHERE WHAT IT READS IS OF BULK AT MOST 1048576: true; the input reads as it did. -/
def fnExactGReverseMutUptoRow : OpenClaim := { program := "ytojplcbkiogcpaa", sum := "9ab32fb22a6e32d802ccae27a3bbd3fbf10276353aeff2b17f8ed643579437bf", func := "pub-greenwood/laws.FnExactGReverseMut", spec := "fnExactGReverseMut", unfollowed := true, recurses := true, apart := false, narrowed := true }
def FnExactGReverseMutUptoSaid : Prop := fnExactGReverseMutUptoRow.holds Try.pinned (OpenSpec.upto fnExactGReverseMutSpec)

/-- 'laws.FnExactGDescendMut', WHERE WHAT IT READS IS OF BULK AT MOST 1048576: true; the input reads as it did. -/
def fnExactGDescendMutUptoRow : OpenClaim := { program := "ytojplcbkiogcpaa", sum := "9ab32fb22a6e32d802ccae27a3bbd3fbf10276353aeff2b17f8ed643579437bf", func := "pub-greenwood/laws.FnExactGDescendMut", spec := "fnExactGDescendMut", unfollowed := true, recurses := true, apart := false, narrowed := true }
def FnExactGDescendMutUptoSaid : Prop := fnExactGDescendMutUptoRow.holds Try.pinned (OpenSpec.upto fnExactGDescendMutSpec)

/-- 'laws.FnExactGDescendHintMut', WHERE WHAT IT READS IS OF BULK AT MOST 1048576: true; the input reads as it did. -/
def fnExactGDescendHintMutUptoRow : OpenClaim := { program := "ytojplcbkiogcpaa", sum := "9ab32fb22a6e32d802ccae27a3bbd3fbf10276353aeff2b17f8ed643579437bf", func := "pub-greenwood/laws.FnExactGDescendHintMut", spec := "fnExactGDescendHintMut", unfollowed := true, recurses := true, apart := false, narrowed := true }
def FnExactGDescendHintMutUptoSaid : Prop := fnExactGDescendHintMutUptoRow.holds Try.pinned (OpenSpec.upto fnExactGDescendHintMutSpec)

/-- 'laws.FnGLoads', WHERE WHAT IT READS IS OF BULK AT MOST 1048576: true; the input reads as it did. -/
def fnGLoadsUptoRow : OpenClaim := { program := "ytojplcbkiogcpaa", sum := "9ab32fb22a6e32d802ccae27a3bbd3fbf10276353aeff2b17f8ed643579437bf", func := "pub-greenwood/laws.FnGLoads", spec := "fnGLoads", unfollowed := true, recurses := true, apart := false, narrowed := true }
def FnGLoadsUptoSaid : Prop := fnGLoadsUptoRow.holds Try.pinned (OpenSpec.upto fnGLoadsSpec)

/-- 'laws.FnExactGDelete', WHERE WHAT IT READS IS OF BULK AT MOST 1048576: true; the input reads as it did. -/
def fnExactGDeleteUptoRow : OpenClaim := { program := "ytojplcbkiogcpaa", sum := "9ab32fb22a6e32d802ccae27a3bbd3fbf10276353aeff2b17f8ed643579437bf", func := "pub-greenwood/laws.FnExactGDelete", spec := "fnExactGDelete", unfollowed := true, recurses := true, apart := false, narrowed := true }
def FnExactGDeleteUptoSaid : Prop := fnExactGDeleteUptoRow.holds Try.pinned (OpenSpec.upto fnExactGDeleteSpec)

/-- 'laws.FnGHintScans', WHERE WHAT IT READS IS OF BULK AT MOST 1048576: true; the input reads as it did. -/
def fnGHintScansUptoRow : OpenClaim := { program := "ytojplcbkiogcpaa", sum := "9ab32fb22a6e32d802ccae27a3bbd3fbf10276353aeff2b17f8ed643579437bf", func := "pub-greenwood/laws.FnGHintScans", spec := "fnGHintScans", unfollowed := true, recurses := true, apart := false, narrowed := true }
def FnGHintScansUptoSaid : Prop := fnGHintScansUptoRow.holds Try.pinned (OpenSpec.upto fnGHintScansSpec)

/-- 'laws.FnGParts', WHERE WHAT IT READS IS OF BULK AT MOST 1048576: true; the input reads as it did. -/
def fnGPartsUptoRow : OpenClaim := { program := "ytojplcbkiogcpaa", sum := "9ab32fb22a6e32d802ccae27a3bbd3fbf10276353aeff2b17f8ed643579437bf", func := "pub-greenwood/laws.FnGParts", spec := "fnGParts", unfollowed := true, recurses := true, apart := false, narrowed := true }
def FnGPartsUptoSaid : Prop := fnGPartsUptoRow.holds Try.pinned (OpenSpec.upto fnGPartsSpec)

end Rows
end Go.Proofs.Ytojplcbkiogcpaa
