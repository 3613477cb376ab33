/-
  No cell of these rows narrows 'for every input' (looked for: loops, veiled, ifaces, maps, wideKeys, modest, calm, conditions, laid).
  DERIVED. THE GIVEN ROWS OF THIS SEAT. 10 by the template 'for every input the law returns true; each argument reads behind the call as it read before'; 0 by the template 'total and deterministic' (their statements: YtcabnhpnkaielaaTotals.lean).
  GIVEN WITH THE SEED: the statements are not yours to turn. If you find one false, say at which input.
  Laid BY PROGRAM, IN A SANDBOX (cutbox-rows.mjs): the forced cells as the released guide's own fill.sh prints them over the translation 406b7bc1cc0511da… (all of the seat's roots in one cut). By AI agents, Wed Nov 11 2026. No macro, syntax, notation, axiom, sorry.
-/
import Derived.Test.YtcabnhpnkaielaaChecked
import GoSem.Claim
import GoSem.ClaimJoined
import GoSem.ClaimMapViews
import Derived.JoinedTies
import Derived.KernelRfl
namespace Go.Proofs.Ytcabnhpnkaielaa
/- THE CELL 'sum', in the pinned program and in every row, IS THE sha256 OF THE DUMP (.gsa) THAT YtcabnhpnkaielaaProg.lean LOADS. Nothing in Lean hashes anything: it is a label: what it is worth is what the hold of that sum in a sandbox is worth. -/
noncomputable def Try.pinned : Pinned := { name := "ytcabnhpnkaielaa", sum := "406b7bc1cc0511dac44ff47ad653ccb4065cdd2384b2bacaa1f3d832be9aeee8", checked := Try.checked }
namespace Rows
def none {H : Type} : Left H := { results := [], args := [] }

/-- 'laws.FnExactBLess': WHATEVER THE INPUT: true; the input reads as it did. -/
def fnExactBLessSpec : ChangeSpec := { name := "fnExactBLess", fn := fun _ => fun
  | [d1, d2, d3] => { results := [.lit (.bool true)], args := [d1, d2, d3] }
  | _ => none }
def fnExactBLessRow : OpenClaim := { program := "ytcabnhpnkaielaa", sum := "406b7bc1cc0511dac44ff47ad653ccb4065cdd2384b2bacaa1f3d832be9aeee8", func := "pub-greenwood/laws.FnExactBLess", spec := "fnExactBLess", unfollowed := true, recurses := true, apart := false }
def FnExactBLessSaid : Prop := fnExactBLessRow.holds Try.pinned (OpenSpec.ofChange fnExactBLessSpec)

/-- ITS FALSE NEIGHBOUR: 'it returns false'. Refute it at one input. -/
def fnExactBLessWrong : ChangeSpec := { name := "fnExactBLess", fn := fun _ => fun
  | [d1, d2, d3] => { results := [.lit (.bool false)], args := [d1, d2, d3] }
  | _ => none }
def FnExactBLessWrongFalsely : Prop := fnExactBLessRow.holds Try.pinned (OpenSpec.ofChange fnExactBLessWrong)

/-- 'laws.FnExactBMin': WHATEVER THE INPUT: true; the input reads as it did. -/
def fnExactBMinSpec : ChangeSpec := { name := "fnExactBMin", fn := fun _ => fun
  | [d1, d2] => { results := [.lit (.bool true)], args := [d1, d2] }
  | _ => none }
def fnExactBMinRow : OpenClaim := { program := "ytcabnhpnkaielaa", sum := "406b7bc1cc0511dac44ff47ad653ccb4065cdd2384b2bacaa1f3d832be9aeee8", func := "pub-greenwood/laws.FnExactBMin", spec := "fnExactBMin", unfollowed := true, recurses := true, apart := false }
def FnExactBMinSaid : Prop := fnExactBMinRow.holds Try.pinned (OpenSpec.ofChange fnExactBMinSpec)

/-- ITS FALSE NEIGHBOUR: 'it returns false'. Refute it at one input. -/
def fnExactBMinWrong : ChangeSpec := { name := "fnExactBMin", fn := fun _ => fun
  | [d1, d2] => { results := [.lit (.bool false)], args := [d1, d2] }
  | _ => none }
def FnExactBMinWrongFalsely : Prop := fnExactBMinRow.holds Try.pinned (OpenSpec.ofChange fnExactBMinWrong)

/-- 'laws.FnExactBGetMut': WHATEVER THE INPUT: true; the input reads as it did. -/
def fnExactBGetMutSpec : ChangeSpec := { name := "fnExactBGetMut", fn := fun _ => fun
  | [d1, d2, d3] => { results := [.lit (.bool true)], args := [d1, d2, d3] }
  | _ => none }
def fnExactBGetMutRow : OpenClaim := { program := "ytcabnhpnkaielaa", sum := "406b7bc1cc0511dac44ff47ad653ccb4065cdd2384b2bacaa1f3d832be9aeee8", func := "pub-greenwood/laws.FnExactBGetMut", spec := "fnExactBGetMut", unfollowed := true, recurses := true, apart := false }
def FnExactBGetMutSaid : Prop := fnExactBGetMutRow.holds Try.pinned (OpenSpec.ofChange fnExactBGetMutSpec)

/-- ITS FALSE NEIGHBOUR: 'it returns false'. Refute it at one input. -/
def fnExactBGetMutWrong : ChangeSpec := { name := "fnExactBGetMut", fn := fun _ => fun
  | [d1, d2, d3] => { results := [.lit (.bool false)], args := [d1, d2, d3] }
  | _ => none }
def FnExactBGetMutWrongFalsely : Prop := fnExactBGetMutRow.holds Try.pinned (OpenSpec.ofChange fnExactBGetMutWrong)

/-- 'laws.FnExactBAscend': WHATEVER THE INPUT: true; the input reads as it did. -/
def fnExactBAscendSpec : ChangeSpec := { name := "fnExactBAscend", fn := fun _ => fun
  | [d1, d2, d3, d4, d5] => { results := [.lit (.bool true)], args := [d1, d2, d3, d4, d5] }
  | _ => none }
def fnExactBAscendRow : OpenClaim := { program := "ytcabnhpnkaielaa", sum := "406b7bc1cc0511dac44ff47ad653ccb4065cdd2384b2bacaa1f3d832be9aeee8", func := "pub-greenwood/laws.FnExactBAscend", spec := "fnExactBAscend", unfollowed := true, recurses := true, apart := false }
def FnExactBAscendSaid : Prop := fnExactBAscendRow.holds Try.pinned (OpenSpec.ofChange fnExactBAscendSpec)

/-- ITS FALSE NEIGHBOUR: 'it returns false'. Refute it at one input. -/
def fnExactBAscendWrong : ChangeSpec := { name := "fnExactBAscend", fn := fun _ => fun
  | [d1, d2, d3, d4, d5] => { results := [.lit (.bool false)], args := [d1, d2, d3, d4, d5] }
  | _ => none }
def FnExactBAscendWrongFalsely : Prop := fnExactBAscendRow.holds Try.pinned (OpenSpec.ofChange fnExactBAscendWrong)

/-- 'laws.FnExactBAscendHint': WHATEVER THE INPUT: true; the input reads as it did. -/
def fnExactBAscendHintSpec : ChangeSpec := { name := "fnExactBAscendHint", fn := fun _ => fun
  | [d1, d2, d3, d4, d5] => { results := [.lit (.bool true)], args := [d1, d2, d3, d4, d5] }
  | _ => none }
def fnExactBAscendHintRow : OpenClaim := { program := "ytcabnhpnkaielaa", sum := "406b7bc1cc0511dac44ff47ad653ccb4065cdd2384b2bacaa1f3d832be9aeee8", func := "pub-greenwood/laws.FnExactBAscendHint", spec := "fnExactBAscendHint", unfollowed := true, recurses := true, apart := false }
def FnExactBAscendHintSaid : Prop := fnExactBAscendHintRow.holds Try.pinned (OpenSpec.ofChange fnExactBAscendHintSpec)

/-- ITS FALSE NEIGHBOUR: 'it returns false'. Refute it at one input. -/
def fnExactBAscendHintWrong : ChangeSpec := { name := "fnExactBAscendHint", fn := fun _ => fun
  | [d1, d2, d3, d4, d5] => { results := [.lit (.bool false)], args := [d1, d2, d3, d4, d5] }
  | _ => none }
def FnExactBAscendHintWrongFalsely : Prop := fnExactBAscendHintRow.holds Try.pinned (OpenSpec.ofChange fnExactBAscendHintWrong)

/-- 'laws.FnExactBSet': WHATEVER THE INPUT: true; the input reads as it did. -/
def fnExactBSetSpec : ChangeSpec := { name := "fnExactBSet", fn := fun _ => fun
  | [d1, d2] => { results := [.lit (.bool true)], args := [d1, d2] }
  | _ => none }
def fnExactBSetRow : OpenClaim := { program := "ytcabnhpnkaielaa", sum := "406b7bc1cc0511dac44ff47ad653ccb4065cdd2384b2bacaa1f3d832be9aeee8", func := "pub-greenwood/laws.FnExactBSet", spec := "fnExactBSet", unfollowed := true, recurses := true, apart := false }
def FnExactBSetSaid : Prop := fnExactBSetRow.holds Try.pinned (OpenSpec.ofChange fnExactBSetSpec)

/-- ITS FALSE NEIGHBOUR: 'it returns false'. Refute it at one input. -/
def fnExactBSetWrong : ChangeSpec := { name := "fnExactBSet", fn := fun _ => fun
  | [d1, d2] => { results := [.lit (.bool false)], args := [d1, d2] }
  | _ => none }
def FnExactBSetWrongFalsely : Prop := fnExactBSetRow.holds Try.pinned (OpenSpec.ofChange fnExactBSetWrong)

/-- 'laws.FnBHeight': WHATEVER THE INPUT: true; the input reads as it did. -/
def fnBHeightSpec : ChangeSpec := { name := "fnBHeight", fn := fun _ => fun
  | [d1, d2] => { results := [.lit (.bool true)], args := [d1, d2] }
  | _ => none }
def fnBHeightRow : OpenClaim := { program := "ytcabnhpnkaielaa", sum := "406b7bc1cc0511dac44ff47ad653ccb4065cdd2384b2bacaa1f3d832be9aeee8", func := "pub-greenwood/laws.FnBHeight", spec := "fnBHeight", unfollowed := true, recurses := true, apart := false }
def FnBHeightSaid : Prop := fnBHeightRow.holds Try.pinned (OpenSpec.ofChange fnBHeightSpec)

/-- ITS FALSE NEIGHBOUR: 'it returns false'. Refute it at one input. -/
def fnBHeightWrong : ChangeSpec := { name := "fnBHeight", fn := fun _ => fun
  | [d1, d2] => { results := [.lit (.bool false)], args := [d1, d2] }
  | _ => none }
def FnBHeightWrongFalsely : Prop := fnBHeightRow.holds Try.pinned (OpenSpec.ofChange fnBHeightWrong)

/-- 'laws.FnExactBSeek': WHATEVER THE INPUT: true; the input reads as it did. -/
def fnExactBSeekSpec : ChangeSpec := { name := "fnExactBSeek", fn := fun _ => fun
  | [d1, d2, d3] => { results := [.lit (.bool true)], args := [d1, d2, d3] }
  | _ => none }
def fnExactBSeekRow : OpenClaim := { program := "ytcabnhpnkaielaa", sum := "406b7bc1cc0511dac44ff47ad653ccb4065cdd2384b2bacaa1f3d832be9aeee8", func := "pub-greenwood/laws.FnExactBSeek", spec := "fnExactBSeek", unfollowed := true, recurses := true, apart := false }
def FnExactBSeekSaid : Prop := fnExactBSeekRow.holds Try.pinned (OpenSpec.ofChange fnExactBSeekSpec)

/-- ITS FALSE NEIGHBOUR: 'it returns false'. Refute it at one input. -/
def fnExactBSeekWrong : ChangeSpec := { name := "fnExactBSeek", fn := fun _ => fun
  | [d1, d2, d3] => { results := [.lit (.bool false)], args := [d1, d2, d3] }
  | _ => none }
def FnExactBSeekWrongFalsely : Prop := fnExactBSeekRow.holds Try.pinned (OpenSpec.ofChange fnExactBSeekWrong)

/-- 'laws.FnExactBDeleteHint': WHATEVER THE INPUT: true; the input reads as it did. -/
def fnExactBDeleteHintSpec : ChangeSpec := { name := "fnExactBDeleteHint", fn := fun _ => fun
  | [d1, d2, d3] => { results := [.lit (.bool true)], args := [d1, d2, d3] }
  | _ => none }
def fnExactBDeleteHintRow : OpenClaim := { program := "ytcabnhpnkaielaa", sum := "406b7bc1cc0511dac44ff47ad653ccb4065cdd2384b2bacaa1f3d832be9aeee8", func := "pub-greenwood/laws.FnExactBDeleteHint", spec := "fnExactBDeleteHint", unfollowed := true, recurses := true, apart := false }
def FnExactBDeleteHintSaid : Prop := fnExactBDeleteHintRow.holds Try.pinned (OpenSpec.ofChange fnExactBDeleteHintSpec)

/-- ITS FALSE NEIGHBOUR: 'it returns false'. Refute it at one input. -/
def fnExactBDeleteHintWrong : ChangeSpec := { name := "fnExactBDeleteHint", fn := fun _ => fun
  | [d1, d2, d3] => { results := [.lit (.bool false)], args := [d1, d2, d3] }
  | _ => none }
def FnExactBDeleteHintWrongFalsely : Prop := fnExactBDeleteHintRow.holds Try.pinned (OpenSpec.ofChange fnExactBDeleteHintWrong)

/-- 'laws.FnExactBPops': WHATEVER THE INPUT: true; the input reads as it did. -/
def fnExactBPopsSpec : ChangeSpec := { name := "fnExactBPops", fn := fun _ => fun
  | [d1, d2, d3] => { results := [.lit (.bool true)], args := [d1, d2, d3] }
  | _ => none }
def fnExactBPopsRow : OpenClaim := { program := "ytcabnhpnkaielaa", sum := "406b7bc1cc0511dac44ff47ad653ccb4065cdd2384b2bacaa1f3d832be9aeee8", func := "pub-greenwood/laws.FnExactBPops", spec := "fnExactBPops", unfollowed := true, recurses := true, apart := false }
def FnExactBPopsSaid : Prop := fnExactBPopsRow.holds Try.pinned (OpenSpec.ofChange fnExactBPopsSpec)

/-- ITS FALSE NEIGHBOUR: 'it returns false'. Refute it at one input. -/
def fnExactBPopsWrong : ChangeSpec := { name := "fnExactBPops", fn := fun _ => fun
  | [d1, d2, d3] => { results := [.lit (.bool false)], args := [d1, d2, d3] }
  | _ => none }
def FnExactBPopsWrongFalsely : Prop := fnExactBPopsRow.holds Try.pinned (OpenSpec.ofChange fnExactBPopsWrong)

/- THE SECOND FORM. 'bulk': how many values and letters a reading holds, each counted each time it is reached (what is shared counts as often as it is met; a slice's spare places count too). A statement '..UptoSaid' is the law's where the arguments, and the package variables that the reading takes, are together of bulk at most 1048576: NARROWER than '..Said'. Prove '..Said' where nothing that the law and all that it calls make is longer than what came in: it says more and counts as full. Else prove '..UptoSaid'. A law counts once. -/
mutual
def uptoBulk {H : Type} : DataW H → Nat
  | .lit (.string bytes) => bytes.length + 1
  | .lit _ => 1
  | .nil => 1
  | .ptr d => uptoBulk d + 1
  | .slice elems spare => uptoBulkAll elems + uptoBulkAll spare + 1
  | .agg parts => uptoBulkAll parts + 1
  | .iface _ d => uptoBulk d + 1
  | .map entries => uptoBulkEntries entries + 1
  | .held _ => 1
def uptoBulkAll {H : Type} : List (DataW H) → Nat
  | [] => 0
  | d :: r => uptoBulk d + uptoBulkAll r
def uptoBulkEntries {H : Type} : List (Lit × DataW H) → Nat
  | [] => 0
  | x :: r => uptoBulkEntry x + uptoBulkEntries r
def uptoBulkEntry {H : Type} : Lit × DataW H → Nat
  | (.string bytes, d) => bytes.length + uptoBulk d + 1
  | (_, d) => uptoBulk d + 1
 end
def uptoSmall : (H : Type) → List (DataW H) → Bool := fun _ ds => decide (uptoBulkAll ds ≤ 1048576)
def OpenSpec.upto (s : _root_.Go.ChangeSpec) : _root_.Go.OpenSpec := { _root_.Go.OpenSpec.ofChange s with cond := some uptoSmall }

/-- 'laws.FnExactBLess', WHERE WHAT IT READS IS OF BULK AT MOST 1048576: true; the input reads as it did. -/
def fnExactBLessUptoRow : OpenClaim := { program := "ytcabnhpnkaielaa", sum := "406b7bc1cc0511dac44ff47ad653ccb4065cdd2384b2bacaa1f3d832be9aeee8", func := "pub-greenwood/laws.FnExactBLess", spec := "fnExactBLess", unfollowed := true, recurses := true, apart := false, narrowed := true }
def FnExactBLessUptoSaid : Prop := fnExactBLessUptoRow.holds Try.pinned (OpenSpec.upto fnExactBLessSpec)

/-- 'laws.FnExactBMin', WHERE WHAT IT READS IS OF BULK AT MOST 1048576: true; the input reads as it did. -/
def fnExactBMinUptoRow : OpenClaim := { program := "ytcabnhpnkaielaa", sum := "406b7bc1cc0511dac44ff47ad653ccb4065cdd2384b2bacaa1f3d832be9aeee8", func := "pub-greenwood/laws.FnExactBMin", spec := "fnExactBMin", unfollowed := true, recurses := true, apart := false, narrowed := true }
def FnExactBMinUptoSaid : Prop := fnExactBMinUptoRow.holds Try.pinned (OpenSpec.upto fnExactBMinSpec)

/-- 'laws.FnExactBGetMut', WHERE WHAT IT READS IS OF BULK AT MOST 1048576: true; the input reads as it did. -/
def fnExactBGetMutUptoRow : OpenClaim := { program := "ytcabnhpnkaielaa", sum := "406b7bc1cc0511dac44ff47ad653ccb4065cdd2384b2bacaa1f3d832be9aeee8", func := "pub-greenwood/laws.FnExactBGetMut", spec := "fnExactBGetMut", unfollowed := true, recurses := true, apart := false, narrowed := true }
def FnExactBGetMutUptoSaid : Prop := fnExactBGetMutUptoRow.holds Try.pinned (OpenSpec.upto fnExactBGetMutSpec)

/-- 'laws.FnExactBAscend', WHERE WHAT IT READS IS OF BULK AT MOST 1048576: true; the input reads as it did. -/
def fnExactBAscendUptoRow : OpenClaim := { program := "ytcabnhpnkaielaa", sum := "406b7bc1cc0511dac44ff47ad653ccb4065cdd2384b2bacaa1f3d832be9aeee8", func := "pub-greenwood/laws.FnExactBAscend", spec := "fnExactBAscend", unfollowed := true, recurses := true, apart := false, narrowed := true }
def FnExactBAscendUptoSaid : Prop := fnExactBAscendUptoRow.holds Try.pinned (OpenSpec.upto fnExactBAscendSpec)

/-- 'laws.FnExactBAscendHint', WHERE WHAT IT READS IS OF BULK AT MOST 1048576: true; the input reads as it did. -/
def fnExactBAscendHintUptoRow : OpenClaim := { program := "ytcabnhpnkaielaa", sum := "406b7bc1cc0511dac44ff47ad653ccb4065cdd2384b2bacaa1f3d832be9aeee8", func := "pub-greenwood/laws.FnExactBAscendHint", spec := "fnExactBAscendHint", unfollowed := true, recurses := true, apart := false, narrowed := true }
def FnExactBAscendHintUptoSaid : Prop := fnExactBAscendHintUptoRow.holds Try.pinned (OpenSpec.upto fnExactBAscendHintSpec)

/-- 'laws.FnExactBSet', WHERE WHAT IT READS IS OF BULK AT MOST 1048576: true; the input reads as it did. -/
def fnExactBSetUptoRow : OpenClaim := { program := "ytcabnhpnkaielaa", sum := "406b7bc1cc0511dac44ff47ad653ccb4065cdd2384b2bacaa1f3d832be9aeee8", func := "pub-greenwood/laws.FnExactBSet", spec := "fnExactBSet", unfollowed := true, recurses := true, apart := false, narrowed := true }
def FnExactBSetUptoSaid : Prop := fnExactBSetUptoRow.holds Try.pinned (OpenSpec.upto fnExactBSetSpec)

/-- 'laws.FnBHeight', WHERE WHAT IT READS IS OF BULK AT MOST 1048576: true; the input reads as it did. -/
def fnBHeightUptoRow : OpenClaim := { program := "ytcabnhpnkaielaa", sum := "406b7bc1cc0511dac44ff47ad653ccb4065cdd2384b2bacaa1f3d832be9aeee8", func := "pub-greenwood/laws.FnBHeight", spec := "fnBHeight", unfollowed := true, recurses := true, apart := false, narrowed := true }
def FnBHeightUptoSaid : Prop := fnBHeightUptoRow.holds Try.pinned (OpenSpec.upto fnBHeightSpec)

/-- 'laws.FnExactBSeek', WHERE WHAT IT READS IS OF BULK AT MOST 1048576: true; the input reads as it did. -/
def fnExactBSeekUptoRow : OpenClaim := { program := "ytcabnhpnkaielaa", sum := "406b7bc1cc0511dac44ff47ad653ccb4065cdd2384b2bacaa1f3d832be9aeee8", func := "pub-greenwood/laws.FnExactBSeek", spec := "fnExactBSeek", unfollowed := true, recurses := true, apart := false, narrowed := true }
def FnExactBSeekUptoSaid : Prop := fnExactBSeekUptoRow.holds Try.pinned (OpenSpec.upto fnExactBSeekSpec)

/-- 'laws.FnExactBDeleteHint', WHERE WHAT IT READS IS OF BULK AT MOST 1048576: true; the input reads as it did. -/
def fnExactBDeleteHintUptoRow : OpenClaim := { program := "ytcabnhpnkaielaa", sum := "406b7bc1cc0511dac44ff47ad653ccb4065cdd2384b2bacaa1f3d832be9aeee8", func := "pub-greenwood/laws.FnExactBDeleteHint", spec := "fnExactBDeleteHint", unfollowed := true, recurses := true, apart := false, narrowed := true }
def FnExactBDeleteHintUptoSaid : Prop := fnExactBDeleteHintUptoRow.holds Try.pinned (OpenSpec.upto fnExactBDeleteHintSpec)

/-- 'laws.FnExactBPops', WHERE WHAT IT READS IS OF BULK AT MOST 1048576: true; the input reads as it did. -/
def fnExactBPopsUptoRow : OpenClaim := { program := "ytcabnhpnkaielaa", sum := "406b7bc1cc0511dac44ff47ad653ccb4065cdd2384b2bacaa1f3d832be9aeee8", func := "pub-greenwood/laws.FnExactBPops", spec := "fnExactBPops", unfollowed := true, recurses := true, apart := false, narrowed := true }
def FnExactBPopsUptoSaid : Prop := fnExactBPopsUptoRow.holds Try.pinned (OpenSpec.upto fnExactBPopsSpec)

end Rows
end Go.Proofs.Ytcabnhpnkaielaa
