/-
  No cell of these rows narrows 'for every input' (looked for: loops, veiled, ifaces, maps, wideKeys, modest, calm, conditions, laid).
  DERIVED. THE GIVEN ROWS OF THIS SEAT. 11 by the template 'for every input the law returns true; each argument reads behind the call as it read before'; 0 by the template 'total and deterministic' (their statements: YtkgcjgedpefhjaaTotals.lean).
  GIVEN WITH THE SEED: the statements are not yours to turn. If you find one false, say at which input.
  Laid BY PROGRAM, IN A SANDBOX (cutbox-rows.mjs): the forced cells as the released guide's own fill.sh prints them over the translation 42f0aacd77c15825… (all of the seat's roots in one cut). By AI agents, Wed Nov 11 2026. No macro, syntax, notation, axiom, sorry.
-/
import Derived.Test.YtkgcjgedpefhjaaChecked
import GoSem.Claim
import GoSem.ClaimJoined
import GoSem.ClaimMapViews
import Derived.JoinedTies
import Derived.KernelRfl
namespace Go.Proofs.Ytkgcjgedpefhjaa
/- THE CELL 'sum', in the pinned program and in every row, IS THE sha256 OF THE DUMP (.gsa) THAT YtkgcjgedpefhjaaProg.lean LOADS. Nothing in Lean hashes anything: it is a label: what it is worth is what the hold of that sum in a sandbox is worth. -/
noncomputable def Try.pinned : Pinned := { name := "ytkgcjgedpefhjaa", sum := "42f0aacd77c15825a85bc818e95f10a148dbcfdf45f6ce1d099fb679820c3325", checked := Try.checked }
namespace Rows
def none {H : Type} : Left H := { results := [], args := [] }

/-- 'laws.FnExactMMinMut': WHATEVER THE INPUT: true; the input reads as it did. -/
def fnExactMMinMutSpec : ChangeSpec := { name := "fnExactMMinMut", fn := fun _ => fun
  | [d1, d2] => { results := [.lit (.bool true)], args := [d1, d2] }
  | _ => none }
def fnExactMMinMutRow : OpenClaim := { program := "ytkgcjgedpefhjaa", sum := "42f0aacd77c15825a85bc818e95f10a148dbcfdf45f6ce1d099fb679820c3325", func := "pub-greenwood/laws.FnExactMMinMut", spec := "fnExactMMinMut", unfollowed := true, recurses := true, apart := false }
def FnExactMMinMutSaid : Prop := fnExactMMinMutRow.holds Try.pinned (OpenSpec.ofChange fnExactMMinMutSpec)

/-- ITS FALSE NEIGHBOUR: 'it returns false'. Refute it at one input. -/
def fnExactMMinMutWrong : ChangeSpec := { name := "fnExactMMinMut", fn := fun _ => fun
  | [d1, d2] => { results := [.lit (.bool false)], args := [d1, d2] }
  | _ => none }
def FnExactMMinMutWrongFalsely : Prop := fnExactMMinMutRow.holds Try.pinned (OpenSpec.ofChange fnExactMMinMutWrong)

/-- 'laws.FnExactMKeys': WHATEVER THE INPUT: true; the input reads as it did. -/
def fnExactMKeysSpec : ChangeSpec := { name := "fnExactMKeys", fn := fun _ => fun
  | [d1, d2] => { results := [.lit (.bool true)], args := [d1, d2] }
  | _ => none }
def fnExactMKeysRow : OpenClaim := { program := "ytkgcjgedpefhjaa", sum := "42f0aacd77c15825a85bc818e95f10a148dbcfdf45f6ce1d099fb679820c3325", func := "pub-greenwood/laws.FnExactMKeys", spec := "fnExactMKeys", unfollowed := true, recurses := true, apart := false }
def FnExactMKeysSaid : Prop := fnExactMKeysRow.holds Try.pinned (OpenSpec.ofChange fnExactMKeysSpec)

/-- ITS FALSE NEIGHBOUR: 'it returns false'. Refute it at one input. -/
def fnExactMKeysWrong : ChangeSpec := { name := "fnExactMKeys", fn := fun _ => fun
  | [d1, d2] => { results := [.lit (.bool false)], args := [d1, d2] }
  | _ => none }
def FnExactMKeysWrongFalsely : Prop := fnExactMKeysRow.holds Try.pinned (OpenSpec.ofChange fnExactMKeysWrong)

/-- 'laws.FnMHeight': WHATEVER THE INPUT: true; the input reads as it did. -/
def fnMHeightSpec : ChangeSpec := { name := "fnMHeight", fn := fun _ => fun
  | [d1, d2] => { results := [.lit (.bool true)], args := [d1, d2] }
  | _ => none }
def fnMHeightRow : OpenClaim := { program := "ytkgcjgedpefhjaa", sum := "42f0aacd77c15825a85bc818e95f10a148dbcfdf45f6ce1d099fb679820c3325", func := "pub-greenwood/laws.FnMHeight", spec := "fnMHeight", unfollowed := true, recurses := true, apart := false }
def FnMHeightSaid : Prop := fnMHeightRow.holds Try.pinned (OpenSpec.ofChange fnMHeightSpec)

/-- ITS FALSE NEIGHBOUR: 'it returns false'. Refute it at one input. -/
def fnMHeightWrong : ChangeSpec := { name := "fnMHeight", fn := fun _ => fun
  | [d1, d2] => { results := [.lit (.bool false)], args := [d1, d2] }
  | _ => none }
def FnMHeightWrongFalsely : Prop := fnMHeightRow.holds Try.pinned (OpenSpec.ofChange fnMHeightWrong)

/-- 'laws.FnExactMKeyValuesMut': WHATEVER THE INPUT: true; the input reads as it did. -/
def fnExactMKeyValuesMutSpec : ChangeSpec := { name := "fnExactMKeyValuesMut", fn := fun _ => fun
  | [d1, d2] => { results := [.lit (.bool true)], args := [d1, d2] }
  | _ => none }
def fnExactMKeyValuesMutRow : OpenClaim := { program := "ytkgcjgedpefhjaa", sum := "42f0aacd77c15825a85bc818e95f10a148dbcfdf45f6ce1d099fb679820c3325", func := "pub-greenwood/laws.FnExactMKeyValuesMut", spec := "fnExactMKeyValuesMut", unfollowed := true, recurses := true, apart := false }
def FnExactMKeyValuesMutSaid : Prop := fnExactMKeyValuesMutRow.holds Try.pinned (OpenSpec.ofChange fnExactMKeyValuesMutSpec)

/-- ITS FALSE NEIGHBOUR: 'it returns false'. Refute it at one input. -/
def fnExactMKeyValuesMutWrong : ChangeSpec := { name := "fnExactMKeyValuesMut", fn := fun _ => fun
  | [d1, d2] => { results := [.lit (.bool false)], args := [d1, d2] }
  | _ => none }
def FnExactMKeyValuesMutWrongFalsely : Prop := fnExactMKeyValuesMutRow.holds Try.pinned (OpenSpec.ofChange fnExactMKeyValuesMutWrong)

/-- 'laws.FnExactMGet': WHATEVER THE INPUT: true; the input reads as it did. -/
def fnExactMGetSpec : ChangeSpec := { name := "fnExactMGet", fn := fun _ => fun
  | [d1, d2, d3] => { results := [.lit (.bool true)], args := [d1, d2, d3] }
  | _ => none }
def fnExactMGetRow : OpenClaim := { program := "ytkgcjgedpefhjaa", sum := "42f0aacd77c15825a85bc818e95f10a148dbcfdf45f6ce1d099fb679820c3325", func := "pub-greenwood/laws.FnExactMGet", spec := "fnExactMGet", unfollowed := true, recurses := true, apart := false }
def FnExactMGetSaid : Prop := fnExactMGetRow.holds Try.pinned (OpenSpec.ofChange fnExactMGetSpec)

/-- ITS FALSE NEIGHBOUR: 'it returns false'. Refute it at one input. -/
def fnExactMGetWrong : ChangeSpec := { name := "fnExactMGet", fn := fun _ => fun
  | [d1, d2, d3] => { results := [.lit (.bool false)], args := [d1, d2, d3] }
  | _ => none }
def FnExactMGetWrongFalsely : Prop := fnExactMGetRow.holds Try.pinned (OpenSpec.ofChange fnExactMGetWrong)

/-- 'laws.FnExactMGetAtMut': WHATEVER THE INPUT: true; the input reads as it did. -/
def fnExactMGetAtMutSpec : ChangeSpec := { name := "fnExactMGetAtMut", fn := fun _ => fun
  | [d1, d2, d3] => { results := [.lit (.bool true)], args := [d1, d2, d3] }
  | _ => none }
def fnExactMGetAtMutRow : OpenClaim := { program := "ytkgcjgedpefhjaa", sum := "42f0aacd77c15825a85bc818e95f10a148dbcfdf45f6ce1d099fb679820c3325", func := "pub-greenwood/laws.FnExactMGetAtMut", spec := "fnExactMGetAtMut", unfollowed := true, recurses := true, apart := false }
def FnExactMGetAtMutSaid : Prop := fnExactMGetAtMutRow.holds Try.pinned (OpenSpec.ofChange fnExactMGetAtMutSpec)

/-- ITS FALSE NEIGHBOUR: 'it returns false'. Refute it at one input. -/
def fnExactMGetAtMutWrong : ChangeSpec := { name := "fnExactMGetAtMut", fn := fun _ => fun
  | [d1, d2, d3] => { results := [.lit (.bool false)], args := [d1, d2, d3] }
  | _ => none }
def FnExactMGetAtMutWrongFalsely : Prop := fnExactMGetAtMutRow.holds Try.pinned (OpenSpec.ofChange fnExactMGetAtMutWrong)

/-- 'laws.FnMStride': WHATEVER THE INPUT: true; the input reads as it did. -/
def fnMStrideSpec : ChangeSpec := { name := "fnMStride", fn := fun _ => fun
  | [d1, d2, d3] => { results := [.lit (.bool true)], args := [d1, d2, d3] }
  | _ => none }
def fnMStrideRow : OpenClaim := { program := "ytkgcjgedpefhjaa", sum := "42f0aacd77c15825a85bc818e95f10a148dbcfdf45f6ce1d099fb679820c3325", func := "pub-greenwood/laws.FnMStride", spec := "fnMStride", unfollowed := true, recurses := true, apart := false }
def FnMStrideSaid : Prop := fnMStrideRow.holds Try.pinned (OpenSpec.ofChange fnMStrideSpec)

/-- ITS FALSE NEIGHBOUR: 'it returns false'. Refute it at one input. -/
def fnMStrideWrong : ChangeSpec := { name := "fnMStride", fn := fun _ => fun
  | [d1, d2, d3] => { results := [.lit (.bool false)], args := [d1, d2, d3] }
  | _ => none }
def FnMStrideWrongFalsely : Prop := fnMStrideRow.holds Try.pinned (OpenSpec.ofChange fnMStrideWrong)

/-- 'laws.FnExactMReverseMut': WHATEVER THE INPUT: true; the input reads as it did. -/
def fnExactMReverseMutSpec : ChangeSpec := { name := "fnExactMReverseMut", fn := fun _ => fun
  | [d1, d2, d3] => { results := [.lit (.bool true)], args := [d1, d2, d3] }
  | _ => none }
def fnExactMReverseMutRow : OpenClaim := { program := "ytkgcjgedpefhjaa", sum := "42f0aacd77c15825a85bc818e95f10a148dbcfdf45f6ce1d099fb679820c3325", func := "pub-greenwood/laws.FnExactMReverseMut", spec := "fnExactMReverseMut", unfollowed := true, recurses := true, apart := false }
def FnExactMReverseMutSaid : Prop := fnExactMReverseMutRow.holds Try.pinned (OpenSpec.ofChange fnExactMReverseMutSpec)

/-- ITS FALSE NEIGHBOUR: 'it returns false'. Refute it at one input. -/
def fnExactMReverseMutWrong : ChangeSpec := { name := "fnExactMReverseMut", fn := fun _ => fun
  | [d1, d2, d3] => { results := [.lit (.bool false)], args := [d1, d2, d3] }
  | _ => none }
def FnExactMReverseMutWrongFalsely : Prop := fnExactMReverseMutRow.holds Try.pinned (OpenSpec.ofChange fnExactMReverseMutWrong)

/-- 'laws.FnExactMDescendMut': WHATEVER THE INPUT: true; the input reads as it did. -/
def fnExactMDescendMutSpec : ChangeSpec := { name := "fnExactMDescendMut", fn := fun _ => fun
  | [d1, d2, d3, d4] => { results := [.lit (.bool true)], args := [d1, d2, d3, d4] }
  | _ => none }
def fnExactMDescendMutRow : OpenClaim := { program := "ytkgcjgedpefhjaa", sum := "42f0aacd77c15825a85bc818e95f10a148dbcfdf45f6ce1d099fb679820c3325", func := "pub-greenwood/laws.FnExactMDescendMut", spec := "fnExactMDescendMut", unfollowed := true, recurses := true, apart := false }
def FnExactMDescendMutSaid : Prop := fnExactMDescendMutRow.holds Try.pinned (OpenSpec.ofChange fnExactMDescendMutSpec)

/-- ITS FALSE NEIGHBOUR: 'it returns false'. Refute it at one input. -/
def fnExactMDescendMutWrong : ChangeSpec := { name := "fnExactMDescendMut", fn := fun _ => fun
  | [d1, d2, d3, d4] => { results := [.lit (.bool false)], args := [d1, d2, d3, d4] }
  | _ => none }
def FnExactMDescendMutWrongFalsely : Prop := fnExactMDescendMutRow.holds Try.pinned (OpenSpec.ofChange fnExactMDescendMutWrong)

/-- 'laws.FnExactMCopy': WHATEVER THE INPUT: true; the input reads as it did. -/
def fnExactMCopySpec : ChangeSpec := { name := "fnExactMCopy", fn := fun _ => fun
  | [d1, d2, d3, d4, d5] => { results := [.lit (.bool true)], args := [d1, d2, d3, d4, d5] }
  | _ => none }
def fnExactMCopyRow : OpenClaim := { program := "ytkgcjgedpefhjaa", sum := "42f0aacd77c15825a85bc818e95f10a148dbcfdf45f6ce1d099fb679820c3325", func := "pub-greenwood/laws.FnExactMCopy", spec := "fnExactMCopy", unfollowed := true, recurses := true, apart := false }
def FnExactMCopySaid : Prop := fnExactMCopyRow.holds Try.pinned (OpenSpec.ofChange fnExactMCopySpec)

/-- ITS FALSE NEIGHBOUR: 'it returns false'. Refute it at one input. -/
def fnExactMCopyWrong : ChangeSpec := { name := "fnExactMCopy", fn := fun _ => fun
  | [d1, d2, d3, d4, d5] => { results := [.lit (.bool false)], args := [d1, d2, d3, d4, d5] }
  | _ => none }
def FnExactMCopyWrongFalsely : Prop := fnExactMCopyRow.holds Try.pinned (OpenSpec.ofChange fnExactMCopyWrong)

/-- 'laws.FnMCopies': WHATEVER THE INPUT: true; the input reads as it did. -/
def fnMCopiesSpec : ChangeSpec := { name := "fnMCopies", fn := fun _ => fun
  | [d1, d2, d3, d4, d5] => { results := [.lit (.bool true)], args := [d1, d2, d3, d4, d5] }
  | _ => none }
def fnMCopiesRow : OpenClaim := { program := "ytkgcjgedpefhjaa", sum := "42f0aacd77c15825a85bc818e95f10a148dbcfdf45f6ce1d099fb679820c3325", func := "pub-greenwood/laws.FnMCopies", spec := "fnMCopies", unfollowed := true, recurses := true, apart := false }
def FnMCopiesSaid : Prop := fnMCopiesRow.holds Try.pinned (OpenSpec.ofChange fnMCopiesSpec)

/-- ITS FALSE NEIGHBOUR: 'it returns false'. Refute it at one input. -/
def fnMCopiesWrong : ChangeSpec := { name := "fnMCopies", fn := fun _ => fun
  | [d1, d2, d3, d4, d5] => { results := [.lit (.bool false)], args := [d1, d2, d3, d4, d5] }
  | _ => none }
def FnMCopiesWrongFalsely : Prop := fnMCopiesRow.holds Try.pinned (OpenSpec.ofChange fnMCopiesWrong)

/- THE SECOND FORM. 'bulk': how many values and letters a reading holds, each counted each time it is reached (what is shared counts as often as it is met; a slice's spare places count too). A statement '..UptoSaid' is the law's where the arguments, and the package variables that the reading takes, are together of bulk at most 1048576: NARROWER than '..Said'. Prove '..Said' where nothing that the law and all that it calls make is longer than what came in: it says more and counts as full. Else prove '..UptoSaid'. A law counts once. -/
mutual
def uptoBulk {H : Type} : DataW H → Nat
  | .lit (.string bytes) => bytes.length + 1
  | .lit _ => 1
  | .nil => 1
  | .ptr d => uptoBulk d + 1
  | .slice elems spare => uptoBulkAll elems + uptoBulkAll spare + 1
  | .agg parts => uptoBulkAll parts + 1
  | .iface _ d => uptoBulk d + 1
  | .map entries => uptoBulkEntries entries + 1
  | .held _ => 1
def uptoBulkAll {H : Type} : List (DataW H) → Nat
  | [] => 0
  | d :: r => uptoBulk d + uptoBulkAll r
def uptoBulkEntries {H : Type} : List (Lit × DataW H) → Nat
  | [] => 0
  | x :: r => uptoBulkEntry x + uptoBulkEntries r
def uptoBulkEntry {H : Type} : Lit × DataW H → Nat
  | (.string bytes, d) => bytes.length + uptoBulk d + 1
  | (_, d) => uptoBulk d + 1
 end
def uptoSmall : (H : Type) → List (DataW H) → Bool := fun _ ds => decide (uptoBulkAll ds ≤ 1048576)
def OpenSpec.upto (s : _root_.Go.ChangeSpec) : _root_.Go.OpenSpec := { _root_.Go.OpenSpec.ofChange s with cond := some uptoSmall }

/-- 'laws.FnExactMMinMut', WHERE WHAT IT READS IS OF BULK AT MOST 1048576: true; the input reads as it did. -/
def fnExactMMinMutUptoRow : OpenClaim := { program := "ytkgcjgedpefhjaa", sum := "42f0aacd77c15825a85bc818e95f10a148dbcfdf45f6ce1d099fb679820c3325", func := "pub-greenwood/laws.FnExactMMinMut", spec := "fnExactMMinMut", unfollowed := true, recurses := true, apart := false, narrowed := true }
def FnExactMMinMutUptoSaid : Prop := fnExactMMinMutUptoRow.holds Try.pinned (OpenSpec.upto fnExactMMinMutSpec)

/-- 'laws.FnExactMKeys', WHERE WHAT IT READS IS OF BULK AT MOST 1048576: true; the input reads as it did. -/
def fnExactMKeysUptoRow : OpenClaim := { program := "ytkgcjgedpefhjaa", sum := "42f0aacd77c15825a85bc818e95f10a148dbcfdf45f6ce1d099fb679820c3325", func := "pub-greenwood/laws.FnExactMKeys", spec := "fnExactMKeys", unfollowed := true, recurses := true, apart := false, narrowed := true }
def FnExactMKeysUptoSaid : Prop := fnExactMKeysUptoRow.holds Try.pinned (OpenSpec.upto fnExactMKeysSpec)

/-- 'laws.FnMHeight', WHERE WHAT IT READS IS OF BULK AT MOST 1048576: true; the input reads as it did. -/
def fnMHeightUptoRow : OpenClaim := { program := "ytkgcjgedpefhjaa", sum := "42f0aacd77c15825a85bc818e95f10a148dbcfdf45f6ce1d099fb679820c3325", func := "pub-greenwood/laws.FnMHeight", spec := "fnMHeight", unfollowed := true, recurses := true, apart := false, narrowed := true }
def FnMHeightUptoSaid : Prop := fnMHeightUptoRow.holds Try.pinned (OpenSpec.upto fnMHeightSpec)

/-- 'laws.FnExactMKeyValuesMut', WHERE WHAT IT READS IS OF BULK AT MOST 1048576: true; the input reads as it did. -/
def fnExactMKeyValuesMutUptoRow : OpenClaim := { program := "ytkgcjgedpefhjaa", sum := "42f0aacd77c15825a85bc818e95f10a148dbcfdf45f6ce1d099fb679820c3325", func := "pub-greenwood/laws.FnExactMKeyValuesMut", spec := "fnExactMKeyValuesMut", unfollowed := true, recurses := true, apart := false, narrowed := true }
def FnExactMKeyValuesMutUptoSaid : Prop := fnExactMKeyValuesMutUptoRow.holds Try.pinned (OpenSpec.upto fnExactMKeyValuesMutSpec)

/-- 'laws.FnExactMGet', WHERE WHAT IT READS IS OF BULK AT MOST 1048576: true; the input reads as it did. -/
def fnExactMGetUptoRow : OpenClaim := { program := "ytkgcjgedpefhjaa", sum := "42f0aacd77c15825a85bc818e95f10a148dbcfdf45f6ce1d099fb679820c3325", func := "pub-greenwood/laws.FnExactMGet", spec := "fnExactMGet", unfollowed := true, recurses := true, apart := false, narrowed := true }
def FnExactMGetUptoSaid : Prop := fnExactMGetUptoRow.holds Try.pinned (OpenSpec.upto fnExactMGetSpec)

/-- 'laws.FnExactMGetAtMut', WHERE WHAT IT READS IS OF BULK AT MOST 1048576: true; the input reads as it did. -/
def fnExactMGetAtMutUptoRow : OpenClaim := { program := "ytkgcjgedpefhjaa", sum := "42f0aacd77c15825a85bc818e95f10a148dbcfdf45f6ce1d099fb679820c3325", func := "pub-greenwood/laws.FnExactMGetAtMut", spec := "fnExactMGetAtMut", unfollowed := true, recurses := true, apart := false, narrowed := true }
def FnExactMGetAtMutUptoSaid : Prop := fnExactMGetAtMutUptoRow.holds Try.pinned (OpenSpec.upto fnExactMGetAtMutSpec)

/-- 'laws.FnMStride', WHERE WHAT IT READS IS OF BULK AT MOST 1048576: true; the input reads as it did. -/
def fnMStrideUptoRow : OpenClaim := { program := "ytkgcjgedpefhjaa", sum := "42f0aacd77c15825a85bc818e95f10a148dbcfdf45f6ce1d099fb679820c3325", func := "pub-greenwood/laws.FnMStride", spec := "fnMStride", unfollowed := true, recurses := true, apart := false, narrowed := true }
def FnMStrideUptoSaid : Prop := fnMStrideUptoRow.holds Try.pinned (OpenSpec.upto fnMStrideSpec)

/-- 'laws.FnExactMReverseMut', WHERE WHAT IT READS IS OF BULK AT MOST 1048576: true; the input reads as it did. -/
def fnExactMReverseMutUptoRow : OpenClaim := { program := "ytkgcjgedpefhjaa", sum := "42f0aacd77c15825a85bc818e95f10a148dbcfdf45f6ce1d099fb679820c3325", func := "pub-greenwood/laws.FnExactMReverseMut", spec := "fnExactMReverseMut", unfollowed := true, recurses := true, apart := false, narrowed := true }
def FnExactMReverseMutUptoSaid : Prop := fnExactMReverseMutUptoRow.holds Try.pinned (OpenSpec.upto fnExactMReverseMutSpec)

/-- 'laws.FnExactMDescendMut', WHERE WHAT IT READS IS OF BULK AT MOST 1048576: true; the input reads as it did. -/
def fnExactMDescendMutUptoRow : OpenClaim := { program := "ytkgcjgedpefhjaa", sum := "42f0aacd77c15825a85bc818e95f10a148dbcfdf45f6ce1d099fb679820c3325", func := "pub-greenwood/laws.FnExactMDescendMut", spec := "fnExactMDescendMut", unfollowed := true, recurses := true, apart := false, narrowed := true }
def FnExactMDescendMutUptoSaid : Prop := fnExactMDescendMutUptoRow.holds Try.pinned (OpenSpec.upto fnExactMDescendMutSpec)

/-- 'laws.FnExactMCopy', WHERE WHAT IT READS IS OF BULK AT MOST 1048576: true; the input reads as it did. -/
def fnExactMCopyUptoRow : OpenClaim := { program := "ytkgcjgedpefhjaa", sum := "42f0aacd77c15825a85bc818e95f10a148dbcfdf45f6ce1d099fb679820c3325", func := "pub-greenwood/laws.FnExactMCopy", spec := "fnExactMCopy", unfollowed := true, recurses := true, apart := false, narrowed := true }
def FnExactMCopyUptoSaid : Prop := fnExactMCopyUptoRow.holds Try.pinned (OpenSpec.upto fnExactMCopySpec)

/-- 'laws.FnMCopies', WHERE WHAT IT READS IS OF BULK AT MOST 1048576: true; the input reads as it did. -/
def fnMCopiesUptoRow : OpenClaim := { program := "ytkgcjgedpefhjaa", sum := "42f0aacd77c15825a85bc818e95f10a148dbcfdf45f6ce1d099fb679820c3325", func := "pub-greenwood/laws.FnMCopies", spec := "fnMCopies", unfollowed := true, recurses := true, apart := false, narrowed := true }
def FnMCopiesUptoSaid : Prop := fnMCopiesUptoRow.holds Try.pinned (OpenSpec.upto fnMCopiesSpec)

end Rows
end Go.Proofs.Ytkgcjgedpefhjaa
