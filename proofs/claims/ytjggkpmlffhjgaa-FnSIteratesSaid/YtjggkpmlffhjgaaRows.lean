/-
  No cell of these rows narrows 'for every input' (looked for: loops, veiled, ifaces, maps, wideKeys, modest, calm, conditions, laid).
  DERIVED. THE GIVEN ROWS OF THIS SEAT. 9 by the template 'for every input the law returns true; each argument reads behind the call as it read before'; 0 by the template 'total and deterministic' (their statements: YtjggkpmlffhjgaaTotals.lean).
  GIVEN WITH THE SEED: the statements are not yours to turn. If you find one false, say at which input.
  Laid BY PROGRAM, IN A SANDBOX (cutbox-rows.mjs): the forced cells as the released guide's own fill.sh prints them over the translation f637fd65025cc85e… (all of the seat's roots in one cut). By AI agents, Wed Nov 11 2026. No macro, syntax, notation, axiom, sorry.
-/
import Derived.Test.YtjggkpmlffhjgaaChecked
import GoSem.Claim
import GoSem.ClaimJoined
import GoSem.ClaimMapViews
import Derived.JoinedTies
import Derived.KernelRfl
namespace Go.Proofs.Ytjggkpmlffhjgaa
/- THE CELL 'sum', in the pinned program and in every row, IS THE sha256 OF THE DUMP (.gsa) THAT YtjggkpmlffhjgaaProg.lean LOADS. Nothing in Lean hashes anything: it is a label: what it is worth is what the hold of that sum in a sandbox is worth. -/
noncomputable def Try.pinned : Pinned := { name := "ytjggkpmlffhjgaa", sum := "f637fd65025cc85efed82ac114645be1bac34a33c6da39ebcd7983aa119f2189", checked := Try.checked }
namespace Rows
def none {H : Type} : Left H := { results := [], args := [] }

/-- 'laws.FnExactSInsert': WHATEVER THE INPUT: true; the input reads as it did. -/
def fnExactSInsertSpec : ChangeSpec := { name := "fnExactSInsert", fn := fun _ => fun
  | [d] => { results := [.lit (.bool true)], args := [d] }
  | _ => none }
def fnExactSInsertRow : OpenClaim := { program := "ytjggkpmlffhjgaa", sum := "f637fd65025cc85efed82ac114645be1bac34a33c6da39ebcd7983aa119f2189", func := "pub-greenwood/laws.FnExactSInsert", spec := "fnExactSInsert", unfollowed := true, recurses := true, apart := false }
def FnExactSInsertSaid : Prop := fnExactSInsertRow.holds Try.pinned (OpenSpec.ofChange fnExactSInsertSpec)

/-- ITS FALSE NEIGHBOUR: 'it returns false'. Refute it at one input. -/
def fnExactSInsertWrong : ChangeSpec := { name := "fnExactSInsert", fn := fun _ => fun
  | [d] => { results := [.lit (.bool false)], args := [d] }
  | _ => none }
def FnExactSInsertWrongFalsely : Prop := fnExactSInsertRow.holds Try.pinned (OpenSpec.ofChange fnExactSInsertWrong)

/-- 'laws.FnExactWGetAt': WHATEVER THE INPUT: true; the input reads as it did. -/
def fnExactWGetAtSpec : ChangeSpec := { name := "fnExactWGetAt", fn := fun _ => fun
  | [d1, d2, d3] => { results := [.lit (.bool true)], args := [d1, d2, d3] }
  | _ => none }
def fnExactWGetAtRow : OpenClaim := { program := "ytjggkpmlffhjgaa", sum := "f637fd65025cc85efed82ac114645be1bac34a33c6da39ebcd7983aa119f2189", func := "pub-greenwood/laws.FnExactWGetAt", spec := "fnExactWGetAt", unfollowed := true, recurses := true, apart := false }
def FnExactWGetAtSaid : Prop := fnExactWGetAtRow.holds Try.pinned (OpenSpec.ofChange fnExactWGetAtSpec)

/-- ITS FALSE NEIGHBOUR: 'it returns false'. Refute it at one input. -/
def fnExactWGetAtWrong : ChangeSpec := { name := "fnExactWGetAt", fn := fun _ => fun
  | [d1, d2, d3] => { results := [.lit (.bool false)], args := [d1, d2, d3] }
  | _ => none }
def FnExactWGetAtWrongFalsely : Prop := fnExactWGetAtRow.holds Try.pinned (OpenSpec.ofChange fnExactWGetAtWrong)

/-- 'laws.FnExactSGetAt': WHATEVER THE INPUT: true; the input reads as it did. -/
def fnExactSGetAtSpec : ChangeSpec := { name := "fnExactSGetAt", fn := fun _ => fun
  | [d1, d2] => { results := [.lit (.bool true)], args := [d1, d2] }
  | _ => none }
def fnExactSGetAtRow : OpenClaim := { program := "ytjggkpmlffhjgaa", sum := "f637fd65025cc85efed82ac114645be1bac34a33c6da39ebcd7983aa119f2189", func := "pub-greenwood/laws.FnExactSGetAt", spec := "fnExactSGetAt", unfollowed := true, recurses := true, apart := false }
def FnExactSGetAtSaid : Prop := fnExactSGetAtRow.holds Try.pinned (OpenSpec.ofChange fnExactSGetAtSpec)

/-- ITS FALSE NEIGHBOUR: 'it returns false'. Refute it at one input. -/
def fnExactSGetAtWrong : ChangeSpec := { name := "fnExactSGetAt", fn := fun _ => fun
  | [d1, d2] => { results := [.lit (.bool false)], args := [d1, d2] }
  | _ => none }
def FnExactSGetAtWrongFalsely : Prop := fnExactSGetAtRow.holds Try.pinned (OpenSpec.ofChange fnExactSGetAtWrong)

/-- 'laws.FnExactSAscend': WHATEVER THE INPUT: true; the input reads as it did. -/
def fnExactSAscendSpec : ChangeSpec := { name := "fnExactSAscend", fn := fun _ => fun
  | [d1, d2, d3] => { results := [.lit (.bool true)], args := [d1, d2, d3] }
  | _ => none }
def fnExactSAscendRow : OpenClaim := { program := "ytjggkpmlffhjgaa", sum := "f637fd65025cc85efed82ac114645be1bac34a33c6da39ebcd7983aa119f2189", func := "pub-greenwood/laws.FnExactSAscend", spec := "fnExactSAscend", unfollowed := true, recurses := true, apart := false }
def FnExactSAscendSaid : Prop := fnExactSAscendRow.holds Try.pinned (OpenSpec.ofChange fnExactSAscendSpec)

/-- ITS FALSE NEIGHBOUR: 'it returns false'. Refute it at one input. -/
def fnExactSAscendWrong : ChangeSpec := { name := "fnExactSAscend", fn := fun _ => fun
  | [d1, d2, d3] => { results := [.lit (.bool false)], args := [d1, d2, d3] }
  | _ => none }
def FnExactSAscendWrongFalsely : Prop := fnExactSAscendRow.holds Try.pinned (OpenSpec.ofChange fnExactSAscendWrong)

/-- 'laws.FnExactWDelete': WHATEVER THE INPUT: true; the input reads as it did. -/
def fnExactWDeleteSpec : ChangeSpec := { name := "fnExactWDelete", fn := fun _ => fun
  | [d1, d2, d3] => { results := [.lit (.bool true)], args := [d1, d2, d3] }
  | _ => none }
def fnExactWDeleteRow : OpenClaim := { program := "ytjggkpmlffhjgaa", sum := "f637fd65025cc85efed82ac114645be1bac34a33c6da39ebcd7983aa119f2189", func := "pub-greenwood/laws.FnExactWDelete", spec := "fnExactWDelete", unfollowed := true, recurses := true, apart := false }
def FnExactWDeleteSaid : Prop := fnExactWDeleteRow.holds Try.pinned (OpenSpec.ofChange fnExactWDeleteSpec)

/-- ITS FALSE NEIGHBOUR: 'it returns false'. Refute it at one input. -/
def fnExactWDeleteWrong : ChangeSpec := { name := "fnExactWDelete", fn := fun _ => fun
  | [d1, d2, d3] => { results := [.lit (.bool false)], args := [d1, d2, d3] }
  | _ => none }
def FnExactWDeleteWrongFalsely : Prop := fnExactWDeleteRow.holds Try.pinned (OpenSpec.ofChange fnExactWDeleteWrong)

/-- 'laws.FnSMaps': WHATEVER THE INPUT: true; the input reads as it did. -/
def fnSMapsSpec : ChangeSpec := { name := "fnSMaps", fn := fun _ => fun
  | [d1, d2] => { results := [.lit (.bool true)], args := [d1, d2] }
  | _ => none }
def fnSMapsRow : OpenClaim := { program := "ytjggkpmlffhjgaa", sum := "f637fd65025cc85efed82ac114645be1bac34a33c6da39ebcd7983aa119f2189", func := "pub-greenwood/laws.FnSMaps", spec := "fnSMaps", unfollowed := true, recurses := true, apart := false }
def FnSMapsSaid : Prop := fnSMapsRow.holds Try.pinned (OpenSpec.ofChange fnSMapsSpec)

/-- ITS FALSE NEIGHBOUR: 'it returns false'. Refute it at one input. -/
def fnSMapsWrong : ChangeSpec := { name := "fnSMaps", fn := fun _ => fun
  | [d1, d2] => { results := [.lit (.bool false)], args := [d1, d2] }
  | _ => none }
def FnSMapsWrongFalsely : Prop := fnSMapsRow.holds Try.pinned (OpenSpec.ofChange fnSMapsWrong)

/-- 'laws.FnWSplits': WHATEVER THE INPUT: true; the input reads as it did. -/
def fnWSplitsSpec : ChangeSpec := { name := "fnWSplits", fn := fun _ => fun
  | [d1, d2, d3] => { results := [.lit (.bool true)], args := [d1, d2, d3] }
  | _ => none }
def fnWSplitsRow : OpenClaim := { program := "ytjggkpmlffhjgaa", sum := "f637fd65025cc85efed82ac114645be1bac34a33c6da39ebcd7983aa119f2189", func := "pub-greenwood/laws.FnWSplits", spec := "fnWSplits", unfollowed := true, recurses := true, apart := false }
def FnWSplitsSaid : Prop := fnWSplitsRow.holds Try.pinned (OpenSpec.ofChange fnWSplitsSpec)

/-- ITS FALSE NEIGHBOUR: 'it returns false'. Refute it at one input. -/
def fnWSplitsWrong : ChangeSpec := { name := "fnWSplits", fn := fun _ => fun
  | [d1, d2, d3] => { results := [.lit (.bool false)], args := [d1, d2, d3] }
  | _ => none }
def FnWSplitsWrongFalsely : Prop := fnWSplitsRow.holds Try.pinned (OpenSpec.ofChange fnWSplitsWrong)

/-- 'laws.FnSIterates': WHATEVER THE INPUT: true; the input reads as it did. -/
def fnSIteratesSpec : ChangeSpec := { name := "fnSIterates", fn := fun _ => fun
  | [d] => { results := [.lit (.bool true)], args := [d] }
  | _ => none }
def fnSIteratesRow : OpenClaim := { program := "ytjggkpmlffhjgaa", sum := "f637fd65025cc85efed82ac114645be1bac34a33c6da39ebcd7983aa119f2189", func := "pub-greenwood/laws.FnSIterates", spec := "fnSIterates", unfollowed := true, recurses := true, apart := false }
def FnSIteratesSaid : Prop := fnSIteratesRow.holds Try.pinned (OpenSpec.ofChange fnSIteratesSpec)

/-- ITS FALSE NEIGHBOUR: 'it returns false'. Refute it at one input. -/
def fnSIteratesWrong : ChangeSpec := { name := "fnSIterates", fn := fun _ => fun
  | [d] => { results := [.lit (.bool false)], args := [d] }
  | _ => none }
def FnSIteratesWrongFalsely : Prop := fnSIteratesRow.holds Try.pinned (OpenSpec.ofChange fnSIteratesWrong)

/-- 'laws.FnExactSPops': WHATEVER THE INPUT: true; the input reads as it did. -/
def fnExactSPopsSpec : ChangeSpec := { name := "fnExactSPops", fn := fun _ => fun
  | [d1, d2] => { results := [.lit (.bool true)], args := [d1, d2] }
  | _ => none }
def fnExactSPopsRow : OpenClaim := { program := "ytjggkpmlffhjgaa", sum := "f637fd65025cc85efed82ac114645be1bac34a33c6da39ebcd7983aa119f2189", func := "pub-greenwood/laws.FnExactSPops", spec := "fnExactSPops", unfollowed := true, recurses := true, apart := false }
def FnExactSPopsSaid : Prop := fnExactSPopsRow.holds Try.pinned (OpenSpec.ofChange fnExactSPopsSpec)

/-- ITS FALSE NEIGHBOUR: 'it returns false'. Refute it at one input. -/
def fnExactSPopsWrong : ChangeSpec := { name := "fnExactSPops", fn := fun _ => fun
  | [d1, d2] => { results := [.lit (.bool false)], args := [d1, d2] }
  | _ => none }
def FnExactSPopsWrongFalsely : Prop := fnExactSPopsRow.holds Try.pinned (OpenSpec.ofChange fnExactSPopsWrong)

/- THE SECOND FORM. 'bulk': how many values and letters a reading holds, each counted each time it is reached (what is shared counts as often as it is met; a slice's spare places count too). A statement '..UptoSaid' is the law's where the arguments, and the package variables that the reading takes, are together of bulk at most 1048576: NARROWER than '..Said'. Prove '..Said' where nothing that the law and all that it calls make is longer than what came in: it says more and counts as full. Else prove '..UptoSaid'. A law counts once. -/
mutual
def uptoBulk {H : Type} : DataW H → Nat
  | .lit (.string bytes) => bytes.length + 1
  | .lit _ => 1
  | .nil => 1
  | .ptr d => uptoBulk d + 1
  | .slice elems spare => uptoBulkAll elems + uptoBulkAll spare + 1
  | .agg parts => uptoBulkAll parts + 1
  | .iface _ d => uptoBulk d + 1
  | .map entries => uptoBulkEntries entries + 1
  | .held _ => 1
def uptoBulkAll {H : Type} : List (DataW H) → Nat
  | [] => 0
  | d :: r => uptoBulk d + uptoBulkAll r
def uptoBulkEntries {H : Type} : List (Lit × DataW H) → Nat
  | [] => 0
  | x :: r => uptoBulkEntry x + uptoBulkEntries r
def uptoBulkEntry {H : Type} : Lit × DataW H → Nat
  | (.string bytes, d) => bytes.length + uptoBulk d + 1
  | (_, d) => uptoBulk d + 1
 end
def uptoSmall : (H : Type) → List (DataW H) → Bool := fun _ ds => decide (uptoBulkAll ds ≤ 1048576)
def OpenSpec.upto (s : _root_.Go.ChangeSpec) : _root_.Go.OpenSpec := { _root_.Go.OpenSpec.ofChange s with cond := some uptoSmall }

/-- 'laws.FnExactSInsert', WHERE WHAT IT READS IS OF BULK AT MOST 1048576: true; the input reads as it did. -/
def fnExactSInsertUptoRow : OpenClaim := { program := "ytjggkpmlffhjgaa", sum := "f637fd65025cc85efed82ac114645be1bac34a33c6da39ebcd7983aa119f2189", func := "pub-greenwood/laws.FnExactSInsert", spec := "fnExactSInsert", unfollowed := true, recurses := true, apart := false, narrowed := true }
def FnExactSInsertUptoSaid : Prop := fnExactSInsertUptoRow.holds Try.pinned (OpenSpec.upto fnExactSInsertSpec)

/-- 'laws.FnExactWGetAt', WHERE WHAT IT READS IS OF BULK AT MOST 1048576: true; the input reads as it did. -/
def fnExactWGetAtUptoRow : OpenClaim := { program := "ytjggkpmlffhjgaa", sum := "f637fd65025cc85efed82ac114645be1bac34a33c6da39ebcd7983aa119f2189", func := "pub-greenwood/laws.FnExactWGetAt", spec := "fnExactWGetAt", unfollowed := true, recurses := true, apart := false, narrowed := true }
def FnExactWGetAtUptoSaid : Prop := fnExactWGetAtUptoRow.holds Try.pinned (OpenSpec.upto fnExactWGetAtSpec)

/-- 'laws.FnExactSGetAt', WHERE WHAT IT READS IS OF BULK AT MOST 1048576: true; the input reads as it did. -/
def fnExactSGetAtUptoRow : OpenClaim := { program := "ytjggkpmlffhjgaa", sum := "f637fd65025cc85efed82ac114645be1bac34a33c6da39ebcd7983aa119f2189", func := "pub-greenwood/laws.FnExactSGetAt", spec := "fnExactSGetAt", unfollowed := true, recurses := true, apart := false, narrowed := true }
def FnExactSGetAtUptoSaid : Prop := fnExactSGetAtUptoRow.holds Try.pinned (OpenSpec.upto fnExactSGetAtSpec)

/-- 'laws.FnExactSAscend', WHERE WHAT IT READS IS OF BULK AT MOST 1048576: true; the input reads as it did. -/
def fnExactSAscendUptoRow : OpenClaim := { program := "ytjggkpmlffhjgaa", sum := "f637fd65025cc85efed82ac114645be1bac34a33c6da39ebcd7983aa119f2189", func := "pub-greenwood/laws.FnExactSAscend", spec := "fnExactSAscend", unfollowed := true, recurses := true, apart := false, narrowed := true }
def FnExactSAscendUptoSaid : Prop := fnExactSAscendUptoRow.holds Try.pinned (OpenSpec.upto fnExactSAscendSpec)

/-- 'laws.FnExactWDelete', WHERE WHAT IT READS IS OF BULK AT MOST 1048576: true; the input reads as it did. -/
def fnExactWDeleteUptoRow : OpenClaim := { program := "ytjggkpmlffhjgaa", sum := "f637fd65025cc85efed82ac114645be1bac34a33c6da39ebcd7983aa119f2189", func := "pub-greenwood/laws.FnExactWDelete", spec := "fnExactWDelete", unfollowed := true, recurses := true, apart := false, narrowed := true }
def FnExactWDeleteUptoSaid : Prop := fnExactWDeleteUptoRow.holds Try.pinned (OpenSpec.upto fnExactWDeleteSpec)

/-- 'laws.FnSMaps', WHERE WHAT IT READS IS OF BULK AT MOST 1048576: true; the input reads as it did. -/
def fnSMapsUptoRow : OpenClaim := { program := "ytjggkpmlffhjgaa", sum := "f637fd65025cc85efed82ac114645be1bac34a33c6da39ebcd7983aa119f2189", func := "pub-greenwood/laws.FnSMaps", spec := "fnSMaps", unfollowed := true, recurses := true, apart := false, narrowed := true }
def FnSMapsUptoSaid : Prop := fnSMapsUptoRow.holds Try.pinned (OpenSpec.upto fnSMapsSpec)

/-- 'laws.FnWSplits', WHERE WHAT IT READS IS OF BULK AT MOST 1048576: true; the input reads as it did. -/
def fnWSplitsUptoRow : OpenClaim := { program := "ytjggkpmlffhjgaa", sum := "f637fd65025cc85efed82ac114645be1bac34a33c6da39ebcd7983aa119f2189", func := "pub-greenwood/laws.FnWSplits", spec := "fnWSplits", unfollowed := true, recurses := true, apart := false, narrowed := true }
def FnWSplitsUptoSaid : Prop := fnWSplitsUptoRow.holds Try.pinned (OpenSpec.upto fnWSplitsSpec)

/-- 'laws.FnSIterates', WHERE WHAT IT READS IS OF BULK AT MOST 1048576: true; the input reads as it did. -/
def fnSIteratesUptoRow : OpenClaim := { program := "ytjggkpmlffhjgaa", sum := "f637fd65025cc85efed82ac114645be1bac34a33c6da39ebcd7983aa119f2189", func := "pub-greenwood/laws.FnSIterates", spec := "fnSIterates", unfollowed := true, recurses := true, apart := false, narrowed := true }
def FnSIteratesUptoSaid : Prop := fnSIteratesUptoRow.holds Try.pinned (OpenSpec.upto fnSIteratesSpec)

/-- 'laws.FnExactSPops', WHERE WHAT IT READS IS OF BULK AT MOST 1048576: true; the input reads as it did. -/
def fnExactSPopsUptoRow : OpenClaim := { program := "ytjggkpmlffhjgaa", sum := "f637fd65025cc85efed82ac114645be1bac34a33c6da39ebcd7983aa119f2189", func := "pub-greenwood/laws.FnExactSPops", spec := "fnExactSPops", unfollowed := true, recurses := true, apart := false, narrowed := true }
def FnExactSPopsUptoSaid : Prop := fnExactSPopsUptoRow.holds Try.pinned (OpenSpec.upto fnExactSPopsSpec)

end Rows
end Go.Proofs.Ytjggkpmlffhjgaa
