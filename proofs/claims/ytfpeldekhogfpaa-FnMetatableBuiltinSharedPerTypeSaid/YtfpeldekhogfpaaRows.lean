/-
  No cell of these rows narrows 'for every input' (looked for: loops, veiled, ifaces, maps, wideKeys, modest, calm, conditions, laid).
  DERIVED. THE GIVEN ROWS OF THIS SEAT. 4 by the template 'for every input the law returns true; each argument reads behind the call as it read before'; 0 by the template 'total and deterministic' (their statements: YtfpeldekhogfpaaTotals.lean).
  GIVEN WITH THE SEED: the statements are not yours to turn. If you find one false, say at which input.
  Laid BY PROGRAM, IN A SANDBOX (cutbox-rows.mjs): the forced cells as the released guide's own fill.sh prints them over the translation af884e1476e81467… (all of the seat's roots in one cut). By AI agents, Wed Nov 11 2026. No macro, syntax, notation, axiom, sorry.
-/
import Derived.Test.YtfpeldekhogfpaaChecked
import GoSem.Claim
import GoSem.ClaimJoined
import GoSem.ClaimMapViews
import Derived.JoinedTies
import Derived.KernelRfl
namespace Go.Proofs.Ytfpeldekhogfpaa
/- THE CELL 'sum', in the pinned program and in every row, IS THE sha256 OF THE DUMP (.gsa) THAT YtfpeldekhogfpaaProg.lean LOADS. Nothing in Lean hashes anything: it is a label: what it is worth is what the hold of that sum in a sandbox is worth. -/
noncomputable def Try.pinned : Pinned := { name := "ytfpeldekhogfpaa", sum := "af884e1476e814670cdd7d222a7816c6bc3bd692c553ef6ca434893bc4173579", checked := Try.checked }
namespace Rows
def none {H : Type} : Left H := { results := [], args := [] }

/-- 'n005_84.FnMetaOp1Exact': WHATEVER THE INPUT: true; the input reads as it did. -/
def fnMetaOp1ExactSpec : ChangeSpec := { name := "fnMetaOp1Exact", fn := fun _ => fun
  | [d1, d2, d3, d4, d5, d6, d7, d8, d9, d10] => { results := [.lit (.bool true)], args := [d1, d2, d3, d4, d5, d6, d7, d8, d9, d10] }
  | _ => none }
def fnMetaOp1ExactRow : OpenClaim := { program := "ytfpeldekhogfpaa", sum := "af884e1476e814670cdd7d222a7816c6bc3bd692c553ef6ca434893bc4173579", func := "github.com/yuin/gopher-lua/n005_84.FnMetaOp1Exact", spec := "fnMetaOp1Exact", unfollowed := true, recurses := true, apart := false }
def FnMetaOp1ExactSaid : Prop := fnMetaOp1ExactRow.holds Try.pinned (OpenSpec.ofChange fnMetaOp1ExactSpec)

/-- ITS FALSE NEIGHBOUR: 'it returns false'. Refute it at one input. -/
def fnMetaOp1ExactWrong : ChangeSpec := { name := "fnMetaOp1Exact", fn := fun _ => fun
  | [d1, d2, d3, d4, d5, d6, d7, d8, d9, d10] => { results := [.lit (.bool false)], args := [d1, d2, d3, d4, d5, d6, d7, d8, d9, d10] }
  | _ => none }
def FnMetaOp1ExactWrongFalsely : Prop := fnMetaOp1ExactRow.holds Try.pinned (OpenSpec.ofChange fnMetaOp1ExactWrong)

/-- 'n005_84.FnMetaOp1IgnoresProtectingTable': WHATEVER THE INPUT: true; the input reads as it did. -/
def fnMetaOp1IgnoresProtectingTableSpec : ChangeSpec := { name := "fnMetaOp1IgnoresProtectingTable", fn := fun _ => fun
  | [d1, d2, d3, d4, d5, d6, d7, d8] => { results := [.lit (.bool true)], args := [d1, d2, d3, d4, d5, d6, d7, d8] }
  | _ => none }
def fnMetaOp1IgnoresProtectingTableRow : OpenClaim := { program := "ytfpeldekhogfpaa", sum := "af884e1476e814670cdd7d222a7816c6bc3bd692c553ef6ca434893bc4173579", func := "github.com/yuin/gopher-lua/n005_84.FnMetaOp1IgnoresProtectingTable", spec := "fnMetaOp1IgnoresProtectingTable", unfollowed := true, recurses := true, apart := false }
def FnMetaOp1IgnoresProtectingTableSaid : Prop := fnMetaOp1IgnoresProtectingTableRow.holds Try.pinned (OpenSpec.ofChange fnMetaOp1IgnoresProtectingTableSpec)

/-- ITS FALSE NEIGHBOUR: 'it returns false'. Refute it at one input. -/
def fnMetaOp1IgnoresProtectingTableWrong : ChangeSpec := { name := "fnMetaOp1IgnoresProtectingTable", fn := fun _ => fun
  | [d1, d2, d3, d4, d5, d6, d7, d8] => { results := [.lit (.bool false)], args := [d1, d2, d3, d4, d5, d6, d7, d8] }
  | _ => none }
def FnMetaOp1IgnoresProtectingTableWrongFalsely : Prop := fnMetaOp1IgnoresProtectingTableRow.holds Try.pinned (OpenSpec.ofChange fnMetaOp1IgnoresProtectingTableWrong)

/-- 'n005_84.FnMetatableExact': WHATEVER THE INPUT: true; the input reads as it did. -/
def fnMetatableExactSpec : ChangeSpec := { name := "fnMetatableExact", fn := fun _ => fun
  | [d1, d2, d3, d4, d5, d6, d7, d8] => { results := [.lit (.bool true)], args := [d1, d2, d3, d4, d5, d6, d7, d8] }
  | _ => none }
def fnMetatableExactRow : OpenClaim := { program := "ytfpeldekhogfpaa", sum := "af884e1476e814670cdd7d222a7816c6bc3bd692c553ef6ca434893bc4173579", func := "github.com/yuin/gopher-lua/n005_84.FnMetatableExact", spec := "fnMetatableExact", unfollowed := true, recurses := true, apart := false }
def FnMetatableExactSaid : Prop := fnMetatableExactRow.holds Try.pinned (OpenSpec.ofChange fnMetatableExactSpec)

/-- ITS FALSE NEIGHBOUR: 'it returns false'. Refute it at one input. -/
def fnMetatableExactWrong : ChangeSpec := { name := "fnMetatableExact", fn := fun _ => fun
  | [d1, d2, d3, d4, d5, d6, d7, d8] => { results := [.lit (.bool false)], args := [d1, d2, d3, d4, d5, d6, d7, d8] }
  | _ => none }
def FnMetatableExactWrongFalsely : Prop := fnMetatableExactRow.holds Try.pinned (OpenSpec.ofChange fnMetatableExactWrong)

/-- 'n005_84.FnMetatableBuiltinSharedPerType': WHATEVER THE INPUT: true; the input reads as it did. -/
def fnMetatableBuiltinSharedPerTypeSpec : ChangeSpec := { name := "fnMetatableBuiltinSharedPerType", fn := fun _ => fun
  | [d1, d2, d3, d4, d5, d6, d7] => { results := [.lit (.bool true)], args := [d1, d2, d3, d4, d5, d6, d7] }
  | _ => none }
def fnMetatableBuiltinSharedPerTypeRow : OpenClaim := { program := "ytfpeldekhogfpaa", sum := "af884e1476e814670cdd7d222a7816c6bc3bd692c553ef6ca434893bc4173579", func := "github.com/yuin/gopher-lua/n005_84.FnMetatableBuiltinSharedPerType", spec := "fnMetatableBuiltinSharedPerType", unfollowed := true, recurses := true, apart := false }
def FnMetatableBuiltinSharedPerTypeSaid : Prop := fnMetatableBuiltinSharedPerTypeRow.holds Try.pinned (OpenSpec.ofChange fnMetatableBuiltinSharedPerTypeSpec)

/-- ITS FALSE NEIGHBOUR: 'it returns false'. Refute it at one input. -/
def fnMetatableBuiltinSharedPerTypeWrong : ChangeSpec := { name := "fnMetatableBuiltinSharedPerType", fn := fun _ => fun
  | [d1, d2, d3, d4, d5, d6, d7] => { results := [.lit (.bool false)], args := [d1, d2, d3, d4, d5, d6, d7] }
  | _ => none }
def FnMetatableBuiltinSharedPerTypeWrongFalsely : Prop := fnMetatableBuiltinSharedPerTypeRow.holds Try.pinned (OpenSpec.ofChange fnMetatableBuiltinSharedPerTypeWrong)

/- THE SECOND FORM. 'bulk': how many values and letters a reading holds, each counted each time it is reached (what is shared counts as often as it is met; a slice's spare places count too). A statement '..UptoSaid' is the law's where the arguments, and the package variables that the reading takes, are together of bulk at most 1048576: NARROWER than '..Said'. Prove '..Said' where nothing that the law and all that it calls make is longer than what came in: it says more and counts as full. Else prove '..UptoSaid'. A law counts once. -/
mutual
def uptoBulk {H : Type} : DataW H → Nat
  | .lit (.string bytes) => bytes.length + 1
  | .lit _ => 1
  | .nil => 1
  | .ptr d => uptoBulk d + 1
  | .slice elems spare => uptoBulkAll elems + uptoBulkAll spare + 1
  | .agg parts => uptoBulkAll parts + 1
  | .iface _ d => uptoBulk d + 1
  | .map entries => uptoBulkEntries entries + 1
  | .held _ => 1
def uptoBulkAll {H : Type} : List (DataW H) → Nat
  | [] => 0
  | d :: r => uptoBulk d + uptoBulkAll r
def uptoBulkEntries {H : Type} : List (Lit × DataW H) → Nat
  | [] => 0
  | x :: r => uptoBulkEntry x + uptoBulkEntries r
def uptoBulkEntry {H : Type} : Lit × DataW H → Nat
  | (.string bytes, d) => bytes.length + uptoBulk d + 1
  | (_, d) => uptoBulk d + 1
 end
def uptoSmall : (H : Type) → List (DataW H) → Bool := fun _ ds => decide (uptoBulkAll ds ≤ 1048576)
def OpenSpec.upto (s : _root_.Go.ChangeSpec) : _root_.Go.OpenSpec := { _root_.Go.OpenSpec.ofChange s with cond := some uptoSmall }

/-- 'n005_84.FnMetaOp1Exact', WHERE WHAT IT READS IS OF BULK AT MOST 1048576: true; the input reads as it did. -/
def fnMetaOp1ExactUptoRow : OpenClaim := { program := "ytfpeldekhogfpaa", sum := "af884e1476e814670cdd7d222a7816c6bc3bd692c553ef6ca434893bc4173579", func := "github.com/yuin/gopher-lua/n005_84.FnMetaOp1Exact", spec := "fnMetaOp1Exact", unfollowed := true, recurses := true, apart := false, narrowed := true }
def FnMetaOp1ExactUptoSaid : Prop := fnMetaOp1ExactUptoRow.holds Try.pinned (OpenSpec.upto fnMetaOp1ExactSpec)

/-- 'n005_84.FnMetaOp1IgnoresProtectingTable', WHERE WHAT IT READS IS OF BULK AT MOST 1048576: true; the input reads as it did. -/
def fnMetaOp1IgnoresProtectingTableUptoRow : OpenClaim := { program := "ytfpeldekhogfpaa", sum := "af884e1476e814670cdd7d222a7816c6bc3bd692c553ef6ca434893bc4173579", func := "github.com/yuin/gopher-lua/n005_84.FnMetaOp1IgnoresProtectingTable", spec := "fnMetaOp1IgnoresProtectingTable", unfollowed := true, recurses := true, apart := false, narrowed := true }
def FnMetaOp1IgnoresProtectingTableUptoSaid : Prop := fnMetaOp1IgnoresProtectingTableUptoRow.holds Try.pinned (OpenSpec.upto fnMetaOp1IgnoresProtectingTableSpec)

/-- 'n005_84.FnMetatableExact', WHERE WHAT IT READS IS OF BULK AT MOST 1048576: true; the input reads as it did. -/
def fnMetatableExactUptoRow : OpenClaim := { program := "ytfpeldekhogfpaa", sum := "af884e1476e814670cdd7d222a7816c6bc3bd692c553ef6ca434893bc4173579", func := "github.com/yuin/gopher-lua/n005_84.FnMetatableExact", spec := "fnMetatableExact", unfollowed := true, recurses := true, apart := false, narrowed := true }
def FnMetatableExactUptoSaid : Prop := fnMetatableExactUptoRow.holds Try.pinned (OpenSpec.upto fnMetatableExactSpec)

/-- 'n005_84.FnMetatableBuiltinSharedPerType', WHERE WHAT IT READS IS OF BULK AT MOST 1048576: true; the input reads as it did. -/
def fnMetatableBuiltinSharedPerTypeUptoRow : OpenClaim := { program := "ytfpeldekhogfpaa", sum := "af884e1476e814670cdd7d222a7816c6bc3bd692c553ef6ca434893bc4173579", func := "github.com/yuin/gopher-lua/n005_84.FnMetatableBuiltinSharedPerType", spec := "fnMetatableBuiltinSharedPerType", unfollowed := true, recurses := true, apart := false, narrowed := true }
def FnMetatableBuiltinSharedPerTypeUptoSaid : Prop := fnMetatableBuiltinSharedPerTypeUptoRow.holds Try.pinned (OpenSpec.upto fnMetatableBuiltinSharedPerTypeSpec)

end Rows
end Go.Proofs.Ytfpeldekhogfpaa
