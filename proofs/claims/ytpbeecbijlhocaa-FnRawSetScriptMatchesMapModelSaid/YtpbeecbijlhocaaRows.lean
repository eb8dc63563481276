/-
  No cell of these rows narrows 'for every input' (looked for: loops, veiled, ifaces, maps, wideKeys, modest, calm, conditions, laid).
  DERIVED. THE GIVEN ROWS OF THIS SEAT. 7 by the template 'for every input the law returns true; each argument reads behind the call as it read before'; 0 by the template 'total and deterministic' (their statements: YtpbeecbijlhocaaTotals.lean).
  GIVEN WITH THE SEED: the statements are not yours to turn. If you find one false, say at which input.
  Laid BY PROGRAM, IN A SANDBOX (cutbox-rows.mjs): the forced cells as the released guide's own fill.sh prints them over the translation fe8873fbc4a572fb… (all of the seat's roots in one cut). By AI agents, Wed Nov 11 2026. No macro, syntax, notation, axiom, sorry.
-/
import Derived.Test.YtpbeecbijlhocaaChecked
import GoSem.Claim
import GoSem.ClaimJoined
import GoSem.ClaimMapViews
import Derived.JoinedTies
import Derived.KernelRfl
namespace Go.Proofs.Ytpbeecbijlhocaa
/- THE CELL 'sum', in the pinned program and in every row, IS THE sha256 OF THE DUMP (.gsa) THAT YtpbeecbijlhocaaProg.lean LOADS. Nothing in Lean hashes anything: it is a label: what it is worth is what the hold of that sum in a sandbox is worth. -/
noncomputable def Try.pinned : Pinned := { name := "ytpbeecbijlhocaa", sum := "fe8873fbc4a572fb9908cadc07f796844cbbaf0d79b7aff27db344ebf090d1d0", checked := Try.checked }
namespace Rows
def none {H : Type} : Left H := { results := [], args := [] }

/-- 'n005_156.FnRawSetScriptMatchesMapModel': WHATEVER THE INPUT: true; the input reads as it did. -/
def fnRawSetScriptMatchesMapModelSpec : ChangeSpec := { name := "fnRawSetScriptMatchesMapModel", fn := fun _ => fun
  | [d] => { results := [.lit (.bool true)], args := [d] }
  | _ => none }
def fnRawSetScriptMatchesMapModelRow : OpenClaim := { program := "ytpbeecbijlhocaa", sum := "fe8873fbc4a572fb9908cadc07f796844cbbaf0d79b7aff27db344ebf090d1d0", func := "github.com/yuin/gopher-lua/n005_156.FnRawSetScriptMatchesMapModel", spec := "fnRawSetScriptMatchesMapModel", apart := false }
def FnRawSetScriptMatchesMapModelSaid : Prop := fnRawSetScriptMatchesMapModelRow.holds Try.pinned (OpenSpec.ofChange fnRawSetScriptMatchesMapModelSpec)

/-- ITS FALSE NEIGHBOUR: 'it returns false'. Refute it at one input. -/
def fnRawSetScriptMatchesMapModelWrong : ChangeSpec := { name := "fnRawSetScriptMatchesMapModel", fn := fun _ => fun
  | [d] => { results := [.lit (.bool false)], args := [d] }
  | _ => none }
def FnRawSetScriptMatchesMapModelWrongFalsely : Prop := fnRawSetScriptMatchesMapModelRow.holds Try.pinned (OpenSpec.ofChange fnRawSetScriptMatchesMapModelWrong)

/-- 'n005_156.FnRemoveThenInsertRestores': WHATEVER THE INPUT: true; the input reads as it did. -/
def fnRemoveThenInsertRestoresSpec : ChangeSpec := { name := "fnRemoveThenInsertRestores", fn := fun _ => fun
  | [d1, d2] => { results := [.lit (.bool true)], args := [d1, d2] }
  | _ => none }
def fnRemoveThenInsertRestoresRow : OpenClaim := { program := "ytpbeecbijlhocaa", sum := "fe8873fbc4a572fb9908cadc07f796844cbbaf0d79b7aff27db344ebf090d1d0", func := "github.com/yuin/gopher-lua/n005_156.FnRemoveThenInsertRestores", spec := "fnRemoveThenInsertRestores", apart := false }
def FnRemoveThenInsertRestoresSaid : Prop := fnRemoveThenInsertRestoresRow.holds Try.pinned (OpenSpec.ofChange fnRemoveThenInsertRestoresSpec)

/-- ITS FALSE NEIGHBOUR: 'it returns false'. Refute it at one input. -/
def fnRemoveThenInsertRestoresWrong : ChangeSpec := { name := "fnRemoveThenInsertRestores", fn := fun _ => fun
  | [d1, d2] => { results := [.lit (.bool false)], args := [d1, d2] }
  | _ => none }
def FnRemoveThenInsertRestoresWrongFalsely : Prop := fnRemoveThenInsertRestoresRow.holds Try.pinned (OpenSpec.ofChange fnRemoveThenInsertRestoresWrong)

/-- 'n005_156.FnRawSetIntTopDownEqualsAppend': WHATEVER THE INPUT: true; the input reads as it did. -/
def fnRawSetIntTopDownEqualsAppendSpec : ChangeSpec := { name := "fnRawSetIntTopDownEqualsAppend", fn := fun _ => fun
  | [d] => { results := [.lit (.bool true)], args := [d] }
  | _ => none }
def fnRawSetIntTopDownEqualsAppendRow : OpenClaim := { program := "ytpbeecbijlhocaa", sum := "fe8873fbc4a572fb9908cadc07f796844cbbaf0d79b7aff27db344ebf090d1d0", func := "github.com/yuin/gopher-lua/n005_156.FnRawSetIntTopDownEqualsAppend", spec := "fnRawSetIntTopDownEqualsAppend", apart := false }
def FnRawSetIntTopDownEqualsAppendSaid : Prop := fnRawSetIntTopDownEqualsAppendRow.holds Try.pinned (OpenSpec.ofChange fnRawSetIntTopDownEqualsAppendSpec)

/-- ITS FALSE NEIGHBOUR: 'it returns false'. Refute it at one input. -/
def fnRawSetIntTopDownEqualsAppendWrong : ChangeSpec := { name := "fnRawSetIntTopDownEqualsAppend", fn := fun _ => fun
  | [d] => { results := [.lit (.bool false)], args := [d] }
  | _ => none }
def FnRawSetIntTopDownEqualsAppendWrongFalsely : Prop := fnRawSetIntTopDownEqualsAppendRow.holds Try.pinned (OpenSpec.ofChange fnRawSetIntTopDownEqualsAppendWrong)

/-- 'n005_156.FnRawSetStringScriptMatchesMapModel': WHATEVER THE INPUT: true; the input reads as it did. -/
def fnRawSetStringScriptMatchesMapModelSpec : ChangeSpec := { name := "fnRawSetStringScriptMatchesMapModel", fn := fun _ => fun
  | [d] => { results := [.lit (.bool true)], args := [d] }
  | _ => none }
def fnRawSetStringScriptMatchesMapModelRow : OpenClaim := { program := "ytpbeecbijlhocaa", sum := "fe8873fbc4a572fb9908cadc07f796844cbbaf0d79b7aff27db344ebf090d1d0", func := "github.com/yuin/gopher-lua/n005_156.FnRawSetStringScriptMatchesMapModel", spec := "fnRawSetStringScriptMatchesMapModel", apart := false }
def FnRawSetStringScriptMatchesMapModelSaid : Prop := fnRawSetStringScriptMatchesMapModelRow.holds Try.pinned (OpenSpec.ofChange fnRawSetStringScriptMatchesMapModelSpec)

/-- ITS FALSE NEIGHBOUR: 'it returns false'. Refute it at one input. -/
def fnRawSetStringScriptMatchesMapModelWrong : ChangeSpec := { name := "fnRawSetStringScriptMatchesMapModel", fn := fun _ => fun
  | [d] => { results := [.lit (.bool false)], args := [d] }
  | _ => none }
def FnRawSetStringScriptMatchesMapModelWrongFalsely : Prop := fnRawSetStringScriptMatchesMapModelRow.holds Try.pinned (OpenSpec.ofChange fnRawSetStringScriptMatchesMapModelWrong)

/-- 'n005_156.FnRemoveMatchesListModel': WHATEVER THE INPUT: true; the input reads as it did. -/
def fnRemoveMatchesListModelSpec : ChangeSpec := { name := "fnRemoveMatchesListModel", fn := fun _ => fun
  | [d1, d2] => { results := [.lit (.bool true)], args := [d1, d2] }
  | _ => none }
def fnRemoveMatchesListModelRow : OpenClaim := { program := "ytpbeecbijlhocaa", sum := "fe8873fbc4a572fb9908cadc07f796844cbbaf0d79b7aff27db344ebf090d1d0", func := "github.com/yuin/gopher-lua/n005_156.FnRemoveMatchesListModel", spec := "fnRemoveMatchesListModel", apart := false }
def FnRemoveMatchesListModelSaid : Prop := fnRemoveMatchesListModelRow.holds Try.pinned (OpenSpec.ofChange fnRemoveMatchesListModelSpec)

/-- ITS FALSE NEIGHBOUR: 'it returns false'. Refute it at one input. -/
def fnRemoveMatchesListModelWrong : ChangeSpec := { name := "fnRemoveMatchesListModel", fn := fun _ => fun
  | [d1, d2] => { results := [.lit (.bool false)], args := [d1, d2] }
  | _ => none }
def FnRemoveMatchesListModelWrongFalsely : Prop := fnRemoveMatchesListModelRow.holds Try.pinned (OpenSpec.ofChange fnRemoveMatchesListModelWrong)

/-- 'n005_156.FnRawSetNumberAgreesWithRawSetInt': WHATEVER THE INPUT: true; the input reads as it did. -/
def fnRawSetNumberAgreesWithRawSetIntSpec : ChangeSpec := { name := "fnRawSetNumberAgreesWithRawSetInt", fn := fun _ => fun
  | [d] => { results := [.lit (.bool true)], args := [d] }
  | _ => none }
def fnRawSetNumberAgreesWithRawSetIntRow : OpenClaim := { program := "ytpbeecbijlhocaa", sum := "fe8873fbc4a572fb9908cadc07f796844cbbaf0d79b7aff27db344ebf090d1d0", func := "github.com/yuin/gopher-lua/n005_156.FnRawSetNumberAgreesWithRawSetInt", spec := "fnRawSetNumberAgreesWithRawSetInt", apart := false }
def FnRawSetNumberAgreesWithRawSetIntSaid : Prop := fnRawSetNumberAgreesWithRawSetIntRow.holds Try.pinned (OpenSpec.ofChange fnRawSetNumberAgreesWithRawSetIntSpec)

/-- ITS FALSE NEIGHBOUR: 'it returns false'. Refute it at one input. -/
def fnRawSetNumberAgreesWithRawSetIntWrong : ChangeSpec := { name := "fnRawSetNumberAgreesWithRawSetInt", fn := fun _ => fun
  | [d] => { results := [.lit (.bool false)], args := [d] }
  | _ => none }
def FnRawSetNumberAgreesWithRawSetIntWrongFalsely : Prop := fnRawSetNumberAgreesWithRawSetIntRow.holds Try.pinned (OpenSpec.ofChange fnRawSetNumberAgreesWithRawSetIntWrong)

/-- 'n005_156.FnRawSetStringLeavesArrayAndAgreesWithRawSet': WHATEVER THE INPUT: true; the input reads as it did. -/
def fnRawSetStringLeavesArrayAndAgreesWithRawSetSpec : ChangeSpec := { name := "fnRawSetStringLeavesArrayAndAgreesWithRawSet", fn := fun _ => fun
  | [d1, d2] => { results := [.lit (.bool true)], args := [d1, d2] }
  | _ => none }
def fnRawSetStringLeavesArrayAndAgreesWithRawSetRow : OpenClaim := { program := "ytpbeecbijlhocaa", sum := "fe8873fbc4a572fb9908cadc07f796844cbbaf0d79b7aff27db344ebf090d1d0", func := "github.com/yuin/gopher-lua/n005_156.FnRawSetStringLeavesArrayAndAgreesWithRawSet", spec := "fnRawSetStringLeavesArrayAndAgreesWithRawSet", apart := false }
def FnRawSetStringLeavesArrayAndAgreesWithRawSetSaid : Prop := fnRawSetStringLeavesArrayAndAgreesWithRawSetRow.holds Try.pinned (OpenSpec.ofChange fnRawSetStringLeavesArrayAndAgreesWithRawSetSpec)

/-- ITS FALSE NEIGHBOUR: 'it returns false'. Refute it at one input. -/
def fnRawSetStringLeavesArrayAndAgreesWithRawSetWrong : ChangeSpec := { name := "fnRawSetStringLeavesArrayAndAgreesWithRawSet", fn := fun _ => fun
  | [d1, d2] => { results := [.lit (.bool false)], args := [d1, d2] }
  | _ => none }
def FnRawSetStringLeavesArrayAndAgreesWithRawSetWrongFalsely : Prop := fnRawSetStringLeavesArrayAndAgreesWithRawSetRow.holds Try.pinned (OpenSpec.ofChange fnRawSetStringLeavesArrayAndAgreesWithRawSetWrong)

/- THE SECOND FORM. 'bulk': how many values and letters a reading holds, each counted each time it is reached (what is shared counts as often as it is met; a slice's spare places count too). A statement '..UptoSaid' is the law's where the arguments, and the package variables that the reading takes, are together of bulk at most 1048576: NARROWER than '..Said'. Prove '..Said' where nothing that the law and all that it calls make is longer than what came in: it says more and counts as full. Else prove '..UptoSaid'. A law counts once. -/
mutual
def uptoBulk {H : Type} : DataW H → Nat
  | .lit (.string bytes) => bytes.length + 1
  | .lit _ => 1
  | .nil => 1
  | .ptr d => uptoBulk d + 1
  | .slice elems spare => uptoBulkAll elems + uptoBulkAll spare + 1
  | .agg parts => uptoBulkAll parts + 1
  | .iface _ d => uptoBulk d + 1
  | .map entries => uptoBulkEntries entries + 1
  | .held _ => 1
def uptoBulkAll {H : Type} : List (DataW H) → Nat
  | [] => 0
  | d :: r => uptoBulk d + uptoBulkAll r
def uptoBulkEntries {H : Type} : List (Lit × DataW H) → Nat
  | [] => 0
  | x :: r => uptoBulkEntry x + uptoBulkEntries r
def uptoBulkEntry {H : Type} : Lit × DataW H → Nat
  | (.string bytes, d) => bytes.length + uptoBulk d + 1
  | (_, d) => uptoBulk d + 1
 end
def uptoSmall : (H : Type) → List (DataW H) → Bool := fun _ ds => decide (uptoBulkAll ds ≤ 1048576)
def OpenSpec.upto (s : _root_.Go.ChangeSpec) : _root_.Go.OpenSpec := { _root_.Go.OpenSpec.ofChange s with cond := some uptoSmall }

/-- 'n005_156.FnRawSetScriptMatchesMapModel', WHERE WHAT IT READS IS OF BULK AT MOST 1048576: true; the input reads as it did. -/
def fnRawSetScriptMatchesMapModelUptoRow : OpenClaim := { program := "ytpbeecbijlhocaa", sum := "fe8873fbc4a572fb9908cadc07f796844cbbaf0d79b7aff27db344ebf090d1d0", func := "github.com/yuin/gopher-lua/n005_156.FnRawSetScriptMatchesMapModel", spec := "fnRawSetScriptMatchesMapModel", apart := false, narrowed := true }
def FnRawSetScriptMatchesMapModelUptoSaid : Prop := fnRawSetScriptMatchesMapModelUptoRow.holds Try.pinned (OpenSpec.upto fnRawSetScriptMatchesMapModelSpec)

/-- 'n005_156.FnRemoveThenInsertRestores', WHERE WHAT IT READS IS OF BULK AT MOST 1048576: true; the input reads as it did. -/
def fnRemoveThenInsertRestoresUptoRow : OpenClaim := { program := "ytpbeecbijlhocaa", sum := "fe8873fbc4a572fb9908cadc07f796844cbbaf0d79b7aff27db344ebf090d1d0", func := "github.com/yuin/gopher-lua/n005_156.FnRemoveThenInsertRestores", spec := "fnRemoveThenInsertRestores", apart := false, narrowed := true }
def FnRemoveThenInsertRestoresUptoSaid : Prop := fnRemoveThenInsertRestoresUptoRow.holds Try.pinned (OpenSpec.upto fnRemoveThenInsertRestoresSpec)

/-- 'n005_156.FnRawSetIntTopDownEqualsAppend', WHERE WHAT IT READS IS OF BULK AT MOST 1048576: true; the input reads as it did. -/
def fnRawSetIntTopDownEqualsAppendUptoRow : OpenClaim := { program := "ytpbeecbijlhocaa", sum := "fe8873fbc4a572fb9908cadc07f796844cbbaf0d79b7aff27db344ebf090d1d0", func := "github.com/yuin/gopher-lua/n005_156.FnRawSetIntTopDownEqualsAppend", spec := "fnRawSetIntTopDownEqualsAppend", apart := false, narrowed := true }
def FnRawSetIntTopDownEqualsAppendUptoSaid : Prop := fnRawSetIntTopDownEqualsAppendUptoRow.holds Try.pinned (OpenSpec.upto fnRawSetIntTopDownEqualsAppendSpec)

/-- 'n005_156.FnRawSetStringScriptMatchesMapModel', WHERE WHAT IT READS IS OF BULK AT MOST 1048576: true; the input reads as it did. -/
def fnRawSetStringScriptMatchesMapModelUptoRow : OpenClaim := { program := "ytpbeecbijlhocaa", sum := "fe8873fbc4a572fb9908cadc07f796844cbbaf0d79b7aff27db344ebf090d1d0", func := "github.com/yuin/gopher-lua/n005_156.FnRawSetStringScriptMatchesMapModel", spec := "fnRawSetStringScriptMatchesMapModel", apart := false, narrowed := true }
def FnRawSetStringScriptMatchesMapModelUptoSaid : Prop := fnRawSetStringScriptMatchesMapModelUptoRow.holds Try.pinned (OpenSpec.upto fnRawSetStringScriptMatchesMapModelSpec)

/-- 'n005_156.FnRemoveMatchesListModel', WHERE WHAT IT READS IS OF BULK AT MOST 1048576: true; the input reads as it did. -/
def fnRemoveMatchesListModelUptoRow : OpenClaim := { program := "ytpbeecbijlhocaa", sum := "fe8873fbc4a572fb9908cadc07f796844cbbaf0d79b7aff27db344ebf090d1d0", func := "github.com/yuin/gopher-lua/n005_156.FnRemoveMatchesListModel", spec := "fnRemoveMatchesListModel", apart := false, narrowed := true }
def FnRemoveMatchesListModelUptoSaid : Prop := fnRemoveMatchesListModelUptoRow.holds Try.pinned (OpenSpec.upto fnRemoveMatchesListModelSpec)

/-- 'n005_156.FnRawSetNumberAgreesWithRawSetInt', WHERE WHAT IT READS IS OF BULK AT MOST 1048576: true; the input reads as it did. -/
def fnRawSetNumberAgreesWithRawSetIntUptoRow : OpenClaim := { program := "ytpbeecbijlhocaa", sum := "fe8873fbc4a572fb9908cadc07f796844cbbaf0d79b7aff27db344ebf090d1d0", func := "github.com/yuin/gopher-lua/n005_156.FnRawSetNumberAgreesWithRawSetInt", spec := "fnRawSetNumberAgreesWithRawSetInt", apart := false, narrowed := true }
def FnRawSetNumberAgreesWithRawSetIntUptoSaid : Prop := fnRawSetNumberAgreesWithRawSetIntUptoRow.holds Try.pinned (OpenSpec.upto fnRawSetNumberAgreesWithRawSetIntSpec)

/-- 'n005_156.FnRawSetStringLeavesArrayAndAgreesWithRawSet', WHERE WHAT IT READS IS OF BULK AT MOST 1048576: true; the input reads as it did. -/
def fnRawSetStringLeavesArrayAndAgreesWithRawSetUptoRow : OpenClaim := { program := "ytpbeecbijlhocaa", sum := "fe8873fbc4a572fb9908cadc07f796844cbbaf0d79b7aff27db344ebf090d1d0", func := "github.com/yuin/gopher-lua/n005_156.FnRawSetStringLeavesArrayAndAgreesWithRawSet", spec := "fnRawSetStringLeavesArrayAndAgreesWithRawSet", apart := false, narrowed := true }
def FnRawSetStringLeavesArrayAndAgreesWithRawSetUptoSaid : Prop := fnRawSetStringLeavesArrayAndAgreesWithRawSetUptoRow.holds Try.pinned (OpenSpec.upto fnRawSetStringLeavesArrayAndAgreesWithRawSetSpec)

end Rows
end Go.Proofs.Ytpbeecbijlhocaa
