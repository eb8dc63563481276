/-
  No cell of these rows narrows 'for every input' (looked for: loops, veiled, ifaces, maps, wideKeys, modest, calm, conditions, laid).
  DERIVED. THE GIVEN ROWS OF THIS SEAT. 10 by the template 'for every input the law returns true; each argument reads behind the call as it read before'; 0 by the template 'total and deterministic' (their statements: YtcnjdmbcofodnaaTotals.lean).
  GIVEN WITH THE SEED: the statements are not yours to turn. If you find one false, say at which input.
  Laid BY PROGRAM, IN A SANDBOX (cutbox-rows.mjs): the forced cells as the released guide's own fill.sh prints them over the translation 098de5b6a4396cb4… (all of the seat's roots in one cut). By AI agents, Wed Nov 11 2026. No macro, syntax, notation, axiom, sorry.
-/
import Derived.Test.YtcnjdmbcofodnaaChecked
import GoSem.Claim
import GoSem.ClaimJoined
import GoSem.ClaimMapViews
import Derived.JoinedTies
import Derived.KernelRfl
namespace Go.Proofs.Ytcnjdmbcofodnaa
/- THE CELL 'sum', in the pinned program and in every row, IS THE sha256 OF THE DUMP (.gsa) THAT YtcnjdmbcofodnaaProg.lean LOADS. Nothing in Lean hashes anything: it is a label: what it is worth is what the hold of that sum in a sandbox is worth. -/
noncomputable def Try.pinned : Pinned := { name := "ytcnjdmbcofodnaa", sum := "098de5b6a4396cb4597dbf10d041f5760137f3380524986062a522b68cb4573a", checked := Try.checked }
namespace Rows
def none {H : Type} : Left H := { results := [], args := [] }

/-- 'n005_73.FnLenAgreesWithMaxN': WHATEVER THE INPUT: true; the input reads as it did. -/
def fnLenAgreesWithMaxNSpec : ChangeSpec := { name := "fnLenAgreesWithMaxN", fn := fun _ => fun
  | [d1, d2, d3] => { results := [.lit (.bool true)], args := [d1, d2, d3] }
  | _ => none }
def fnLenAgreesWithMaxNRow : OpenClaim := { program := "ytcnjdmbcofodnaa", sum := "098de5b6a4396cb4597dbf10d041f5760137f3380524986062a522b68cb4573a", func := "github.com/yuin/gopher-lua/n005_73.FnLenAgreesWithMaxN", spec := "fnLenAgreesWithMaxN", apart := false }
def FnLenAgreesWithMaxNSaid : Prop := fnLenAgreesWithMaxNRow.holds Try.pinned (OpenSpec.ofChange fnLenAgreesWithMaxNSpec)

/-- ITS FALSE NEIGHBOUR: 'it returns false'. Refute it at one input. -/
def fnLenAgreesWithMaxNWrong : ChangeSpec := { name := "fnLenAgreesWithMaxN", fn := fun _ => fun
  | [d1, d2, d3] => { results := [.lit (.bool false)], args := [d1, d2, d3] }
  | _ => none }
def FnLenAgreesWithMaxNWrongFalsely : Prop := fnLenAgreesWithMaxNRow.holds Try.pinned (OpenSpec.ofChange fnLenAgreesWithMaxNWrong)

/-- 'n005_73.FnLenEqualsModelBorder': WHATEVER THE INPUT: true; the input reads as it did. -/
def fnLenEqualsModelBorderSpec : ChangeSpec := { name := "fnLenEqualsModelBorder", fn := fun _ => fun
  | [d1, d2, d3] => { results := [.lit (.bool true)], args := [d1, d2, d3] }
  | _ => none }
def fnLenEqualsModelBorderRow : OpenClaim := { program := "ytcnjdmbcofodnaa", sum := "098de5b6a4396cb4597dbf10d041f5760137f3380524986062a522b68cb4573a", func := "github.com/yuin/gopher-lua/n005_73.FnLenEqualsModelBorder", spec := "fnLenEqualsModelBorder", apart := false }
def FnLenEqualsModelBorderSaid : Prop := fnLenEqualsModelBorderRow.holds Try.pinned (OpenSpec.ofChange fnLenEqualsModelBorderSpec)

/-- ITS FALSE NEIGHBOUR: 'it returns false'. Refute it at one input. -/
def fnLenEqualsModelBorderWrong : ChangeSpec := { name := "fnLenEqualsModelBorder", fn := fun _ => fun
  | [d1, d2, d3] => { results := [.lit (.bool false)], args := [d1, d2, d3] }
  | _ => none }
def FnLenEqualsModelBorderWrongFalsely : Prop := fnLenEqualsModelBorderRow.holds Try.pinned (OpenSpec.ofChange fnLenEqualsModelBorderWrong)

/-- 'n005_73.FnInsertMatchesListModel': WHATEVER THE INPUT: true; the input reads as it did. -/
def fnInsertMatchesListModelSpec : ChangeSpec := { name := "fnInsertMatchesListModel", fn := fun _ => fun
  | [d1, d2, d3] => { results := [.lit (.bool true)], args := [d1, d2, d3] }
  | _ => none }
def fnInsertMatchesListModelRow : OpenClaim := { program := "ytcnjdmbcofodnaa", sum := "098de5b6a4396cb4597dbf10d041f5760137f3380524986062a522b68cb4573a", func := "github.com/yuin/gopher-lua/n005_73.FnInsertMatchesListModel", spec := "fnInsertMatchesListModel", apart := false }
def FnInsertMatchesListModelSaid : Prop := fnInsertMatchesListModelRow.holds Try.pinned (OpenSpec.ofChange fnInsertMatchesListModelSpec)

/-- ITS FALSE NEIGHBOUR: 'it returns false'. Refute it at one input. -/
def fnInsertMatchesListModelWrong : ChangeSpec := { name := "fnInsertMatchesListModel", fn := fun _ => fun
  | [d1, d2, d3] => { results := [.lit (.bool false)], args := [d1, d2, d3] }
  | _ => none }
def FnInsertMatchesListModelWrongFalsely : Prop := fnInsertMatchesListModelRow.holds Try.pinned (OpenSpec.ofChange fnInsertMatchesListModelWrong)

/-- 'n005_73.FnMaxNIsLastNonNilSlot': WHATEVER THE INPUT: true; the input reads as it did. -/
def fnMaxNIsLastNonNilSlotSpec : ChangeSpec := { name := "fnMaxNIsLastNonNilSlot", fn := fun _ => fun
  | [d1, d2, d3] => { results := [.lit (.bool true)], args := [d1, d2, d3] }
  | _ => none }
def fnMaxNIsLastNonNilSlotRow : OpenClaim := { program := "ytcnjdmbcofodnaa", sum := "098de5b6a4396cb4597dbf10d041f5760137f3380524986062a522b68cb4573a", func := "github.com/yuin/gopher-lua/n005_73.FnMaxNIsLastNonNilSlot", spec := "fnMaxNIsLastNonNilSlot", apart := false }
def FnMaxNIsLastNonNilSlotSaid : Prop := fnMaxNIsLastNonNilSlotRow.holds Try.pinned (OpenSpec.ofChange fnMaxNIsLastNonNilSlotSpec)

/-- ITS FALSE NEIGHBOUR: 'it returns false'. Refute it at one input. -/
def fnMaxNIsLastNonNilSlotWrong : ChangeSpec := { name := "fnMaxNIsLastNonNilSlot", fn := fun _ => fun
  | [d1, d2, d3] => { results := [.lit (.bool false)], args := [d1, d2, d3] }
  | _ => none }
def FnMaxNIsLastNonNilSlotWrongFalsely : Prop := fnMaxNIsLastNonNilSlotRow.holds Try.pinned (OpenSpec.ofChange fnMaxNIsLastNonNilSlotWrong)

/-- 'n005_73.FnAppendWritesAtMaxNPlusOne': WHATEVER THE INPUT: true; the input reads as it did. -/
def fnAppendWritesAtMaxNPlusOneSpec : ChangeSpec := { name := "fnAppendWritesAtMaxNPlusOne", fn := fun _ => fun
  | [d1, d2, d3, d4] => { results := [.lit (.bool true)], args := [d1, d2, d3, d4] }
  | _ => none }
def fnAppendWritesAtMaxNPlusOneRow : OpenClaim := { program := "ytcnjdmbcofodnaa", sum := "098de5b6a4396cb4597dbf10d041f5760137f3380524986062a522b68cb4573a", func := "github.com/yuin/gopher-lua/n005_73.FnAppendWritesAtMaxNPlusOne", spec := "fnAppendWritesAtMaxNPlusOne", apart := false }
def FnAppendWritesAtMaxNPlusOneSaid : Prop := fnAppendWritesAtMaxNPlusOneRow.holds Try.pinned (OpenSpec.ofChange fnAppendWritesAtMaxNPlusOneSpec)

/-- ITS FALSE NEIGHBOUR: 'it returns false'. Refute it at one input. -/
def fnAppendWritesAtMaxNPlusOneWrong : ChangeSpec := { name := "fnAppendWritesAtMaxNPlusOne", fn := fun _ => fun
  | [d1, d2, d3, d4] => { results := [.lit (.bool false)], args := [d1, d2, d3, d4] }
  | _ => none }
def FnAppendWritesAtMaxNPlusOneWrongFalsely : Prop := fnAppendWritesAtMaxNPlusOneRow.holds Try.pinned (OpenSpec.ofChange fnAppendWritesAtMaxNPlusOneWrong)

/-- 'n005_73.FnAppendThenRemoveRestores': WHATEVER THE INPUT: true; the input reads as it did. -/
def fnAppendThenRemoveRestoresSpec : ChangeSpec := { name := "fnAppendThenRemoveRestores", fn := fun _ => fun
  | [d1, d2, d3, d4] => { results := [.lit (.bool true)], args := [d1, d2, d3, d4] }
  | _ => none }
def fnAppendThenRemoveRestoresRow : OpenClaim := { program := "ytcnjdmbcofodnaa", sum := "098de5b6a4396cb4597dbf10d041f5760137f3380524986062a522b68cb4573a", func := "github.com/yuin/gopher-lua/n005_73.FnAppendThenRemoveRestores", spec := "fnAppendThenRemoveRestores", apart := false }
def FnAppendThenRemoveRestoresSaid : Prop := fnAppendThenRemoveRestoresRow.holds Try.pinned (OpenSpec.ofChange fnAppendThenRemoveRestoresSpec)

/-- ITS FALSE NEIGHBOUR: 'it returns false'. Refute it at one input. -/
def fnAppendThenRemoveRestoresWrong : ChangeSpec := { name := "fnAppendThenRemoveRestores", fn := fun _ => fun
  | [d1, d2, d3, d4] => { results := [.lit (.bool false)], args := [d1, d2, d3, d4] }
  | _ => none }
def FnAppendThenRemoveRestoresWrongFalsely : Prop := fnAppendThenRemoveRestoresRow.holds Try.pinned (OpenSpec.ofChange fnAppendThenRemoveRestoresWrong)

/-- 'n005_61.FnNewLTableCapacityIsOnlyAHint': WHATEVER THE INPUT: true; the input reads as it did. -/
def fnNewLTableCapacityIsOnlyAHintSpec : ChangeSpec := { name := "fnNewLTableCapacityIsOnlyAHint", fn := fun _ => fun
  | [d1, d2, d3, d4] => { results := [.lit (.bool true)], args := [d1, d2, d3, d4] }
  | _ => none }
def fnNewLTableCapacityIsOnlyAHintRow : OpenClaim := { program := "ytcnjdmbcofodnaa", sum := "098de5b6a4396cb4597dbf10d041f5760137f3380524986062a522b68cb4573a", func := "github.com/yuin/gopher-lua/n005_61.FnNewLTableCapacityIsOnlyAHint", spec := "fnNewLTableCapacityIsOnlyAHint", apart := false }
def FnNewLTableCapacityIsOnlyAHintSaid : Prop := fnNewLTableCapacityIsOnlyAHintRow.holds Try.pinned (OpenSpec.ofChange fnNewLTableCapacityIsOnlyAHintSpec)

/-- ITS FALSE NEIGHBOUR: 'it returns false'. Refute it at one input. -/
def fnNewLTableCapacityIsOnlyAHintWrong : ChangeSpec := { name := "fnNewLTableCapacityIsOnlyAHint", fn := fun _ => fun
  | [d1, d2, d3, d4] => { results := [.lit (.bool false)], args := [d1, d2, d3, d4] }
  | _ => none }
def FnNewLTableCapacityIsOnlyAHintWrongFalsely : Prop := fnNewLTableCapacityIsOnlyAHintRow.holds Try.pinned (OpenSpec.ofChange fnNewLTableCapacityIsOnlyAHintWrong)

/-- 'n005_61.FnNewLTableFreshState': WHATEVER THE INPUT: true; the input reads as it did. -/
def fnNewLTableFreshStateSpec : ChangeSpec := { name := "fnNewLTableFreshState", fn := fun _ => fun
  | [d1, d2] => { results := [.lit (.bool true)], args := [d1, d2] }
  | _ => none }
def fnNewLTableFreshStateRow : OpenClaim := { program := "ytcnjdmbcofodnaa", sum := "098de5b6a4396cb4597dbf10d041f5760137f3380524986062a522b68cb4573a", func := "github.com/yuin/gopher-lua/n005_61.FnNewLTableFreshState", spec := "fnNewLTableFreshState", apart := false }
def FnNewLTableFreshStateSaid : Prop := fnNewLTableFreshStateRow.holds Try.pinned (OpenSpec.ofChange fnNewLTableFreshStateSpec)

/-- ITS FALSE NEIGHBOUR: 'it returns false'. Refute it at one input. -/
def fnNewLTableFreshStateWrong : ChangeSpec := { name := "fnNewLTableFreshState", fn := fun _ => fun
  | [d1, d2] => { results := [.lit (.bool false)], args := [d1, d2] }
  | _ => none }
def FnNewLTableFreshStateWrongFalsely : Prop := fnNewLTableFreshStateRow.holds Try.pinned (OpenSpec.ofChange fnNewLTableFreshStateWrong)

/-- 'n005_73.FnInsertThenRemoveRestores': WHATEVER THE INPUT: true; the input reads as it did. -/
def fnInsertThenRemoveRestoresSpec : ChangeSpec := { name := "fnInsertThenRemoveRestores", fn := fun _ => fun
  | [d1, d2, d3, d4, d5] => { results := [.lit (.bool true)], args := [d1, d2, d3, d4, d5] }
  | _ => none }
def fnInsertThenRemoveRestoresRow : OpenClaim := { program := "ytcnjdmbcofodnaa", sum := "098de5b6a4396cb4597dbf10d041f5760137f3380524986062a522b68cb4573a", func := "github.com/yuin/gopher-lua/n005_73.FnInsertThenRemoveRestores", spec := "fnInsertThenRemoveRestores", apart := false }
def FnInsertThenRemoveRestoresSaid : Prop := fnInsertThenRemoveRestoresRow.holds Try.pinned (OpenSpec.ofChange fnInsertThenRemoveRestoresSpec)

/-- ITS FALSE NEIGHBOUR: 'it returns false'. Refute it at one input. -/
def fnInsertThenRemoveRestoresWrong : ChangeSpec := { name := "fnInsertThenRemoveRestores", fn := fun _ => fun
  | [d1, d2, d3, d4, d5] => { results := [.lit (.bool false)], args := [d1, d2, d3, d4, d5] }
  | _ => none }
def FnInsertThenRemoveRestoresWrongFalsely : Prop := fnInsertThenRemoveRestoresRow.holds Try.pinned (OpenSpec.ofChange fnInsertThenRemoveRestoresWrong)

/-- 'n005_73.FnMaxNAfterInsertClosedForm': WHATEVER THE INPUT: true; the input reads as it did. -/
def fnMaxNAfterInsertClosedFormSpec : ChangeSpec := { name := "fnMaxNAfterInsertClosedForm", fn := fun _ => fun
  | [d1, d2, d3, d4, d5] => { results := [.lit (.bool true)], args := [d1, d2, d3, d4, d5] }
  | _ => none }
def fnMaxNAfterInsertClosedFormRow : OpenClaim := { program := "ytcnjdmbcofodnaa", sum := "098de5b6a4396cb4597dbf10d041f5760137f3380524986062a522b68cb4573a", func := "github.com/yuin/gopher-lua/n005_73.FnMaxNAfterInsertClosedForm", spec := "fnMaxNAfterInsertClosedForm", apart := false }
def FnMaxNAfterInsertClosedFormSaid : Prop := fnMaxNAfterInsertClosedFormRow.holds Try.pinned (OpenSpec.ofChange fnMaxNAfterInsertClosedFormSpec)

/-- ITS FALSE NEIGHBOUR: 'it returns false'. Refute it at one input. -/
def fnMaxNAfterInsertClosedFormWrong : ChangeSpec := { name := "fnMaxNAfterInsertClosedForm", fn := fun _ => fun
  | [d1, d2, d3, d4, d5] => { results := [.lit (.bool false)], args := [d1, d2, d3, d4, d5] }
  | _ => none }
def FnMaxNAfterInsertClosedFormWrongFalsely : Prop := fnMaxNAfterInsertClosedFormRow.holds Try.pinned (OpenSpec.ofChange fnMaxNAfterInsertClosedFormWrong)

/- THE SECOND FORM. 'bulk': how many values and letters a reading holds, each counted each time it is reached (what is shared counts as often as it is met; a slice's spare places count too). A statement '..UptoSaid' is the law's where the arguments, and the package variables that the reading takes, are together of bulk at most 1048576: NARROWER than '..Said'. Prove '..Said' where nothing that the law and all that it calls make is longer than what came in: it says more and counts as full. Else prove '..UptoSaid'. A law counts once. -/
mutual
def uptoBulk {H : Type} : DataW H → Nat
  | .lit (.string bytes) => bytes.length + 1
  | .lit _ => 1
  | .nil => 1
  | .ptr d => uptoBulk d + 1
  | .slice elems spare => uptoBulkAll elems + uptoBulkAll spare + 1
  | .agg parts => uptoBulkAll parts + 1
  | .iface _ d => uptoBulk d + 1
  | .map entries => uptoBulkEntries entries + 1
  | .held _ => 1
def uptoBulkAll {H : Type} : List (DataW H) → Nat
  | [] => 0
  | d :: r => uptoBulk d + uptoBulkAll r
def uptoBulkEntries {H : Type} : List (Lit × DataW H) → Nat
  | [] => 0
  | x :: r => uptoBulkEntry x + uptoBulkEntries r
def uptoBulkEntry {H : Type} : Lit × DataW H → Nat
  | (.string bytes, d) => bytes.length + uptoBulk d + 1
  | (_, d) => uptoBulk d + 1
 end
def uptoSmall : (H : Type) → List (DataW H) → Bool := fun _ ds => decide (uptoBulkAll ds ≤ 1048576)
def OpenSpec.upto (s : _root_.Go.ChangeSpec) : _root_.Go.OpenSpec := { _root_.Go.OpenSpec.ofChange s with cond := some uptoSmall }

/-- 'n005_73.FnLenAgreesWithMaxN', WHERE WHAT IT READS IS OF BULK AT MOST 1048576: true; the input reads as it did. -/
def fnLenAgreesWithMaxNUptoRow : OpenClaim := { program := "ytcnjdmbcofodnaa", sum := "098de5b6a4396cb4597dbf10d041f5760137f3380524986062a522b68cb4573a", func := "github.com/yuin/gopher-lua/n005_73.FnLenAgreesWithMaxN", spec := "fnLenAgreesWithMaxN", apart := false, narrowed := true }
def FnLenAgreesWithMaxNUptoSaid : Prop := fnLenAgreesWithMaxNUptoRow.holds Try.pinned (OpenSpec.upto fnLenAgreesWithMaxNSpec)

/-- 'n005_73.FnLenEqualsModelBorder', WHERE WHAT IT READS IS OF BULK AT MOST 1048576: true; the input reads as it did. -/
def fnLenEqualsModelBorderUptoRow : OpenClaim := { program := "ytcnjdmbcofodnaa", sum := "098de5b6a4396cb4597dbf10d041f5760137f3380524986062a522b68cb4573a", func := "github.com/yuin/gopher-lua/n005_73.FnLenEqualsModelBorder", spec := "fnLenEqualsModelBorder", apart := false, narrowed := true }
def FnLenEqualsModelBorderUptoSaid : Prop := fnLenEqualsModelBorderUptoRow.holds Try.pinned (OpenSpec.upto fnLenEqualsModelBorderSpec)

/-- 'n005_73.FnInsertMatchesListModel', WHERE WHAT IT READS IS OF BULK AT MOST 1048576: true; the input reads as it did. -/
def fnInsertMatchesListModelUptoRow : OpenClaim := { program := "ytcnjdmbcofodnaa", sum := "098de5b6a4396cb4597dbf10d041f5760137f3380524986062a522b68cb4573a", func := "github.com/yuin/gopher-lua/n005_73.FnInsertMatchesListModel", spec := "fnInsertMatchesListModel", apart := false, narrowed := true }
def FnInsertMatchesListModelUptoSaid : Prop := fnInsertMatchesListModelUptoRow.holds Try.pinned (OpenSpec.upto fnInsertMatchesListModelSpec)

/-- 'n005_73.FnMaxNIsLastNonNilSlot', WHERE WHAT IT READS IS OF BULK AT MOST 1048576: true; the input reads as it did. -/
def fnMaxNIsLastNonNilSlotUptoRow : OpenClaim := { program := "ytcnjdmbcofodnaa", sum := "098de5b6a4396cb4597dbf10d041f5760137f3380524986062a522b68cb4573a", func := "github.com/yuin/gopher-lua/n005_73.FnMaxNIsLastNonNilSlot", spec := "fnMaxNIsLastNonNilSlot", apart := false, narrowed := true }
def FnMaxNIsLastNonNilSlotUptoSaid : Prop := fnMaxNIsLastNonNilSlotUptoRow.holds Try.pinned (OpenSpec.upto fnMaxNIsLastNonNilSlotSpec)

/-- 'n005_73.FnAppendWritesAtMaxNPlusOne', WHERE WHAT IT READS IS OF BULK AT MOST 1048576: true; the input reads as it did. -/
def fnAppendWritesAtMaxNPlusOneUptoRow : OpenClaim := { program := "ytcnjdmbcofodnaa", sum := "098de5b6a4396cb4597dbf10d041f5760137f3380524986062a522b68cb4573a", func := "github.com/yuin/gopher-lua/n005_73.FnAppendWritesAtMaxNPlusOne", spec := "fnAppendWritesAtMaxNPlusOne", apart := false, narrowed := true }
def FnAppendWritesAtMaxNPlusOneUptoSaid : Prop := fnAppendWritesAtMaxNPlusOneUptoRow.holds Try.pinned (OpenSpec.upto fnAppendWritesAtMaxNPlusOneSpec)

/-- 'n005_73.FnAppendThenRemoveRestores', WHERE WHAT IT READS IS OF BULK AT MOST 1048576: true; the input reads as it did. -/
def fnAppendThenRemoveRestoresUptoRow : OpenClaim := { program := "ytcnjdmbcofodnaa", sum := "098de5b6a4396cb4597dbf10d041f5760137f3380524986062a522b68cb4573a", func := "github.com/yuin/gopher-lua/n005_73.FnAppendThenRemoveRestores", spec := "fnAppendThenRemoveRestores", apart := false, narrowed := true }
def FnAppendThenRemoveRestoresUptoSaid : Prop := fnAppendThenRemoveRestoresUptoRow.holds Try.pinned (OpenSpec.upto fnAppendThenRemoveRestoresSpec)

/-- 'n005_61.FnNewLTableCapacityIsOnlyAHint', WHERE WHAT IT READS IS OF BULK AT MOST 1048576: true; the input reads as it did. -/
def fnNewLTableCapacityIsOnlyAHintUptoRow : OpenClaim := { program := "ytcnjdmbcofodnaa", sum := "098de5b6a4396cb4597dbf10d041f5760137f3380524986062a522b68cb4573a", func := "github.com/yuin/gopher-lua/n005_61.FnNewLTableCapacityIsOnlyAHint", spec := "fnNewLTableCapacityIsOnlyAHint", apart := false, narrowed := true }
def FnNewLTableCapacityIsOnlyAHintUptoSaid : Prop := fnNewLTableCapacityIsOnlyAHintUptoRow.holds Try.pinned (OpenSpec.upto fnNewLTableCapacityIsOnlyAHintSpec)

/-- 'n005_61.FnNewLTableFreshState', WHERE WHAT IT READS IS OF BULK AT MOST 1048576: true; the input reads as it did. -/
def fnNewLTableFreshStateUptoRow : OpenClaim := { program := "ytcnjdmbcofodnaa", sum := "098de5b6a4396cb4597dbf10d041f5760137f3380524986062a522b68cb4573a", func := "github.com/yuin/gopher-lua/n005_61.FnNewLTableFreshState", spec := "fnNewLTableFreshState", apart := false, narrowed := true }
def FnNewLTableFreshStateUptoSaid : Prop := fnNewLTableFreshStateUptoRow.holds Try.pinned (OpenSpec.upto fnNewLTableFreshStateSpec)

/-- 'n005_73.FnInsertThenRemoveRestores', WHERE WHAT IT READS IS OF BULK AT MOST 1048576: true; the input reads as it did. -/
def fnInsertThenRemoveRestoresUptoRow : OpenClaim := { program := "ytcnjdmbcofodnaa", sum := "098de5b6a4396cb4597dbf10d041f5760137f3380524986062a522b68cb4573a", func := "github.com/yuin/gopher-lua/n005_73.FnInsertThenRemoveRestores", spec := "fnInsertThenRemoveRestores", apart := false, narrowed := true }
def FnInsertThenRemoveRestoresUptoSaid : Prop := fnInsertThenRemoveRestoresUptoRow.holds Try.pinned (OpenSpec.upto fnInsertThenRemoveRestoresSpec)

/-- 'n005_73.FnMaxNAfterInsertClosedForm', WHERE WHAT IT READS IS OF BULK AT MOST 1048576: true; the input reads as it did. -/
def fnMaxNAfterInsertClosedFormUptoRow : OpenClaim := { program := "ytcnjdmbcofodnaa", sum := "098de5b6a4396cb4597dbf10d041f5760137f3380524986062a522b68cb4573a", func := "github.com/yuin/gopher-lua/n005_73.FnMaxNAfterInsertClosedForm", spec := "fnMaxNAfterInsertClosedForm", apart := false, narrowed := true }
def FnMaxNAfterInsertClosedFormUptoSaid : Prop := fnMaxNAfterInsertClosedFormUptoRow.holds Try.pinned (OpenSpec.upto fnMaxNAfterInsertClosedFormSpec)

end Rows
end Go.Proofs.Ytcnjdmbcofodnaa
