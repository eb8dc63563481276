/-
  No cell of these rows narrows 'for every input' (looked for: loops, veiled, ifaces, maps, wideKeys, modest, calm, conditions, laid).
  DERIVED. THE GIVEN ROWS OF THIS SEAT. 5 by the template 'for every input the law returns true; each argument reads behind the call as it read before'; 0 by the template 'total and deterministic' (their statements: YtkkmahedfmiliaaTotals.lean).
  GIVEN WITH THE SEED: the statements are not yours to turn. If you find one false, say at which input.
  Laid BY PROGRAM, IN A SANDBOX (cutbox-rows.mjs): the forced cells as the released guide's own fill.sh prints them over the translation 706c0445067f9f13… (all of the seat's roots in one cut). By AI agents, Wed Nov 11 2026. No macro, syntax, notation, axiom, sorry.
-/
import Derived.Test.YtkkmahedfmiliaaChecked
import GoSem.Claim
import GoSem.ClaimJoined
import GoSem.ClaimMapViews
import Derived.JoinedTies
import Derived.KernelRfl
namespace Go.Proofs.Ytkkmahedfmiliaa
/- THE CELL 'sum', in the pinned program and in every row, IS THE sha256 OF THE DUMP (.gsa) THAT YtkkmahedfmiliaaProg.lean LOADS. Nothing in Lean hashes anything: it is a label: what it is worth is what the hold of that sum in a sandbox is worth. -/
noncomputable def Try.pinned : Pinned := { name := "ytkkmahedfmiliaa", sum := "706c0445067f9f1374aa7a26757efd61773bde39d51999672a4981ee124ce50f", checked := Try.checked }
namespace Rows
def none {H : Type} : Left H := { results := [], args := [] }

/-- 'n005_113.FnAsBoolIsNotIsFalse': WHATEVER THE INPUT: true; the input reads as it did. -/
def fnAsBoolIsNotIsFalseSpec : ChangeSpec := { name := "fnAsBoolIsNotIsFalse", fn := fun _ => fun
  | [d1, d2, d3, d4] => { results := [.lit (.bool true)], args := [d1, d2, d3, d4] }
  | _ => none }
def fnAsBoolIsNotIsFalseRow : OpenClaim := { program := "ytkkmahedfmiliaa", sum := "706c0445067f9f1374aa7a26757efd61773bde39d51999672a4981ee124ce50f", func := "github.com/yuin/gopher-lua/n005_113.FnAsBoolIsNotIsFalse", spec := "fnAsBoolIsNotIsFalse", apart := false }
def FnAsBoolIsNotIsFalseSaid : Prop := fnAsBoolIsNotIsFalseRow.holds Try.pinned (OpenSpec.ofChange fnAsBoolIsNotIsFalseSpec)

/-- ITS FALSE NEIGHBOUR: 'it returns false'. Refute it at one input. -/
def fnAsBoolIsNotIsFalseWrong : ChangeSpec := { name := "fnAsBoolIsNotIsFalse", fn := fun _ => fun
  | [d1, d2, d3, d4] => { results := [.lit (.bool false)], args := [d1, d2, d3, d4] }
  | _ => none }
def FnAsBoolIsNotIsFalseWrongFalsely : Prop := fnAsBoolIsNotIsFalseRow.holds Try.pinned (OpenSpec.ofChange fnAsBoolIsNotIsFalseWrong)

/-- 'n005_113.FnAsBoolTable': WHATEVER THE INPUT: true; the input reads as it did. -/
def fnAsBoolTableSpec : ChangeSpec := { name := "fnAsBoolTable", fn := fun _ => fun
  | [d1, d2, d3, d4] => { results := [.lit (.bool true)], args := [d1, d2, d3, d4] }
  | _ => none }
def fnAsBoolTableRow : OpenClaim := { program := "ytkkmahedfmiliaa", sum := "706c0445067f9f1374aa7a26757efd61773bde39d51999672a4981ee124ce50f", func := "github.com/yuin/gopher-lua/n005_113.FnAsBoolTable", spec := "fnAsBoolTable", apart := false }
def FnAsBoolTableSaid : Prop := fnAsBoolTableRow.holds Try.pinned (OpenSpec.ofChange fnAsBoolTableSpec)

/-- ITS FALSE NEIGHBOUR: 'it returns false'. Refute it at one input. -/
def fnAsBoolTableWrong : ChangeSpec := { name := "fnAsBoolTable", fn := fun _ => fun
  | [d1, d2, d3, d4] => { results := [.lit (.bool false)], args := [d1, d2, d3, d4] }
  | _ => none }
def FnAsBoolTableWrongFalsely : Prop := fnAsBoolTableRow.holds Try.pinned (OpenSpec.ofChange fnAsBoolTableWrong)

/-- 'n005_113.FnIsFalseTable': WHATEVER THE INPUT: true; the input reads as it did. -/
def fnIsFalseTableSpec : ChangeSpec := { name := "fnIsFalseTable", fn := fun _ => fun
  | [d1, d2, d3, d4] => { results := [.lit (.bool true)], args := [d1, d2, d3, d4] }
  | _ => none }
def fnIsFalseTableRow : OpenClaim := { program := "ytkkmahedfmiliaa", sum := "706c0445067f9f1374aa7a26757efd61773bde39d51999672a4981ee124ce50f", func := "github.com/yuin/gopher-lua/n005_113.FnIsFalseTable", spec := "fnIsFalseTable", apart := false }
def FnIsFalseTableSaid : Prop := fnIsFalseTableRow.holds Try.pinned (OpenSpec.ofChange fnIsFalseTableSpec)

/-- ITS FALSE NEIGHBOUR: 'it returns false'. Refute it at one input. -/
def fnIsFalseTableWrong : ChangeSpec := { name := "fnIsFalseTable", fn := fun _ => fun
  | [d1, d2, d3, d4] => { results := [.lit (.bool false)], args := [d1, d2, d3, d4] }
  | _ => none }
def FnIsFalseTableWrongFalsely : Prop := fnIsFalseTableRow.holds Try.pinned (OpenSpec.ofChange fnIsFalseTableWrong)

/-- 'n005_150.FnGetFEnvOfThreadAgreesWithEnvironIndex': WHATEVER THE INPUT: true; the input reads as it did. -/
def fnGetFEnvOfThreadAgreesWithEnvironIndexSpec : ChangeSpec := { name := "fnGetFEnvOfThreadAgreesWithEnvironIndex", fn := fun _ => fun
  | [d] => { results := [.lit (.bool true)], args := [d] }
  | _ => none }
def fnGetFEnvOfThreadAgreesWithEnvironIndexRow : OpenClaim := { program := "ytkkmahedfmiliaa", sum := "706c0445067f9f1374aa7a26757efd61773bde39d51999672a4981ee124ce50f", func := "github.com/yuin/gopher-lua/n005_150.FnGetFEnvOfThreadAgreesWithEnvironIndex", spec := "fnGetFEnvOfThreadAgreesWithEnvironIndex", apart := false }
def FnGetFEnvOfThreadAgreesWithEnvironIndexSaid : Prop := fnGetFEnvOfThreadAgreesWithEnvironIndexRow.holds Try.pinned (OpenSpec.ofChange fnGetFEnvOfThreadAgreesWithEnvironIndexSpec)

/-- ITS FALSE NEIGHBOUR: 'it returns false'. Refute it at one input. -/
def fnGetFEnvOfThreadAgreesWithEnvironIndexWrong : ChangeSpec := { name := "fnGetFEnvOfThreadAgreesWithEnvironIndex", fn := fun _ => fun
  | [d] => { results := [.lit (.bool false)], args := [d] }
  | _ => none }
def FnGetFEnvOfThreadAgreesWithEnvironIndexWrongFalsely : Prop := fnGetFEnvOfThreadAgreesWithEnvironIndexRow.holds Try.pinned (OpenSpec.ofChange fnGetFEnvOfThreadAgreesWithEnvironIndexWrong)

/-- 'n005_113.FnConvertibleIsTruthy': WHATEVER THE INPUT: true; the input reads as it did. -/
def fnConvertibleIsTruthySpec : ChangeSpec := { name := "fnConvertibleIsTruthy", fn := fun _ => fun
  | [d1, d2, d3, d4] => { results := [.lit (.bool true)], args := [d1, d2, d3, d4] }
  | _ => none }
def fnConvertibleIsTruthyRow : OpenClaim := { program := "ytkkmahedfmiliaa", sum := "706c0445067f9f1374aa7a26757efd61773bde39d51999672a4981ee124ce50f", func := "github.com/yuin/gopher-lua/n005_113.FnConvertibleIsTruthy", spec := "fnConvertibleIsTruthy", apart := false }
def FnConvertibleIsTruthySaid : Prop := fnConvertibleIsTruthyRow.holds Try.pinned (OpenSpec.ofChange fnConvertibleIsTruthySpec)

/-- ITS FALSE NEIGHBOUR: 'it returns false'. Refute it at one input. -/
def fnConvertibleIsTruthyWrong : ChangeSpec := { name := "fnConvertibleIsTruthy", fn := fun _ => fun
  | [d1, d2, d3, d4] => { results := [.lit (.bool false)], args := [d1, d2, d3, d4] }
  | _ => none }
def FnConvertibleIsTruthyWrongFalsely : Prop := fnConvertibleIsTruthyRow.holds Try.pinned (OpenSpec.ofChange fnConvertibleIsTruthyWrong)

/- THE SECOND FORM. 'bulk': how many values and letters a reading holds, each counted each time it is reached (what is shared counts as often as it is met; a slice's spare places count too). A statement '..UptoSaid' is the law's where the arguments, and the package variables that the reading takes, are together of bulk at most 1048576: NARROWER than '..Said'. Prove '..Said' where nothing that the law and all that it calls make is longer than what came in: it says more and counts as full. Else prove '..UptoSaid'. A law counts once. -/
mutual
def uptoBulk {H : Type} : DataW H → Nat
  | .lit (.string bytes) => bytes.length + 1
  | .lit _ => 1
  | .nil => 1
  | .ptr d => uptoBulk d + 1
  | .slice elems spare => uptoBulkAll elems + uptoBulkAll spare + 1
  | .agg parts => uptoBulkAll parts + 1
  | .iface _ d => uptoBulk d + 1
  | .map entries => uptoBulkEntries entries + 1
  | .held _ => 1
def uptoBulkAll {H : Type} : List (DataW H) → Nat
  | [] => 0
  | d :: r => uptoBulk d + uptoBulkAll r
def uptoBulkEntries {H : Type} : List (Lit × DataW H) → Nat
  | [] => 0
  | x :: r => uptoBulkEntry x + uptoBulkEntries r
def uptoBulkEntry {H : Type} : Lit × DataW H → Nat
  | (.string bytes, d) => bytes.length + uptoBulk d + 1
  | (_, d) => uptoBulk d + 1
 end
def uptoSmall : (H : Type) → List (DataW H) → Bool := fun _ ds => decide (uptoBulkAll ds ≤ 1048576)
def OpenSpec.upto (s : _root_.Go.ChangeSpec) : _root_.Go.OpenSpec := { _root_.Go.OpenSpec.ofChange s with cond := some uptoSmall }

/-- 'n005_113.FnAsBoolIsNotIsFalse', WHERE WHAT IT READS IS OF BULK AT MOST 1048576: true; the input reads as it did. -/
def fnAsBoolIsNotIsFalseUptoRow : OpenClaim := { program := "ytkkmahedfmiliaa", sum := "706c0445067f9f1374aa7a26757efd61773bde39d51999672a4981ee124ce50f", func := "github.com/yuin/gopher-lua/n005_113.FnAsBoolIsNotIsFalse", spec := "fnAsBoolIsNotIsFalse", apart := false, narrowed := true }
def FnAsBoolIsNotIsFalseUptoSaid : Prop := fnAsBoolIsNotIsFalseUptoRow.holds Try.pinned (OpenSpec.upto fnAsBoolIsNotIsFalseSpec)

/-- 'n005_113.FnAsBoolTable', WHERE WHAT IT READS IS OF BULK AT MOST 1048576: true; the input reads as it did. -/
def fnAsBoolTableUptoRow : OpenClaim := { program := "ytkkmahedfmiliaa", sum := "706c0445067f9f1374aa7a26757efd61773bde39d51999672a4981ee124ce50f", func := "github.com/yuin/gopher-lua/n005_113.FnAsBoolTable", spec := "fnAsBoolTable", apart := false, narrowed := true }
def FnAsBoolTableUptoSaid : Prop := fnAsBoolTableUptoRow.holds Try.pinned (OpenSpec.upto fnAsBoolTableSpec)

/-- 'n005_113.FnIsFalseTable', WHERE WHAT IT READS IS OF BULK AT MOST 1048576: true; the input reads as it did. -/
def fnIsFalseTableUptoRow : OpenClaim := { program := "ytkkmahedfmiliaa", sum := "706c0445067f9f1374aa7a26757efd61773bde39d51999672a4981ee124ce50f", func := "github.com/yuin/gopher-lua/n005_113.FnIsFalseTable", spec := "fnIsFalseTable", apart := false, narrowed := true }
def FnIsFalseTableUptoSaid : Prop := fnIsFalseTableUptoRow.holds Try.pinned (OpenSpec.upto fnIsFalseTableSpec)

/-- 'n005_150.FnGetFEnvOfThreadAgreesWithEnvironIndex', WHERE WHAT IT READS IS OF BULK AT MOST 1048576: true; the input reads as it did. -/
def fnGetFEnvOfThreadAgreesWithEnvironIndexUptoRow : OpenClaim := { program := "ytkkmahedfmiliaa", sum := "706c0445067f9f1374aa7a26757efd61773bde39d51999672a4981ee124ce50f", func := "github.com/yuin/gopher-lua/n005_150.FnGetFEnvOfThreadAgreesWithEnvironIndex", spec := "fnGetFEnvOfThreadAgreesWithEnvironIndex", apart := false, narrowed := true }
def FnGetFEnvOfThreadAgreesWithEnvironIndexUptoSaid : Prop := fnGetFEnvOfThreadAgreesWithEnvironIndexUptoRow.holds Try.pinned (OpenSpec.upto fnGetFEnvOfThreadAgreesWithEnvironIndexSpec)

/-- 'n005_113.FnConvertibleIsTruthy', WHERE WHAT IT READS IS OF BULK AT MOST 1048576: true; the input reads as it did. -/
def fnConvertibleIsTruthyUptoRow : OpenClaim := { program := "ytkkmahedfmiliaa", sum := "706c0445067f9f1374aa7a26757efd61773bde39d51999672a4981ee124ce50f", func := "github.com/yuin/gopher-lua/n005_113.FnConvertibleIsTruthy", spec := "fnConvertibleIsTruthy", apart := false, narrowed := true }
def FnConvertibleIsTruthyUptoSaid : Prop := fnConvertibleIsTruthyUptoRow.holds Try.pinned (OpenSpec.upto fnConvertibleIsTruthySpec)

end Rows
end Go.Proofs.Ytkkmahedfmiliaa
