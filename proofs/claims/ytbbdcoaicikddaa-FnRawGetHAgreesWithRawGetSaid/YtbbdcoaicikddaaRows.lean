/-
  No cell of these rows narrows 'for every input' (looked for: loops, veiled, ifaces, maps, wideKeys, modest, calm, conditions, laid).
  DERIVED. THE GIVEN ROWS OF THIS SEAT. 7 by the template 'for every input the law returns true; each argument reads behind the call as it read before'; 0 by the template 'total and deterministic' (their statements: YtbbdcoaicikddaaTotals.lean).
  GIVEN WITH THE SEED: the statements are not yours to turn. If you find one false, say at which input.
  Laid BY PROGRAM, IN A SANDBOX (cutbox-rows.mjs): the forced cells as the released guide's own fill.sh prints them over the translation 830f125470faec01… (all of the seat's roots in one cut). By AI agents, Wed Nov 11 2026. No macro, syntax, notation, axiom, sorry.
-/
import Derived.Test.YtbbdcoaicikddaaChecked
import GoSem.Claim
import GoSem.ClaimJoined
import GoSem.ClaimMapViews
import Derived.JoinedTies
import Derived.KernelRfl
namespace Go.Proofs.Ytbbdcoaicikddaa
/- THE CELL 'sum', in the pinned program and in every row, IS THE sha256 OF THE DUMP (.gsa) THAT YtbbdcoaicikddaaProg.lean LOADS. Nothing in Lean hashes anything: it is a label: what it is worth is what the hold of that sum in a sandbox is worth. -/
noncomputable def Try.pinned : Pinned := { name := "ytbbdcoaicikddaa", sum := "830f125470faec01b6f5babb3cef24b75baa599793c6af6f7ca66719a4f9fcbf", checked := Try.checked }
namespace Rows
def none {H : Type} : Left H := { results := [], args := [] }

/-- 'n005_96.FnRawGetAfterRawSetHCaseTable': WHATEVER THE INPUT: true; the input reads as it did. -/
def fnRawGetAfterRawSetHCaseTableSpec : ChangeSpec := { name := "fnRawGetAfterRawSetHCaseTable", fn := fun _ => fun
  | [d1, d2, d3] => { results := [.lit (.bool true)], args := [d1, d2, d3] }
  | _ => none }
def fnRawGetAfterRawSetHCaseTableRow : OpenClaim := { program := "ytbbdcoaicikddaa", sum := "830f125470faec01b6f5babb3cef24b75baa599793c6af6f7ca66719a4f9fcbf", func := "github.com/yuin/gopher-lua/n005_96.FnRawGetAfterRawSetHCaseTable", spec := "fnRawGetAfterRawSetHCaseTable", apart := false }
def FnRawGetAfterRawSetHCaseTableSaid : Prop := fnRawGetAfterRawSetHCaseTableRow.holds Try.pinned (OpenSpec.ofChange fnRawGetAfterRawSetHCaseTableSpec)

/-- ITS FALSE NEIGHBOUR: 'it returns false'. Refute it at one input. -/
def fnRawGetAfterRawSetHCaseTableWrong : ChangeSpec := { name := "fnRawGetAfterRawSetHCaseTable", fn := fun _ => fun
  | [d1, d2, d3] => { results := [.lit (.bool false)], args := [d1, d2, d3] }
  | _ => none }
def FnRawGetAfterRawSetHCaseTableWrongFalsely : Prop := fnRawGetAfterRawSetHCaseTableRow.holds Try.pinned (OpenSpec.ofChange fnRawGetAfterRawSetHCaseTableWrong)

/-- 'n005_96.FnRawGetAfterRawSetNumberKeys': WHATEVER THE INPUT: true; the input reads as it did. -/
def fnRawGetAfterRawSetNumberKeysSpec : ChangeSpec := { name := "fnRawGetAfterRawSetNumberKeys", fn := fun _ => fun
  | [d1, d2, d3, d4, d5] => { results := [.lit (.bool true)], args := [d1, d2, d3, d4, d5] }
  | _ => none }
def fnRawGetAfterRawSetNumberKeysRow : OpenClaim := { program := "ytbbdcoaicikddaa", sum := "830f125470faec01b6f5babb3cef24b75baa599793c6af6f7ca66719a4f9fcbf", func := "github.com/yuin/gopher-lua/n005_96.FnRawGetAfterRawSetNumberKeys", spec := "fnRawGetAfterRawSetNumberKeys", apart := false }
def FnRawGetAfterRawSetNumberKeysSaid : Prop := fnRawGetAfterRawSetNumberKeysRow.holds Try.pinned (OpenSpec.ofChange fnRawGetAfterRawSetNumberKeysSpec)

/-- ITS FALSE NEIGHBOUR: 'it returns false'. Refute it at one input. -/
def fnRawGetAfterRawSetNumberKeysWrong : ChangeSpec := { name := "fnRawGetAfterRawSetNumberKeys", fn := fun _ => fun
  | [d1, d2, d3, d4, d5] => { results := [.lit (.bool false)], args := [d1, d2, d3, d4, d5] }
  | _ => none }
def FnRawGetAfterRawSetNumberKeysWrongFalsely : Prop := fnRawGetAfterRawSetNumberKeysRow.holds Try.pinned (OpenSpec.ofChange fnRawGetAfterRawSetNumberKeysWrong)

/-- 'n005_96.FnRawGetIntAfterRawSetInt': WHATEVER THE INPUT: true; the input reads as it did. -/
def fnRawGetIntAfterRawSetIntSpec : ChangeSpec := { name := "fnRawGetIntAfterRawSetInt", fn := fun _ => fun
  | [d1, d2, d3] => { results := [.lit (.bool true)], args := [d1, d2, d3] }
  | _ => none }
def fnRawGetIntAfterRawSetIntRow : OpenClaim := { program := "ytbbdcoaicikddaa", sum := "830f125470faec01b6f5babb3cef24b75baa599793c6af6f7ca66719a4f9fcbf", func := "github.com/yuin/gopher-lua/n005_96.FnRawGetIntAfterRawSetInt", spec := "fnRawGetIntAfterRawSetInt", apart := false }
def FnRawGetIntAfterRawSetIntSaid : Prop := fnRawGetIntAfterRawSetIntRow.holds Try.pinned (OpenSpec.ofChange fnRawGetIntAfterRawSetIntSpec)

/-- ITS FALSE NEIGHBOUR: 'it returns false'. Refute it at one input. -/
def fnRawGetIntAfterRawSetIntWrong : ChangeSpec := { name := "fnRawGetIntAfterRawSetInt", fn := fun _ => fun
  | [d1, d2, d3] => { results := [.lit (.bool false)], args := [d1, d2, d3] }
  | _ => none }
def FnRawGetIntAfterRawSetIntWrongFalsely : Prop := fnRawGetIntAfterRawSetIntRow.holds Try.pinned (OpenSpec.ofChange fnRawGetIntAfterRawSetIntWrong)

/-- 'n005_96.FnRawGetHAfterRawSetH': WHATEVER THE INPUT: true; the input reads as it did. -/
def fnRawGetHAfterRawSetHSpec : ChangeSpec := { name := "fnRawGetHAfterRawSetH", fn := fun _ => fun
  | [d1, d2, d3, d4, d5, d6] => { results := [.lit (.bool true)], args := [d1, d2, d3, d4, d5, d6] }
  | _ => none }
def fnRawGetHAfterRawSetHRow : OpenClaim := { program := "ytbbdcoaicikddaa", sum := "830f125470faec01b6f5babb3cef24b75baa599793c6af6f7ca66719a4f9fcbf", func := "github.com/yuin/gopher-lua/n005_96.FnRawGetHAfterRawSetH", spec := "fnRawGetHAfterRawSetH", apart := false }
def FnRawGetHAfterRawSetHSaid : Prop := fnRawGetHAfterRawSetHRow.holds Try.pinned (OpenSpec.ofChange fnRawGetHAfterRawSetHSpec)

/-- ITS FALSE NEIGHBOUR: 'it returns false'. Refute it at one input. -/
def fnRawGetHAfterRawSetHWrong : ChangeSpec := { name := "fnRawGetHAfterRawSetH", fn := fun _ => fun
  | [d1, d2, d3, d4, d5, d6] => { results := [.lit (.bool false)], args := [d1, d2, d3, d4, d5, d6] }
  | _ => none }
def FnRawGetHAfterRawSetHWrongFalsely : Prop := fnRawGetHAfterRawSetHRow.holds Try.pinned (OpenSpec.ofChange fnRawGetHAfterRawSetHWrong)

/-- 'n005_96.FnRawGetStringKeysApartFromNumberKeys': WHATEVER THE INPUT: true; the input reads as it did. -/
def fnRawGetStringKeysApartFromNumberKeysSpec : ChangeSpec := { name := "fnRawGetStringKeysApartFromNumberKeys", fn := fun _ => fun
  | [d1, d2, d3, d4, d5, d6] => { results := [.lit (.bool true)], args := [d1, d2, d3, d4, d5, d6] }
  | _ => none }
def fnRawGetStringKeysApartFromNumberKeysRow : OpenClaim := { program := "ytbbdcoaicikddaa", sum := "830f125470faec01b6f5babb3cef24b75baa599793c6af6f7ca66719a4f9fcbf", func := "github.com/yuin/gopher-lua/n005_96.FnRawGetStringKeysApartFromNumberKeys", spec := "fnRawGetStringKeysApartFromNumberKeys", apart := false }
def FnRawGetStringKeysApartFromNumberKeysSaid : Prop := fnRawGetStringKeysApartFromNumberKeysRow.holds Try.pinned (OpenSpec.ofChange fnRawGetStringKeysApartFromNumberKeysSpec)

/-- ITS FALSE NEIGHBOUR: 'it returns false'. Refute it at one input. -/
def fnRawGetStringKeysApartFromNumberKeysWrong : ChangeSpec := { name := "fnRawGetStringKeysApartFromNumberKeys", fn := fun _ => fun
  | [d1, d2, d3, d4, d5, d6] => { results := [.lit (.bool false)], args := [d1, d2, d3, d4, d5, d6] }
  | _ => none }
def FnRawGetStringKeysApartFromNumberKeysWrongFalsely : Prop := fnRawGetStringKeysApartFromNumberKeysRow.holds Try.pinned (OpenSpec.ofChange fnRawGetStringKeysApartFromNumberKeysWrong)

/-- 'n005_96.FnRawGetIntAgreesWithRawGet': WHATEVER THE INPUT: true; the input reads as it did. -/
def fnRawGetIntAgreesWithRawGetSpec : ChangeSpec := { name := "fnRawGetIntAgreesWithRawGet", fn := fun _ => fun
  | [d1, d2, d3] => { results := [.lit (.bool true)], args := [d1, d2, d3] }
  | _ => none }
def fnRawGetIntAgreesWithRawGetRow : OpenClaim := { program := "ytbbdcoaicikddaa", sum := "830f125470faec01b6f5babb3cef24b75baa599793c6af6f7ca66719a4f9fcbf", func := "github.com/yuin/gopher-lua/n005_96.FnRawGetIntAgreesWithRawGet", spec := "fnRawGetIntAgreesWithRawGet", apart := false }
def FnRawGetIntAgreesWithRawGetSaid : Prop := fnRawGetIntAgreesWithRawGetRow.holds Try.pinned (OpenSpec.ofChange fnRawGetIntAgreesWithRawGetSpec)

/-- ITS FALSE NEIGHBOUR: 'it returns false'. Refute it at one input. -/
def fnRawGetIntAgreesWithRawGetWrong : ChangeSpec := { name := "fnRawGetIntAgreesWithRawGet", fn := fun _ => fun
  | [d1, d2, d3] => { results := [.lit (.bool false)], args := [d1, d2, d3] }
  | _ => none }
def FnRawGetIntAgreesWithRawGetWrongFalsely : Prop := fnRawGetIntAgreesWithRawGetRow.holds Try.pinned (OpenSpec.ofChange fnRawGetIntAgreesWithRawGetWrong)

/-- 'n005_96.FnRawGetHAgreesWithRawGet': WHATEVER THE INPUT: true; the input reads as it did. -/
def fnRawGetHAgreesWithRawGetSpec : ChangeSpec := { name := "fnRawGetHAgreesWithRawGet", fn := fun _ => fun
  | [d1, d2, d3, d4, d5, d6] => { results := [.lit (.bool true)], args := [d1, d2, d3, d4, d5, d6] }
  | _ => none }
def fnRawGetHAgreesWithRawGetRow : OpenClaim := { program := "ytbbdcoaicikddaa", sum := "830f125470faec01b6f5babb3cef24b75baa599793c6af6f7ca66719a4f9fcbf", func := "github.com/yuin/gopher-lua/n005_96.FnRawGetHAgreesWithRawGet", spec := "fnRawGetHAgreesWithRawGet", apart := false }
def FnRawGetHAgreesWithRawGetSaid : Prop := fnRawGetHAgreesWithRawGetRow.holds Try.pinned (OpenSpec.ofChange fnRawGetHAgreesWithRawGetSpec)

/-- ITS FALSE NEIGHBOUR: 'it returns false'. Refute it at one input. -/
def fnRawGetHAgreesWithRawGetWrong : ChangeSpec := { name := "fnRawGetHAgreesWithRawGet", fn := fun _ => fun
  | [d1, d2, d3, d4, d5, d6] => { results := [.lit (.bool false)], args := [d1, d2, d3, d4, d5, d6] }
  | _ => none }
def FnRawGetHAgreesWithRawGetWrongFalsely : Prop := fnRawGetHAgreesWithRawGetRow.holds Try.pinned (OpenSpec.ofChange fnRawGetHAgreesWithRawGetWrong)

/- THE SECOND FORM. 'bulk': how many values and letters a reading holds, each counted each time it is reached (what is shared counts as often as it is met; a slice's spare places count too). A statement '..UptoSaid' is the law's where the arguments, and the package variables that the reading takes, are together of bulk at most 1048576: NARROWER than '..Said'. Prove '..Said' where nothing that the law and all that it calls make is longer than what came in: it says more and counts as full. Else prove '..UptoSaid'. A law counts once. -/
mutual
def uptoBulk {H : Type} : DataW H → Nat
  | .lit (.string bytes) => bytes.length + 1
  | .lit _ => 1
  | .nil => 1
  | .ptr d => uptoBulk d + 1
  | .slice elems spare => uptoBulkAll elems + uptoBulkAll spare + 1
  | .agg parts => uptoBulkAll parts + 1
  | .iface _ d => uptoBulk d + 1
  | .map entries => uptoBulkEntries entries + 1
  | .held _ => 1
def uptoBulkAll {H : Type} : List (DataW H) → Nat
  | [] => 0
  | d :: r => uptoBulk d + uptoBulkAll r
def uptoBulkEntries {H : Type} : List (Lit × DataW H) → Nat
  | [] => 0
  | x :: r => uptoBulkEntry x + uptoBulkEntries r
def uptoBulkEntry {H : Type} : Lit × DataW H → Nat
  | (.string bytes, d) => bytes.length + uptoBulk d + 1
  | (_, d) => uptoBulk d + 1
 end
def uptoSmall : (H : Type) → List (DataW H) → Bool := fun _ ds => decide (uptoBulkAll ds ≤ 1048576)
def OpenSpec.upto (s : _root_.Go.ChangeSpec) : _root_.Go.OpenSpec := { _root_.Go.OpenSpec.ofChange s with cond := some uptoSmall }

/-- 'n005_96.FnRawGetAfterRawSetHCaseTable', WHERE WHAT IT READS IS OF BULK AT MOST 1048576: true; the input reads as it did. -/
def fnRawGetAfterRawSetHCaseTableUptoRow : OpenClaim := { program := "ytbbdcoaicikddaa", sum := "830f125470faec01b6f5babb3cef24b75baa599793c6af6f7ca66719a4f9fcbf", func := "github.com/yuin/gopher-lua/n005_96.FnRawGetAfterRawSetHCaseTable", spec := "fnRawGetAfterRawSetHCaseTable", apart := false, narrowed := true }
def FnRawGetAfterRawSetHCaseTableUptoSaid : Prop := fnRawGetAfterRawSetHCaseTableUptoRow.holds Try.pinned (OpenSpec.upto fnRawGetAfterRawSetHCaseTableSpec)

/-- 'n005_96.FnRawGetAfterRawSetNumberKeys', WHERE WHAT IT READS IS OF BULK AT MOST 1048576: true; the input reads as it did. -/
def fnRawGetAfterRawSetNumberKeysUptoRow : OpenClaim := { program := "ytbbdcoaicikddaa", sum := "830f125470faec01b6f5babb3cef24b75baa599793c6af6f7ca66719a4f9fcbf", func := "github.com/yuin/gopher-lua/n005_96.FnRawGetAfterRawSetNumberKeys", spec := "fnRawGetAfterRawSetNumberKeys", apart := false, narrowed := true }
def FnRawGetAfterRawSetNumberKeysUptoSaid : Prop := fnRawGetAfterRawSetNumberKeysUptoRow.holds Try.pinned (OpenSpec.upto fnRawGetAfterRawSetNumberKeysSpec)

/-- 'n005_96.FnRawGetIntAfterRawSetInt', WHERE WHAT IT READS IS OF BULK AT MOST 1048576: true; the input reads as it did. -/
def fnRawGetIntAfterRawSetIntUptoRow : OpenClaim := { program := "ytbbdcoaicikddaa", sum := "830f125470faec01b6f5babb3cef24b75baa599793c6af6f7ca66719a4f9fcbf", func := "github.com/yuin/gopher-lua/n005_96.FnRawGetIntAfterRawSetInt", spec := "fnRawGetIntAfterRawSetInt", apart := false, narrowed := true }
def FnRawGetIntAfterRawSetIntUptoSaid : Prop := fnRawGetIntAfterRawSetIntUptoRow.holds Try.pinned (OpenSpec.upto fnRawGetIntAfterRawSetIntSpec)

/-- 'n005_96.FnRawGetHAfterRawSetH', WHERE WHAT IT READS IS OF BULK AT MOST 1048576: true; the input reads as it did. -/
def fnRawGetHAfterRawSetHUptoRow : OpenClaim := { program := "ytbbdcoaicikddaa", sum := "830f125470faec01b6f5babb3cef24b75baa599793c6af6f7ca66719a4f9fcbf", func := "github.com/yuin/gopher-lua/n005_96.FnRawGetHAfterRawSetH", spec := "fnRawGetHAfterRawSetH", apart := false, narrowed := true }
def FnRawGetHAfterRawSetHUptoSaid : Prop := fnRawGetHAfterRawSetHUptoRow.holds Try.pinned (OpenSpec.upto fnRawGetHAfterRawSetHSpec)

/-- 'n005_96.FnRawGetStringKeysApartFromNumberKeys', WHERE WHAT IT READS IS OF BULK AT MOST 1048576: true; the input reads as it did. -/
def fnRawGetStringKeysApartFromNumberKeysUptoRow : OpenClaim := { program := "ytbbdcoaicikddaa", sum := "830f125470faec01b6f5babb3cef24b75baa599793c6af6f7ca66719a4f9fcbf", func := "github.com/yuin/gopher-lua/n005_96.FnRawGetStringKeysApartFromNumberKeys", spec := "fnRawGetStringKeysApartFromNumberKeys", apart := false, narrowed := true }
def FnRawGetStringKeysApartFromNumberKeysUptoSaid : Prop := fnRawGetStringKeysApartFromNumberKeysUptoRow.holds Try.pinned (OpenSpec.upto fnRawGetStringKeysApartFromNumberKeysSpec)

/-- 'n005_96.FnRawGetIntAgreesWithRawGet', WHERE WHAT IT READS IS OF BULK AT MOST 1048576: true; the input reads as it did. -/
def fnRawGetIntAgreesWithRawGetUptoRow : OpenClaim := { program := "ytbbdcoaicikddaa", sum := "830f125470faec01b6f5babb3cef24b75baa599793c6af6f7ca66719a4f9fcbf", func := "github.com/yuin/gopher-lua/n005_96.FnRawGetIntAgreesWithRawGet", spec := "fnRawGetIntAgreesWithRawGet", apart := false, narrowed := true }
def FnRawGetIntAgreesWithRawGetUptoSaid : Prop := fnRawGetIntAgreesWithRawGetUptoRow.holds Try.pinned (OpenSpec.upto fnRawGetIntAgreesWithRawGetSpec)

/-- 'n005_96.FnRawGetHAgreesWithRawGet', WHERE WHAT IT READS IS OF BULK AT MOST 1048576: true; the input reads as it did. -/
def fnRawGetHAgreesWithRawGetUptoRow : OpenClaim := { program := "ytbbdcoaicikddaa", sum := "830f125470faec01b6f5babb3cef24b75baa599793c6af6f7ca66719a4f9fcbf", func := "github.com/yuin/gopher-lua/n005_96.FnRawGetHAgreesWithRawGet", spec := "fnRawGetHAgreesWithRawGet", apart := false, narrowed := true }
def FnRawGetHAgreesWithRawGetUptoSaid : Prop := fnRawGetHAgreesWithRawGetUptoRow.holds Try.pinned (OpenSpec.upto fnRawGetHAgreesWithRawGetSpec)

end Rows
end Go.Proofs.Ytbbdcoaicikddaa
