/-
  No cell of these rows narrows 'for every input' (looked for: loops, veiled, ifaces, maps, wideKeys, modest, calm, conditions, laid).
  DERIVED. THE GIVEN ROWS OF THIS SEAT. 6 by the template 'for every input the law returns true; each argument reads behind the call as it read before'; 0 by the template 'total and deterministic' (their statements: YtfkemahinnpgdaaTotals.lean).
  GIVEN WITH THE SEED: the statements are not yours to turn. If you find one false, say at which input.
  Laid BY PROGRAM, IN A SANDBOX (cutbox-rows.mjs): the forced cells as the released guide's own fill.sh prints them over the translation e412bf6254c8dfc8… (all of the seat's roots in one cut). By AI agents, Wed Nov 11 2026. No macro, syntax, notation, axiom, sorry.
-/
import Derived.Test.YtfkemahinnpgdaaChecked
import GoSem.Claim
import GoSem.ClaimJoined
import GoSem.ClaimMapViews
import Derived.JoinedTies
import Derived.KernelRfl
namespace Go.Proofs.Ytfkemahinnpgdaa
/- THE CELL 'sum', in the pinned program and in every row, IS THE sha256 OF THE DUMP (.gsa) THAT YtfkemahinnpgdaaProg.lean LOADS. Nothing in Lean hashes anything: it is a label: what it is worth is what the hold of that sum in a sandbox is worth. -/
noncomputable def Try.pinned : Pinned := { name := "ytfkemahinnpgdaa", sum := "e412bf6254c8dfc879fcc6f262d66630ca6c72b6556454b9188d5072bf2b0345", checked := Try.checked }
namespace Rows
def none {H : Type} : Left H := { results := [], args := [] }

/-- 'n005_23.FnForEachYieldsArrayThenStringsThenOthers': WHATEVER THE INPUT: true; the input reads as it did. -/
def fnForEachYieldsArrayThenStringsThenOthersSpec : ChangeSpec := { name := "fnForEachYieldsArrayThenStringsThenOthers", fn := fun _ => fun
  | [d] => { results := [.lit (.bool true)], args := [d] }
  | _ => none }
def fnForEachYieldsArrayThenStringsThenOthersRow : OpenClaim := { program := "ytfkemahinnpgdaa", sum := "e412bf6254c8dfc879fcc6f262d66630ca6c72b6556454b9188d5072bf2b0345", func := "github.com/yuin/gopher-lua/n005_23.FnForEachYieldsArrayThenStringsThenOthers", spec := "fnForEachYieldsArrayThenStringsThenOthers", unfollowed := true, recurses := true, apart := false }
def FnForEachYieldsArrayThenStringsThenOthersSaid : Prop := fnForEachYieldsArrayThenStringsThenOthersRow.holds Try.pinned (OpenSpec.ofChange fnForEachYieldsArrayThenStringsThenOthersSpec)

/-- ITS FALSE NEIGHBOUR: 'it returns false'. Refute it at one input. -/
def fnForEachYieldsArrayThenStringsThenOthersWrong : ChangeSpec := { name := "fnForEachYieldsArrayThenStringsThenOthers", fn := fun _ => fun
  | [d] => { results := [.lit (.bool false)], args := [d] }
  | _ => none }
def FnForEachYieldsArrayThenStringsThenOthersWrongFalsely : Prop := fnForEachYieldsArrayThenStringsThenOthersRow.holds Try.pinned (OpenSpec.ofChange fnForEachYieldsArrayThenStringsThenOthersWrong)

/-- 'n005_23.FnRawGetStringIsLastStringWrite': WHATEVER THE INPUT: true; the input reads as it did. -/
def fnRawGetStringIsLastStringWriteSpec : ChangeSpec := { name := "fnRawGetStringIsLastStringWrite", fn := fun _ => fun
  | [d1, d2] => { results := [.lit (.bool true)], args := [d1, d2] }
  | _ => none }
def fnRawGetStringIsLastStringWriteRow : OpenClaim := { program := "ytfkemahinnpgdaa", sum := "e412bf6254c8dfc879fcc6f262d66630ca6c72b6556454b9188d5072bf2b0345", func := "github.com/yuin/gopher-lua/n005_23.FnRawGetStringIsLastStringWrite", spec := "fnRawGetStringIsLastStringWrite", apart := false }
def FnRawGetStringIsLastStringWriteSaid : Prop := fnRawGetStringIsLastStringWriteRow.holds Try.pinned (OpenSpec.ofChange fnRawGetStringIsLastStringWriteSpec)

/-- ITS FALSE NEIGHBOUR: 'it returns false'. Refute it at one input. -/
def fnRawGetStringIsLastStringWriteWrong : ChangeSpec := { name := "fnRawGetStringIsLastStringWrite", fn := fun _ => fun
  | [d1, d2] => { results := [.lit (.bool false)], args := [d1, d2] }
  | _ => none }
def FnRawGetStringIsLastStringWriteWrongFalsely : Prop := fnRawGetStringIsLastStringWriteRow.holds Try.pinned (OpenSpec.ofChange fnRawGetStringIsLastStringWriteWrong)

/-- 'n005_23.FnNextWalksArrayThenInsertionOrder': WHATEVER THE INPUT: true; the input reads as it did. -/
def fnNextWalksArrayThenInsertionOrderSpec : ChangeSpec := { name := "fnNextWalksArrayThenInsertionOrder", fn := fun _ => fun
  | [d] => { results := [.lit (.bool true)], args := [d] }
  | _ => none }
def fnNextWalksArrayThenInsertionOrderRow : OpenClaim := { program := "ytfkemahinnpgdaa", sum := "e412bf6254c8dfc879fcc6f262d66630ca6c72b6556454b9188d5072bf2b0345", func := "github.com/yuin/gopher-lua/n005_23.FnNextWalksArrayThenInsertionOrder", spec := "fnNextWalksArrayThenInsertionOrder", apart := false }
def FnNextWalksArrayThenInsertionOrderSaid : Prop := fnNextWalksArrayThenInsertionOrderRow.holds Try.pinned (OpenSpec.ofChange fnNextWalksArrayThenInsertionOrderSpec)

/-- ITS FALSE NEIGHBOUR: 'it returns false'. Refute it at one input. -/
def fnNextWalksArrayThenInsertionOrderWrong : ChangeSpec := { name := "fnNextWalksArrayThenInsertionOrder", fn := fun _ => fun
  | [d] => { results := [.lit (.bool false)], args := [d] }
  | _ => none }
def FnNextWalksArrayThenInsertionOrderWrongFalsely : Prop := fnNextWalksArrayThenInsertionOrderRow.holds Try.pinned (OpenSpec.ofChange fnNextWalksArrayThenInsertionOrderWrong)

/-- 'n005_23.FnStringGettersAgreeWithLastWrite': WHATEVER THE INPUT: true; the input reads as it did. -/
def fnStringGettersAgreeWithLastWriteSpec : ChangeSpec := { name := "fnStringGettersAgreeWithLastWrite", fn := fun _ => fun
  | [d1, d2] => { results := [.lit (.bool true)], args := [d1, d2] }
  | _ => none }
def fnStringGettersAgreeWithLastWriteRow : OpenClaim := { program := "ytfkemahinnpgdaa", sum := "e412bf6254c8dfc879fcc6f262d66630ca6c72b6556454b9188d5072bf2b0345", func := "github.com/yuin/gopher-lua/n005_23.FnStringGettersAgreeWithLastWrite", spec := "fnStringGettersAgreeWithLastWrite", apart := false }
def FnStringGettersAgreeWithLastWriteSaid : Prop := fnStringGettersAgreeWithLastWriteRow.holds Try.pinned (OpenSpec.ofChange fnStringGettersAgreeWithLastWriteSpec)

/-- ITS FALSE NEIGHBOUR: 'it returns false'. Refute it at one input. -/
def fnStringGettersAgreeWithLastWriteWrong : ChangeSpec := { name := "fnStringGettersAgreeWithLastWrite", fn := fun _ => fun
  | [d1, d2] => { results := [.lit (.bool false)], args := [d1, d2] }
  | _ => none }
def FnStringGettersAgreeWithLastWriteWrongFalsely : Prop := fnStringGettersAgreeWithLastWriteRow.holds Try.pinned (OpenSpec.ofChange fnStringGettersAgreeWithLastWriteWrong)

/-- 'n005_23.FnNextClearingVisitedKeysKeepsTraversal': WHATEVER THE INPUT: true; the input reads as it did. -/
def fnNextClearingVisitedKeysKeepsTraversalSpec : ChangeSpec := { name := "fnNextClearingVisitedKeysKeepsTraversal", fn := fun _ => fun
  | [d] => { results := [.lit (.bool true)], args := [d] }
  | _ => none }
def fnNextClearingVisitedKeysKeepsTraversalRow : OpenClaim := { program := "ytfkemahinnpgdaa", sum := "e412bf6254c8dfc879fcc6f262d66630ca6c72b6556454b9188d5072bf2b0345", func := "github.com/yuin/gopher-lua/n005_23.FnNextClearingVisitedKeysKeepsTraversal", spec := "fnNextClearingVisitedKeysKeepsTraversal", apart := false }
def FnNextClearingVisitedKeysKeepsTraversalSaid : Prop := fnNextClearingVisitedKeysKeepsTraversalRow.holds Try.pinned (OpenSpec.ofChange fnNextClearingVisitedKeysKeepsTraversalSpec)

/-- ITS FALSE NEIGHBOUR: 'it returns false'. Refute it at one input. -/
def fnNextClearingVisitedKeysKeepsTraversalWrong : ChangeSpec := { name := "fnNextClearingVisitedKeysKeepsTraversal", fn := fun _ => fun
  | [d] => { results := [.lit (.bool false)], args := [d] }
  | _ => none }
def FnNextClearingVisitedKeysKeepsTraversalWrongFalsely : Prop := fnNextClearingVisitedKeysKeepsTraversalRow.holds Try.pinned (OpenSpec.ofChange fnNextClearingVisitedKeysKeepsTraversalWrong)

/-- 'n005_23.FnForEachAgreesWithNextChain': WHATEVER THE INPUT: true; the input reads as it did. -/
def fnForEachAgreesWithNextChainSpec : ChangeSpec := { name := "fnForEachAgreesWithNextChain", fn := fun _ => fun
  | [d] => { results := [.lit (.bool true)], args := [d] }
  | _ => none }
def fnForEachAgreesWithNextChainRow : OpenClaim := { program := "ytfkemahinnpgdaa", sum := "e412bf6254c8dfc879fcc6f262d66630ca6c72b6556454b9188d5072bf2b0345", func := "github.com/yuin/gopher-lua/n005_23.FnForEachAgreesWithNextChain", spec := "fnForEachAgreesWithNextChain", unfollowed := true, recurses := true, apart := false }
def FnForEachAgreesWithNextChainSaid : Prop := fnForEachAgreesWithNextChainRow.holds Try.pinned (OpenSpec.ofChange fnForEachAgreesWithNextChainSpec)

/-- ITS FALSE NEIGHBOUR: 'it returns false'. Refute it at one input. -/
def fnForEachAgreesWithNextChainWrong : ChangeSpec := { name := "fnForEachAgreesWithNextChain", fn := fun _ => fun
  | [d] => { results := [.lit (.bool false)], args := [d] }
  | _ => none }
def FnForEachAgreesWithNextChainWrongFalsely : Prop := fnForEachAgreesWithNextChainRow.holds Try.pinned (OpenSpec.ofChange fnForEachAgreesWithNextChainWrong)

/- THE SECOND FORM. 'bulk': how many values and letters a reading holds, each counted each time it is reached (what is shared counts as often as it is met; a slice's spare places count too). A statement '..UptoSaid' is the law's where the arguments, and the package variables that the reading takes, are together of bulk at most 1048576: NARROWER than '..Said'. Prove '..Said' where nothing that the law and all that it calls make is longer than what came in: it says more and counts as full. Else prove '..UptoSaid'. A law counts once. -/
mutual
def uptoBulk {H : Type} : DataW H → Nat
  | .lit (.string bytes) => bytes.length + 1
  | .lit _ => 1
  | .nil => 1
  | .ptr d => uptoBulk d + 1
  | .slice elems spare => uptoBulkAll elems + uptoBulkAll spare + 1
  | .agg parts => uptoBulkAll parts + 1
  | .iface _ d => uptoBulk d + 1
  | .map entries => uptoBulkEntries entries + 1
  | .held _ => 1
def uptoBulkAll {H : Type} : List (DataW H) → Nat
  | [] => 0
  | d :: r => uptoBulk d + uptoBulkAll r
def uptoBulkEntries {H : Type} : List (Lit × DataW H) → Nat
  | [] => 0
  | x :: r => uptoBulkEntry x + uptoBulkEntries r
def uptoBulkEntry {H : Type} : Lit × DataW H → Nat
  | (.string bytes, d) => bytes.length + uptoBulk d + 1
  | (_, d) => uptoBulk d + 1
 end
def uptoSmall : (H : Type) → List (DataW H) → Bool := fun _ ds => decide (uptoBulkAll ds ≤ 1048576)
def OpenSpec.upto (s : _root_.Go.ChangeSpec) : _root_.Go.OpenSpec := { _root_.Go.OpenSpec.ofChange s with cond := some uptoSmall }

/-- 'n005_23.FnForEachYieldsArrayThenStringsThenOthers', WHERE WHAT IT READS IS OF BULK AT MOST 1048576: true; the input reads as it did. -/
def fnForEachYieldsArrayThenStringsThenOthersUptoRow : OpenClaim := { program := "ytfkemahinnpgdaa", sum := "e412bf6254c8dfc879fcc6f262d66630ca6c72b6556454b9188d5072bf2b0345", func := "github.com/yuin/gopher-lua/n005_23.FnForEachYieldsArrayThenStringsThenOthers", spec := "fnForEachYieldsArrayThenStringsThenOthers", unfollowed := true, recurses := true, apart := false, narrowed := true }
def FnForEachYieldsArrayThenStringsThenOthersUptoSaid : Prop := fnForEachYieldsArrayThenStringsThenOthersUptoRow.holds Try.pinned (OpenSpec.upto fnForEachYieldsArrayThenStringsThenOthersSpec)

/-- 'n005_23.FnRawGetStringIsLastStringWrite', WHERE WHAT IT READS IS OF BULK AT MOST 1048576: true; the input reads as it did. -/
def fnRawGetStringIsLastStringWriteUptoRow : OpenClaim := { program := "ytfkemahinnpgdaa", sum := "e412bf6254c8dfc879fcc6f262d66630ca6c72b6556454b9188d5072bf2b0345", func := "github.com/yuin/gopher-lua/n005_23.FnRawGetStringIsLastStringWrite", spec := "fnRawGetStringIsLastStringWrite", apart := false, narrowed := true }
def FnRawGetStringIsLastStringWriteUptoSaid : Prop := fnRawGetStringIsLastStringWriteUptoRow.holds Try.pinned (OpenSpec.upto fnRawGetStringIsLastStringWriteSpec)

/-- 'n005_23.FnNextWalksArrayThenInsertionOrder', WHERE WHAT IT READS IS OF BULK AT MOST 1048576: true; the input reads as it did. -/
def fnNextWalksArrayThenInsertionOrderUptoRow : OpenClaim := { program := "ytfkemahinnpgdaa", sum := "e412bf6254c8dfc879fcc6f262d66630ca6c72b6556454b9188d5072bf2b0345", func := "github.com/yuin/gopher-lua/n005_23.FnNextWalksArrayThenInsertionOrder", spec := "fnNextWalksArrayThenInsertionOrder", apart := false, narrowed := true }
def FnNextWalksArrayThenInsertionOrderUptoSaid : Prop := fnNextWalksArrayThenInsertionOrderUptoRow.holds Try.pinned (OpenSpec.upto fnNextWalksArrayThenInsertionOrderSpec)

/-- 'n005_23.FnStringGettersAgreeWithLastWrite', WHERE WHAT IT READS IS OF BULK AT MOST 1048576: true; the input reads as it did. -/
def fnStringGettersAgreeWithLastWriteUptoRow : OpenClaim := { program := "ytfkemahinnpgdaa", sum := "e412bf6254c8dfc879fcc6f262d66630ca6c72b6556454b9188d5072bf2b0345", func := "github.com/yuin/gopher-lua/n005_23.FnStringGettersAgreeWithLastWrite", spec := "fnStringGettersAgreeWithLastWrite", apart := false, narrowed := true }
def FnStringGettersAgreeWithLastWriteUptoSaid : Prop := fnStringGettersAgreeWithLastWriteUptoRow.holds Try.pinned (OpenSpec.upto fnStringGettersAgreeWithLastWriteSpec)

/-- 'n005_23.FnNextClearingVisitedKeysKeepsTraversal', WHERE WHAT IT READS IS OF BULK AT MOST 1048576: true; the input reads as it did. -/
def fnNextClearingVisitedKeysKeepsTraversalUptoRow : OpenClaim := { program := "ytfkemahinnpgdaa", sum := "e412bf6254c8dfc879fcc6f262d66630ca6c72b6556454b9188d5072bf2b0345", func := "github.com/yuin/gopher-lua/n005_23.FnNextClearingVisitedKeysKeepsTraversal", spec := "fnNextClearingVisitedKeysKeepsTraversal", apart := false, narrowed := true }
def FnNextClearingVisitedKeysKeepsTraversalUptoSaid : Prop := fnNextClearingVisitedKeysKeepsTraversalUptoRow.holds Try.pinned (OpenSpec.upto fnNextClearingVisitedKeysKeepsTraversalSpec)

/-- 'n005_23.FnForEachAgreesWithNextChain', WHERE WHAT IT READS IS OF BULK AT MOST 1048576: true; the input reads as it did. -/
def fnForEachAgreesWithNextChainUptoRow : OpenClaim := { program := "ytfkemahinnpgdaa", sum := "e412bf6254c8dfc879fcc6f262d66630ca6c72b6556454b9188d5072bf2b0345", func := "github.com/yuin/gopher-lua/n005_23.FnForEachAgreesWithNextChain", spec := "fnForEachAgreesWithNextChain", unfollowed := true, recurses := true, apart := false, narrowed := true }
def FnForEachAgreesWithNextChainUptoSaid : Prop := fnForEachAgreesWithNextChainUptoRow.holds Try.pinned (OpenSpec.upto fnForEachAgreesWithNextChainSpec)

end Rows
end Go.Proofs.Ytfkemahinnpgdaa
