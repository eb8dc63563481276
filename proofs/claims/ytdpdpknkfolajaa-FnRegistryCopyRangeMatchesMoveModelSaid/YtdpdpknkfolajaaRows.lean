/-
  No cell of these rows narrows 'for every input' (looked for: loops, veiled, ifaces, maps, wideKeys, modest, calm, conditions, laid).
  DERIVED. THE GIVEN ROWS OF THIS SEAT. 5 by the template 'for every input the law returns true; each argument reads behind the call as it read before'; 0 by the template 'total and deterministic' (their statements: YtdpdpknkfolajaaTotals.lean).
  GIVEN WITH THE SEED: the statements are not yours to turn. If you find one false, say at which input.
  Laid BY PROGRAM, IN A SANDBOX (cutbox-rows.mjs): the forced cells as the released guide's own fill.sh prints them over the translation 17d4d55d5d3f75d6… (all of the seat's roots in one cut). By AI agents, Wed Nov 11 2026. No macro, syntax, notation, axiom, sorry.
-/
import Derived.Test.YtdpdpknkfolajaaChecked
import GoSem.Claim
import GoSem.ClaimJoined
import GoSem.ClaimMapViews
import Derived.JoinedTies
import Derived.KernelRfl
namespace Go.Proofs.Ytdpdpknkfolajaa
/- THE CELL 'sum', in the pinned program and in every row, IS THE sha256 OF THE DUMP (.gsa) THAT YtdpdpknkfolajaaProg.lean LOADS. Nothing in Lean hashes anything: it is a label: what it is worth is what the hold of that sum in a sandbox is worth. -/
noncomputable def Try.pinned : Pinned := { name := "ytdpdpknkfolajaa", sum := "17d4d55d5d3f75d6f1e707e3125d05a0e98324bcf61232fb67ef75a73601c135", checked := Try.checked }
namespace Rows
def none {H : Type} : Left H := { results := [], args := [] }

/-- 'n005_31.FnRegistryInsertThenCopyRangeRestores': WHATEVER THE INPUT: true; the input reads as it did. -/
def fnRegistryInsertThenCopyRangeRestoresSpec : ChangeSpec := { name := "fnRegistryInsertThenCopyRangeRestores", fn := fun _ => fun
  | [d1, d2, d3, d4] => { results := [.lit (.bool true)], args := [d1, d2, d3, d4] }
  | _ => none }
def fnRegistryInsertThenCopyRangeRestoresRow : OpenClaim := { program := "ytdpdpknkfolajaa", sum := "17d4d55d5d3f75d6f1e707e3125d05a0e98324bcf61232fb67ef75a73601c135", func := "github.com/yuin/gopher-lua/n005_31.FnRegistryInsertThenCopyRangeRestores", spec := "fnRegistryInsertThenCopyRangeRestores", unfollowed := true, recurses := true, apart := false }
def FnRegistryInsertThenCopyRangeRestoresSaid : Prop := fnRegistryInsertThenCopyRangeRestoresRow.holds Try.pinned (OpenSpec.ofChange fnRegistryInsertThenCopyRangeRestoresSpec)

/-- ITS FALSE NEIGHBOUR: 'it returns false'. Refute it at one input. -/
def fnRegistryInsertThenCopyRangeRestoresWrong : ChangeSpec := { name := "fnRegistryInsertThenCopyRangeRestores", fn := fun _ => fun
  | [d1, d2, d3, d4] => { results := [.lit (.bool false)], args := [d1, d2, d3, d4] }
  | _ => none }
def FnRegistryInsertThenCopyRangeRestoresWrongFalsely : Prop := fnRegistryInsertThenCopyRangeRestoresRow.holds Try.pinned (OpenSpec.ofChange fnRegistryInsertThenCopyRangeRestoresWrong)

/-- 'n005_31.FnRegistryFillNilIdempotent': WHATEVER THE INPUT: true; the input reads as it did. -/
def fnRegistryFillNilIdempotentSpec : ChangeSpec := { name := "fnRegistryFillNilIdempotent", fn := fun _ => fun
  | [d1, d2, d3, d4] => { results := [.lit (.bool true)], args := [d1, d2, d3, d4] }
  | _ => none }
def fnRegistryFillNilIdempotentRow : OpenClaim := { program := "ytdpdpknkfolajaa", sum := "17d4d55d5d3f75d6f1e707e3125d05a0e98324bcf61232fb67ef75a73601c135", func := "github.com/yuin/gopher-lua/n005_31.FnRegistryFillNilIdempotent", spec := "fnRegistryFillNilIdempotent", unfollowed := true, recurses := true, apart := false }
def FnRegistryFillNilIdempotentSaid : Prop := fnRegistryFillNilIdempotentRow.holds Try.pinned (OpenSpec.ofChange fnRegistryFillNilIdempotentSpec)

/-- ITS FALSE NEIGHBOUR: 'it returns false'. Refute it at one input. -/
def fnRegistryFillNilIdempotentWrong : ChangeSpec := { name := "fnRegistryFillNilIdempotent", fn := fun _ => fun
  | [d1, d2, d3, d4] => { results := [.lit (.bool false)], args := [d1, d2, d3, d4] }
  | _ => none }
def FnRegistryFillNilIdempotentWrongFalsely : Prop := fnRegistryFillNilIdempotentRow.holds Try.pinned (OpenSpec.ofChange fnRegistryFillNilIdempotentWrong)

/-- 'n005_31.FnRegistryCopyRangeDeletesWindow': WHATEVER THE INPUT: true; the input reads as it did. -/
def fnRegistryCopyRangeDeletesWindowSpec : ChangeSpec := { name := "fnRegistryCopyRangeDeletesWindow", fn := fun _ => fun
  | [d1, d2, d3, d4] => { results := [.lit (.bool true)], args := [d1, d2, d3, d4] }
  | _ => none }
def fnRegistryCopyRangeDeletesWindowRow : OpenClaim := { program := "ytdpdpknkfolajaa", sum := "17d4d55d5d3f75d6f1e707e3125d05a0e98324bcf61232fb67ef75a73601c135", func := "github.com/yuin/gopher-lua/n005_31.FnRegistryCopyRangeDeletesWindow", spec := "fnRegistryCopyRangeDeletesWindow", unfollowed := true, recurses := true, apart := false }
def FnRegistryCopyRangeDeletesWindowSaid : Prop := fnRegistryCopyRangeDeletesWindowRow.holds Try.pinned (OpenSpec.ofChange fnRegistryCopyRangeDeletesWindowSpec)

/-- ITS FALSE NEIGHBOUR: 'it returns false'. Refute it at one input. -/
def fnRegistryCopyRangeDeletesWindowWrong : ChangeSpec := { name := "fnRegistryCopyRangeDeletesWindow", fn := fun _ => fun
  | [d1, d2, d3, d4] => { results := [.lit (.bool false)], args := [d1, d2, d3, d4] }
  | _ => none }
def FnRegistryCopyRangeDeletesWindowWrongFalsely : Prop := fnRegistryCopyRangeDeletesWindowRow.holds Try.pinned (OpenSpec.ofChange fnRegistryCopyRangeDeletesWindowWrong)

/-- 'n005_31.FnRegistryFillNilMatchesModel': WHATEVER THE INPUT: true; the input reads as it did. -/
def fnRegistryFillNilMatchesModelSpec : ChangeSpec := { name := "fnRegistryFillNilMatchesModel", fn := fun _ => fun
  | [d1, d2, d3, d4] => { results := [.lit (.bool true)], args := [d1, d2, d3, d4] }
  | _ => none }
def fnRegistryFillNilMatchesModelRow : OpenClaim := { program := "ytdpdpknkfolajaa", sum := "17d4d55d5d3f75d6f1e707e3125d05a0e98324bcf61232fb67ef75a73601c135", func := "github.com/yuin/gopher-lua/n005_31.FnRegistryFillNilMatchesModel", spec := "fnRegistryFillNilMatchesModel", unfollowed := true, recurses := true, apart := false }
def FnRegistryFillNilMatchesModelSaid : Prop := fnRegistryFillNilMatchesModelRow.holds Try.pinned (OpenSpec.ofChange fnRegistryFillNilMatchesModelSpec)

/-- ITS FALSE NEIGHBOUR: 'it returns false'. Refute it at one input. -/
def fnRegistryFillNilMatchesModelWrong : ChangeSpec := { name := "fnRegistryFillNilMatchesModel", fn := fun _ => fun
  | [d1, d2, d3, d4] => { results := [.lit (.bool false)], args := [d1, d2, d3, d4] }
  | _ => none }
def FnRegistryFillNilMatchesModelWrongFalsely : Prop := fnRegistryFillNilMatchesModelRow.holds Try.pinned (OpenSpec.ofChange fnRegistryFillNilMatchesModelWrong)

/-- 'n005_31.FnRegistryCopyRangeMatchesMoveModel': WHATEVER THE INPUT: true; the input reads as it did. -/
def fnRegistryCopyRangeMatchesMoveModelSpec : ChangeSpec := { name := "fnRegistryCopyRangeMatchesMoveModel", fn := fun _ => fun
  | [d1, d2, d3, d4, d5, d6] => { results := [.lit (.bool true)], args := [d1, d2, d3, d4, d5, d6] }
  | _ => none }
def fnRegistryCopyRangeMatchesMoveModelRow : OpenClaim := { program := "ytdpdpknkfolajaa", sum := "17d4d55d5d3f75d6f1e707e3125d05a0e98324bcf61232fb67ef75a73601c135", func := "github.com/yuin/gopher-lua/n005_31.FnRegistryCopyRangeMatchesMoveModel", spec := "fnRegistryCopyRangeMatchesMoveModel", unfollowed := true, recurses := true, apart := false }
def FnRegistryCopyRangeMatchesMoveModelSaid : Prop := fnRegistryCopyRangeMatchesMoveModelRow.holds Try.pinned (OpenSpec.ofChange fnRegistryCopyRangeMatchesMoveModelSpec)

/-- ITS FALSE NEIGHBOUR: 'it returns false'. Refute it at one input. -/
def fnRegistryCopyRangeMatchesMoveModelWrong : ChangeSpec := { name := "fnRegistryCopyRangeMatchesMoveModel", fn := fun _ => fun
  | [d1, d2, d3, d4, d5, d6] => { results := [.lit (.bool false)], args := [d1, d2, d3, d4, d5, d6] }
  | _ => none }
def FnRegistryCopyRangeMatchesMoveModelWrongFalsely : Prop := fnRegistryCopyRangeMatchesMoveModelRow.holds Try.pinned (OpenSpec.ofChange fnRegistryCopyRangeMatchesMoveModelWrong)

/- THE SECOND FORM. 'bulk': how many values and letters a reading holds, each counted each time it is reached (what is shared counts as often as it is met; a slice's spare places count too). A statement '..UptoSaid' is the law's where the arguments, and the package variables that the reading takes, are together of bulk at most 1048576: NARROWER than '..Said'. Prove '..Said' where nothing that the law and all that it calls make is longer than what came in: it says more and counts as full. Else prove '..UptoSaid'. A law counts once. -/
mutual
def uptoBulk {H : Type} : DataW H → Nat
  | .lit (.string bytes) => bytes.length + 1
  | .lit _ => 1
  | .nil => 1
  | .ptr d => uptoBulk d + 1
  | .slice elems spare => uptoBulkAll elems + uptoBulkAll spare + 1
  | .agg parts => uptoBulkAll parts + 1
  | .iface _ d => uptoBulk d + 1
  | .map entries => uptoBulkEntries entries + 1
  | .held _ => 1
def uptoBulkAll {H : Type} : List (DataW H) → Nat
  | [] => 0
  | d :: r => uptoBulk d + uptoBulkAll r
def uptoBulkEntries {H : Type} : List (Lit × DataW H) → Nat
  | [] => 0
  | x :: r => uptoBulkEntry x + uptoBulkEntries r
def uptoBulkEntry {H : Type} : Lit × DataW H → Nat
  | (.string bytes, d) => bytes.length + uptoBulk d + 1
  | (_, d) => uptoBulk d + 1
 end
def uptoSmall : (H : Type) → List (DataW H) → Bool := fun _ ds => decide (uptoBulkAll ds ≤ 1048576)
def OpenSpec.upto (s : _root_.Go.ChangeSpec) : _root_.Go.OpenSpec := { _root_.Go.OpenSpec.ofChange s with cond := some uptoSmall }

/-- 'n005_31.FnRegistryInsertThenCopyRangeRestores', WHERE WHAT IT READS IS OF BULK AT MOST 1048576: true; the input reads as it did. -/
def fnRegistryInsertThenCopyRangeRestoresUptoRow : OpenClaim := { program := "ytdpdpknkfolajaa", sum := "17d4d55d5d3f75d6f1e707e3125d05a0e98324bcf61232fb67ef75a73601c135", func := "github.com/yuin/gopher-lua/n005_31.FnRegistryInsertThenCopyRangeRestores", spec := "fnRegistryInsertThenCopyRangeRestores", unfollowed := true, recurses := true, apart := false, narrowed := true }
def FnRegistryInsertThenCopyRangeRestoresUptoSaid : Prop := fnRegistryInsertThenCopyRangeRestoresUptoRow.holds Try.pinned (OpenSpec.upto fnRegistryInsertThenCopyRangeRestoresSpec)

/-- 'n005_31.FnRegistryFillNilIdempotent', WHERE WHAT IT READS IS OF BULK AT MOST 1048576: true; the input reads as it did. -/
def fnRegistryFillNilIdempotentUptoRow : OpenClaim := { program := "ytdpdpknkfolajaa", sum := "17d4d55d5d3f75d6f1e707e3125d05a0e98324bcf61232fb67ef75a73601c135", func := "github.com/yuin/gopher-lua/n005_31.FnRegistryFillNilIdempotent", spec := "fnRegistryFillNilIdempotent", unfollowed := true, recurses := true, apart := false, narrowed := true }
def FnRegistryFillNilIdempotentUptoSaid : Prop := fnRegistryFillNilIdempotentUptoRow.holds Try.pinned (OpenSpec.upto fnRegistryFillNilIdempotentSpec)

/-- 'n005_31.FnRegistryCopyRangeDeletesWindow', WHERE WHAT IT READS IS OF BULK AT MOST 1048576: true; the input reads as it did. -/
def fnRegistryCopyRangeDeletesWindowUptoRow : OpenClaim := { program := "ytdpdpknkfolajaa", sum := "17d4d55d5d3f75d6f1e707e3125d05a0e98324bcf61232fb67ef75a73601c135", func := "github.com/yuin/gopher-lua/n005_31.FnRegistryCopyRangeDeletesWindow", spec := "fnRegistryCopyRangeDeletesWindow", unfollowed := true, recurses := true, apart := false, narrowed := true }
def FnRegistryCopyRangeDeletesWindowUptoSaid : Prop := fnRegistryCopyRangeDeletesWindowUptoRow.holds Try.pinned (OpenSpec.upto fnRegistryCopyRangeDeletesWindowSpec)

/-- 'n005_31.FnRegistryFillNilMatchesModel', WHERE WHAT IT READS IS OF BULK AT MOST 1048576: true; the input reads as it did. -/
def fnRegistryFillNilMatchesModelUptoRow : OpenClaim := { program := "ytdpdpknkfolajaa", sum := "17d4d55d5d3f75d6f1e707e3125d05a0e98324bcf61232fb67ef75a73601c135", func := "github.com/yuin/gopher-lua/n005_31.FnRegistryFillNilMatchesModel", spec := "fnRegistryFillNilMatchesModel", unfollowed := true, recurses := true, apart := false, narrowed := true }
def FnRegistryFillNilMatchesModelUptoSaid : Prop := fnRegistryFillNilMatchesModelUptoRow.holds Try.pinned (OpenSpec.upto fnRegistryFillNilMatchesModelSpec)

/-- 'n005_31.FnRegistryCopyRangeMatchesMoveModel', WHERE WHAT IT READS IS OF BULK AT MOST 1048576: true; the input reads as it did. -/
def fnRegistryCopyRangeMatchesMoveModelUptoRow : OpenClaim := { program := "ytdpdpknkfolajaa", sum := "17d4d55d5d3f75d6f1e707e3125d05a0e98324bcf61232fb67ef75a73601c135", func := "github.com/yuin/gopher-lua/n005_31.FnRegistryCopyRangeMatchesMoveModel", spec := "fnRegistryCopyRangeMatchesMoveModel", unfollowed := true, recurses := true, apart := false, narrowed := true }
def FnRegistryCopyRangeMatchesMoveModelUptoSaid : Prop := fnRegistryCopyRangeMatchesMoveModelUptoRow.holds Try.pinned (OpenSpec.upto fnRegistryCopyRangeMatchesMoveModelSpec)

end Rows
end Go.Proofs.Ytdpdpknkfolajaa
