/-
  What LVIsFalse, LVAsBool and LVCanConvToString answer on a value of each of the seven kinds. Every int, bool, string and double; no condition.
-/
import Derived.Test.YtkkmahedfmiliaaLv
namespace Go.Lua
open Go.Proofs Go.RowKit
set_option linter.unusedVariables false

def asB (k : Int) (b : Bool) : Bool := !(k == 0) && (!(k == 1) || b)
def conv (k : Int) : Bool := k == 2 || k == 3

set_option maxHeartbeats 400000 in
theorem asBool_any (k : Int) (b : Bool) (s : ByteArray) (f : Nat) (w : World) :
    Calls Try.prog 9 #[.int .i64 k, .bool b, .string s, .float .f64 f] w fun e w' => e = .returned (.bool (asB k b)) ∧ Below w.heap.size w w' := by
  go_enter Try.func9, Try.ntmps9
  go_wp2
  all_goals go_ret
  all_goals refine ⟨?_, by repeat (first | exact Below.refl _ _ | (refine Below.alloc ?_ (by simp) _))⟩
  all_goals go_tidy
  all_goals simp [asB, *]

set_option maxHeartbeats 400000 in
theorem isFalse_any (k : Int) (b : Bool) (s : ByteArray) (f : Nat) (w : World) :
    Calls Try.prog 10 #[.int .i64 k, .bool b, .string s, .float .f64 f] w fun e w' => e = .returned (.bool (!(asB k b))) ∧ Below w.heap.size w w' := by
  go_enter Try.func10, Try.ntmps10
  go_wp2
  all_goals go_ret
  all_goals refine ⟨?_, by repeat (first | exact Below.refl _ _ | (refine Below.alloc ?_ (by simp) _))⟩
  all_goals go_tidy
  all_goals simp [asB, *]

set_option maxRecDepth 100000 in
set_option maxHeartbeats 400000 in
theorem conv_any (k : Int) (b : Bool) (s : ByteArray) (f : Nat) (w : World) :
    Calls Try.prog 17 #[.int .i64 k, .bool b, .string s, .float .f64 f] w fun e w' => e = .returned (.bool (conv k)) ∧ Below w.heap.size w w' := by
  go_enter Try.func17, Try.ntmps17
  go_wp2
  all_goals go_ret
  all_goals refine ⟨?_, by repeat (first | exact Below.refl _ _ | (refine Below.alloc ?_ (by simp) _))⟩
  all_goals go_tidy
  all_goals simp [conv, *]
  all_goals (simp at *; omega)
end Go.Lua
