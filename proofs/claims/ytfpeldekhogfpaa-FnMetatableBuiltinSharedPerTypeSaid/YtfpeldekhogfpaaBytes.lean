/-
  n005_84: the laws' bounds; and the common words.
-/
import Derived.Test.YtfpeldekhogfpaaBare
namespace Go.Lua
open Go.Proofs Go.RowKit
set_option linter.unusedVariables false

def Fine (w : World) (e : Ending) (w' : World) : Prop := e = .returned (.bool true) ∧ Below w.heap.size w w'
/-- It answers yes or no; it changes nothing. -/
def Asks (w : World) (e : Ending) (w' : World) : Prop := w = w' ∧ (e = .returned (.bool false) ∨ e = .returned (.bool true))

set_option maxHeartbeats 2000000 in
theorem bytes_ignores (w : World) (i0 : Int) (s1 : ByteArray) (b2 : Bool) (s3 s4 : ByteArray) (f5 : Nat) (s6 : ByteArray) (b7 : Bool) (h1 : s1.size ≤ maxLen) (h3 : s3.size ≤ maxLen) (h4 : s4.size ≤ maxLen) (h6 : s6.size ≤ maxLen) :
    Calls Try.prog 14 #[.int .i64 i0, .string s1, .bool b2, .string s3, .string s4, .float .f64 f5, .string s6, .bool b7] w (Asks w) := by
  unfold maxLen at *
  go_enter Try.func14, Try.ntmps14
  go_wp2
  all_goals (go_ret; first | exact ⟨rfl, .inl rfl⟩ | exact ⟨rfl, .inr rfl⟩)
set_option maxHeartbeats 2000000 in
theorem bytes_mt (w : World) (i0 : Int) (b1 : Bool) (i2 : Int) (s3 : ByteArray) (b4 : Bool) (f5 : Nat) (s6 : ByteArray) (b7 : Bool) (h3 : s3.size ≤ maxLen) (h6 : s6.size ≤ maxLen) :
    Calls Try.prog 17 #[.int .i64 i0, .bool b1, .int .i64 i2, .string s3, .bool b4, .float .f64 f5, .string s6, .bool b7] w (Asks w) := by
  unfold maxLen at *
  go_enter Try.func17, Try.ntmps17
  go_wp2
  all_goals (go_ret; first | exact ⟨rfl, .inl rfl⟩ | exact ⟨rfl, .inr rfl⟩)
set_option maxHeartbeats 2000000 in
theorem bytes_shared (w : World) (f0 f1 : Nat) (s2 s3 : ByteArray) (b4 b5 b6 : Bool) (h2 : s2.size ≤ maxLen) (h3 : s3.size ≤ maxLen) :
    Calls Try.prog 18 #[.float .f64 f0, .float .f64 f1, .string s2, .string s3, .bool b4, .bool b5, .bool b6] w (Asks w) := by
  unfold maxLen at *
  go_enter Try.func18, Try.ntmps18
  go_wp2
  all_goals (go_ret; first | exact ⟨rfl, .inl rfl⟩ | exact ⟨rfl, .inr rfl⟩)
set_option maxHeartbeats 2000000 in
theorem bytes_op (w : World) (i0 : Int) (b1 : Bool) (s2 s3 : ByteArray) (b4 : Bool) (s5 s6 : ByteArray) (f7 : Nat) (s8 : ByteArray) (b9 : Bool) (h2 : s2.size ≤ maxLen) (h3 : s3.size ≤ maxLen) (h5 : s5.size ≤ maxLen) (h6 : s6.size ≤ maxLen) (h8 : s8.size ≤ maxLen) :
    Calls Try.prog 7 #[.int .i64 i0, .bool b1, .string s2, .string s3, .bool b4, .string s5, .string s6, .float .f64 f7, .string s8, .bool b9] w (Asks w) := by
  unfold maxLen at *
  go_enter Try.func7, Try.ntmps7
  go_wp2
  all_goals (go_ret; first | exact ⟨rfl, .inl rfl⟩ | exact ⟨rfl, .inr rfl⟩)
end Go.Lua
