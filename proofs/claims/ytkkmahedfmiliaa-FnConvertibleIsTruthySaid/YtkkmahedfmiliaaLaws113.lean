/-
  The four laws of n005_113, walked: each returns true for every input. No condition.
-/
import Derived.Test.YtkkmahedfmiliaaKinds
namespace Go.Lua
open Go.Proofs Go.RowKit
set_option linter.unusedVariables false

theorem asB_one {k : Int} {b : Bool} (h0 : ¬k = 0) (h1 : ¬k = 1) : asB k b = (k != 0) := by
  have e0 : (k == 0) = false := beq_false_of_ne h0
  have e1 : (k == 1) = false := beq_false_of_ne h1
  have e2 : (k != 0) = true := bne_iff_ne.2 h0
  rw [e2]
  unfold asB
  rw [e0, e1]
  rfl
theorem conv_asB {k : Int} {b : Bool} (h : conv k = true) : asB k b = true := by
  simp [conv] at h
  rcases h with rfl | rfl <;> simp [asB]
def SomeB (w : World) (e : Ending) (w' : World) : Prop := ∃ b, e = .returned (.bool b) ∧ w = w'

set_option maxHeartbeats 400000 in
theorem bytes8 (k : Int) (b : Bool) (s : ByteArray) (f : Nat) (w : World) : Calls Try.prog 8 #[.int .i64 k, .bool b, .string s, .float .f64 f] w (SomeB w) := by
  go_enter Try.func8, Try.ntmps8
  go_wp2
  all_goals go_ret
  all_goals exact ⟨_, rfl, rfl⟩
set_option maxHeartbeats 400000 in
theorem bytes11 (k : Int) (b : Bool) (s : ByteArray) (f : Nat) (w : World) : Calls Try.prog 11 #[.int .i64 k, .bool b, .string s, .float .f64 f] w (SomeB w) := by
  go_enter Try.func11, Try.ntmps11
  go_wp2
  all_goals go_ret
  all_goals exact ⟨_, rfl, rfl⟩
set_option maxHeartbeats 400000 in
theorem bytes12 (k : Int) (b : Bool) (s : ByteArray) (f : Nat) (w : World) : Calls Try.prog 12 #[.int .i64 k, .bool b, .string s, .float .f64 f] w (SomeB w) := by
  go_enter Try.func12, Try.ntmps12
  go_wp2
  all_goals go_ret
  all_goals exact ⟨_, rfl, rfl⟩
set_option maxHeartbeats 400000 in
theorem bytes16 (k : Int) (b : Bool) (s : ByteArray) (f : Nat) (w : World) : Calls Try.prog 16 #[.int .i64 k, .bool b, .string s, .float .f64 f] w (SomeB w) := by
  go_enter Try.func16, Try.ntmps16
  go_wp2
  all_goals go_ret
  all_goals exact ⟨_, rfl, rfl⟩

set_option maxHeartbeats 400000 in
theorem notIsFalse_walk (w : World) (k : Int) (hk : (Lit.int .i64 k).wf = true) (b : Bool) (s : ByteArray) (hs : s.size ≤ maxLen) (f : Nat) (hf : (Lit.float .f64 f).wf = true) :
    Calls Try.prog 3 #[.int .i64 k, .bool b, .string s, .float .f64 f] w fun e w' => e = .returned (.bool true) ∧ Below w.heap.size w w' := by
  unfold maxLen at hs
  go_enter Try.func3, Try.ntmps3
  go_wp2_with (first
    | (go_at_call 8; refine (bytes8 _ _ _ _ _).mono ?_; rintro e w' ⟨b1, rfl, rfl⟩)
    | (go_at_call 9; refine (asBool_any _ _ _ _ _).mono ?_; rintro e w1 ⟨rfl, hb1⟩)
    | (go_at_call 10; refine (isFalse_any _ _ _ _ _).mono ?_; rintro e w2 ⟨rfl, hb2⟩)
    | (go_at_call 17; refine (conv_any _ _ _ _ _).mono ?_; rintro e w2 ⟨rfl, hb2⟩))
  all_goals go_ret
  all_goals go_tidy
  all_goals refine ⟨?_, by first | exact Below.refl _ _ | assumption | exact hb1.trans (hb2.mono hb1.size) | exact hb2.trans (hb1.mono hb2.size)⟩
  all_goals clear hk hs hf
  all_goals first | rfl | (simp [asB, *]; done) | (simp [asB_one ‹¬k = 0› ‹¬k = 1›]; done) | (simp [conv_asB ‹conv k = true›]; done)

set_option maxHeartbeats 400000 in
theorem asBoolTable_walk (w : World) (k : Int) (hk : (Lit.int .i64 k).wf = true) (b : Bool) (s : ByteArray) (hs : s.size ≤ maxLen) (f : Nat) (hf : (Lit.float .f64 f).wf = true) :
    Calls Try.prog 4 #[.int .i64 k, .bool b, .string s, .float .f64 f] w fun e w' => e = .returned (.bool true) ∧ Below w.heap.size w w' := by
  unfold maxLen at hs
  go_enter Try.func4, Try.ntmps4
  go_wp2_with (first
    | (go_at_call 11; refine (bytes11 _ _ _ _ _).mono ?_; rintro e w' ⟨b1, rfl, rfl⟩)
    | (go_at_call 9; refine (asBool_any _ _ _ _ _).mono ?_; rintro e w1 ⟨rfl, hb1⟩)
    | (go_at_call 10; refine (isFalse_any _ _ _ _ _).mono ?_; rintro e w2 ⟨rfl, hb2⟩)
    | (go_at_call 17; refine (conv_any _ _ _ _ _).mono ?_; rintro e w2 ⟨rfl, hb2⟩))
  all_goals go_ret
  all_goals go_tidy
  all_goals refine ⟨?_, by first | exact Below.refl _ _ | assumption | exact hb1.trans (hb2.mono hb1.size) | exact hb2.trans (hb1.mono hb2.size)⟩
  all_goals clear hk hs hf
  all_goals first | rfl | (simp [asB, *]; done) | (simp [asB_one ‹¬k = 0› ‹¬k = 1›]; done) | (simp [conv_asB ‹conv k = true›]; done)

set_option maxHeartbeats 400000 in
theorem isFalseTable_walk (w : World) (k : Int) (hk : (Lit.int .i64 k).wf = true) (b : Bool) (s : ByteArray) (hs : s.size ≤ maxLen) (f : Nat) (hf : (Lit.float .f64 f).wf = true) :
    Calls Try.prog 5 #[.int .i64 k, .bool b, .string s, .float .f64 f] w fun e w' => e = .returned (.bool true) ∧ Below w.heap.size w w' := by
  unfold maxLen at hs
  go_enter Try.func5, Try.ntmps5
  go_wp2_with (first
    | (go_at_call 12; refine (bytes12 _ _ _ _ _).mono ?_; rintro e w' ⟨b1, rfl, rfl⟩)
    | (go_at_call 9; refine (asBool_any _ _ _ _ _).mono ?_; rintro e w1 ⟨rfl, hb1⟩)
    | (go_at_call 10; refine (isFalse_any _ _ _ _ _).mono ?_; rintro e w2 ⟨rfl, hb2⟩)
    | (go_at_call 17; refine (conv_any _ _ _ _ _).mono ?_; rintro e w2 ⟨rfl, hb2⟩))
  all_goals go_ret
  all_goals go_tidy
  all_goals refine ⟨?_, by first | exact Below.refl _ _ | assumption | exact hb1.trans (hb2.mono hb1.size) | exact hb2.trans (hb1.mono hb2.size)⟩
  all_goals clear hk hs hf
  all_goals first | rfl | (simp [asB, *]; done) | (simp [asB_one ‹¬k = 0› ‹¬k = 1›]; done) | (simp [conv_asB ‹conv k = true›]; done)

set_option maxHeartbeats 400000 in
theorem convTruthy_walk (w : World) (k : Int) (hk : (Lit.int .i64 k).wf = true) (b : Bool) (s : ByteArray) (hs : s.size ≤ maxLen) (f : Nat) (hf : (Lit.float .f64 f).wf = true) :
    Calls Try.prog 7 #[.int .i64 k, .bool b, .string s, .float .f64 f] w fun e w' => e = .returned (.bool true) ∧ Below w.heap.size w w' := by
  unfold maxLen at hs
  go_enter Try.func7, Try.ntmps7
  go_wp2_with (first
    | (go_at_call 16; refine (bytes16 _ _ _ _ _).mono ?_; rintro e w' ⟨b1, rfl, rfl⟩)
    | (go_at_call 9; refine (asBool_any _ _ _ _ _).mono ?_; rintro e w1 ⟨rfl, hb1⟩)
    | (go_at_call 10; refine (isFalse_any _ _ _ _ _).mono ?_; rintro e w2 ⟨rfl, hb2⟩)
    | (go_at_call 17; refine (conv_any _ _ _ _ _).mono ?_; rintro e w2 ⟨rfl, hb2⟩))
  all_goals go_ret
  all_goals go_tidy
  all_goals refine ⟨?_, by first | exact Below.refl _ _ | assumption | exact hb1.trans (hb2.mono hb1.size) | exact hb2.trans (hb1.mono hb2.size)⟩
  all_goals clear hk hs hf
  all_goals first | rfl | (simp [asB, *]; done) | (simp [asB_one ‹¬k = 0› ‹¬k = 1›]; done) | (simp [conv_asB ‹conv k = true›]; done)

end Go.Lua
