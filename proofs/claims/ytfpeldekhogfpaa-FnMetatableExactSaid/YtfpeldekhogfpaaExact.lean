/-
  n005_84: FnMetatableExact, case by case (printed by mk84laws.py).
-/
import Derived.Test.YtfpeldekhogfpaaIgn
namespace Go.Lua
open Go.Proofs Go.RowKit
set_option linter.unusedVariables false

theorem lock_idx : lockKey ≠ ⟨#[95, 95, 105, 110, 100, 101, 120]⟩ := fun h => absurd (congrArg ByteArray.size h) (by decide)

set_option maxHeartbeats 2000000 in
set_option maxRecDepth 100000 in
theorem exact_lo (w : World) (k : Int) (hasMt : Bool) (lock : Int) (lt : ByteArray) (hlt : lt.size ≤ maxLen) (raw : Bool) (x : Nat) (s : ByteArray) (hs : s.size ≤ maxLen) (b : Bool) (hk : k < 0) :
    Calls Try.prog 5 #[.int .i64 k, .bool hasMt, .int .i64 lock, .string lt, .bool raw, .float .f64 x, .string s, .bool b] w (Fine w) := by
  have CB := Lib.hid (bytes_mt w k hasMt lock lt raw x s b hlt hs)
  unfold maxLen at hlt hs
  go_enter Try.func5, Try.ntmps5
  go_wp2_with (first
    | (go_at_call 17; refine CB.out.mono ?_; rintro e w1 ⟨rfl, rfl | rfl⟩))
  all_goals first | (go_ret; exact ⟨rfl, Below.refl _ _⟩)

set_option maxHeartbeats 2000000 in
set_option maxRecDepth 100000 in
theorem exact_hi (w : World) (k : Int) (hasMt : Bool) (lock : Int) (lt : ByteArray) (hlt : lt.size ≤ maxLen) (raw : Bool) (x : Nat) (s : ByteArray) (hs : s.size ≤ maxLen) (b : Bool) (hk : 4 < k) :
    Calls Try.prog 5 #[.int .i64 k, .bool hasMt, .int .i64 lock, .string lt, .bool raw, .float .f64 x, .string s, .bool b] w (Fine w) := by
  have CB := Lib.hid (bytes_mt w k hasMt lock lt raw x s b hlt hs)
  unfold maxLen at hlt hs
  go_enter Try.func5, Try.ntmps5
  go_wp2_with (first
    | (go_at_call 17; refine CB.out.mono ?_; rintro e w1 ⟨rfl, rfl | rfl⟩))
  all_goals first | (go_ret; exact ⟨rfl, Below.refl _ _⟩)

set_option maxHeartbeats 2000000 in
set_option maxRecDepth 100000 in
theorem exact_llo (w : World) (k : Int) (hasMt : Bool) (lock : Int) (lt : ByteArray) (hlt : lt.size ≤ maxLen) (raw : Bool) (x : Nat) (s : ByteArray) (hs : s.size ≤ maxLen) (b : Bool) (hr : Hid (0 ≤ k ∧ k ≤ 4)) (hr0 : 0 ≤ k) (hr4 : k ≤ 4) (hl : lock < 0) :
    Calls Try.prog 5 #[.int .i64 k, .bool hasMt, .int .i64 lock, .string lt, .bool raw, .float .f64 x, .string s, .bool b] w (Fine w) := by
  have CB := Lib.hid (bytes_mt w k hasMt lock lt raw x s b hlt hs)
  unfold maxLen at hlt hs
  go_enter Try.func5, Try.ntmps5
  go_wp2_with (first
    | (go_at_call 17; refine CB.out.mono ?_; rintro e w1 ⟨rfl, rfl | rfl⟩))
  all_goals first | (go_ret; exact ⟨rfl, Below.refl _ _⟩)

set_option maxHeartbeats 2000000 in
set_option maxRecDepth 100000 in
theorem exact_lhi (w : World) (k : Int) (hasMt : Bool) (lock : Int) (lt : ByteArray) (hlt : lt.size ≤ maxLen) (raw : Bool) (x : Nat) (s : ByteArray) (hs : s.size ≤ maxLen) (b : Bool) (hr : Hid (0 ≤ k ∧ k ≤ 4)) (hr0 : 0 ≤ k) (hr4 : k ≤ 4) (hl : 2 < lock) :
    Calls Try.prog 5 #[.int .i64 k, .bool hasMt, .int .i64 lock, .string lt, .bool raw, .float .f64 x, .string s, .bool b] w (Fine w) := by
  have CB := Lib.hid (bytes_mt w k hasMt lock lt raw x s b hlt hs)
  unfold maxLen at hlt hs
  go_enter Try.func5, Try.ntmps5
  go_wp2_with (first
    | (go_at_call 17; refine CB.out.mono ?_; rintro e w1 ⟨rfl, rfl | rfl⟩))
  all_goals first | (go_ret; exact ⟨rfl, Below.refl _ _⟩)

set_option maxHeartbeats 2000000 in
set_option maxRecDepth 100000 in
theorem exact_bare (w : World) (k : Int) (hasMt : Bool) (lock : Int) (lt : ByteArray) (hlt : lt.size ≤ maxLen) (raw : Bool) (x : Nat) (s : ByteArray) (hs : s.size ≤ maxLen) (b : Bool) (hr : Hid (0 ≤ k ∧ k ≤ 4)) (hr0 : 0 ≤ k) (hr4 : k ≤ 4) (hl : 0 ≤ lock) (hl2 : lock ≤ 2) :
    Calls Try.prog 5 #[.int .i64 k, .bool false, .int .i64 lock, .string lt, .bool raw, .float .f64 x, .string s, .bool b] w (Fine w) := by
  have CB := Lib.hid (bytes_mt w k false lock lt raw x s b hlt hs)
  unfold maxLen at hlt hs
  go_enter Try.func5, Try.ntmps5
  go_wp2_with (first
    | (go_at_call 17; refine CB.out.mono ?_; rintro e w1 ⟨rfl, rfl | rfl⟩)
    | (go_at_call 8; refine (newState_any _).mono ?_; rintro e w1 ⟨rfl, hS, hU, -⟩; have HS0 := Lib.hid hS; have HU0 := Lib.hid hU; clear hS hU)
    | (go_at_call 16; (with_reducible refine (bareMt _ _ _ _ _ HU0.out (Nat.le_refl _) HS0.out k hr.out x s b raw).mono ?_); rintro e w7 ⟨rfl, hT⟩; have HT := Lib.hid hT; clear hT)
    | (go_at_call 12; (with_reducible refine (is_none _).mono ?_); rintro e w8 ⟨rfl, hU⟩; have HT := Lib.hid (none_trans HT.out (from_alloc hU)); clear hU))
  all_goals first | (go_ret; exact ⟨rfl, Below.refl _ _⟩) | (go_ret; exact ⟨rfl, none_below HT.out⟩)

set_option maxHeartbeats 2000000 in
set_option maxRecDepth 100000 in
theorem exact_0false (w : World) (k : Int) (hasMt : Bool) (lock : Int) (lt : ByteArray) (hlt : lt.size ≤ maxLen) (raw : Bool) (x : Nat) (s : ByteArray) (hs : s.size ≤ maxLen) (b : Bool) (hr : Hid (0 ≤ k ∧ k ≤ 4)) (hr0 : 0 ≤ k) (hr4 : k ≤ 4) :
    Calls Try.prog 5 #[.int .i64 k, .bool true, .int .i64 0, .string lt, .bool false, .float .f64 x, .string s, .bool b] w (Fine w) := by
  have CB := Lib.hid (bytes_mt w k true 0 lt false x s b hlt hs)
  unfold maxLen at hlt hs
  go_enter Try.func5, Try.ntmps5
  go_wp2_with (first
    | (go_at_call 17; refine CB.out.mono ?_; rintro e w1 ⟨rfl, rfl | rfl⟩)
    | (go_at_call 8; refine (newState_any _).mono ?_; rintro e w1 ⟨rfl, hS, hU, -⟩; have HS0 := Lib.hid hS; have HU0 := Lib.hid hU; clear hS hU)
    | (go_at_call 9; refine (newTable_any _).mono ?_; intro e w2 hf; obtain ⟨rfl, hP⟩ := pre_new HS0.out HU0.out (Nat.le_refl _) hf; have HP := Lib.hid hP; clear hP hf HS0 HU0)
    | (go_at_call 9; refine (newTable_any _).mono ?_; intro e w3 hf; obtain ⟨rfl, hP⟩ := HP.out.fresh hf; have HP := Lib.hid hP; clear hP hf)
    | (go_at_call 10; (with_reducible refine (HP.out.str (Nat.le_of_ble_eq_true rfl) _ _).mono ?_); rintro e w4 ⟨rfl, hP⟩; have HP := Lib.hid hP; clear hP)
    | (go_at_call 15; (with_reducible refine (HP.out.tabl (Nat.le_of_ble_eq_true rfl) _ _).mono ?_); rintro e w5 ⟨rfl, hP⟩; have HP := Lib.hid hP; clear hP)
    | (go_at_call 16; have HT := Lib.hid (HP.out.stage (.free (sv_str_ne _ _ lock_idx))); (with_reducible refine (seeF HT.out k hr.out x s b (Seen.tab _)).mono ?_); rintro e w7 ⟨rfl, hT⟩; have HT := Lib.hid hT; clear hT HP)
    | (go_at_call 12; (with_reducible refine (is_tab _ _).mono ?_); rintro e w8 ⟨rfl, hU⟩; have HT := Lib.hid (HT.out.quiet (from_alloc hU)); clear hU)
    | (go_at_call 12; (with_reducible refine (is_none _).mono ?_); rintro e w8 ⟨rfl, hU⟩; have HT := Lib.hid (HT.out.quiet (from_alloc hU)); clear hU)
    | (go_at_call 13; (with_reducible refine (is_str _ _).mono ?_); rintro e w8 ⟨rfl, hU⟩; have HT := Lib.hid (HT.out.quiet (from_alloc hU)); clear hU))
  all_goals first | (go_ret; exact ⟨rfl, Below.refl _ _⟩) | (go_ret; exact ⟨rfl, HT.out.below⟩)

set_option maxHeartbeats 2000000 in
set_option maxRecDepth 100000 in
theorem exact_0true (w : World) (k : Int) (hasMt : Bool) (lock : Int) (lt : ByteArray) (hlt : lt.size ≤ maxLen) (raw : Bool) (x : Nat) (s : ByteArray) (hs : s.size ≤ maxLen) (b : Bool) (hr : Hid (0 ≤ k ∧ k ≤ 4)) (hr0 : 0 ≤ k) (hr4 : k ≤ 4) :
    Calls Try.prog 5 #[.int .i64 k, .bool true, .int .i64 0, .string lt, .bool true, .float .f64 x, .string s, .bool b] w (Fine w) := by
  have CB := Lib.hid (bytes_mt w k true 0 lt true x s b hlt hs)
  unfold maxLen at hlt hs
  go_enter Try.func5, Try.ntmps5
  go_wp2_with (first
    | (go_at_call 17; refine CB.out.mono ?_; rintro e w1 ⟨rfl, rfl | rfl⟩)
    | (go_at_call 8; refine (newState_any _).mono ?_; rintro e w1 ⟨rfl, hS, hU, -⟩; have HS0 := Lib.hid hS; have HU0 := Lib.hid hU; clear hS hU)
    | (go_at_call 9; refine (newTable_any _).mono ?_; intro e w2 hf; obtain ⟨rfl, hP⟩ := pre_new HS0.out HU0.out (Nat.le_refl _) hf; have HP := Lib.hid hP; clear hP hf HS0 HU0)
    | (go_at_call 9; refine (newTable_any _).mono ?_; intro e w3 hf; obtain ⟨rfl, hP⟩ := HP.out.fresh hf; have HP := Lib.hid hP; clear hP hf)
    | (go_at_call 10; (with_reducible refine (HP.out.str (Nat.le_of_ble_eq_true rfl) _ _).mono ?_); rintro e w4 ⟨rfl, hP⟩; have HP := Lib.hid hP; clear hP)
    | (go_at_call 15; (with_reducible refine (HP.out.tabl (Nat.le_of_ble_eq_true rfl) _ _).mono ?_); rintro e w5 ⟨rfl, hP⟩; have HP := Lib.hid hP; clear hP)
    | (go_at_call 16; have HT := Lib.hid (HP.out.stage (.free (sv_str_ne _ _ lock_idx))); (with_reducible refine (seeT HT.out k hr.out x s b).mono ?_); rintro e w7 ⟨rfl, hT⟩; have HT := Lib.hid hT; clear hT HP)
    | (go_at_call 12; (with_reducible refine (is_tab _ _).mono ?_); rintro e w8 ⟨rfl, hU⟩; have HT := Lib.hid (HT.out.quiet (from_alloc hU)); clear hU)
    | (go_at_call 12; (with_reducible refine (is_none _).mono ?_); rintro e w8 ⟨rfl, hU⟩; have HT := Lib.hid (HT.out.quiet (from_alloc hU)); clear hU)
    | (go_at_call 13; (with_reducible refine (is_str _ _).mono ?_); rintro e w8 ⟨rfl, hU⟩; have HT := Lib.hid (HT.out.quiet (from_alloc hU)); clear hU))
  all_goals first | (go_ret; exact ⟨rfl, Below.refl _ _⟩) | (go_ret; exact ⟨rfl, HT.out.below⟩)

set_option maxHeartbeats 2000000 in
set_option maxRecDepth 100000 in
theorem exact_1false (w : World) (k : Int) (hasMt : Bool) (lock : Int) (lt : ByteArray) (hlt : lt.size ≤ maxLen) (raw : Bool) (x : Nat) (s : ByteArray) (hs : s.size ≤ maxLen) (b : Bool) (hr : Hid (0 ≤ k ∧ k ≤ 4)) (hr0 : 0 ≤ k) (hr4 : k ≤ 4) :
    Calls Try.prog 5 #[.int .i64 k, .bool true, .int .i64 1, .string lt, .bool false, .float .f64 x, .string s, .bool b] w (Fine w) := by
  have CB := Lib.hid (bytes_mt w k true 1 lt false x s b hlt hs)
  unfold maxLen at hlt hs
  go_enter Try.func5, Try.ntmps5
  go_wp2_with (first
    | (go_at_call 17; refine CB.out.mono ?_; rintro e w1 ⟨rfl, rfl | rfl⟩)
    | (go_at_call 8; refine (newState_any _).mono ?_; rintro e w1 ⟨rfl, hS, hU, -⟩; have HS0 := Lib.hid hS; have HU0 := Lib.hid hU; clear hS hU)
    | (go_at_call 9; refine (newTable_any _).mono ?_; intro e w2 hf; obtain ⟨rfl, hP⟩ := pre_new HS0.out HU0.out (Nat.le_refl _) hf; have HP := Lib.hid hP; clear hP hf HS0 HU0)
    | (go_at_call 9; refine (newTable_any _).mono ?_; intro e w3 hf; obtain ⟨rfl, hP⟩ := HP.out.fresh hf; have HP := Lib.hid hP; clear hP hf)
    | (go_at_call 10; (with_reducible refine (HP.out.str (Nat.le_of_ble_eq_true rfl) _ _).mono ?_); rintro e w4 ⟨rfl, hP⟩; have HP := Lib.hid hP; clear hP)
    | (go_at_call 15; (with_reducible refine (HP.out.tabl (Nat.le_of_ble_eq_true rfl) _ _).mono ?_); rintro e w5 ⟨rfl, hP⟩; have HP := Lib.hid hP; clear hP)
    | (go_at_call 16; have HT := Lib.hid (HP.out.stage (.str _ (sv_str_self _ _ _))); (with_reducible refine (seeF HT.out k hr.out x s b (Seen.str _)).mono ?_); rintro e w7 ⟨rfl, hT⟩; have HT := Lib.hid hT; clear hT HP)
    | (go_at_call 12; (with_reducible refine (is_tab _ _).mono ?_); rintro e w8 ⟨rfl, hU⟩; have HT := Lib.hid (HT.out.quiet (from_alloc hU)); clear hU)
    | (go_at_call 12; (with_reducible refine (is_none _).mono ?_); rintro e w8 ⟨rfl, hU⟩; have HT := Lib.hid (HT.out.quiet (from_alloc hU)); clear hU)
    | (go_at_call 13; (with_reducible refine (is_str _ _).mono ?_); rintro e w8 ⟨rfl, hU⟩; have HT := Lib.hid (HT.out.quiet (from_alloc hU)); clear hU))
  all_goals first | (go_ret; exact ⟨rfl, Below.refl _ _⟩) | (go_ret; exact ⟨rfl, HT.out.below⟩)

set_option maxHeartbeats 2000000 in
set_option maxRecDepth 100000 in
theorem exact_1true (w : World) (k : Int) (hasMt : Bool) (lock : Int) (lt : ByteArray) (hlt : lt.size ≤ maxLen) (raw : Bool) (x : Nat) (s : ByteArray) (hs : s.size ≤ maxLen) (b : Bool) (hr : Hid (0 ≤ k ∧ k ≤ 4)) (hr0 : 0 ≤ k) (hr4 : k ≤ 4) :
    Calls Try.prog 5 #[.int .i64 k, .bool true, .int .i64 1, .string lt, .bool true, .float .f64 x, .string s, .bool b] w (Fine w) := by
  have CB := Lib.hid (bytes_mt w k true 1 lt true x s b hlt hs)
  unfold maxLen at hlt hs
  go_enter Try.func5, Try.ntmps5
  go_wp2_with (first
    | (go_at_call 17; refine CB.out.mono ?_; rintro e w1 ⟨rfl, rfl | rfl⟩)
    | (go_at_call 8; refine (newState_any _).mono ?_; rintro e w1 ⟨rfl, hS, hU, -⟩; have HS0 := Lib.hid hS; have HU0 := Lib.hid hU; clear hS hU)
    | (go_at_call 9; refine (newTable_any _).mono ?_; intro e w2 hf; obtain ⟨rfl, hP⟩ := pre_new HS0.out HU0.out (Nat.le_refl _) hf; have HP := Lib.hid hP; clear hP hf HS0 HU0)
    | (go_at_call 9; refine (newTable_any _).mono ?_; intro e w3 hf; obtain ⟨rfl, hP⟩ := HP.out.fresh hf; have HP := Lib.hid hP; clear hP hf)
    | (go_at_call 10; (with_reducible refine (HP.out.str (Nat.le_of_ble_eq_true rfl) _ _).mono ?_); rintro e w4 ⟨rfl, hP⟩; have HP := Lib.hid hP; clear hP)
    | (go_at_call 15; (with_reducible refine (HP.out.tabl (Nat.le_of_ble_eq_true rfl) _ _).mono ?_); rintro e w5 ⟨rfl, hP⟩; have HP := Lib.hid hP; clear hP)
    | (go_at_call 16; have HT := Lib.hid (HP.out.stage (.str _ (sv_str_self _ _ _))); (with_reducible refine (seeT HT.out k hr.out x s b).mono ?_); rintro e w7 ⟨rfl, hT⟩; have HT := Lib.hid hT; clear hT HP)
    | (go_at_call 12; (with_reducible refine (is_tab _ _).mono ?_); rintro e w8 ⟨rfl, hU⟩; have HT := Lib.hid (HT.out.quiet (from_alloc hU)); clear hU)
    | (go_at_call 12; (with_reducible refine (is_none _).mono ?_); rintro e w8 ⟨rfl, hU⟩; have HT := Lib.hid (HT.out.quiet (from_alloc hU)); clear hU)
    | (go_at_call 13; (with_reducible refine (is_str _ _).mono ?_); rintro e w8 ⟨rfl, hU⟩; have HT := Lib.hid (HT.out.quiet (from_alloc hU)); clear hU))
  all_goals first | (go_ret; exact ⟨rfl, Below.refl _ _⟩) | (go_ret; exact ⟨rfl, HT.out.below⟩)

set_option maxHeartbeats 2000000 in
set_option maxRecDepth 100000 in
theorem exact_2false (w : World) (k : Int) (hasMt : Bool) (lock : Int) (lt : ByteArray) (hlt : lt.size ≤ maxLen) (raw : Bool) (x : Nat) (s : ByteArray) (hs : s.size ≤ maxLen) (b : Bool) (hr : Hid (0 ≤ k ∧ k ≤ 4)) (hr0 : 0 ≤ k) (hr4 : k ≤ 4) :
    Calls Try.prog 5 #[.int .i64 k, .bool true, .int .i64 2, .string lt, .bool false, .float .f64 x, .string s, .bool b] w (Fine w) := by
  have CB := Lib.hid (bytes_mt w k true 2 lt false x s b hlt hs)
  unfold maxLen at hlt hs
  go_enter Try.func5, Try.ntmps5
  go_wp2_with (first
    | (go_at_call 17; refine CB.out.mono ?_; rintro e w1 ⟨rfl, rfl | rfl⟩)
    | (go_at_call 8; refine (newState_any _).mono ?_; rintro e w1 ⟨rfl, hS, hU, -⟩; have HS0 := Lib.hid hS; have HU0 := Lib.hid hU; clear hS hU)
    | (go_at_call 9; refine (newTable_any _).mono ?_; intro e w2 hf; obtain ⟨rfl, hP⟩ := pre_new HS0.out HU0.out (Nat.le_refl _) hf; have HP := Lib.hid hP; clear hP hf HS0 HU0)
    | (go_at_call 9; refine (newTable_any _).mono ?_; intro e w3 hf; obtain ⟨rfl, hP⟩ := HP.out.fresh hf; have HP := Lib.hid hP; clear hP hf)
    | (go_at_call 10; (with_reducible refine (HP.out.str (Nat.le_of_ble_eq_true rfl) _ _).mono ?_); rintro e w4 ⟨rfl, hP⟩; have HP := Lib.hid hP; clear hP)
    | (go_at_call 15; (with_reducible refine (HP.out.tabl (Nat.le_of_ble_eq_true rfl) _ _).mono ?_); rintro e w5 ⟨rfl, hP⟩; have HP := Lib.hid hP; clear hP)
    | (go_at_call 16; have HT := Lib.hid (HP.out.stage (.tab _ (sv_tab_self _ _ _))); (with_reducible refine (seeF HT.out k hr.out x s b (Seen.tab _)).mono ?_); rintro e w7 ⟨rfl, hT⟩; have HT := Lib.hid hT; clear hT HP)
    | (go_at_call 12; (with_reducible refine (is_tab _ _).mono ?_); rintro e w8 ⟨rfl, hU⟩; have HT := Lib.hid (HT.out.quiet (from_alloc hU)); clear hU)
    | (go_at_call 12; (with_reducible refine (is_none _).mono ?_); rintro e w8 ⟨rfl, hU⟩; have HT := Lib.hid (HT.out.quiet (from_alloc hU)); clear hU)
    | (go_at_call 13; (with_reducible refine (is_str _ _).mono ?_); rintro e w8 ⟨rfl, hU⟩; have HT := Lib.hid (HT.out.quiet (from_alloc hU)); clear hU))
  all_goals first | (go_ret; exact ⟨rfl, Below.refl _ _⟩) | (go_ret; exact ⟨rfl, HT.out.below⟩)

set_option maxHeartbeats 2000000 in
set_option maxRecDepth 100000 in
theorem exact_2true (w : World) (k : Int) (hasMt : Bool) (lock : Int) (lt : ByteArray) (hlt : lt.size ≤ maxLen) (raw : Bool) (x : Nat) (s : ByteArray) (hs : s.size ≤ maxLen) (b : Bool) (hr : Hid (0 ≤ k ∧ k ≤ 4)) (hr0 : 0 ≤ k) (hr4 : k ≤ 4) :
    Calls Try.prog 5 #[.int .i64 k, .bool true, .int .i64 2, .string lt, .bool true, .float .f64 x, .string s, .bool b] w (Fine w) := by
  have CB := Lib.hid (bytes_mt w k true 2 lt true x s b hlt hs)
  unfold maxLen at hlt hs
  go_enter Try.func5, Try.ntmps5
  go_wp2_with (first
    | (go_at_call 17; refine CB.out.mono ?_; rintro e w1 ⟨rfl, rfl | rfl⟩)
    | (go_at_call 8; refine (newState_any _).mono ?_; rintro e w1 ⟨rfl, hS, hU, -⟩; have HS0 := Lib.hid hS; have HU0 := Lib.hid hU; clear hS hU)
    | (go_at_call 9; refine (newTable_any _).mono ?_; intro e w2 hf; obtain ⟨rfl, hP⟩ := pre_new HS0.out HU0.out (Nat.le_refl _) hf; have HP := Lib.hid hP; clear hP hf HS0 HU0)
    | (go_at_call 9; refine (newTable_any _).mono ?_; intro e w3 hf; obtain ⟨rfl, hP⟩ := HP.out.fresh hf; have HP := Lib.hid hP; clear hP hf)
    | (go_at_call 10; (with_reducible refine (HP.out.str (Nat.le_of_ble_eq_true rfl) _ _).mono ?_); rintro e w4 ⟨rfl, hP⟩; have HP := Lib.hid hP; clear hP)
    | (go_at_call 15; (with_reducible refine (HP.out.tabl (Nat.le_of_ble_eq_true rfl) _ _).mono ?_); rintro e w5 ⟨rfl, hP⟩; have HP := Lib.hid hP; clear hP)
    | (go_at_call 16; have HT := Lib.hid (HP.out.stage (.tab _ (sv_tab_self _ _ _))); (with_reducible refine (seeT HT.out k hr.out x s b).mono ?_); rintro e w7 ⟨rfl, hT⟩; have HT := Lib.hid hT; clear hT HP)
    | (go_at_call 12; (with_reducible refine (is_tab _ _).mono ?_); rintro e w8 ⟨rfl, hU⟩; have HT := Lib.hid (HT.out.quiet (from_alloc hU)); clear hU)
    | (go_at_call 12; (with_reducible refine (is_none _).mono ?_); rintro e w8 ⟨rfl, hU⟩; have HT := Lib.hid (HT.out.quiet (from_alloc hU)); clear hU)
    | (go_at_call 13; (with_reducible refine (is_str _ _).mono ?_); rintro e w8 ⟨rfl, hU⟩; have HT := Lib.hid (HT.out.quiet (from_alloc hU)); clear hU))
  all_goals first | (go_ret; exact ⟨rfl, Below.refl _ _⟩) | (go_ret; exact ⟨rfl, HT.out.below⟩)

theorem exact_walk (w : World) (k : Int) (hk : (Lit.int .i64 k).wf = true) (hasMt : Bool) (lock : Int) (hlk : (Lit.int .i64 lock).wf = true) (lt : ByteArray) (hlt : lt.size ≤ maxLen) (raw : Bool) (x : Nat) (hx : (Lit.float .f64 x).wf = true) (s : ByteArray) (hs : s.size ≤ maxLen) (b : Bool) :
    Calls Try.prog 5 #[.int .i64 k, .bool hasMt, .int .i64 lock, .string lt, .bool raw, .float .f64 x, .string s, .bool b] w (Fine w) := by
  by_cases h1 : k < 0
  · exact exact_lo w k hasMt lock lt hlt raw x s hs b h1
  by_cases h2 : 4 < k
  · exact exact_hi w k hasMt lock lt hlt raw x s hs b h2
  have h3 : 0 ≤ k ∧ k ≤ 4 := by omega
  by_cases h4 : lock < 0
  · exact exact_llo w k hasMt lock lt hlt raw x s hs b (Lib.hid h3) h3.1 h3.2 h4
  by_cases h5 : 2 < lock
  · exact exact_lhi w k hasMt lock lt hlt raw x s hs b (Lib.hid h3) h3.1 h3.2 h5
  have h6 : lock = 0 ∨ lock = 1 ∨ lock = 2 := by omega
  cases hasMt
  · exact exact_bare w k false lock lt hlt raw x s hs b (Lib.hid h3) h3.1 h3.2 (by omega) (by omega)
  · rcases h6 with rfl | rfl | rfl <;> cases raw
    · exact exact_0false w k true 0 lt hlt false x s hs b (Lib.hid h3) h3.1 h3.2
    · exact exact_0true w k true 0 lt hlt true x s hs b (Lib.hid h3) h3.1 h3.2
    · exact exact_1false w k true 1 lt hlt false x s hs b (Lib.hid h3) h3.1 h3.2
    · exact exact_1true w k true 1 lt hlt true x s hs b (Lib.hid h3) h3.1 h3.2
    · exact exact_2false w k true 2 lt hlt false x s hs b (Lib.hid h3) h3.1 h3.2
    · exact exact_2true w k true 2 lt hlt true x s hs b (Lib.hid h3) h3.1 h3.2
end Go.Lua

