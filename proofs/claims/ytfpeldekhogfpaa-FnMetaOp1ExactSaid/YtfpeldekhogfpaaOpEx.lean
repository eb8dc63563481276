/-
  n005_84: FnMetaOp1Exact, case by case (printed by mk84laws.py).
-/
import Derived.Test.YtfpeldekhogfpaaIgn
namespace Go.Lua
open Go.Proofs Go.RowKit
set_option linter.unusedVariables false

theorem str_yes {a b : ByteArray} (h : a = b) : (a.toList == b.toList) = true := by rw [← bytes_list, h]; exact beq_self _
theorem str_no {a b : ByteArray} (h : a ≠ b) : (a.toList == b.toList) = false := by rw [← bytes_list]; exact beq_ne h
theorem op_lock (T : Tab) (lt : ByteArray) {ev : ByteArray} (h : ev = lockKey) : Seen ((T.setStr lockKey (lstr lt)).sv ev) #[.bool false, .pointer none, .string lt, .bool true] := by
  subst h; exact (Seen.str lt).to (sv_str_self _ _ _)
theorem op_key (T : Tab) (lt val : ByteArray) {ev key : ByteArray} (h : ev ≠ lockKey) (hk : ev = key) : Seen (((T.setStr key (lstr val)).setStr lockKey (lstr lt)).sv ev) #[.bool false, .pointer none, .string val, .bool true] := by
  subst hk; exact (Seen.str val).to ((sv_str_ne _ _ h).trans (sv_str_self _ _ _))
theorem op_no (lt val : ByteArray) {ev key : ByteArray} (h : ev ≠ lockKey) (hk : ev ≠ key) : Seen ((((newTab 0 0).setStr key (lstr val)).setStr lockKey (lstr lt)).sv ev) #[.bool true, .pointer none, .string ⟨#[]⟩, .bool false] :=
  Seen.none.to ((sv_str_ne _ _ h).trans ((sv_str_ne _ _ hk).trans (sv_new 0 0 ev)))
theorem op_key0 (T : Tab) (val : ByteArray) {ev key : ByteArray} (hk : ev = key) : Seen ((T.setStr key (lstr val)).sv ev) #[.bool false, .pointer none, .string val, .bool true] := by
  subst hk; exact (Seen.str val).to (sv_str_self _ _ _)
theorem op_no0 (val : ByteArray) {ev key : ByteArray} (hk : ev ≠ key) : Seen (((newTab 0 0).setStr key (lstr val)).sv ev) #[.bool true, .pointer none, .string ⟨#[]⟩, .bool false] :=
  Seen.none.to ((sv_str_ne _ _ hk).trans (sv_new 0 0 ev))
theorem lock_ex (key val : ByteArray) (t : Nat) : ∃ u, LockIs ((newTab 0 0).setStr key (lstr val)) t u := by
  by_cases h : lockKey = key
  · subst h; exact ⟨_, .str _ (sv_str_self _ _ _)⟩
  · exact ⟨_, .free ((sv_str_ne _ _ h).trans (sv_new 0 0 _))⟩

set_option maxHeartbeats 2000000 in
set_option maxRecDepth 100000 in
theorem opex_lo (w : World) (k : Int) (hasMt : Bool) (key : ByteArray) (hkey : key.size ≤ maxLen) (val : ByteArray) (hval : val.size ≤ maxLen) (locked : Bool) (lt : ByteArray) (hlt : lt.size ≤ maxLen) (ev : ByteArray) (hev : ev.size ≤ maxLen) (x : Nat) (s : ByteArray) (hs : s.size ≤ maxLen) (b : Bool) (hk : k < 0) :
    Calls Try.prog 3 #[.int .i64 k, .bool hasMt, .string key, .string val, .bool locked, .string lt, .string ev, .float .f64 x, .string s, .bool b] w (Fine w) := by
  have CB := Lib.hid (bytes_op w k hasMt key val locked lt ev x s b hkey hval hlt hev hs)
  unfold maxLen at hkey hval hlt hev hs
  go_enter Try.func3, Try.ntmps3
  go_wp2_with (first
    | (go_at_call 7; refine CB.out.mono ?_; rintro e w1 ⟨rfl, rfl | rfl⟩))
  all_goals first | (go_ret; exact ⟨rfl, Below.refl _ _⟩)

set_option maxHeartbeats 2000000 in
set_option maxRecDepth 100000 in
theorem opex_hi (w : World) (k : Int) (hasMt : Bool) (key : ByteArray) (hkey : key.size ≤ maxLen) (val : ByteArray) (hval : val.size ≤ maxLen) (locked : Bool) (lt : ByteArray) (hlt : lt.size ≤ maxLen) (ev : ByteArray) (hev : ev.size ≤ maxLen) (x : Nat) (s : ByteArray) (hs : s.size ≤ maxLen) (b : Bool) (hk : 4 < k) :
    Calls Try.prog 3 #[.int .i64 k, .bool hasMt, .string key, .string val, .bool locked, .string lt, .string ev, .float .f64 x, .string s, .bool b] w (Fine w) := by
  have CB := Lib.hid (bytes_op w k hasMt key val locked lt ev x s b hkey hval hlt hev hs)
  unfold maxLen at hkey hval hlt hev hs
  go_enter Try.func3, Try.ntmps3
  go_wp2_with (first
    | (go_at_call 7; refine CB.out.mono ?_; rintro e w1 ⟨rfl, rfl | rfl⟩))
  all_goals first | (go_ret; exact ⟨rfl, Below.refl _ _⟩)

set_option maxHeartbeats 2000000 in
set_option maxRecDepth 100000 in
theorem opex_bare (w : World) (k : Int) (hasMt : Bool) (key : ByteArray) (hkey : key.size ≤ maxLen) (val : ByteArray) (hval : val.size ≤ maxLen) (locked : Bool) (lt : ByteArray) (hlt : lt.size ≤ maxLen) (ev : ByteArray) (hev : ev.size ≤ maxLen) (x : Nat) (s : ByteArray) (hs : s.size ≤ maxLen) (b : Bool) (hr : Hid (0 ≤ k ∧ k ≤ 4)) (hr0 : 0 ≤ k) (hr4 : k ≤ 4) :
    Calls Try.prog 3 #[.int .i64 k, .bool false, .string key, .string val, .bool locked, .string lt, .string ev, .float .f64 x, .string s, .bool b] w (Fine w) := by
  have CB := Lib.hid (bytes_op w k false key val locked lt ev x s b hkey hval hlt hev hs)
  unfold maxLen at hkey hval hlt hev hs
  go_enter Try.func3, Try.ntmps3
  go_wp2_with (first
    | (go_at_call 7; refine CB.out.mono ?_; rintro e w1 ⟨rfl, rfl | rfl⟩)
    | (go_at_call 8; refine (newState_any _).mono ?_; rintro e w1 ⟨rfl, hS, hU, -⟩; have HS0 := Lib.hid hS; have HU0 := Lib.hid hU; clear hS hU)
    | (go_at_call 11; (with_reducible refine (bareOp _ _ _ _ _ HU0.out (Nat.le_refl _) HS0.out k hr.out x s b ev).mono ?_); rintro e w7 ⟨rfl, hT⟩; have HT := Lib.hid hT; clear hT)
    | (go_at_call 12; (with_reducible refine (is_none _).mono ?_); rintro e w8 ⟨rfl, hU⟩; have HT := Lib.hid (none_trans HT.out (from_alloc hU)); clear hU))
  all_goals first | (go_ret; exact ⟨rfl, Below.refl _ _⟩) | (go_ret; exact ⟨rfl, none_below HT.out⟩)

set_option maxHeartbeats 2000000 in
set_option maxRecDepth 100000 in
theorem opex_lock (w : World) (k : Int) (hasMt : Bool) (key : ByteArray) (hkey : key.size ≤ maxLen) (val : ByteArray) (hval : val.size ≤ maxLen) (locked : Bool) (lt : ByteArray) (hlt : lt.size ≤ maxLen) (ev : ByteArray) (hev : ev.size ≤ maxLen) (x : Nat) (s : ByteArray) (hs : s.size ≤ maxLen) (b : Bool) (hr : Hid (0 ≤ k ∧ k ≤ 4)) (hr0 : 0 ≤ k) (hr4 : k ≤ 4) (he : Hid (ev = lockKey)) (hb : (ev.toList == [95, 95, 109, 101, 116, 97, 116, 97, 98, 108, 101]) = true) :
    Calls Try.prog 3 #[.int .i64 k, .bool true, .string key, .string val, .bool true, .string lt, .string ev, .float .f64 x, .string s, .bool b] w (Fine w) := by
  have CB := Lib.hid (bytes_op w k true key val true lt ev x s b hkey hval hlt hev hs)
  unfold maxLen at hkey hval hlt hev hs
  go_enter Try.func3, Try.ntmps3
  go_wp2_with (first
    | (go_at_call 7; refine CB.out.mono ?_; rintro e w1 ⟨rfl, rfl | rfl⟩)
    | (go_at_call 8; refine (newState_any _).mono ?_; rintro e w1 ⟨rfl, hS, hU, -⟩; have HS0 := Lib.hid hS; have HU0 := Lib.hid hU; clear hS hU)
    | (go_at_call 9; refine (newTable_any _).mono ?_; intro e w2 hf; obtain ⟨rfl, hP⟩ := pre_new HS0.out HU0.out (Nat.le_refl _) hf; have HP := Lib.hid hP; clear hP hf HS0 HU0)
    | (go_at_call 10; (with_reducible refine (HP.out.str (Nat.le_of_ble_eq_true rfl) _ _).mono ?_); rintro e w4 ⟨rfl, hP⟩; have HP := Lib.hid hP; clear hP)
    | (go_at_call 11; have HT := Lib.hid (HP.out.stage (.str _ (sv_str_self _ _ _))); (with_reducible refine (seeOp HT.out k hr.out x s b ev (op_lock _ _ he.out)).mono ?_); rintro e w7 ⟨rfl, hT⟩; have HT := Lib.hid hT; clear hT HP)
    | (go_at_call 12; (with_reducible refine (is_tab _ _).mono ?_); rintro e w8 ⟨rfl, hU⟩; have HT := Lib.hid (HT.out.quiet (from_alloc hU)); clear hU)
    | (go_at_call 12; (with_reducible refine (is_none _).mono ?_); rintro e w8 ⟨rfl, hU⟩; have HT := Lib.hid (HT.out.quiet (from_alloc hU)); clear hU)
    | (go_at_call 13; (with_reducible refine (is_str _ _).mono ?_); rintro e w8 ⟨rfl, hU⟩; have HT := Lib.hid (HT.out.quiet (from_alloc hU)); clear hU))
  all_goals first | (go_ret; exact ⟨rfl, Below.refl _ _⟩) | (go_ret; exact ⟨rfl, HT.out.below⟩)

set_option maxHeartbeats 2000000 in
set_option maxRecDepth 100000 in
theorem opex_key (w : World) (k : Int) (hasMt : Bool) (key : ByteArray) (hkey : key.size ≤ maxLen) (val : ByteArray) (hval : val.size ≤ maxLen) (locked : Bool) (lt : ByteArray) (hlt : lt.size ≤ maxLen) (ev : ByteArray) (hev : ev.size ≤ maxLen) (x : Nat) (s : ByteArray) (hs : s.size ≤ maxLen) (b : Bool) (hr : Hid (0 ≤ k ∧ k ≤ 4)) (hr0 : 0 ≤ k) (hr4 : k ≤ 4) (he : Hid (ev ≠ lockKey)) (hb : (ev.toList == [95, 95, 109, 101, 116, 97, 116, 97, 98, 108, 101]) = false) (hq : Hid (ev = key)) (hc : (ev.toList == key.toList) = true) :
    Calls Try.prog 3 #[.int .i64 k, .bool true, .string key, .string val, .bool true, .string lt, .string ev, .float .f64 x, .string s, .bool b] w (Fine w) := by
  have CB := Lib.hid (bytes_op w k true key val true lt ev x s b hkey hval hlt hev hs)
  unfold maxLen at hkey hval hlt hev hs
  go_enter Try.func3, Try.ntmps3
  go_wp2_with (first
    | (go_at_call 7; refine CB.out.mono ?_; rintro e w1 ⟨rfl, rfl | rfl⟩)
    | (go_at_call 8; refine (newState_any _).mono ?_; rintro e w1 ⟨rfl, hS, hU, -⟩; have HS0 := Lib.hid hS; have HU0 := Lib.hid hU; clear hS hU)
    | (go_at_call 9; refine (newTable_any _).mono ?_; intro e w2 hf; obtain ⟨rfl, hP⟩ := pre_new HS0.out HU0.out (Nat.le_refl _) hf; have HP := Lib.hid hP; clear hP hf HS0 HU0)
    | (go_at_call 10; (with_reducible refine (HP.out.str (Nat.le_of_ble_eq_true rfl) _ _).mono ?_); rintro e w4 ⟨rfl, hP⟩; have HP := Lib.hid hP; clear hP)
    | (go_at_call 11; have HT := Lib.hid (HP.out.stage (.str _ (sv_str_self _ _ _))); (with_reducible refine (seeOp HT.out k hr.out x s b ev (op_key _ _ _ he.out hq.out)).mono ?_); rintro e w7 ⟨rfl, hT⟩; have HT := Lib.hid hT; clear hT HP)
    | (go_at_call 12; (with_reducible refine (is_tab _ _).mono ?_); rintro e w8 ⟨rfl, hU⟩; have HT := Lib.hid (HT.out.quiet (from_alloc hU)); clear hU)
    | (go_at_call 12; (with_reducible refine (is_none _).mono ?_); rintro e w8 ⟨rfl, hU⟩; have HT := Lib.hid (HT.out.quiet (from_alloc hU)); clear hU)
    | (go_at_call 13; (with_reducible refine (is_str _ _).mono ?_); rintro e w8 ⟨rfl, hU⟩; have HT := Lib.hid (HT.out.quiet (from_alloc hU)); clear hU))
  all_goals first | (go_ret; exact ⟨rfl, Below.refl _ _⟩) | (go_ret; exact ⟨rfl, HT.out.below⟩)

set_option maxHeartbeats 2000000 in
set_option maxRecDepth 100000 in
theorem opex_no (w : World) (k : Int) (hasMt : Bool) (key : ByteArray) (hkey : key.size ≤ maxLen) (val : ByteArray) (hval : val.size ≤ maxLen) (locked : Bool) (lt : ByteArray) (hlt : lt.size ≤ maxLen) (ev : ByteArray) (hev : ev.size ≤ maxLen) (x : Nat) (s : ByteArray) (hs : s.size ≤ maxLen) (b : Bool) (hr : Hid (0 ≤ k ∧ k ≤ 4)) (hr0 : 0 ≤ k) (hr4 : k ≤ 4) (he : Hid (ev ≠ lockKey)) (hb : (ev.toList == [95, 95, 109, 101, 116, 97, 116, 97, 98, 108, 101]) = false) (hq : Hid (ev ≠ key)) (hc : (ev.toList == key.toList) = false) :
    Calls Try.prog 3 #[.int .i64 k, .bool true, .string key, .string val, .bool true, .string lt, .string ev, .float .f64 x, .string s, .bool b] w (Fine w) := by
  have CB := Lib.hid (bytes_op w k true key val true lt ev x s b hkey hval hlt hev hs)
  unfold maxLen at hkey hval hlt hev hs
  go_enter Try.func3, Try.ntmps3
  go_wp2_with (first
    | (go_at_call 7; refine CB.out.mono ?_; rintro e w1 ⟨rfl, rfl | rfl⟩)
    | (go_at_call 8; refine (newState_any _).mono ?_; rintro e w1 ⟨rfl, hS, hU, -⟩; have HS0 := Lib.hid hS; have HU0 := Lib.hid hU; clear hS hU)
    | (go_at_call 9; refine (newTable_any _).mono ?_; intro e w2 hf; obtain ⟨rfl, hP⟩ := pre_new HS0.out HU0.out (Nat.le_refl _) hf; have HP := Lib.hid hP; clear hP hf HS0 HU0)
    | (go_at_call 10; (with_reducible refine (HP.out.str (Nat.le_of_ble_eq_true rfl) _ _).mono ?_); rintro e w4 ⟨rfl, hP⟩; have HP := Lib.hid hP; clear hP)
    | (go_at_call 11; have HT := Lib.hid (HP.out.stage (.str _ (sv_str_self _ _ _))); (with_reducible refine (seeOp HT.out k hr.out x s b ev (op_no _ _ he.out hq.out)).mono ?_); rintro e w7 ⟨rfl, hT⟩; have HT := Lib.hid hT; clear hT HP)
    | (go_at_call 12; (with_reducible refine (is_tab _ _).mono ?_); rintro e w8 ⟨rfl, hU⟩; have HT := Lib.hid (HT.out.quiet (from_alloc hU)); clear hU)
    | (go_at_call 12; (with_reducible refine (is_none _).mono ?_); rintro e w8 ⟨rfl, hU⟩; have HT := Lib.hid (HT.out.quiet (from_alloc hU)); clear hU)
    | (go_at_call 13; (with_reducible refine (is_str _ _).mono ?_); rintro e w8 ⟨rfl, hU⟩; have HT := Lib.hid (HT.out.quiet (from_alloc hU)); clear hU))
  all_goals first | (go_ret; exact ⟨rfl, Below.refl _ _⟩) | (go_ret; exact ⟨rfl, HT.out.below⟩)

set_option maxHeartbeats 2000000 in
set_option maxRecDepth 100000 in
theorem opex_key0 (w : World) (k : Int) (hasMt : Bool) (key : ByteArray) (hkey : key.size ≤ maxLen) (val : ByteArray) (hval : val.size ≤ maxLen) (locked : Bool) (lt : ByteArray) (hlt : lt.size ≤ maxLen) (ev : ByteArray) (hev : ev.size ≤ maxLen) (x : Nat) (s : ByteArray) (hs : s.size ≤ maxLen) (b : Bool) (hr : Hid (0 ≤ k ∧ k ≤ 4)) (hr0 : 0 ≤ k) (hr4 : k ≤ 4) (hq : Hid (ev = key)) (hc : (ev.toList == key.toList) = true) :
    Calls Try.prog 3 #[.int .i64 k, .bool true, .string key, .string val, .bool false, .string lt, .string ev, .float .f64 x, .string s, .bool b] w (Fine w) := by
  have CB := Lib.hid (bytes_op w k true key val false lt ev x s b hkey hval hlt hev hs)
  unfold maxLen at hkey hval hlt hev hs
  go_enter Try.func3, Try.ntmps3
  go_wp2_with (first
    | (go_at_call 7; refine CB.out.mono ?_; rintro e w1 ⟨rfl, rfl | rfl⟩)
    | (go_at_call 8; refine (newState_any _).mono ?_; rintro e w1 ⟨rfl, hS, hU, -⟩; have HS0 := Lib.hid hS; have HU0 := Lib.hid hU; clear hS hU)
    | (go_at_call 9; refine (newTable_any _).mono ?_; intro e w2 hf; obtain ⟨rfl, hP⟩ := pre_new HS0.out HU0.out (Nat.le_refl _) hf; have HP := Lib.hid hP; clear hP hf HS0 HU0)
    | (go_at_call 10; (with_reducible refine (HP.out.str (Nat.le_of_ble_eq_true rfl) _ _).mono ?_); rintro e w4 ⟨rfl, hP⟩; have HP := Lib.hid hP; clear hP)
    | (go_at_call 11; have HT := Lib.hid (HP.out.stage (lock_ex _ _ _).choose_spec); (with_reducible refine (seeOp HT.out k hr.out x s b ev (op_key0 _ _ hq.out)).mono ?_); rintro e w7 ⟨rfl, hT⟩; have HT := Lib.hid hT; clear hT HP)
    | (go_at_call 12; (with_reducible refine (is_tab _ _).mono ?_); rintro e w8 ⟨rfl, hU⟩; have HT := Lib.hid (HT.out.quiet (from_alloc hU)); clear hU)
    | (go_at_call 12; (with_reducible refine (is_none _).mono ?_); rintro e w8 ⟨rfl, hU⟩; have HT := Lib.hid (HT.out.quiet (from_alloc hU)); clear hU)
    | (go_at_call 13; (with_reducible refine (is_str _ _).mono ?_); rintro e w8 ⟨rfl, hU⟩; have HT := Lib.hid (HT.out.quiet (from_alloc hU)); clear hU))
  all_goals first | (go_ret; exact ⟨rfl, Below.refl _ _⟩) | (go_ret; exact ⟨rfl, HT.out.below⟩)

set_option maxHeartbeats 2000000 in
set_option maxRecDepth 100000 in
theorem opex_no0 (w : World) (k : Int) (hasMt : Bool) (key : ByteArray) (hkey : key.size ≤ maxLen) (val : ByteArray) (hval : val.size ≤ maxLen) (locked : Bool) (lt : ByteArray) (hlt : lt.size ≤ maxLen) (ev : ByteArray) (hev : ev.size ≤ maxLen) (x : Nat) (s : ByteArray) (hs : s.size ≤ maxLen) (b : Bool) (hr : Hid (0 ≤ k ∧ k ≤ 4)) (hr0 : 0 ≤ k) (hr4 : k ≤ 4) (hq : Hid (ev ≠ key)) (hc : (ev.toList == key.toList) = false) :
    Calls Try.prog 3 #[.int .i64 k, .bool true, .string key, .string val, .bool false, .string lt, .string ev, .float .f64 x, .string s, .bool b] w (Fine w) := by
  have CB := Lib.hid (bytes_op w k true key val false lt ev x s b hkey hval hlt hev hs)
  unfold maxLen at hkey hval hlt hev hs
  go_enter Try.func3, Try.ntmps3
  go_wp2_with (first
    | (go_at_call 7; refine CB.out.mono ?_; rintro e w1 ⟨rfl, rfl | rfl⟩)
    | (go_at_call 8; refine (newState_any _).mono ?_; rintro e w1 ⟨rfl, hS, hU, -⟩; have HS0 := Lib.hid hS; have HU0 := Lib.hid hU; clear hS hU)
    | (go_at_call 9; refine (newTable_any _).mono ?_; intro e w2 hf; obtain ⟨rfl, hP⟩ := pre_new HS0.out HU0.out (Nat.le_refl _) hf; have HP := Lib.hid hP; clear hP hf HS0 HU0)
    | (go_at_call 10; (with_reducible refine (HP.out.str (Nat.le_of_ble_eq_true rfl) _ _).mono ?_); rintro e w4 ⟨rfl, hP⟩; have HP := Lib.hid hP; clear hP)
    | (go_at_call 11; have HT := Lib.hid (HP.out.stage (lock_ex _ _ _).choose_spec); (with_reducible refine (seeOp HT.out k hr.out x s b ev (op_no0 _ hq.out)).mono ?_); rintro e w7 ⟨rfl, hT⟩; have HT := Lib.hid hT; clear hT HP)
    | (go_at_call 12; (with_reducible refine (is_tab _ _).mono ?_); rintro e w8 ⟨rfl, hU⟩; have HT := Lib.hid (HT.out.quiet (from_alloc hU)); clear hU)
    | (go_at_call 12; (with_reducible refine (is_none _).mono ?_); rintro e w8 ⟨rfl, hU⟩; have HT := Lib.hid (HT.out.quiet (from_alloc hU)); clear hU)
    | (go_at_call 13; (with_reducible refine (is_str _ _).mono ?_); rintro e w8 ⟨rfl, hU⟩; have HT := Lib.hid (HT.out.quiet (from_alloc hU)); clear hU))
  all_goals first | (go_ret; exact ⟨rfl, Below.refl _ _⟩) | (go_ret; exact ⟨rfl, HT.out.below⟩)

theorem opex_walk (w : World) (k : Int) (hk : (Lit.int .i64 k).wf = true) (hasMt : Bool) (key : ByteArray) (hkey : key.size ≤ maxLen) (val : ByteArray) (hval : val.size ≤ maxLen) (locked : Bool) (lt : ByteArray) (hlt : lt.size ≤ maxLen) (ev : ByteArray) (hev : ev.size ≤ maxLen) (x : Nat) (hx : (Lit.float .f64 x).wf = true) (s : ByteArray) (hs : s.size ≤ maxLen) (b : Bool) :
    Calls Try.prog 3 #[.int .i64 k, .bool hasMt, .string key, .string val, .bool locked, .string lt, .string ev, .float .f64 x, .string s, .bool b] w (Fine w) := by
  by_cases h1 : k < 0
  · exact opex_lo w k hasMt key hkey val hval locked lt hlt ev hev x s hs b h1
  by_cases h2 : 4 < k
  · exact opex_hi w k hasMt key hkey val hval locked lt hlt ev hev x s hs b h2
  have h3 : 0 ≤ k ∧ k ≤ 4 := by omega
  cases hasMt
  · exact opex_bare w k false key hkey val hval locked lt hlt ev hev x s hs b (Lib.hid h3) h3.1 h3.2
  · by_cases hq : ev = key
    · cases locked
      · exact opex_key0 w k true key hkey val hval false lt hlt ev hev x s hs b (Lib.hid h3) h3.1 h3.2 (Lib.hid hq) (str_yes hq)
      · by_cases he : ev = lockKey
        · exact opex_lock w k true key hkey val hval true lt hlt ev hev x s hs b (Lib.hid h3) h3.1 h3.2 (Lib.hid he) (lock_yes he)
        · exact opex_key w k true key hkey val hval true lt hlt ev hev x s hs b (Lib.hid h3) h3.1 h3.2 (Lib.hid he) (lock_no he) (Lib.hid hq) (str_yes hq)
    · cases locked
      · exact opex_no0 w k true key hkey val hval false lt hlt ev hev x s hs b (Lib.hid h3) h3.1 h3.2 (Lib.hid hq) (str_no hq)
      · by_cases he : ev = lockKey
        · exact opex_lock w k true key hkey val hval true lt hlt ev hev x s hs b (Lib.hid h3) h3.1 h3.2 (Lib.hid he) (lock_yes he)
        · exact opex_no w k true key hkey val hval true lt hlt ev hev x s hs b (Lib.hid h3) h3.1 h3.2 (Lib.hid he) (lock_no he) (Lib.hid hq) (str_no hq)
end Go.Lua

