/-
  n005_84: FnMetaOp1IgnoresProtectingTable.
-/
import Derived.Test.YtfpeldekhogfpaaStage
namespace Go.Lua
open Go.Proofs Go.RowKit
set_option linter.unusedVariables false

theorem beq_self (s : ByteArray) : (s == s) = true := (bytes_beq s s).2 rfl
theorem beq_ne {a b : ByteArray} (h : a ≠ b) : (a == b) = false := by
  cases hb : (a == b)
  · rfl
  · exact absurd ((bytes_beq a b).1 hb) h
theorem sv_tab_self (T : Tab) (s : ByteArray) (l : Nat) : (T.setStr s (tabV l)).sv s = tabV l := by rw [sv_tab, beq_self]; rfl
theorem sv_str_self (T : Tab) (s v : ByteArray) : (T.setStr s (lstr v)).sv s = lstr v := by rw [sv_str, beq_self]; rfl
theorem sv_tab_ne (T : Tab) {s u : ByteArray} (l : Nat) (h : u ≠ s) : (T.setStr s (tabV l)).sv u = T.sv u := by rw [sv_tab, beq_ne h]; rfl
theorem sv_str_ne (T : Tab) {s u : ByteArray} (v : ByteArray) (h : u ≠ s) : (T.setStr s (lstr v)).sv u = T.sv u := by rw [sv_str, beq_ne h]; rfl
theorem Seen.to {v v' : Value} {q : Array Value} (h : Seen v q) (e : v' = v) : Seen v' q := e ▸ h

theorem from_alloc {w w3 : World} {o : Obj} (h : None (w.alloc o) w3) : None w w3 := none_trans ((Upd.refl _ w).alloc _) h
theorem bytes_list (a b : ByteArray) : (a == b) = (a.toList == b.toList) := by
  rw [Bool.eq_iff_iff, bytes_beq, beq_iff_eq]
  refine ⟨fun h => by rw [h], fun h => ?_⟩
  rw [ByteArray.toList_eq, ByteArray.toList_eq] at h
  exact ByteArray.ext (Array.toList_inj.1 h)
theorem lock_list : ([95, 95, 109, 101, 116, 97, 116, 97, 98, 108, 101] : List UInt8) = lockKey.toList := by rw [ByteArray.toList_eq]; rfl
theorem lock_yes {ev : ByteArray} (h : ev = lockKey) : (ev.toList == [95, 95, 109, 101, 116, 97, 116, 97, 98, 108, 101]) = true := by
  rw [h, lock_list, ← bytes_list]; exact beq_self _
theorem lock_no {ev : ByteArray} (h : ev ≠ lockKey) : (ev.toList == [95, 95, 109, 101, 116, 97, 116, 97, 98, 108, 101]) = false := by
  rw [lock_list, ← bytes_list]; exact beq_ne h
theorem seen_lock (T : Tab) (l : Nat) {ev : ByteArray} (h : ev = lockKey) : Seen ((T.setStr lockKey (tabV l)).sv ev) #[.bool false, .pointer (some ⟨l, 0, none⟩), .string ⟨#[]⟩, .bool false] := by
  subst h; exact (Seen.tab l).to (sv_tab_self _ _ _)
theorem seen_m (T : Tab) (l : Nat) {ev : ByteArray} (mv : ByteArray) (h : ev ≠ lockKey) : Seen (((T.setStr ev (lstr mv)).setStr lockKey (tabV l)).sv ev) #[.bool false, .pointer none, .string mv, .bool true] :=
  (Seen.str mv).to ((sv_tab_ne _ l h).trans (sv_str_self _ _ _))
theorem seen_no (l : Nat) {ev : ByteArray} (h : ev ≠ lockKey) : Seen (((newTab 0 0).setStr lockKey (tabV l)).sv ev) #[.bool true, .pointer none, .string ⟨#[]⟩, .bool false] :=
  Seen.none.to ((sv_tab_ne _ l h).trans (sv_new 0 0 ev))
section
variable {w0 w w' : World} {ls g mp t : Nat} {T : Tab} {u : Value} {q : Array Value} {e : Ending}
theorem seeF (h : Stage w0 ls g mp t T u w) (k : Int) (hk : 0 ≤ k ∧ k ≤ 4) (x : Nat) (s : ByteArray) (b : Bool) (hq : Seen u q) :
    Calls Try.prog 16 #[.pointer (some ⟨ls, 0, none⟩), .int .i64 k, .pointer (some ⟨t, 0, none⟩), .float .f64 x, .string s, .bool b, .bool false] w (Sees w0 ls g mp t T u q) := seeMt h k hk x s b false hq
theorem seeT (h : Stage w0 ls g mp t T u w) (k : Int) (hk : 0 ≤ k ∧ k ≤ 4) (x : Nat) (s : ByteArray) (b : Bool) :
    Calls Try.prog 16 #[.pointer (some ⟨ls, 0, none⟩), .int .i64 k, .pointer (some ⟨t, 0, none⟩), .float .f64 x, .string s, .bool b, .bool true] w (Sees w0 ls g mp t T u #[.bool false, .pointer (some ⟨t, 0, none⟩), .string ⟨#[]⟩, .bool false]) := seeMt h k hk x s b true (Seen.tab t)
end

set_option maxHeartbeats 8000000 in
set_option maxRecDepth 100000 in
theorem ignores_walk (w : World) (k : Int) (hk : (Lit.int .i64 k).wf = true) (ev : ByteArray) (hev : ev.size ≤ maxLen) (inM : Bool) (mv : ByteArray) (hmv : mv.size ≤ maxLen) (lv : ByteArray) (hlv : lv.size ≤ maxLen) (x : Nat) (hx : (Lit.float .f64 x).wf = true) (s : ByteArray) (hs : s.size ≤ maxLen) (b : Bool) :
    Calls Try.prog 4 #[.int .i64 k, .string ev, .bool inM, .string mv, .string lv, .float .f64 x, .string s, .bool b] w (Fine w) := by
  have CB := Lib.hid (bytes_ignores w k ev inM mv lv x s b hev hmv hlv hs)
  unfold maxLen at hev hmv hlv hs
  clear hk hx
  have hr : Hid (k < 0) ∨ Hid (4 < k) ∨ Hid (0 ≤ k ∧ k ≤ 4) := by
    rcases (show k < 0 ∨ 4 < k ∨ (0 ≤ k ∧ k ≤ 4) by omega) with h | h | h
    · exact .inl (Lib.hid h)
    · exact .inr (.inl (Lib.hid h))
    · exact .inr (.inr (Lib.hid h))
  rcases hr with hr | hr | hr
  · have h1 := hr.out
    go_enter Try.func4, Try.ntmps4
    go_wp2_with (go_at_call 14; refine CB.out.mono ?_; rintro e w1 ⟨rfl, rfl | rfl⟩)
    all_goals (go_ret; exact ⟨rfl, Below.refl _ _⟩)
  · have h1 := hr.out
    go_enter Try.func4, Try.ntmps4
    go_wp2_with (go_at_call 14; refine CB.out.mono ?_; rintro e w1 ⟨rfl, rfl | rfl⟩)
    all_goals (go_ret; exact ⟨rfl, Below.refl _ _⟩)
  · have h1 := hr.out.1
    have h2 := hr.out.2
    by_cases he : ev = lockKey
    · have hb := lock_yes he
      have HE := Lib.hid he
      clear he
      cases inM
      · go_enter Try.func4, Try.ntmps4
        go_wp2_with (first
          | (go_at_call 14; refine CB.out.mono ?_; rintro e w1 ⟨rfl, rfl | rfl⟩)
          | (go_at_call 8; refine (newState_any _).mono ?_; rintro e w1 ⟨rfl, hS, hU, -⟩; have HS0 := Lib.hid hS; have HU0 := Lib.hid hU; clear hS hU)
          | (go_at_call 9; refine (newTable_any _).mono ?_; intro e w2 hf; obtain ⟨rfl, hP⟩ := pre_new HS0.out HU0.out (Nat.le_refl _) hf; have HP := Lib.hid hP; clear hP hf HS0 HU0)
          | (go_at_call 9; refine (newTable_any _).mono ?_; intro e w3 hf; obtain ⟨rfl, hL⟩ := Has.fresh hf; have HL := Lib.hid hL; clear hf hL)
          | (go_at_call 10; refine (setString_any _ _ _ _ HL.out.1 (KOk.new.wf (Nat.zero_le _)) ev lv).mono ?_; intro e w4 hu; obtain ⟨rfl, hL⟩ := HL.out.step hu; have HP := Lib.hid (HP.out.quiet hL.2); clear hu hL HL)
          | (go_at_call 10; refine (HP.out.str (by omega) ev mv).mono ?_; rintro e w5 ⟨rfl, hP⟩; have HP := Lib.hid hP; clear hP)
          | (go_at_call 15; refine (HP.out.tabl (by omega) lockKey _).mono ?_; rintro e w6 ⟨rfl, hP⟩; have HT := Lib.hid (hP.stage (.tab _ (sv_tab_self _ _ _))); clear hP HP)
          | (go_at_call 11; refine (seeOp HT.out k hr.out x s b ev (seen_lock _ _ HE.out)).mono ?_; rintro e w7 ⟨rfl, hT⟩; have HT := Lib.hid hT; have MK : True := trivial; clear hT)
          | (go_at_call 16; (with_reducible refine (seeF HT.out k hr.out x s b (Seen.tab _)).mono ?_); rintro e w7 ⟨rfl, hT⟩; have HT := Lib.hid hT; clear hT)
          | (go_at_call 16; (with_reducible refine (seeT HT.out k hr.out x s b).mono ?_); rintro e w7 ⟨rfl, hT⟩; have HT := Lib.hid hT; clear hT)
          | (go_at_call 12; clear MK; (with_reducible refine (is_tab _ _).mono ?_); rintro e w8 ⟨rfl, hU⟩; have HT := Lib.hid (HT.out.quiet (from_alloc hU)); clear hU)
          | (go_at_call 12; clear MK; (with_reducible refine (is_none _).mono ?_); rintro e w8 ⟨rfl, hU⟩; have HT := Lib.hid (HT.out.quiet (from_alloc hU)); clear hU)
          | (go_at_call 12; (with_reducible refine (is_tab _ _).mono ?_); rintro e w8 ⟨rfl, hU⟩; have HT := Lib.hid (HT.out.quiet hU); clear hU)
          | (go_at_call 13; clear MK; (with_reducible refine (is_str _ _).mono ?_); rintro e w8 ⟨rfl, hU⟩; have HT := Lib.hid (HT.out.quiet (from_alloc hU)); clear hU))
        all_goals first | (go_ret; exact ⟨rfl, Below.refl _ _⟩) | (go_ret; exact ⟨rfl, HT.out.below⟩)
      · go_enter Try.func4, Try.ntmps4
        go_wp2_with (first
          | (go_at_call 14; refine CB.out.mono ?_; rintro e w1 ⟨rfl, rfl | rfl⟩)
          | (go_at_call 8; refine (newState_any _).mono ?_; rintro e w1 ⟨rfl, hS, hU, -⟩; have HS0 := Lib.hid hS; have HU0 := Lib.hid hU; clear hS hU)
          | (go_at_call 9; refine (newTable_any _).mono ?_; intro e w2 hf; obtain ⟨rfl, hP⟩ := pre_new HS0.out HU0.out (Nat.le_refl _) hf; have HP := Lib.hid hP; clear hP hf HS0 HU0)
          | (go_at_call 9; refine (newTable_any _).mono ?_; intro e w3 hf; obtain ⟨rfl, hL⟩ := Has.fresh hf; have HL := Lib.hid hL; clear hf hL)
          | (go_at_call 10; refine (setString_any _ _ _ _ HL.out.1 (KOk.new.wf (Nat.zero_le _)) ev lv).mono ?_; intro e w4 hu; obtain ⟨rfl, hL⟩ := HL.out.step hu; have HP := Lib.hid (HP.out.quiet hL.2); clear hu hL HL)
          | (go_at_call 10; refine (HP.out.str (by omega) ev mv).mono ?_; rintro e w5 ⟨rfl, hP⟩; have HP := Lib.hid hP; clear hP)
          | (go_at_call 15; refine (HP.out.tabl (by omega) lockKey _).mono ?_; rintro e w6 ⟨rfl, hP⟩; have HT := Lib.hid (hP.stage (.tab _ (sv_tab_self _ _ _))); clear hP HP)
          | (go_at_call 11; refine (seeOp HT.out k hr.out x s b ev (seen_lock _ _ HE.out)).mono ?_; rintro e w7 ⟨rfl, hT⟩; have HT := Lib.hid hT; have MK : True := trivial; clear hT)
          | (go_at_call 16; (with_reducible refine (seeF HT.out k hr.out x s b (Seen.tab _)).mono ?_); rintro e w7 ⟨rfl, hT⟩; have HT := Lib.hid hT; clear hT)
          | (go_at_call 16; (with_reducible refine (seeT HT.out k hr.out x s b).mono ?_); rintro e w7 ⟨rfl, hT⟩; have HT := Lib.hid hT; clear hT)
          | (go_at_call 12; clear MK; (with_reducible refine (is_tab _ _).mono ?_); rintro e w8 ⟨rfl, hU⟩; have HT := Lib.hid (HT.out.quiet (from_alloc hU)); clear hU)
          | (go_at_call 12; clear MK; (with_reducible refine (is_none _).mono ?_); rintro e w8 ⟨rfl, hU⟩; have HT := Lib.hid (HT.out.quiet (from_alloc hU)); clear hU)
          | (go_at_call 12; (with_reducible refine (is_tab _ _).mono ?_); rintro e w8 ⟨rfl, hU⟩; have HT := Lib.hid (HT.out.quiet hU); clear hU)
          | (go_at_call 13; clear MK; (with_reducible refine (is_str _ _).mono ?_); rintro e w8 ⟨rfl, hU⟩; have HT := Lib.hid (HT.out.quiet (from_alloc hU)); clear hU))
        all_goals first | (go_ret; exact ⟨rfl, Below.refl _ _⟩) | (go_ret; exact ⟨rfl, HT.out.below⟩)
    · have hb := lock_no he
      have HE := Lib.hid he
      clear he
      cases inM
      · go_enter Try.func4, Try.ntmps4
        go_wp2_with (first
          | (go_at_call 14; refine CB.out.mono ?_; rintro e w1 ⟨rfl, rfl | rfl⟩)
          | (go_at_call 8; refine (newState_any _).mono ?_; rintro e w1 ⟨rfl, hS, hU, -⟩; have HS0 := Lib.hid hS; have HU0 := Lib.hid hU; clear hS hU)
          | (go_at_call 9; refine (newTable_any _).mono ?_; intro e w2 hf; obtain ⟨rfl, hP⟩ := pre_new HS0.out HU0.out (Nat.le_refl _) hf; have HP := Lib.hid hP; clear hP hf HS0 HU0)
          | (go_at_call 9; refine (newTable_any _).mono ?_; intro e w3 hf; obtain ⟨rfl, hL⟩ := Has.fresh hf; have HL := Lib.hid hL; clear hf hL)
          | (go_at_call 10; refine (setString_any _ _ _ _ HL.out.1 (KOk.new.wf (Nat.zero_le _)) ev lv).mono ?_; intro e w4 hu; obtain ⟨rfl, hL⟩ := HL.out.step hu; have HP := Lib.hid (HP.out.quiet hL.2); clear hu hL HL)
          | (go_at_call 10; refine (HP.out.str (by omega) ev mv).mono ?_; rintro e w5 ⟨rfl, hP⟩; have HP := Lib.hid hP; clear hP)
          | (go_at_call 15; refine (HP.out.tabl (by omega) lockKey _).mono ?_; rintro e w6 ⟨rfl, hP⟩; have HT := Lib.hid (hP.stage (.tab _ (sv_tab_self _ _ _))); clear hP HP)
          | (go_at_call 11; refine (seeOp HT.out k hr.out x s b ev (seen_no _ HE.out)).mono ?_; rintro e w7 ⟨rfl, hT⟩; have HT := Lib.hid hT; have MK : True := trivial; clear hT)
          | (go_at_call 16; (with_reducible refine (seeF HT.out k hr.out x s b (Seen.tab _)).mono ?_); rintro e w7 ⟨rfl, hT⟩; have HT := Lib.hid hT; clear hT)
          | (go_at_call 16; (with_reducible refine (seeT HT.out k hr.out x s b).mono ?_); rintro e w7 ⟨rfl, hT⟩; have HT := Lib.hid hT; clear hT)
          | (go_at_call 12; clear MK; (with_reducible refine (is_tab _ _).mono ?_); rintro e w8 ⟨rfl, hU⟩; have HT := Lib.hid (HT.out.quiet (from_alloc hU)); clear hU)
          | (go_at_call 12; clear MK; (with_reducible refine (is_none _).mono ?_); rintro e w8 ⟨rfl, hU⟩; have HT := Lib.hid (HT.out.quiet (from_alloc hU)); clear hU)
          | (go_at_call 12; (with_reducible refine (is_tab _ _).mono ?_); rintro e w8 ⟨rfl, hU⟩; have HT := Lib.hid (HT.out.quiet hU); clear hU)
          | (go_at_call 13; clear MK; (with_reducible refine (is_str _ _).mono ?_); rintro e w8 ⟨rfl, hU⟩; have HT := Lib.hid (HT.out.quiet (from_alloc hU)); clear hU))
        all_goals first | (go_ret; exact ⟨rfl, Below.refl _ _⟩) | (go_ret; exact ⟨rfl, HT.out.below⟩)
      · go_enter Try.func4, Try.ntmps4
        go_wp2_with (first
          | (go_at_call 14; refine CB.out.mono ?_; rintro e w1 ⟨rfl, rfl | rfl⟩)
          | (go_at_call 8; refine (newState_any _).mono ?_; rintro e w1 ⟨rfl, hS, hU, -⟩; have HS0 := Lib.hid hS; have HU0 := Lib.hid hU; clear hS hU)
          | (go_at_call 9; refine (newTable_any _).mono ?_; intro e w2 hf; obtain ⟨rfl, hP⟩ := pre_new HS0.out HU0.out (Nat.le_refl _) hf; have HP := Lib.hid hP; clear hP hf HS0 HU0)
          | (go_at_call 9; refine (newTable_any _).mono ?_; intro e w3 hf; obtain ⟨rfl, hL⟩ := Has.fresh hf; have HL := Lib.hid hL; clear hf hL)
          | (go_at_call 10; refine (setString_any _ _ _ _ HL.out.1 (KOk.new.wf (Nat.zero_le _)) ev lv).mono ?_; intro e w4 hu; obtain ⟨rfl, hL⟩ := HL.out.step hu; have HP := Lib.hid (HP.out.quiet hL.2); clear hu hL HL)
          | (go_at_call 10; refine (HP.out.str (by omega) ev mv).mono ?_; rintro e w5 ⟨rfl, hP⟩; have HP := Lib.hid hP; clear hP)
          | (go_at_call 15; refine (HP.out.tabl (by omega) lockKey _).mono ?_; rintro e w6 ⟨rfl, hP⟩; have HT := Lib.hid (hP.stage (.tab _ (sv_tab_self _ _ _))); clear hP HP)
          | (go_at_call 11; refine (seeOp HT.out k hr.out x s b ev (seen_m _ _ _ HE.out)).mono ?_; rintro e w7 ⟨rfl, hT⟩; have HT := Lib.hid hT; have MK : True := trivial; clear hT)
          | (go_at_call 16; (with_reducible refine (seeF HT.out k hr.out x s b (Seen.tab _)).mono ?_); rintro e w7 ⟨rfl, hT⟩; have HT := Lib.hid hT; clear hT)
          | (go_at_call 16; (with_reducible refine (seeT HT.out k hr.out x s b).mono ?_); rintro e w7 ⟨rfl, hT⟩; have HT := Lib.hid hT; clear hT)
          | (go_at_call 12; clear MK; (with_reducible refine (is_tab _ _).mono ?_); rintro e w8 ⟨rfl, hU⟩; have HT := Lib.hid (HT.out.quiet (from_alloc hU)); clear hU)
          | (go_at_call 12; clear MK; (with_reducible refine (is_none _).mono ?_); rintro e w8 ⟨rfl, hU⟩; have HT := Lib.hid (HT.out.quiet (from_alloc hU)); clear hU)
          | (go_at_call 12; (with_reducible refine (is_tab _ _).mono ?_); rintro e w8 ⟨rfl, hU⟩; have HT := Lib.hid (HT.out.quiet hU); clear hU)
          | (go_at_call 13; clear MK; (with_reducible refine (is_str _ _).mono ?_); rintro e w8 ⟨rfl, hU⟩; have HT := Lib.hid (HT.out.quiet (from_alloc hU)); clear hU))
        all_goals first | (go_ret; exact ⟨rfl, Below.refl _ _⟩) | (go_ret; exact ⟨rfl, HT.out.below⟩)
end Go.Lua
