/-
  metatable and metaOp1: what they answer of a table, a userdata, a number, a string, a bool.
-/
import Derived.Test.YtfpeldekhogfpaaKeepS
import Derived.Test.YtfpeldekhogfpaaGetStr
import Derived.Test.YtfpeldekhogfpaaIntMap
import Derived.Deep.QuietTactic
import Derived.BigQuiet
namespace Go.Lua
open Go.Proofs Go.RowKit
set_option linter.unusedVariables false

/-- A table as an LValue. -/
abbrev tabV (t : Nat) : Value := .iface 26 (.pointer (some ⟨t, 0, none⟩))
/-- It answers u; at most some draws are made. -/
def Tells (w : World) (u : Value) (e : Ending) (w' : World) : Prop := e = .returned u ∧ ∃ d, w' = w.drewN d

/-- The state at block ls, its Global at g, whose map of built-in metatables lies at mp and holds f. -/
structure St (w : World) (ls g mp : Nat) (f : Value → Option Value) : Prop where
  c1 : w.cell? ⟨ls, 0, none⟩ = some (.pointer (some ⟨g, 0, none⟩))
  c2 : w.cell? ⟨g, 4, none⟩ = some (.map (some mp))
  mp : MapAt IsIK ikEq w mp f

/-- m is the metatable of v (LNil: none). -/
inductive Kind (w : World) (ls : Nat) : Value → Value → Prop
  | tab (t : Nat) (m : Value) (h : w.cell? ⟨t, 0, none⟩ = some m) : Kind w ls (tabV t) m
  | ud (t : Nat) (m : Value) (h : w.cell? ⟨t, 2, none⟩ = some m) : Kind w ls (.iface 48 (.pointer (some ⟨t, 0, none⟩))) m
  | num (x g mp : Nat) (f : Value → Option Value) (h : St w ls g mp f) (m : Value) (hf : f (.int .i64 2) = if isNil m then none else some m) : Kind w ls (.iface 80 (.float .f64 x)) m
  | str (s : ByteArray) (g mp : Nat) (f : Value → Option Value) (h : St w ls g mp f) (m : Value) (hf : f (.int .i64 3) = if isNil m then none else some m) : Kind w ls (.iface 66 (.string s)) m
  | bool (b : Bool) (g mp : Nat) (f : Value → Option Value) (h : St w ls g mp f) (m : Value) (hf : f (.int .i64 1) = if isNil m then none else some m) : Kind w ls (.iface 81 (.bool b)) m

def lockKey : ByteArray := ⟨#[95, 95, 109, 101, 116, 97, 116, 97, 98, 108, 101]⟩
/-- A metatable (LNil: none), and what metatable(v, false) makes of it. -/
inductive Meta (w : World) : Value → Value → Prop
  | none : Meta w lnil lnil
  | free (t : Nat) (T : Tab) (F : Nat → Prop) (h : TabAt w t T F) (hs : T.sv lockKey = lnil) : Meta w (tabV t) (tabV t)
  | lockS (t : Nat) (T : Tab) (F : Nat → Prop) (h : TabAt w t T F) (s : ByteArray) (hs : T.sv lockKey = lstr s) : Meta w (tabV t) (lstr s)
  | lockT (t : Nat) (T : Tab) (F : Nat → Prop) (h : TabAt w t T F) (l : Nat) (hs : T.sv lockKey = tabV l) : Meta w (tabV t) (tabV l)

theorem sv_tells {w : World} {t : Nat} {T : Tab} {F : Nat → Prop} (h : TabAt w t T F) (s : ByteArray) {r : Value} (hs : T.sv s = r) (n : Nat) :
    Calls Try.prog 39 #[.pointer (some ⟨t, 0, none⟩), .string s] (w.drewN n) fun e w' => e = .returned r ∧ w.drewN n = w' := by
  obtain ⟨va, vd, vs, vk, vi, hT⟩ := h
  have C := rawGetString_any (w.drewN n) t T F (hT.drewN n).at s
  unfold Tab.sv at hs
  rw [hs] at C
  exact C
/-- The lock's reading, from w and behind draws. -/
def Lock (w : World) (t : Nat) (r : Value) : Prop := ∀ n, Calls Try.prog 39 #[.pointer (some ⟨t, 0, none⟩), .string ⟨#[95, 95, 109, 101, 116, 97, 116, 97, 98, 108, 101]⟩] (w.drewN n) fun e w' => e = .returned r ∧ w.drewN n = w'
inductive MetaC (w : World) : Value → Value → Prop
  | none : MetaC w lnil lnil
  | free (t : Nat) (h : Lock w t lnil) : MetaC w (tabV t) (tabV t)
  | lockS (t : Nat) (s : ByteArray) (h : Lock w t (lstr s)) : MetaC w (tabV t) (lstr s)
  | lockT (t l : Nat) (h : Lock w t (tabV l)) : MetaC w (tabV t) (tabV l)
theorem Meta.c {w : World} {m u : Value} (h : Meta w m u) : MetaC w m u := by
  cases h with
  | none => exact .none
  | free t T F h hs => exact .free t (sv_tells h _ hs)
  | lockS t T F h s hs => exact .lockS t s (sv_tells h _ hs)
  | lockT t T F h l hs => exact .lockT t l (sv_tells h _ hs)

theorem type_num (w : World) (x : Nat) : Calls Try.prog 70 #[.float .f64 x] w fun e w' => e = .returned (.int .i64 2) ∧ w' = w := by
  go_enter Try.func70, Try.ntmps70
  go_wp2
  go_ret
  exact ⟨rfl, rfl⟩
theorem type_str (w : World) (x : ByteArray) : Calls Try.prog 68 #[.string x] w fun e w' => e = .returned (.int .i64 3) ∧ w' = w := by
  go_enter Try.func68, Try.ntmps68
  go_wp2
  go_ret
  exact ⟨rfl, rfl⟩
theorem type_bool (w : World) (x : Bool) : Calls Try.prog 72 #[.bool x] w fun e w' => e = .returned (.int .i64 1) ∧ w' = w := by
  go_enter Try.func72, Try.ntmps72
  go_wp2
  go_ret
  exact ⟨rfl, rfl⟩
theorem St.look {w : World} {ls g mp : Nat} {f : Value → Option Value} (h : St w ls g mp f) (k : Int) (n : Nat) :
    (Instr.lookup 47 (.map (some mp)) (.int .i64 k) true).run Try.prog (w.drewN n) = .ok (.tuple #[(f (.int .i64 k)).getD .nilIface, .bool (f (.int .i64 k)).isSome]) (w.drewN n) := by
  have hd : MapAt IsIK ikEq (w.drewN n) mp f := by
    obtain ⟨es, clock, hb, hg, hf⟩ := h.mp
    exact ⟨es, clock, by simpa using hb, hg, hf⟩
  exact hd.lookup ik_law (Try.underlying47) zero_lv ⟨k, rfl⟩ true
set_option maxHeartbeats 4000000 in
theorem metatable_any (w : World) (ls : Nat) (v m u : Value) (hk : Kind w ls v m) (hm : Meta w m u) (raw : Bool) :
    Calls Try.prog 37 #[.pointer (some ⟨ls, 0, none⟩), v, .bool raw] w (Tells w (if raw then m else u)) := by
  have H := hm.c
  clear hm
  cases hk with
  | tab u m c1 =>
    cases H with
    | none =>
      cases raw
      all_goals
        go_enter Try.func37, Try.ntmps37
        go_wp2
        go_ret
        exact ⟨rfl, 0, rfl⟩
    | free t C =>
      have C := Lib.hid (show Calls _ _ _ w _ from C 0)
      cases raw
      all_goals
        go_enter Try.func37, Try.ntmps37
        go_wp2_with (go_at_call 39; refine C.out.mono ?_; rintro e w2 ⟨rfl, rfl⟩)
        go_ret
        exact ⟨rfl, 0, rfl⟩
    | lockS t s C =>
      have C := Lib.hid (show Calls _ _ _ w _ from C 0)
      cases raw
      all_goals
        go_enter Try.func37, Try.ntmps37
        go_wp2_with (go_at_call 39; refine C.out.mono ?_; rintro e w2 ⟨rfl, rfl⟩)
        go_ret
        exact ⟨rfl, 0, rfl⟩
    | lockT t l C =>
      have C := Lib.hid (show Calls _ _ _ w _ from C 0)
      cases raw
      all_goals
        go_enter Try.func37, Try.ntmps37
        go_wp2_with (go_at_call 39; refine C.out.mono ?_; rintro e w2 ⟨rfl, rfl⟩)
        go_ret
        exact ⟨rfl, 0, rfl⟩
  | ud u m c1 =>
    cases H with
    | none =>
      cases raw
      all_goals
        go_enter Try.func37, Try.ntmps37
        go_wp2
        go_ret
        exact ⟨rfl, 0, rfl⟩
    | free t C =>
      have C := Lib.hid (show Calls _ _ _ w _ from C 0)
      cases raw
      all_goals
        go_enter Try.func37, Try.ntmps37
        go_wp2_with (go_at_call 39; refine C.out.mono ?_; rintro e w2 ⟨rfl, rfl⟩)
        go_ret
        exact ⟨rfl, 0, rfl⟩
    | lockS t s C =>
      have C := Lib.hid (show Calls _ _ _ w _ from C 0)
      cases raw
      all_goals
        go_enter Try.func37, Try.ntmps37
        go_wp2_with (go_at_call 39; refine C.out.mono ?_; rintro e w2 ⟨rfl, rfl⟩)
        go_ret
        exact ⟨rfl, 0, rfl⟩
    | lockT t l C =>
      have C := Lib.hid (show Calls _ _ _ w _ from C 0)
      cases raw
      all_goals
        go_enter Try.func37, Try.ntmps37
        go_wp2_with (go_at_call 39; refine C.out.mono ?_; rintro e w2 ⟨rfl, rfl⟩)
        go_ret
        exact ⟨rfl, 0, rfl⟩
  | num x g mp f h m hf =>
    have hlk := h.look 2
    rw [hf] at hlk
    obtain ⟨c1, c2, hmp⟩ := h
    clear hf hmp
    have hm : ∀ w, (method 253 80 (.float .f64 x) "Type").run Try.prog w = .ok (70, .float .f64 x) w := fun _ => by kernel_rfl
    cases H with
    | none =>
      simp only [isNil, lnil, if_true, Option.getD, Option.isSome] at hlk
      cases raw
      all_goals
        go_enter Try.func37, Try.ntmps37
        go_wp2
        go_quiet (first | (go_at_call 70; exact Calls.quiet_of_same (type_num _ _)))
        go_wp2
        go_ret
        exact ⟨rfl, nq, rfl⟩
    | free t C =>
      simp only [isNil, Bool.false_eq_true, if_false, Option.getD, Option.isSome] at hlk
      have C := Lib.hid C
      cases raw
      all_goals
        go_enter Try.func37, Try.ntmps37
        go_wp2
        go_quiet (first | (go_at_call 70; exact Calls.quiet_of_same (type_num _ _)))
        go_wp2_with (go_at_call 39; refine (C.out _).mono ?_; rintro e w2 ⟨rfl, rfl⟩)
        go_ret
        exact ⟨rfl, nq, rfl⟩
    | lockS t s C =>
      simp only [isNil, Bool.false_eq_true, if_false, Option.getD, Option.isSome] at hlk
      have C := Lib.hid C
      cases raw
      all_goals
        go_enter Try.func37, Try.ntmps37
        go_wp2
        go_quiet (first | (go_at_call 70; exact Calls.quiet_of_same (type_num _ _)))
        go_wp2_with (go_at_call 39; refine (C.out _).mono ?_; rintro e w2 ⟨rfl, rfl⟩)
        go_ret
        exact ⟨rfl, nq, rfl⟩
    | lockT t l C =>
      simp only [isNil, Bool.false_eq_true, if_false, Option.getD, Option.isSome] at hlk
      have C := Lib.hid C
      cases raw
      all_goals
        go_enter Try.func37, Try.ntmps37
        go_wp2
        go_quiet (first | (go_at_call 70; exact Calls.quiet_of_same (type_num _ _)))
        go_wp2_with (go_at_call 39; refine (C.out _).mono ?_; rintro e w2 ⟨rfl, rfl⟩)
        go_ret
        exact ⟨rfl, nq, rfl⟩
  | str x g mp f h m hf =>
    have hlk := h.look 3
    rw [hf] at hlk
    obtain ⟨c1, c2, hmp⟩ := h
    clear hf hmp
    have hm : ∀ w, (method 253 66 (.string x) "Type").run Try.prog w = .ok (68, .string x) w := fun _ => by kernel_rfl
    cases H with
    | none =>
      simp only [isNil, lnil, if_true, Option.getD, Option.isSome] at hlk
      cases raw
      all_goals
        go_enter Try.func37, Try.ntmps37
        go_wp2
        go_quiet (first | (go_at_call 68; exact Calls.quiet_of_same (type_str _ _)))
        go_wp2
        go_ret
        exact ⟨rfl, nq, rfl⟩
    | free t C =>
      simp only [isNil, Bool.false_eq_true, if_false, Option.getD, Option.isSome] at hlk
      have C := Lib.hid C
      cases raw
      all_goals
        go_enter Try.func37, Try.ntmps37
        go_wp2
        go_quiet (first | (go_at_call 68; exact Calls.quiet_of_same (type_str _ _)))
        go_wp2_with (go_at_call 39; refine (C.out _).mono ?_; rintro e w2 ⟨rfl, rfl⟩)
        go_ret
        exact ⟨rfl, nq, rfl⟩
    | lockS t s C =>
      simp only [isNil, Bool.false_eq_true, if_false, Option.getD, Option.isSome] at hlk
      have C := Lib.hid C
      cases raw
      all_goals
        go_enter Try.func37, Try.ntmps37
        go_wp2
        go_quiet (first | (go_at_call 68; exact Calls.quiet_of_same (type_str _ _)))
        go_wp2_with (go_at_call 39; refine (C.out _).mono ?_; rintro e w2 ⟨rfl, rfl⟩)
        go_ret
        exact ⟨rfl, nq, rfl⟩
    | lockT t l C =>
      simp only [isNil, Bool.false_eq_true, if_false, Option.getD, Option.isSome] at hlk
      have C := Lib.hid C
      cases raw
      all_goals
        go_enter Try.func37, Try.ntmps37
        go_wp2
        go_quiet (first | (go_at_call 68; exact Calls.quiet_of_same (type_str _ _)))
        go_wp2_with (go_at_call 39; refine (C.out _).mono ?_; rintro e w2 ⟨rfl, rfl⟩)
        go_ret
        exact ⟨rfl, nq, rfl⟩
  | bool x g mp f h m hf =>
    have hlk := h.look 1
    rw [hf] at hlk
    obtain ⟨c1, c2, hmp⟩ := h
    clear hf hmp
    have hm : ∀ w, (method 253 81 (.bool x) "Type").run Try.prog w = .ok (72, .bool x) w := fun _ => by kernel_rfl
    cases H with
    | none =>
      simp only [isNil, lnil, if_true, Option.getD, Option.isSome] at hlk
      cases raw
      all_goals
        go_enter Try.func37, Try.ntmps37
        go_wp2
        go_quiet (first | (go_at_call 72; exact Calls.quiet_of_same (type_bool _ _)))
        go_wp2
        go_ret
        exact ⟨rfl, nq, rfl⟩
    | free t C =>
      simp only [isNil, Bool.false_eq_true, if_false, Option.getD, Option.isSome] at hlk
      have C := Lib.hid C
      cases raw
      all_goals
        go_enter Try.func37, Try.ntmps37
        go_wp2
        go_quiet (first | (go_at_call 72; exact Calls.quiet_of_same (type_bool _ _)))
        go_wp2_with (go_at_call 39; refine (C.out _).mono ?_; rintro e w2 ⟨rfl, rfl⟩)
        go_ret
        exact ⟨rfl, nq, rfl⟩
    | lockS t s C =>
      simp only [isNil, Bool.false_eq_true, if_false, Option.getD, Option.isSome] at hlk
      have C := Lib.hid C
      cases raw
      all_goals
        go_enter Try.func37, Try.ntmps37
        go_wp2
        go_quiet (first | (go_at_call 72; exact Calls.quiet_of_same (type_bool _ _)))
        go_wp2_with (go_at_call 39; refine (C.out _).mono ?_; rintro e w2 ⟨rfl, rfl⟩)
        go_ret
        exact ⟨rfl, nq, rfl⟩
    | lockT t l C =>
      simp only [isNil, Bool.false_eq_true, if_false, Option.getD, Option.isSome] at hlk
      have C := Lib.hid C
      cases raw
      all_goals
        go_enter Try.func37, Try.ntmps37
        go_wp2
        go_quiet (first | (go_at_call 72; exact Calls.quiet_of_same (type_bool _ _)))
        go_wp2_with (go_at_call 39; refine (C.out _).mono ?_; rintro e w2 ⟨rfl, rfl⟩)
        go_ret
        exact ⟨rfl, nq, rfl⟩
end Go.Lua
