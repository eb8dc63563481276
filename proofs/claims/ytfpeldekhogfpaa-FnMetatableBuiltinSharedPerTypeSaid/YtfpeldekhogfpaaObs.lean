/-
  What ZZread, metaOp1 and the observers answer: as an observation of a value.
-/
import Derived.Test.YtfpeldekhogfpaaMeta
import Derived.Test.YtfpeldekhogfpaaArgs
namespace Go.Lua
open Go.Proofs Go.RowKit
set_option linter.unusedVariables false

theorem results_tmp4 {fn : Func} {t u v x : Tmp} (h : fn.results = #[.tmp t, .tmp u, .tmp v, .tmp x]) (tmps : Array Value) (P : Program) (w : World) :
    (results fn tmps).run P w = .ok (.tuple #[tmps.getD t undef, tmps.getD u undef, tmps.getD v undef, tmps.getD x undef]) w := by simp [results, h]

/-- A value that the observers meet, and its four parts. -/
inductive Seen : Value → Array Value → Prop
  | none : Seen lnil #[.bool true, .pointer none, .string ⟨#[]⟩, .bool false]
  | tab (t : Nat) : Seen (tabV t) #[.bool false, .pointer (some ⟨t, 0, none⟩), .string ⟨#[]⟩, .bool false]
  | str (s : ByteArray) : Seen (lstr s) #[.bool false, .pointer none, .string s, .bool true]

set_option maxHeartbeats 1000000 in
theorem read_any (w : World) (v : Value) (q : Array Value) (h : Seen v q) :
    Calls Try.prog 36 #[v] w fun e w' => e = .returned (.tuple q) ∧ w' = w := by
  cases h
  all_goals
    go_enter Try.func36, Try.ntmps36
    go_wp2
    refine bodyPost_ret (results_tmp4 rfl _ _ _) rfl ?_
    exact ⟨rfl, rfl⟩

theorem raw_meta {w : World} {ls : Nat} {v m u : Value} (hk : Kind w ls v m) (hm : Meta w m u) : Calls Try.prog 37 #[.pointer (some ⟨ls, 0, none⟩), v, .bool true] w (Tells w m) := metatable_any w ls v m u hk hm true

/-- What metaOp1 reads. -/
inductive Ev (w : World) : Value → Value → ByteArray → Value → Prop
  | none (ev : ByteArray) : Ev w lnil lnil ev lnil
  | tab (t : Nat) (u : Value) (T : Tab) (F : Nat → Prop) (h : TabAt w t T F) (hm : Meta w (tabV t) u) (ev : ByteArray) (r : Value) (hs : T.sv ev = r) : Ev w (tabV t) u ev r

set_option maxHeartbeats 1000000 in
theorem metaOp1_any (w : World) (ls : Nat) (v m u r : Value) (ev : ByteArray) (hk : Kind w ls v m) (hm : Ev w m u ev r) :
    Calls Try.prog 38 #[.pointer (some ⟨ls, 0, none⟩), v, .string ev] w (Tells w r) := by
  cases hm with
  | none =>
    have C := Lib.hid (raw_meta hk .none)
    clear hk
    go_enter Try.func38, Try.ntmps38
    go_wp2_with (go_at_call 37; refine C.out.mono ?_; rintro e w2 ⟨rfl, d, rfl⟩)
    go_ret
    exact ⟨rfl, d, rfl⟩
  | tab t u T F h hm ev r hs =>
    have C := Lib.hid (raw_meta hk hm)
    have D := Lib.hid (sv_tells h ev hs)
    clear hk hm h hs
    go_enter Try.func38, Try.ntmps38
    go_wp2_with (first
      | (go_at_call 37; refine C.out.mono ?_; rintro e w2 ⟨rfl, d, rfl⟩)
      | (go_at_call 39; refine (D.out _).mono ?_; rintro e w2 ⟨rfl, rfl⟩))
    go_ret
    exact ⟨rfl, d, rfl⟩

set_option maxHeartbeats 1000000 in
theorem mtOfTable (w : World) (ls : Nat) (t : Nat) (m u : Value) (q : Array Value) (hk : Kind w ls (tabV t) m) (hm : Meta w m u) (raw : Bool) (hq : Seen (if raw then m else u) q) :
    Calls Try.prog 24 #[.pointer (some ⟨ls, 0, none⟩), .pointer (some ⟨t, 0, none⟩), .bool raw] w (Tells w (.tuple q)) := by
  have C := Lib.hid (metatable_any w ls _ m u hk hm raw)
  generalize (if raw then m else u) = z at C hq
  have D := fun n => read_any (w.drewN n) z q hq
  have D := Lib.hid D
  have Q : ∃ a b c d, q = #[a, b, c, d] := by cases hq <;> exact ⟨_, _, _, _, rfl⟩
  obtain ⟨q1, q2, q3, q4, rfl⟩ := Q
  clear hq hk hm
  go_enter Try.func24, Try.ntmps24
  go_wp2_with (first
    | (go_at_call 37; refine C.out.mono ?_; rintro e w2 ⟨rfl, d, rfl⟩)
    | (go_at_call 36; refine (D.out _).mono ?_; rintro e w3 ⟨rfl, rfl⟩))
  refine bodyPost_ret (results_tmp4 rfl _ _ _) rfl ?_
  exact ⟨rfl, d, rfl⟩

set_option maxHeartbeats 1000000 in
theorem opOfTable (w : World) (ls : Nat) (t : Nat) (m u r : Value) (ev : ByteArray) (q : Array Value) (hk : Kind w ls (tabV t) m) (hm : Ev w m u ev r) (hq : Seen r q) :
    Calls Try.prog 28 #[.pointer (some ⟨ls, 0, none⟩), .pointer (some ⟨t, 0, none⟩), .string ev] w (Tells w (.tuple q)) := by
  have C := Lib.hid (metaOp1_any w ls _ m u r ev hk hm)
  have D := fun n => read_any (w.drewN n) r q hq
  have D := Lib.hid D
  have Q : ∃ a b c d, q = #[a, b, c, d] := by cases hq <;> exact ⟨_, _, _, _, rfl⟩
  obtain ⟨q1, q2, q3, q4, rfl⟩ := Q
  clear hq hk hm
  go_enter Try.func28, Try.ntmps28
  go_wp2_with (first
    | (go_at_call 38; refine C.out.mono ?_; rintro e w2 ⟨rfl, d, rfl⟩)
    | (go_at_call 36; refine (D.out _).mono ?_; rintro e w3 ⟨rfl, rfl⟩))
  refine bodyPost_ret (results_tmp4 rfl _ _ _) rfl ?_
  exact ⟨rfl, d, rfl⟩

set_option maxHeartbeats 1000000 in
theorem mtOfUserData (w : World) (ls : Nat) (t : Nat) (m u : Value) (q : Array Value) (hk : Kind w ls (.iface 48 (.pointer (some ⟨t, 0, none⟩))) m) (hm : Meta w m u) (raw : Bool) (hq : Seen (if raw then m else u) q) :
    Calls Try.prog 35 #[.pointer (some ⟨ls, 0, none⟩), .pointer (some ⟨t, 0, none⟩), .bool raw] w (Tells w (.tuple q)) := by
  have C := Lib.hid (metatable_any w ls _ m u hk hm raw)
  generalize (if raw then m else u) = z at C hq
  have D := fun n => read_any (w.drewN n) z q hq
  have D := Lib.hid D
  have Q : ∃ a b c d, q = #[a, b, c, d] := by cases hq <;> exact ⟨_, _, _, _, rfl⟩
  obtain ⟨q1, q2, q3, q4, rfl⟩ := Q
  clear hq hk hm
  go_enter Try.func35, Try.ntmps35
  go_wp2_with (first
    | (go_at_call 37; refine C.out.mono ?_; rintro e w2 ⟨rfl, d, rfl⟩)
    | (go_at_call 36; refine (D.out _).mono ?_; rintro e w3 ⟨rfl, rfl⟩))
  refine bodyPost_ret (results_tmp4 rfl _ _ _) rfl ?_
  exact ⟨rfl, d, rfl⟩

set_option maxHeartbeats 1000000 in
theorem opOfUserData (w : World) (ls : Nat) (t : Nat) (m u r : Value) (ev : ByteArray) (q : Array Value) (hk : Kind w ls (.iface 48 (.pointer (some ⟨t, 0, none⟩))) m) (hm : Ev w m u ev r) (hq : Seen r q) :
    Calls Try.prog 31 #[.pointer (some ⟨ls, 0, none⟩), .pointer (some ⟨t, 0, none⟩), .string ev] w (Tells w (.tuple q)) := by
  have C := Lib.hid (metaOp1_any w ls _ m u r ev hk hm)
  have D := fun n => read_any (w.drewN n) r q hq
  have D := Lib.hid D
  have Q : ∃ a b c d, q = #[a, b, c, d] := by cases hq <;> exact ⟨_, _, _, _, rfl⟩
  obtain ⟨q1, q2, q3, q4, rfl⟩ := Q
  clear hq hk hm
  go_enter Try.func31, Try.ntmps31
  go_wp2_with (first
    | (go_at_call 38; refine C.out.mono ?_; rintro e w2 ⟨rfl, d, rfl⟩)
    | (go_at_call 36; refine (D.out _).mono ?_; rintro e w3 ⟨rfl, rfl⟩))
  refine bodyPost_ret (results_tmp4 rfl _ _ _) rfl ?_
  exact ⟨rfl, d, rfl⟩

set_option maxHeartbeats 1000000 in
theorem mtOfNumber (w : World) (ls : Nat) (x : Nat) (m u : Value) (q : Array Value) (hk : Kind w ls (.iface 80 (.float .f64 x)) m) (hm : Meta w m u) (raw : Bool) (hq : Seen (if raw then m else u) q) :
    Calls Try.prog 21 #[.pointer (some ⟨ls, 0, none⟩), .float .f64 x, .bool raw] w (Tells w (.tuple q)) := by
  have C := Lib.hid (metatable_any w ls _ m u hk hm raw)
  generalize (if raw then m else u) = z at C hq
  have D := fun n => read_any (w.drewN n) z q hq
  have D := Lib.hid D
  have Q : ∃ a b c d, q = #[a, b, c, d] := by cases hq <;> exact ⟨_, _, _, _, rfl⟩
  obtain ⟨q1, q2, q3, q4, rfl⟩ := Q
  clear hq hk hm
  go_enter Try.func21, Try.ntmps21
  go_wp2_with (first
    | (go_at_call 37; refine C.out.mono ?_; rintro e w2 ⟨rfl, d, rfl⟩)
    | (go_at_call 36; refine (D.out _).mono ?_; rintro e w3 ⟨rfl, rfl⟩))
  refine bodyPost_ret (results_tmp4 rfl _ _ _) rfl ?_
  exact ⟨rfl, d, rfl⟩

set_option maxHeartbeats 1000000 in
theorem opOfNumber (w : World) (ls : Nat) (x : Nat) (m u r : Value) (ev : ByteArray) (q : Array Value) (hk : Kind w ls (.iface 80 (.float .f64 x)) m) (hm : Ev w m u ev r) (hq : Seen r q) :
    Calls Try.prog 32 #[.pointer (some ⟨ls, 0, none⟩), .float .f64 x, .string ev] w (Tells w (.tuple q)) := by
  have C := Lib.hid (metaOp1_any w ls _ m u r ev hk hm)
  have D := fun n => read_any (w.drewN n) r q hq
  have D := Lib.hid D
  have Q : ∃ a b c d, q = #[a, b, c, d] := by cases hq <;> exact ⟨_, _, _, _, rfl⟩
  obtain ⟨q1, q2, q3, q4, rfl⟩ := Q
  clear hq hk hm
  go_enter Try.func32, Try.ntmps32
  go_wp2_with (first
    | (go_at_call 38; refine C.out.mono ?_; rintro e w2 ⟨rfl, d, rfl⟩)
    | (go_at_call 36; refine (D.out _).mono ?_; rintro e w3 ⟨rfl, rfl⟩))
  refine bodyPost_ret (results_tmp4 rfl _ _ _) rfl ?_
  exact ⟨rfl, d, rfl⟩

set_option maxHeartbeats 1000000 in
theorem mtOfString (w : World) (ls : Nat) (x : ByteArray) (m u : Value) (q : Array Value) (hk : Kind w ls (.iface 66 (.string x)) m) (hm : Meta w m u) (raw : Bool) (hq : Seen (if raw then m else u) q) :
    Calls Try.prog 22 #[.pointer (some ⟨ls, 0, none⟩), .string x, .bool raw] w (Tells w (.tuple q)) := by
  have C := Lib.hid (metatable_any w ls _ m u hk hm raw)
  generalize (if raw then m else u) = z at C hq
  have D := fun n => read_any (w.drewN n) z q hq
  have D := Lib.hid D
  have Q : ∃ a b c d, q = #[a, b, c, d] := by cases hq <;> exact ⟨_, _, _, _, rfl⟩
  obtain ⟨q1, q2, q3, q4, rfl⟩ := Q
  clear hq hk hm
  go_enter Try.func22, Try.ntmps22
  go_wp2_with (first
    | (go_at_call 37; refine C.out.mono ?_; rintro e w2 ⟨rfl, d, rfl⟩)
    | (go_at_call 36; refine (D.out _).mono ?_; rintro e w3 ⟨rfl, rfl⟩))
  refine bodyPost_ret (results_tmp4 rfl _ _ _) rfl ?_
  exact ⟨rfl, d, rfl⟩

set_option maxHeartbeats 1000000 in
theorem opOfString (w : World) (ls : Nat) (x : ByteArray) (m u r : Value) (ev : ByteArray) (q : Array Value) (hk : Kind w ls (.iface 66 (.string x)) m) (hm : Ev w m u ev r) (hq : Seen r q) :
    Calls Try.prog 33 #[.pointer (some ⟨ls, 0, none⟩), .string x, .string ev] w (Tells w (.tuple q)) := by
  have C := Lib.hid (metaOp1_any w ls _ m u r ev hk hm)
  have D := fun n => read_any (w.drewN n) r q hq
  have D := Lib.hid D
  have Q : ∃ a b c d, q = #[a, b, c, d] := by cases hq <;> exact ⟨_, _, _, _, rfl⟩
  obtain ⟨q1, q2, q3, q4, rfl⟩ := Q
  clear hq hk hm
  go_enter Try.func33, Try.ntmps33
  go_wp2_with (first
    | (go_at_call 38; refine C.out.mono ?_; rintro e w2 ⟨rfl, d, rfl⟩)
    | (go_at_call 36; refine (D.out _).mono ?_; rintro e w3 ⟨rfl, rfl⟩))
  refine bodyPost_ret (results_tmp4 rfl _ _ _) rfl ?_
  exact ⟨rfl, d, rfl⟩

set_option maxHeartbeats 1000000 in
theorem mtOfBool (w : World) (ls : Nat) (x : Bool) (m u : Value) (q : Array Value) (hk : Kind w ls (.iface 81 (.bool x)) m) (hm : Meta w m u) (raw : Bool) (hq : Seen (if raw then m else u) q) :
    Calls Try.prog 23 #[.pointer (some ⟨ls, 0, none⟩), .bool x, .bool raw] w (Tells w (.tuple q)) := by
  have C := Lib.hid (metatable_any w ls _ m u hk hm raw)
  generalize (if raw then m else u) = z at C hq
  have D := fun n => read_any (w.drewN n) z q hq
  have D := Lib.hid D
  have Q : ∃ a b c d, q = #[a, b, c, d] := by cases hq <;> exact ⟨_, _, _, _, rfl⟩
  obtain ⟨q1, q2, q3, q4, rfl⟩ := Q
  clear hq hk hm
  go_enter Try.func23, Try.ntmps23
  go_wp2_with (first
    | (go_at_call 37; refine C.out.mono ?_; rintro e w2 ⟨rfl, d, rfl⟩)
    | (go_at_call 36; refine (D.out _).mono ?_; rintro e w3 ⟨rfl, rfl⟩))
  refine bodyPost_ret (results_tmp4 rfl _ _ _) rfl ?_
  exact ⟨rfl, d, rfl⟩

set_option maxHeartbeats 1000000 in
theorem opOfBool (w : World) (ls : Nat) (x : Bool) (m u r : Value) (ev : ByteArray) (q : Array Value) (hk : Kind w ls (.iface 81 (.bool x)) m) (hm : Ev w m u ev r) (hq : Seen r q) :
    Calls Try.prog 34 #[.pointer (some ⟨ls, 0, none⟩), .bool x, .string ev] w (Tells w (.tuple q)) := by
  have C := Lib.hid (metaOp1_any w ls _ m u r ev hk hm)
  have D := fun n => read_any (w.drewN n) r q hq
  have D := Lib.hid D
  have Q : ∃ a b c d, q = #[a, b, c, d] := by cases hq <;> exact ⟨_, _, _, _, rfl⟩
  obtain ⟨q1, q2, q3, q4, rfl⟩ := Q
  clear hq hk hm
  go_enter Try.func34, Try.ntmps34
  go_wp2_with (first
    | (go_at_call 38; refine C.out.mono ?_; rintro e w2 ⟨rfl, d, rfl⟩)
    | (go_at_call 36; refine (D.out _).mono ?_; rintro e w3 ⟨rfl, rfl⟩))
  refine bodyPost_ret (results_tmp4 rfl _ _ _) rfl ?_
  exact ⟨rfl, d, rfl⟩
end Go.Lua
