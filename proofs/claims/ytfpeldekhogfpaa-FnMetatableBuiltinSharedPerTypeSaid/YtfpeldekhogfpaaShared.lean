/-
  n005_84: FnMetatableBuiltinSharedPerType.
-/
import Derived.Test.YtfpeldekhogfpaaIgn
namespace Go.Lua
open Go.Proofs Go.RowKit
set_option linter.unusedVariables false

/-- A metatable with no lock, in blocks apart from mp (LNil: none). -/
inductive Free (mp : Nat) (w : World) : Value → Prop
  | none : Free mp w lnil
  | tab (t : Nat) (T : Tab) (F : Nat → Prop) (h : TabAt w t T F) (hs : T.sv lockKey = lnil) (hm : ¬ F mp) : Free mp w (tabV t)
theorem Free.meta {mp : Nat} {w : World} {m : Value} (h : Free mp w m) : Meta w m m := by
  cases h with
  | none => exact .none
  | tab t T F h hs hm => exact .free t T F h hs
theorem Free.kept {mp : Nat} {w w' : World} {m : Value} (h : Free mp w m) (u : Upd (fun k => k = mp) w w') : Free mp w' m := by
  cases h with
  | none => exact .none
  | tab t T F h hs hm =>
    obtain ⟨va, vd, vs, vk, vi, hT⟩ := h
    exact .tab t T F (hT.kept fun k hk hf => u.block k hk fun e => hm (e ▸ hf)).at hs hm
/-- The state, with the metatables of numbers and of strings. -/
structure Sh (w0 : World) (ls g mp : Nat) (m2 m3 : Value) (w : World) : Prop where
  st : ∃ f, St w ls g mp f ∧ f (.int .i64 2) = (if isNil m2 then none else some m2) ∧ f (.int .i64 3) = (if isNil m3 then none else some m3) ∧ f (.int .i64 1) = none
  f2 : Free mp w m2
  f3 : Free mp w m3
  upd : None w0 w
  mp : w0.heap.size ≤ mp
section
variable {w0 w w' : World} {ls g mp t : Nat} {m2 m3 : Value} {e : Ending}
theorem Sh.quiet (h : Sh w0 ls g mp m2 m3 w) (u : None w w') : Sh w0 ls g mp m2 m3 w' := by
  obtain ⟨⟨f, hS, r⟩, h2, h3, hU, hm⟩ := h
  exact ⟨⟨f, hS.kept u, r⟩, h2.kept (none_mp u), h3.kept (none_mp u), none_trans hU u, hm⟩
theorem Sh.drewN (h : Sh w0 ls g mp m2 m3 w) (d : Nat) : Sh w0 ls g mp m2 m3 (w.drewN d) := h.quiet ((Upd.refl _ _).drewN d)
theorem Sh.below (h : Sh w0 ls g mp m2 m3 w) : Below w0.heap.size w0 w := none_below h.upd
theorem sh_new (hS : St w ls g mp (fun _ => none)) (hU : None w0 w) (hm : w0.heap.size ≤ mp) : Sh w0 ls g mp lnil lnil w :=
  ⟨⟨_, hS, by simp [isNil, lnil], by simp [isNil, lnil], rfl⟩, .none, .none, hU, hm⟩
/-- A table made behind the state: the state's word, and the table's. -/
def ShT (w0 : World) (ls g mp t : Nat) (T : Tab) (m2 m3 : Value) (w : World) : Prop := Sh w0 ls g mp m2 m3 w ∧ ∃ F, TabAt w t T F ∧ ¬ F mp ∧ T.sv lockKey = lnil
theorem Sh.lt (h : Sh w0 ls g mp m2 m3 w) : mp < w.heap.size := by
  obtain ⟨⟨f, hS, r⟩, -⟩ := h
  exact hS.mp.lt
theorem Sh.fresh (h : Sh w0 ls g mp m2 m3 w) (hf : Fresh w 0 0 e w') : e = .returned (.pointer (some ⟨w.heap.size, 0, none⟩)) ∧ Sh w0 ls g mp m2 m3 w' ∧ Has w w.heap.size (newTab 0 0) w' :=
  ⟨hf.1, h.quiet (Has.fresh hf).2.2, (Has.fresh hf).2⟩
theorem Sh.fill {w1 : World} (h : Sh w0 ls g mp m2 m3 w) (hT : Has w w.heap.size (newTab 0 0) w1) (s v : ByteArray) (hs : lockKey ≠ s) :
    Calls Try.prog 10 #[.pointer (some ⟨w.heap.size, 0, none⟩), .string s, .string v] w1 fun e w2 => e = .returned (.tuple #[]) ∧ ShT w0 ls g mp w.heap.size ((newTab 0 0).setStr s (lstr v)) m2 m3 w2 := by
  refine (setString_any w1 _ _ _ hT.1 (KOk.new.wf (Nat.zero_le _)) s v).mono fun e w2 hu => ?_
  obtain ⟨he, hT2⟩ := hT.step hu
  exact ⟨he, h.quiet hT2.2, _, hT2.1, fun hk => by have := h.lt; omega, (sv_str_ne _ _ hs).trans (sv_new 0 0 _)⟩
theorem Sh.set2 {T : Tab} (h : ShT w0 ls g mp t T m2 m3 w) : Calls Try.prog 19 #[.pointer (some ⟨ls, 0, none⟩), .int .i64 2, .pointer (some ⟨t, 0, none⟩)] w fun e w' => e = .returned (.tuple #[]) ∧ Sh w0 ls g mp (tabV t) m3 w' := by
  obtain ⟨⟨⟨f, hS, e2, e3, e1⟩, h2, h3, hU, hm⟩, F, hT, hF, hs⟩ := h
  refine (setBuiltin_any w ls g mp t f 2 hS).mono fun e w' ⟨he, hS', hu⟩ => ⟨he, ⟨_, hS', ?_, ?_, ?_⟩, ?_, h3.kept hu, hU.under hu fun k hk => .inr (by subst hk; exact hm), hm⟩
  · simp [ikEq, isNil]
  · simpa [ikEq] using e3
  · simpa [ikEq] using e1
  · exact (Free.tab t T F hT hs hF).kept hu
theorem Sh.set3 {T : Tab} (h : ShT w0 ls g mp t T m2 m3 w) : Calls Try.prog 19 #[.pointer (some ⟨ls, 0, none⟩), .int .i64 3, .pointer (some ⟨t, 0, none⟩)] w fun e w' => e = .returned (.tuple #[]) ∧ Sh w0 ls g mp m2 (tabV t) w' := by
  obtain ⟨⟨⟨f, hS, e2, e3, e1⟩, h2, h3, hU, hm⟩, F, hT, hF, hs⟩ := h
  refine (setBuiltin_any w ls g mp t f 3 hS).mono fun e w' ⟨he, hS', hu⟩ => ⟨he, ⟨_, hS', ?_, ?_, ?_⟩, h2.kept hu, ?_, hU.under hu fun k hk => .inr (by subst hk; exact hm), hm⟩
  · simpa [ikEq] using e2
  · simp [ikEq, isNil]
  · simpa [ikEq] using e1
  · exact (Free.tab t T F hT hs hF).kept hu
theorem ite_seen {raw : Bool} {m : Value} {q : Array Value} (h : Seen m q) : Seen (if raw then m else m) q := by cases raw <;> exact h
theorem Sh.num (h : Sh w0 ls g mp m2 m3 w) (x : Nat) (raw : Bool) {q : Array Value} (hq : Seen m2 q) :
    Calls Try.prog 21 #[.pointer (some ⟨ls, 0, none⟩), .float .f64 x, .bool raw] w fun e w' => e = .returned (.tuple q) ∧ Sh w0 ls g mp m2 m3 w' := by
  have H := h
  obtain ⟨⟨f, hS, e2, e3, e1⟩, h2, h3, hU, hm⟩ := h
  refine (mtOfNumber w ls x m2 m2 q (.num x g mp f hS m2 e2) h2.meta raw (ite_seen hq)).mono ?_
  rintro e w' ⟨he, d, rfl⟩
  exact ⟨he, H.drewN d⟩
theorem Sh.str (h : Sh w0 ls g mp m2 m3 w) (x : ByteArray) (raw : Bool) {q : Array Value} (hq : Seen m3 q) :
    Calls Try.prog 22 #[.pointer (some ⟨ls, 0, none⟩), .string x, .bool raw] w fun e w' => e = .returned (.tuple q) ∧ Sh w0 ls g mp m2 m3 w' := by
  have H := h
  obtain ⟨⟨f, hS, e2, e3, e1⟩, h2, h3, hU, hm⟩ := h
  refine (mtOfString w ls x m3 m3 q (.str x g mp f hS m3 e3) h3.meta raw (ite_seen hq)).mono ?_
  rintro e w' ⟨he, d, rfl⟩
  exact ⟨he, H.drewN d⟩
abbrev noneQ : Array Value := #[.bool true, .pointer none, .string ⟨#[]⟩, .bool false]
theorem Sh.bool (h : Sh w0 ls g mp m2 m3 w) (x : Bool) (raw : Bool) :
    Calls Try.prog 23 #[.pointer (some ⟨ls, 0, none⟩), .bool x, .bool raw] w fun e w' => e = .returned (.tuple noneQ) ∧ Sh w0 ls g mp m2 m3 w' := by
  have H := h
  obtain ⟨⟨f, hS, e2, e3, e1⟩, h2, h3, hU, hm⟩ := h
  refine (mtOfBool w ls x lnil lnil noneQ (.bool x g mp f hS lnil (by simpa [isNil, lnil] using e1)) .none raw (ite_seen .none)).mono ?_
  rintro e w' ⟨he, d, rfl⟩
  exact ⟨he, H.drewN d⟩
theorem Sh.table (h : Sh w0 ls g mp m2 m3 w) (raw : Bool) (hc : w.cell? ⟨t, 0, none⟩ = some lnil) :
    Calls Try.prog 24 #[.pointer (some ⟨ls, 0, none⟩), .pointer (some ⟨t, 0, none⟩), .bool raw] w fun e w' => e = .returned (.tuple noneQ) ∧ Sh w0 ls g mp m2 m3 w' := by
  have H := h
  refine (mtOfTable w ls t lnil lnil noneQ (.tab t lnil hc) .none raw (ite_seen .none)).mono ?_
  rintro e w' ⟨he, d, rfl⟩
  exact ⟨he, H.drewN d⟩
theorem fresh_nil (hf : Fresh w 0 0 e w') : w'.cell? ⟨w.heap.size, 0, none⟩ = some lnil := by
  obtain ⟨-, -, cs, h1, h2⟩ := fresh_cell hf
  simp [World.cell?, h1, h2]
end
theorem lock_add : lockKey ≠ ⟨#[95, 95, 97, 100, 100]⟩ := fun h => absurd (congrArg ByteArray.size h) (by decide)
theorem lock_idx2 : lockKey ≠ ⟨#[95, 95, 105, 110, 100, 101, 120]⟩ := fun h => absurd (congrArg ByteArray.size h) (by decide)

set_option maxHeartbeats 2000000 in
set_option maxRecDepth 100000 in
theorem shared00 (w : World) (x y : Nat) (s1 : ByteArray) (hs1 : s1.size ≤ maxLen) (s2 : ByteArray) (hs2 : s2.size ≤ maxLen) (raw : Bool) :
    Calls Try.prog 6 #[.float .f64 x, .float .f64 y, .string s1, .string s2, .bool false, .bool false, .bool raw] w (Fine w) := by
  have CB := Lib.hid (bytes_shared w x y s1 s2 false false raw hs1 hs2)
  unfold maxLen at hs1 hs2
  go_enter Try.func6, Try.ntmps6
  go_wp2_with (first
    | (go_at_call 18; refine CB.out.mono ?_; rintro e w1 ⟨rfl, rfl | rfl⟩)
    | (go_at_call 8; refine (newState_any _).mono ?_; rintro e w1 ⟨rfl, hS, hU, -⟩; have HX := Lib.hid (sh_new hS hU (Nat.le_refl _)); clear hS hU)
    | (go_at_call 21; (with_reducible refine (HX.out.num _ raw Seen.none).mono ?_); rintro e w5 ⟨rfl, hX⟩; have HX := Lib.hid hX; clear hX)
    | (go_at_call 22; (with_reducible refine (HX.out.str _ raw Seen.none).mono ?_); rintro e w5 ⟨rfl, hX⟩; have HX := Lib.hid hX; clear hX)
    | (go_at_call 23; (with_reducible refine (HX.out.bool _ raw).mono ?_); rintro e w5 ⟨rfl, hX⟩; have HX := Lib.hid hX; clear hX)
    | (go_at_call 24; (with_reducible refine (HX.out.table raw HC.out).mono ?_); rintro e w5 ⟨rfl, hX⟩; have HX := Lib.hid hX; clear hX HC)
    | (go_at_call 20; (with_reducible refine (obsOf_any _ _ _ _ _).mono ?_); rintro e w6 ⟨rfl, hU⟩; have HX := Lib.hid (HX.out.quiet hU); clear hU)
    | (go_at_call 12; (with_reducible refine (is_none _).mono ?_); rintro e w7 ⟨rfl, hU⟩; have HX := Lib.hid (HX.out.quiet hU); clear hU)
    | (go_at_call 9; refine (newTable_any _).mono ?_; intro e w8 hf; have HC := Lib.hid (fresh_nil hf); obtain ⟨rfl, hX, -⟩ := HX.out.fresh hf; have HX := Lib.hid hX; clear hX hf))
  all_goals first | (go_ret; exact ⟨rfl, Below.refl _ _⟩) | (go_ret; exact ⟨rfl, HX.out.below⟩)
set_option maxHeartbeats 2000000 in
set_option maxRecDepth 100000 in
theorem shared01 (w : World) (x y : Nat) (s1 : ByteArray) (hs1 : s1.size ≤ maxLen) (s2 : ByteArray) (hs2 : s2.size ≤ maxLen) (raw : Bool) :
    Calls Try.prog 6 #[.float .f64 x, .float .f64 y, .string s1, .string s2, .bool false, .bool true, .bool raw] w (Fine w) := by
  have CB := Lib.hid (bytes_shared w x y s1 s2 false true raw hs1 hs2)
  unfold maxLen at hs1 hs2
  have MK : True := trivial
  go_enter Try.func6, Try.ntmps6
  go_wp2_with (first
    | (go_at_call 18; refine CB.out.mono ?_; rintro e w1 ⟨rfl, rfl | rfl⟩)
    | (go_at_call 8; refine (newState_any _).mono ?_; rintro e w1 ⟨rfl, hS, hU, -⟩; have HX := Lib.hid (sh_new hS hU (Nat.le_refl _)); clear hS hU)
    | (go_at_call 9; clear MK; refine (newTable_any _).mono ?_; intro e w2 hf; obtain ⟨rfl, -, hT⟩ := HX.out.fresh hf; have HT := Lib.hid hT; clear hT hf)
    | (go_at_call 10; (with_reducible refine (HX.out.fill HT.out ⟨#[95, 95, 105, 110, 100, 101, 120]⟩ _ lock_idx2).mono ?_); rintro e w3 ⟨rfl, hX⟩; have HY := Lib.hid hX; clear hX HT)
    | (go_at_call 19; (with_reducible refine (Sh.set3 HY.out).mono ?_); rintro e w4 ⟨rfl, hX⟩; have HX := Lib.hid hX; clear hX HY)
    | (go_at_call 21; (with_reducible refine (HX.out.num _ raw Seen.none).mono ?_); rintro e w5 ⟨rfl, hX⟩; have HX := Lib.hid hX; clear hX)
    | (go_at_call 22; (with_reducible refine (HX.out.str _ raw (Seen.tab _)).mono ?_); rintro e w5 ⟨rfl, hX⟩; have HX := Lib.hid hX; clear hX)
    | (go_at_call 23; (with_reducible refine (HX.out.bool _ raw).mono ?_); rintro e w5 ⟨rfl, hX⟩; have HX := Lib.hid hX; clear hX)
    | (go_at_call 24; (with_reducible refine (HX.out.table raw HC.out).mono ?_); rintro e w5 ⟨rfl, hX⟩; have HX := Lib.hid hX; clear hX HC)
    | (go_at_call 20; (with_reducible refine (obsOf_any _ _ _ _ _).mono ?_); rintro e w6 ⟨rfl, hU⟩; have HX := Lib.hid (HX.out.quiet hU); clear hU)
    | (go_at_call 12; (with_reducible refine (is_none _).mono ?_); rintro e w7 ⟨rfl, hU⟩; have HX := Lib.hid (HX.out.quiet hU); clear hU)
    | (go_at_call 12; (with_reducible refine (is_tab _ _).mono ?_); rintro e w7 ⟨rfl, hU⟩; have HX := Lib.hid (HX.out.quiet hU); clear hU)
    | (go_at_call 9; refine (newTable_any _).mono ?_; intro e w8 hf; have HC := Lib.hid (fresh_nil hf); obtain ⟨rfl, hX, -⟩ := HX.out.fresh hf; have HX := Lib.hid hX; clear hX hf))
  all_goals first | (go_ret; exact ⟨rfl, Below.refl _ _⟩) | (go_ret; exact ⟨rfl, HX.out.below⟩)
set_option maxHeartbeats 2000000 in
set_option maxRecDepth 100000 in
theorem shared10 (w : World) (x y : Nat) (s1 : ByteArray) (hs1 : s1.size ≤ maxLen) (s2 : ByteArray) (hs2 : s2.size ≤ maxLen) (raw : Bool) :
    Calls Try.prog 6 #[.float .f64 x, .float .f64 y, .string s1, .string s2, .bool true, .bool false, .bool raw] w (Fine w) := by
  have CB := Lib.hid (bytes_shared w x y s1 s2 true false raw hs1 hs2)
  unfold maxLen at hs1 hs2
  have MK : True := trivial
  go_enter Try.func6, Try.ntmps6
  go_wp2_with (first
    | (go_at_call 18; refine CB.out.mono ?_; rintro e w1 ⟨rfl, rfl | rfl⟩)
    | (go_at_call 8; refine (newState_any _).mono ?_; rintro e w1 ⟨rfl, hS, hU, -⟩; have HX := Lib.hid (sh_new hS hU (Nat.le_refl _)); clear hS hU)
    | (go_at_call 9; clear MK; refine (newTable_any _).mono ?_; intro e w2 hf; obtain ⟨rfl, -, hT⟩ := HX.out.fresh hf; have HT := Lib.hid hT; clear hT hf)
    | (go_at_call 10; (with_reducible refine (HX.out.fill HT.out ⟨#[95, 95, 97, 100, 100]⟩ _ lock_add).mono ?_); rintro e w3 ⟨rfl, hX⟩; have HY := Lib.hid hX; clear hX HT)
    | (go_at_call 19; (with_reducible refine (Sh.set2 HY.out).mono ?_); rintro e w4 ⟨rfl, hX⟩; have HX := Lib.hid hX; clear hX HY)
    | (go_at_call 21; (with_reducible refine (HX.out.num _ raw (Seen.tab _)).mono ?_); rintro e w5 ⟨rfl, hX⟩; have HX := Lib.hid hX; clear hX)
    | (go_at_call 22; (with_reducible refine (HX.out.str _ raw Seen.none).mono ?_); rintro e w5 ⟨rfl, hX⟩; have HX := Lib.hid hX; clear hX)
    | (go_at_call 23; (with_reducible refine (HX.out.bool _ raw).mono ?_); rintro e w5 ⟨rfl, hX⟩; have HX := Lib.hid hX; clear hX)
    | (go_at_call 24; (with_reducible refine (HX.out.table raw HC.out).mono ?_); rintro e w5 ⟨rfl, hX⟩; have HX := Lib.hid hX; clear hX HC)
    | (go_at_call 20; (with_reducible refine (obsOf_any _ _ _ _ _).mono ?_); rintro e w6 ⟨rfl, hU⟩; have HX := Lib.hid (HX.out.quiet hU); clear hU)
    | (go_at_call 12; (with_reducible refine (is_none _).mono ?_); rintro e w7 ⟨rfl, hU⟩; have HX := Lib.hid (HX.out.quiet hU); clear hU)
    | (go_at_call 12; (with_reducible refine (is_tab _ _).mono ?_); rintro e w7 ⟨rfl, hU⟩; have HX := Lib.hid (HX.out.quiet hU); clear hU)
    | (go_at_call 9; refine (newTable_any _).mono ?_; intro e w8 hf; have HC := Lib.hid (fresh_nil hf); obtain ⟨rfl, hX, -⟩ := HX.out.fresh hf; have HX := Lib.hid hX; clear hX hf))
  all_goals first | (go_ret; exact ⟨rfl, Below.refl _ _⟩) | (go_ret; exact ⟨rfl, HX.out.below⟩)
set_option maxHeartbeats 2000000 in
set_option maxRecDepth 100000 in
theorem shared11 (w : World) (x y : Nat) (s1 : ByteArray) (hs1 : s1.size ≤ maxLen) (s2 : ByteArray) (hs2 : s2.size ≤ maxLen) (raw : Bool) :
    Calls Try.prog 6 #[.float .f64 x, .float .f64 y, .string s1, .string s2, .bool true, .bool true, .bool raw] w (Fine w) := by
  have CB := Lib.hid (bytes_shared w x y s1 s2 true true raw hs1 hs2)
  unfold maxLen at hs1 hs2
  have MK : True := trivial
  have MK1 : True := trivial
  go_enter Try.func6, Try.ntmps6
  go_wp2_with (first
    | (go_at_call 18; refine CB.out.mono ?_; rintro e w1 ⟨rfl, rfl | rfl⟩)
    | (go_at_call 8; refine (newState_any _).mono ?_; rintro e w1 ⟨rfl, hS, hU, -⟩; have HX := Lib.hid (sh_new hS hU (Nat.le_refl _)); clear hS hU)
    | (go_at_call 9; clear MK1; refine (newTable_any _).mono ?_; intro e w2 hf; obtain ⟨rfl, -, hT⟩ := HX.out.fresh hf; have HT := Lib.hid hT; clear hT hf)
    | (go_at_call 9; clear MK; refine (newTable_any _).mono ?_; intro e w2 hf; obtain ⟨rfl, -, hT⟩ := HX.out.fresh hf; have HT := Lib.hid hT; clear hT hf)
    | (go_at_call 10; (with_reducible refine (HX.out.fill HT.out ⟨#[95, 95, 97, 100, 100]⟩ _ lock_add).mono ?_); rintro e w3 ⟨rfl, hX⟩; have HY := Lib.hid hX; clear hX HT)
    | (go_at_call 19; (with_reducible refine (Sh.set2 HY.out).mono ?_); rintro e w4 ⟨rfl, hX⟩; have HX := Lib.hid hX; clear hX HY)
    | (go_at_call 10; (with_reducible refine (HX.out.fill HT.out ⟨#[95, 95, 105, 110, 100, 101, 120]⟩ _ lock_idx2).mono ?_); rintro e w3 ⟨rfl, hX⟩; have HY := Lib.hid hX; clear hX HT)
    | (go_at_call 19; (with_reducible refine (Sh.set3 HY.out).mono ?_); rintro e w4 ⟨rfl, hX⟩; have HX := Lib.hid hX; clear hX HY)
    | (go_at_call 21; (with_reducible refine (HX.out.num _ raw (Seen.tab _)).mono ?_); rintro e w5 ⟨rfl, hX⟩; have HX := Lib.hid hX; clear hX)
    | (go_at_call 22; (with_reducible refine (HX.out.str _ raw (Seen.tab _)).mono ?_); rintro e w5 ⟨rfl, hX⟩; have HX := Lib.hid hX; clear hX)
    | (go_at_call 23; (with_reducible refine (HX.out.bool _ raw).mono ?_); rintro e w5 ⟨rfl, hX⟩; have HX := Lib.hid hX; clear hX)
    | (go_at_call 24; (with_reducible refine (HX.out.table raw HC.out).mono ?_); rintro e w5 ⟨rfl, hX⟩; have HX := Lib.hid hX; clear hX HC)
    | (go_at_call 20; (with_reducible refine (obsOf_any _ _ _ _ _).mono ?_); rintro e w6 ⟨rfl, hU⟩; have HX := Lib.hid (HX.out.quiet hU); clear hU)
    | (go_at_call 12; (with_reducible refine (is_none _).mono ?_); rintro e w7 ⟨rfl, hU⟩; have HX := Lib.hid (HX.out.quiet hU); clear hU)
    | (go_at_call 12; (with_reducible refine (is_tab _ _).mono ?_); rintro e w7 ⟨rfl, hU⟩; have HX := Lib.hid (HX.out.quiet hU); clear hU)
    | (go_at_call 9; refine (newTable_any _).mono ?_; intro e w8 hf; have HC := Lib.hid (fresh_nil hf); obtain ⟨rfl, hX, -⟩ := HX.out.fresh hf; have HX := Lib.hid hX; clear hX hf))
  all_goals first | (go_ret; exact ⟨rfl, Below.refl _ _⟩) | (go_ret; exact ⟨rfl, HX.out.below⟩)
theorem shared_walk (w : World) (x : Nat) (hx : (Lit.float .f64 x).wf = true) (y : Nat) (hy : (Lit.float .f64 y).wf = true) (s1 : ByteArray) (hs1 : s1.size ≤ maxLen) (s2 : ByteArray) (hs2 : s2.size ≤ maxLen) (nm sm raw : Bool) :
    Calls Try.prog 6 #[.float .f64 x, .float .f64 y, .string s1, .string s2, .bool nm, .bool sm, .bool raw] w (Fine w) := by
  cases nm <;> cases sm
  · exact shared00 w x y s1 hs1 s2 hs2 raw
  · exact shared01 w x y s1 hs1 s2 hs2 raw
  · exact shared10 w x y s1 hs1 s2 hs2 raw
  · exact shared11 w x y s1 hs1 s2 hs2 raw
end Go.Lua
