/-
  n005_156: the statements' own small functions, by contract.
-/
import Derived.Test.YtpbeecbijlhocaaSetArr
import Derived.Test.YtpbeecbijlhocaaHas
import Derived.Test.YtpbeecbijlhocaaReads
import Derived.Test.YtpbeecbijlhocaaAppend
import Derived.Test.YtpbeecbijlhocaaInsert
import Derived.Test.YtpbeecbijlhocaaStructs
namespace Go.Lua
open Go.Proofs Go.RowKit
set_option linter.unusedVariables false

theorem Has.gives {w0 w w' : World} {t : Nat} {T T' : Tab} {e : Ending} {v : Value} (h : Has w0 t T w) (u : GivesTo (fun k => w0.heap.size ≤ k) w t v T' e w') : e = .returned v ∧ Has w0 t T' w' :=
  ⟨u.1, u.2.1.own h.2.size, h.2.own u.2.2⟩

/-- It answers some truth value and changes nothing. -/
def Yn (w : World) (e : Ending) (w' : World) : Prop := w = w' ∧ (e = .returned (.bool false) ∨ e = .returned (.bool true))
/-- It answers no, or yes and P; it changes nothing. -/
def YnIf (P : Prop) (w : World) (e : Ending) (w' : World) : Prop := w = w' ∧ (e = .returned (.bool false) ∨ (e = .returned (.bool true) ∧ P))
/-- The law's end: true, and what lay there stands. -/
def Fine (w : World) (e : Ending) (w' : World) : Prop := e = .returned (.bool true) ∧ Below w.heap.size w w'

theorem new_any (w : World) : Calls Try.prog 11 #[.int .i64 0, .int .i64 0] w (Fresh w 0 0) := by
  have C := Lib.hid (newLTable_any w 0 0 (by decide) (by decide))
  go_enter Try.func11, Try.ntmps11
  go_wp2_with (first
    | (go_at_call 34; refine C.out.mono ?_; intro e w1 hf; obtain ⟨he, hq⟩ := hf; subst he; have HQ := Lib.hid hq; clear hq))
  go_ret
  exact ⟨rfl, HQ.out⟩

theorem setInt_via (w : World) (t : Nat) (k v : Int) (Q : World → Prop) (C : Calls Try.prog 36 #[.pointer (some ⟨t, 0, none⟩), .int .i64 k, val v] w fun e w' => e = .returned (.tuple #[]) ∧ Q w') :
    Calls Try.prog 21 #[.pointer (some ⟨t, 0, none⟩), .int .i64 k, .int .i64 v] w fun e w' => e = .returned (.tuple #[]) ∧ Q w' := by
  have C := Lib.hid C
  by_cases h0 : v = 0
  · subst h0
    go_enter Try.func21, Try.ntmps21
    go_wp2_with (go_at_call 36; refine C.out.mono ?_; rintro e w1 ⟨rfl, hq⟩)
    exact bodyPost_ret (v := .tuple #[]) (results_none rfl _ _ _) rfl ⟨rfl, hq⟩
  · rw [val_num h0] at C
    have hv0 : (v == 0) = false := beq_false_of_ne h0
    clear h0
    go_enter Try.func21, Try.ntmps21
    go_wp2_with (go_at_call 36; refine C.out.mono ?_; rintro e w1 ⟨rfl, hq⟩)
    go_end0
    exact ⟨rfl, hq⟩
theorem setStr_via (w : World) (t : Nat) (s : ByteArray) (v : Int) (Q : World → Prop) (C : Calls Try.prog 37 #[.pointer (some ⟨t, 0, none⟩), .string s, val v] w fun e w' => e = .returned (.tuple #[]) ∧ Q w') :
    Calls Try.prog 30 #[.pointer (some ⟨t, 0, none⟩), .string s, .int .i64 v] w fun e w' => e = .returned (.tuple #[]) ∧ Q w' := by
  have C := Lib.hid C
  by_cases h0 : v = 0
  · subst h0
    go_enter Try.func30, Try.ntmps30
    go_wp2_with (go_at_call 37; refine C.out.mono ?_; rintro e w1 ⟨rfl, hq⟩)
    exact bodyPost_ret (v := .tuple #[]) (results_none rfl _ _ _) rfl ⟨rfl, hq⟩
  · rw [val_num h0] at C
    have hv0 : (v == 0) = false := beq_false_of_ne h0
    clear h0
    go_enter Try.func30, Try.ntmps30
    go_wp2_with (go_at_call 37; refine C.out.mono ?_; rintro e w1 ⟨rfl, hq⟩)
    go_end0
    exact ⟨rfl, hq⟩
theorem setStrRaw_via (w : World) (t : Nat) (s : ByteArray) (v : Int) (Q : World → Prop) (C : Calls Try.prog 35 #[.pointer (some ⟨t, 0, none⟩), lstr s, val v] w fun e w' => e = .returned (.tuple #[]) ∧ Q w') :
    Calls Try.prog 12 #[.pointer (some ⟨t, 0, none⟩), .string s, .int .i64 v] w fun e w' => e = .returned (.tuple #[]) ∧ Q w' := by
  have C := Lib.hid C
  by_cases h0 : v = 0
  · subst h0
    go_enter Try.func12, Try.ntmps12
    go_wp2_with (go_at_call 35; refine C.out.mono ?_; rintro e w1 ⟨rfl, hq⟩)
    exact bodyPost_ret (v := .tuple #[]) (results_none rfl _ _ _) rfl ⟨rfl, hq⟩
  · rw [val_num h0] at C
    have hv0 : (v == 0) = false := beq_false_of_ne h0
    clear h0
    go_enter Try.func12, Try.ntmps12
    go_wp2_with (go_at_call 35; refine C.out.mono ?_; rintro e w1 ⟨rfl, hq⟩)
    go_end0
    exact ⟨rfl, hq⟩
theorem setNumRaw_via (w : World) (t : Nat) (x : Nat) (v : Int) (Q : World → Prop) (C : Calls Try.prog 35 #[.pointer (some ⟨t, 0, none⟩), lnum x, val v] w fun e w' => e = .returned (.tuple #[]) ∧ Q w') :
    Calls Try.prog 13 #[.pointer (some ⟨t, 0, none⟩), .float .f64 x, .int .i64 v] w fun e w' => e = .returned (.tuple #[]) ∧ Q w' := by
  have C := Lib.hid C
  by_cases h0 : v = 0
  · subst h0
    go_enter Try.func13, Try.ntmps13
    go_wp2_with (go_at_call 35; refine C.out.mono ?_; rintro e w1 ⟨rfl, hq⟩)
    exact bodyPost_ret (v := .tuple #[]) (results_none rfl _ _ _) rfl ⟨rfl, hq⟩
  · rw [val_num h0] at C
    have hv0 : (v == 0) = false := beq_false_of_ne h0
    clear h0
    go_enter Try.func13, Try.ntmps13
    go_wp2_with (go_at_call 35; refine C.out.mono ?_; rintro e w1 ⟨rfl, hq⟩)
    go_end0
    exact ⟨rfl, hq⟩

/-- sameB3 says yes of a value and its number. -/
theorem same_yes (w : World) (v : Int) (hv : Is64 v) : Calls Try.prog 15 #[val v, .int .i64 v] w fun e w' => e = .returned (.bool true) ∧ w = w' := by
  by_cases h0 : v = 0
  · subst h0
    rw [val_zero]
    go_enter Try.func15, Try.ntmps15
    go_wp2
    go_ret
    exact ⟨rfl, rfl⟩
  · have hq := Lib.hid (feq_fof_self (v := v) (by unfold Is64 at hv; omega))
    clear hv
    rw [val_num h0]
    have hv0 : (v == 0) = false := beq_false_of_ne h0
    clear h0
    go_enter Try.func15, Try.ntmps15
    go_wp2
    go_ret
    exact ⟨congrArg (fun b => Ending.returned (.bool b)) hq.out, rfl⟩

/-- Everything behind place j is 0. -/
theorem bord_zero {xs : List Int} (h : ∀ u ∈ xs, u = 0) : bord xs = 0 := by
  refine bord_is (fun k hk => ?_) (.inl rfl)
  unfold atM
  split
  · cases hu : xs[k.toNat - 1]? with
    | none => rfl
    | some u => exact h u (List.mem_of_getElem? hu)
  · rfl
theorem bord_at {xs : List Int} {m : Nat} {u : Int} (h : ∀ u ∈ xs.drop (m + 1), u = 0) (hu : xs[m]? = some u) (hn : u ≠ 0) : bord xs = m + 1 := by
  refine bord_is (fun k hk => ?_) (.inr ?_)
  · unfold atM
    rw [if_pos (by omega)]
    cases hv : xs[k.toNat - 1]? with
    | none => rfl
    | some v =>
      refine h v (List.mem_of_getElem? (i := k.toNat - 1 - (m + 1)) ?_)
      rw [List.getElem?_drop, show m + 1 + (k.toNat - 1 - (m + 1)) = k.toNat - 1 by omega]
      exact hv
  · unfold atM
    rw [if_pos (by omega), show ((m + 1 : Nat) : Int).toNat - 1 = m by omega, hu]
    exact hn

set_option maxHeartbeats 400000 in
theorem lastNZ_any (w : World) (v : Value) (xs : List Int) (h : IsInts .i64 w v xs) : Calls Try.prog 25 #[v] w fun e w' => e = .returned (.int .i64 (bord xs)) ∧ w = w' := by
  obtain ⟨p, c, rfl, k, m, hn, g⟩ := h.1.form
  simp only [List.length_map] at *
  unfold maxLen at m
  have hxl : (xs.length : Int) ≤ 9223372036854775807 := by omega
  have G := Lib.hid g
  clear h g hn k m
  go_enter Try.func25, Try.ntmps25
  go_wp2_with fail
  go_loop [3] (fun i => ∃ j : Nat, j ≤ xs.length ∧ i = .int .i64 ((j : Int) - 1) ∧ Hid (∀ u ∈ xs.drop j, u = 0)) (fun i => (intOf i + 1).toNat)
  case atStart => exact ⟨xs.length, Nat.le_refl _, rfl, by unfold Hid; simp⟩
  case round =>
    obtain ⟨j, hj, rfl, hd⟩ := hrel
    cases j with
    | zero =>
      go_wp2
      go_ret
      refine ⟨?_, rfl⟩
      have := bord_zero (xs := xs) (by simpa using hd.out)
      simp [this]
    | succ m =>
      obtain ⟨u, hu⟩ : ∃ u, xs[m]? = some u := ⟨xs[m]'(by omega), by simp⟩
      obtain ⟨a, rfl, hc⟩ := G.out m (.int .i64 u) (by simp [hu])
      have Hu := Lib.hid hu
      clear hu
      by_cases h0 : u = 0
      · subst h0
        go_wp2
        go_round
        case rel =>
          refine ⟨m, by omega, rfl, Lib.hid fun x hx => ?_⟩
          have hu := Hu.out
          rw [List.drop_eq_getElem_cons (by omega)] at hx
          rcases List.mem_cons.1 hx with rfl | hx
          · have := List.getElem?_eq_getElem (l := xs) (i := m) (by omega)
            rw [hu] at this
            exact (Option.some.inj this).symm
          · exact hd.out x hx
        case measure => simp [intOf]
      · have hv0 : (u != 0) = true := by simpa using h0
        have H0 := Lib.hid h0
        clear h0
        go_wp2
        go_ret
        refine ⟨?_, rfl⟩
        rw [bord_at hd.out Hu.out H0.out]
        rfl
end Go.Lua
