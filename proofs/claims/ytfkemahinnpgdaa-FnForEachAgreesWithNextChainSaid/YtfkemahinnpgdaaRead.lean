/-
  A list of slots: its slot k, its last slot that is not nil; the nil test of a value.
-/
import Derived.Test.YtfkemahinnpgdaaSetInt
namespace Go.Lua
open Go.Proofs Go.RowKit
set_option linter.unusedVariables false

/-- Slot k (from 1) of a list; LNil outside. -/
def getAt (xs : List Value) (k : Int) : Value := if 1 ≤ k then (xs[k.toNat - 1]?).getD lnil else lnil

def Is64 (k : Int) : Prop := -9223372036854775808 ≤ k ∧ k ≤ 9223372036854775807
theorem is64_of_wf {k : Int} (h : (Lit.int .i64 k).wf = true) : Is64 k := by
  simpa [Lit.wf, IntKind.min, IntKind.max, IntKind.signed, IntKind.bits, Is64] using h

/-- LNil, or another value of an interface type. -/
def isNil (v : Value) : Bool := match v with
  | .iface t (.int .u8 a) => t == 47 && a == 0
  | _ => false

/-- What a slot may hold: LNil, or a value of another dynamic type. -/
def LvOk (v : Value) : Prop := v = lnil ∨ ∃ t x, v = .iface t x ∧ t ≠ 47

theorem LvOk.eql {v : Value} (h : LvOk v) (w : World) : (binOp .eql 40 v (.iface 47 (.int .u8 0))).run Try.prog w = .ok (.bool (isNil v)) w := by
  rcases h with rfl | ⟨t, x, rfl, h⟩
  · rw [lv_eql_nil]; rfl
  · rw [lv_eql_diff h]
    have : isNil (.iface t x) = false := by
      unfold isNil
      split
      · rename_i e; cases e; simp [h]
      · rfl
    rw [this]
theorem LvOk.neq {v : Value} (h : LvOk v) (w : World) : (binOp .neq 40 v (.iface 47 (.int .u8 0))).run Try.prog w = .ok (.bool (!isNil v)) w := by
  rcases h with rfl | ⟨t, x, rfl, h⟩
  · rw [lv_neq_nil]; rfl
  · rw [lv_neq_diff h]
    have : isNil (.iface t x) = false := by
      unfold isNil
      split
      · rename_i e; cases e; simp [h]
      · rfl
    rw [this]; rfl
theorem LvOk.nil_iff {v : Value} (h : LvOk v) : isNil v = true ↔ v = lnil := by
  rcases h with rfl | ⟨t, x, rfl, h⟩
  · exact ⟨fun _ => rfl, fun _ => rfl⟩
  · constructor
    · intro e
      unfold isNil at e
      split at e
      · rename_i q; cases q; simp [h] at e
      · cases e
    · intro e
      cases e
      exact absurd rfl h

/-- The greatest place (from 1) of a slot that is not LNil; 0 if there is none. -/
def border (xs : List Value) : Nat := xs.length - (xs.reverse.takeWhile isNil).length

theorem border_take {xs : List Value} {n : Nat} (hn : n ≤ xs.length) (h : ∀ u ∈ xs.drop n, isNil u = true) : border xs = border (xs.take n) := by
  have e : xs = xs.take n ++ xs.drop n := (List.take_append_drop n xs).symm
  unfold border
  conv => lhs; rw [e]
  rw [List.reverse_append, List.takeWhile_append_of_pos (by simpa using h)]
  simp
  omega

theorem border_last {xs : List Value} {n : Nat} (hn : n < xs.length) (h : isNil (xs[n]) = false) : border (xs.take (n + 1)) = n + 1 := by
  unfold border
  rw [List.take_succ_eq_append_getElem hn, List.reverse_append]
  simp [h]
  omega

theorem border_zero {xs : List Value} (h : ∀ u ∈ xs, isNil u = true) : border xs = 0 := by
  have := border_take (xs := xs) (Nat.zero_le _) (by simpa using h)
  rw [this]
  simp [border]

theorem isNil_drop {xs : List Value} {m : Nat} {u : Value} (h : Hid (∀ u ∈ xs.drop (m + 1), isNil u = true)) (hu : xs[m]? = some u) (hn : isNil u = true) : Hid (∀ u ∈ xs.drop m, isNil u = true) := by
  intro x hx
  obtain ⟨hm, e⟩ := List.getElem?_eq_some_iff.1 hu
  rw [List.drop_eq_getElem_cons hm, e] at hx
  cases hx with
  | head => exact hn
  | tail _ hx => exact h.out x hx
theorem LvOk.not_nil {tu : TypeId} {xu : Value} (h : tu ≠ 47) : isNil (.iface tu xu) = false := by
  unfold isNil
  split
  · rename_i e; cases e; simp [h]
  · rfl
theorem border_at {xs : List Value} {m : Nat} {u : Value} (h : Hid (∀ u ∈ xs.drop (m + 1), isNil u = true)) (hu : xs[m]? = some u) (hn : isNil u = false) : border xs = m + 1 := by
  obtain ⟨hm, e⟩ := List.getElem?_eq_some_iff.1 hu
  rw [border_take (n := m + 1) (by omega) h.out, border_last hm (by rw [e]; exact hn)]

end Go.Lua
