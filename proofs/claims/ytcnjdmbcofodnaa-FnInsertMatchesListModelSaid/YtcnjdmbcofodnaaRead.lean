/-
  RawGetInt, Len, MaxN: what they answer of a table's array part. They write nothing.
-/
import Derived.Test.YtcnjdmbcofodnaaSetInt
namespace Go.Lua
open Go.Proofs Go.RowKit
set_option linter.unusedVariables false

/-- Slot k (from 1) of a list; LNil outside. -/
def getAt (xs : List Value) (k : Int) : Value := if 1 ≤ k then (xs[k.toNat - 1]?).getD lnil else lnil

def Is64 (k : Int) : Prop := -9223372036854775808 ≤ k ∧ k ≤ 9223372036854775807
theorem is64_of_wf {k : Int} (h : (Lit.int .i64 k).wf = true) : Is64 k := by
  simpa [Lit.wf, IntKind.min, IntKind.max, IntKind.signed, IntKind.bits, Is64] using h

set_option maxHeartbeats 400000 in
theorem rawGetInt_any (w : World) (t : Nat) (T : Tab) (F : Nat → Prop) (h : TabAt w t T F) (k : Int) (hk : Is64 k) :
    Calls Try.prog 56 #[.pointer (some ⟨t, 0, none⟩), .int .i64 k] w fun e w' => e = .returned (getAt (T.arr.getD []) k) ∧ w = w' := by
  obtain ⟨va, vd, vs, vk, vi, hT⟩ := h
  have c1 := hT.cells.2.1
  have hsl := hT.arr
  obtain ⟨hk1, hk2⟩ := hk
  cases hx : T.arr with
  | none =>
    rw [hx] at hsl
    obtain rfl : va = .slice none 0 0 := hsl
    clear hx hT
    go_enter Try.func56, Try.ntmps56
    go_wp2
    go_ret
    exact ⟨by simp [getAt], rfl⟩
  | some xs =>
    rw [hx] at hsl
    obtain ⟨g, cap, rfl, hcap, hcm, hcell, hfr⟩ := hsl.cell
    clear hx hT hsl hfr
    unfold maxLen at hcm
    have hxl : (xs.length : Int) ≤ 9223372036854775807 := by omega
    clear hcap hcm
    by_cases h1 : 1 ≤ k
    · by_cases h2 : k - 1 < xs.length
      · obtain ⟨i, hi⟩ : ∃ i : Nat, k - 1 = i := ⟨(k - 1).toNat, by omega⟩
        obtain ⟨u, hu⟩ : ∃ u, xs[i]? = some u := ⟨xs[i]'(by omega), by simp⟩
        have hic := hcell i u hu
        have Hu := Lib.hid hu
        clear hcell hu
        go_enter Try.func56, Try.ntmps56
        go_wp2
        go_ret
        refine ⟨?_, rfl⟩
        have e : k.toNat - 1 = i := by omega
        simp [getAt, e, Hu.out, h1]
      · clear hcell
        go_enter Try.func56, Try.ntmps56
        go_wp2
        go_ret
        refine ⟨?_, rfl⟩
        have hl : xs.length ≤ k.toNat - 1 := by omega
        simp [getAt, hl]
    · clear hcell
      by_cases h0 : k = -9223372036854775808
      · subst h0
        have hw : wrap64 (-9223372036854775809) = 9223372036854775807 := by kernel_rfl
        go_enter Try.func56, Try.ntmps56
        go_wp2
        go_ret
        exact ⟨by simp [getAt], rfl⟩
      · go_enter Try.func56, Try.ntmps56
        go_wp2
        go_ret
        have hn : ¬ 1 ≤ k := by omega
        exact ⟨by simp [getAt, hn], rfl⟩

/-- LNil, or another value of an interface type. -/
def isNil (v : Value) : Bool := match v with
  | .iface t (.int .u8 a) => t == 62 && a == 0
  | _ => false

/-- What a slot may hold: LNil, or a value of another dynamic type. -/
def LvOk (v : Value) : Prop := v = lnil ∨ ∃ t x, v = .iface t x ∧ t ≠ 62

theorem LvOk.eql {v : Value} (h : LvOk v) (w : World) : (binOp .eql 55 v (.iface 62 (.int .u8 0))).run Try.prog w = .ok (.bool (isNil v)) w := by
  rcases h with rfl | ⟨t, x, rfl, h⟩
  · rw [lv_eql_nil]; rfl
  · rw [lv_eql_diff h]
    have : isNil (.iface t x) = false := by
      unfold isNil
      split
      · rename_i e; cases e; simp [h]
      · rfl
    rw [this]
theorem LvOk.neq {v : Value} (h : LvOk v) (w : World) : (binOp .neq 55 v (.iface 62 (.int .u8 0))).run Try.prog w = .ok (.bool (!isNil v)) w := by
  rcases h with rfl | ⟨t, x, rfl, h⟩
  · rw [lv_neq_nil]; rfl
  · rw [lv_neq_diff h]
    have : isNil (.iface t x) = false := by
      unfold isNil
      split
      · rename_i e; cases e; simp [h]
      · rfl
    rw [this]; rfl
theorem LvOk.nil_iff {v : Value} (h : LvOk v) : isNil v = true ↔ v = lnil := by
  rcases h with rfl | ⟨t, x, rfl, h⟩
  · exact ⟨fun _ => rfl, fun _ => rfl⟩
  · constructor
    · intro e
      unfold isNil at e
      split at e
      · rename_i q; cases q; simp [h] at e
      · cases e
    · intro e
      cases e
      exact absurd rfl h

/-- The greatest place (from 1) of a slot that is not LNil; 0 if there is none. -/
def border (xs : List Value) : Nat := xs.length - (xs.reverse.takeWhile isNil).length

theorem border_take {xs : List Value} {n : Nat} (hn : n ≤ xs.length) (h : ∀ u ∈ xs.drop n, isNil u = true) : border xs = border (xs.take n) := by
  have e : xs = xs.take n ++ xs.drop n := (List.take_append_drop n xs).symm
  unfold border
  conv => lhs; rw [e]
  rw [List.reverse_append, List.takeWhile_append_of_pos (by simpa using h)]
  simp
  omega

theorem border_last {xs : List Value} {n : Nat} (hn : n < xs.length) (h : isNil (xs[n]) = false) : border (xs.take (n + 1)) = n + 1 := by
  unfold border
  rw [List.take_succ_eq_append_getElem hn, List.reverse_append]
  simp [h]
  omega

theorem border_zero {xs : List Value} (h : ∀ u ∈ xs, isNil u = true) : border xs = 0 := by
  have := border_take (xs := xs) (Nat.zero_le _) (by simpa using h)
  rw [this]
  simp [border]

theorem isNil_drop {xs : List Value} {m : Nat} {u : Value} (h : Hid (∀ u ∈ xs.drop (m + 1), isNil u = true)) (hu : xs[m]? = some u) (hn : isNil u = true) : Hid (∀ u ∈ xs.drop m, isNil u = true) := by
  intro x hx
  obtain ⟨hm, e⟩ := List.getElem?_eq_some_iff.1 hu
  rw [List.drop_eq_getElem_cons hm, e] at hx
  cases hx with
  | head => exact hn
  | tail _ hx => exact h.out x hx
theorem LvOk.not_nil {tu : TypeId} {xu : Value} (h : tu ≠ 62) : isNil (.iface tu xu) = false := by
  unfold isNil
  split
  · rename_i e; cases e; simp [h]
  · rfl
theorem border_at {xs : List Value} {m : Nat} {u : Value} (h : Hid (∀ u ∈ xs.drop (m + 1), isNil u = true)) (hu : xs[m]? = some u) (hn : isNil u = false) : border xs = m + 1 := by
  obtain ⟨hm, e⟩ := List.getElem?_eq_some_iff.1 hu
  rw [border_take (n := m + 1) (by omega) h.out, border_last hm (by rw [e]; exact hn)]

set_option maxHeartbeats 400000 in
theorem maxN_any (w : World) (t : Nat) (T : Tab) (F : Nat → Prop) (h : TabAt w t T F) (hok : ∀ u ∈ T.arr.getD [], LvOk u) :
    Calls Try.prog 20 #[.pointer (some ⟨t, 0, none⟩)] w fun e w' => e = .returned (.int .i64 (border (T.arr.getD []))) ∧ w = w' := by
  obtain ⟨va, vd, vs, vk, vi, hT⟩ := h
  have c1 := hT.cells.2.1
  have hsl := hT.arr
  cases hx : T.arr with
  | none =>
    rw [hx] at hsl
    obtain rfl : va = .slice none 0 0 := hsl
    clear hx hT hok
    go_enter Try.func20, Try.ntmps20
    go_wp2
    go_ret
    exact ⟨by simp [border], rfl⟩
  | some xs =>
    rw [hx] at hsl hok
    simp only [Option.getD_some] at hok
    obtain ⟨g, cap, rfl, hcap, hcm, hcell, hfr⟩ := hsl.cell
    clear hx hT hsl hfr
    unfold maxLen at hcm
    have hxl : (xs.length : Int) ≤ 9223372036854775807 := by omega
    clear hcap hcm
    have Hc := Lib.hid hcell
    have Ho := Lib.hid hok
    clear hcell hok
    go_enter Try.func20, Try.ntmps20
    go_wp2_with fail
    go_loop [3] (fun i => ∃ j : Nat, j ≤ xs.length ∧ i = .int .i64 ((j : Int) - 1) ∧ Hid (∀ u ∈ xs.drop j, isNil u = true)) (fun i => (intOf i + 1).toNat)
    case atStart => exact ⟨xs.length, Nat.le_refl _, rfl, by unfold Hid; simp⟩
    case round =>
      obtain ⟨j, hj, rfl, hd⟩ := hrel
      cases j with
      | zero =>
        go_wp2
        go_ret
        refine ⟨?_, rfl⟩
        have := border_zero (xs := xs) (by simpa using hd.out)
        simp [this]
      | succ m =>
        obtain ⟨u, hu⟩ : ∃ u, xs[m]? = some u := ⟨xs[m]'(by omega), by simp⟩
        have hic := Hc.out m u hu
        have Hu := Lib.hid hu
        have hok := Ho.out u (List.mem_of_getElem? hu)
        clear hu
        rcases hok with rfl | ⟨tu, xu, rfl, hne⟩
        · go_wp2
          go_round
          case rel => exact ⟨m, by omega, rfl, isNil_drop hd Hu.out rfl⟩
          case measure => simp [intOf]
        · go_wp2
          go_ret
          refine ⟨?_, rfl⟩
          have hb := border_at hd Hu.out (LvOk.not_nil hne)
          rw [hb]
          rfl

set_option maxHeartbeats 400000 in
theorem len_any (w : World) (t : Nat) (T : Tab) (F : Nat → Prop) (h : TabAt w t T F) (hok : ∀ u ∈ T.arr.getD [], LvOk u) :
    Calls Try.prog 19 #[.pointer (some ⟨t, 0, none⟩)] w fun e w' => e = .returned (.int .i64 (border (T.arr.getD []))) ∧ w = w' := by
  obtain ⟨va, vd, vs, vk, vi, hT⟩ := h
  have c1 := hT.cells.2.1
  have hsl := hT.arr
  cases hx : T.arr with
  | none =>
    rw [hx] at hsl
    obtain rfl : va = .slice none 0 0 := hsl
    clear hx hT hok
    go_enter Try.func19, Try.ntmps19
    go_wp2
    go_ret
    exact ⟨by simp [border], rfl⟩
  | some xs =>
    rw [hx] at hsl hok
    simp only [Option.getD_some] at hok
    obtain ⟨g, cap, rfl, hcap, hcm, hcell, hfr⟩ := hsl.cell
    clear hx hT hsl hfr
    unfold maxLen at hcm
    have hxl : (xs.length : Int) ≤ 9223372036854775807 := by omega
    clear hcap hcm
    have Hc := Lib.hid hcell
    have Ho := Lib.hid hok
    clear hcell hok
    go_enter Try.func19, Try.ntmps19
    go_wp2_with fail
    go_loop [3, 4] (fun q i => ∃ j : Nat, j ≤ xs.length ∧ q = lnil ∧ i = .int .i64 ((j : Int) - 1) ∧ Hid (∀ u ∈ xs.drop j, isNil u = true)) (fun _ i => (intOf i + 1).toNat)
    case atStart => exact ⟨xs.length, Nat.le_refl _, rfl, rfl, by unfold Hid; simp⟩
    case round =>
      obtain ⟨j, hj, rfl, rfl, hd⟩ := hrel
      cases j with
      | zero =>
        go_wp2
        go_ret
        refine ⟨?_, rfl⟩
        have := border_zero (xs := xs) (by simpa using hd.out)
        simp [this]
      | succ m =>
        obtain ⟨u, hu⟩ : ∃ u, xs[m]? = some u := ⟨xs[m]'(by omega), by simp⟩
        have hic := Hc.out m u hu
        have Hu := Lib.hid hu
        have hok := Ho.out u (List.mem_of_getElem? hu)
        clear hu
        rcases hok with rfl | ⟨tu, xu, rfl, hne⟩
        · go_wp2
          go_round
          case rel => exact ⟨m, by omega, rfl, rfl, isNil_drop hd Hu.out rfl⟩
          case measure => simp [intOf]
        · go_wp2
          go_ret
          refine ⟨?_, rfl⟩
          have hb := border_at hd Hu.out (LvOk.not_nil hne)
          rw [hb]
          rfl
end Go.Lua
