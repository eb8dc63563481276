/-
  RawGetInt: what it answers of a table's array part. It writes nothing.
-/
import Derived.Test.YtcnjdmbcofodnaaRead
namespace Go.Lua
open Go.Proofs Go.RowKit
set_option linter.unusedVariables false

set_option maxHeartbeats 400000 in
theorem rawGetInt_any (w : World) (t : Nat) (T : Tab) (F : Nat → Prop) (h : TabAt w t T F) (k : Int) (hk : Is64 k) :
    Calls Try.prog 56 #[.pointer (some ⟨t, 0, none⟩), .int .i64 k] w fun e w' => e = .returned (getAt (T.arr.getD []) k) ∧ w = w' := by
  obtain ⟨va, vd, vs, vk, vi, hT⟩ := h
  have c1 := hT.cells.2.1
  have hsl := hT.arr
  obtain ⟨hk1, hk2⟩ := hk
  cases hx : T.arr with
  | none =>
    rw [hx] at hsl
    obtain rfl : va = .slice none 0 0 := hsl
    clear hx hT
    go_enter Try.func56, Try.ntmps56
    go_wp2
    go_ret
    exact ⟨by simp [getAt], rfl⟩
  | some xs =>
    rw [hx] at hsl
    obtain ⟨g, cap, rfl, hcap, hcm, hcell, hfr⟩ := hsl.cell
    clear hx hT hsl hfr
    unfold maxLen at hcm
    have hxl : (xs.length : Int) ≤ 9223372036854775807 := by omega
    clear hcap hcm
    by_cases h1 : 1 ≤ k
    · by_cases h2 : k - 1 < xs.length
      · obtain ⟨i, hi⟩ : ∃ i : Nat, k - 1 = i := ⟨(k - 1).toNat, by omega⟩
        obtain ⟨u, hu⟩ : ∃ u, xs[i]? = some u := ⟨xs[i]'(by omega), by simp⟩
        have hic := hcell i u hu
        have Hu := Lib.hid hu
        clear hcell hu
        go_enter Try.func56, Try.ntmps56
        go_wp2
        go_ret
        refine ⟨?_, rfl⟩
        have e : k.toNat - 1 = i := by omega
        simp [getAt, e, Hu.out, h1]
      · clear hcell
        go_enter Try.func56, Try.ntmps56
        go_wp2
        go_ret
        refine ⟨?_, rfl⟩
        have hl : xs.length ≤ k.toNat - 1 := by omega
        simp [getAt, hl]
    · clear hcell
      by_cases h0 : k = -9223372036854775808
      · subst h0
        have hw : wrap64 (-9223372036854775809) = 9223372036854775807 := by kernel_rfl
        go_enter Try.func56, Try.ntmps56
        go_wp2
        go_ret
        exact ⟨by simp [getAt], rfl⟩
      · go_enter Try.func56, Try.ntmps56
        go_wp2
        go_ret
        have hn : ¬ 1 ≤ k := by omega
        exact ⟨by simp [getAt, hn], rfl⟩

end Go.Lua
