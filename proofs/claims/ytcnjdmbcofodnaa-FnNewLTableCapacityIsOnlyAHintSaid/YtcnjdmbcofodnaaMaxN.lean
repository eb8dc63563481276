/-
  Len, MaxN: what they answer of a table's array part. They write nothing.
-/
import Derived.Test.YtcnjdmbcofodnaaRead
namespace Go.Lua
open Go.Proofs Go.RowKit
set_option linter.unusedVariables false

set_option maxHeartbeats 400000 in
theorem maxN_any (w : World) (t : Nat) (T : Tab) (F : Nat → Prop) (h : TabAt w t T F) (hok : ∀ u ∈ T.arr.getD [], LvOk u) :
    Calls Try.prog 20 #[.pointer (some ⟨t, 0, none⟩)] w fun e w' => e = .returned (.int .i64 (border (T.arr.getD []))) ∧ w = w' := by
  obtain ⟨va, vd, vs, vk, vi, hT⟩ := h
  have c1 := hT.cells.2.1
  have hsl := hT.arr
  cases hx : T.arr with
  | none =>
    rw [hx] at hsl
    obtain rfl : va = .slice none 0 0 := hsl
    clear hx hT hok
    go_enter Try.func20, Try.ntmps20
    go_wp2
    go_ret
    exact ⟨by simp [border], rfl⟩
  | some xs =>
    rw [hx] at hsl hok
    simp only [Option.getD_some] at hok
    obtain ⟨g, cap, rfl, hcap, hcm, hcell, hfr⟩ := hsl.cell
    clear hx hT hsl hfr
    unfold maxLen at hcm
    have hxl : (xs.length : Int) ≤ 9223372036854775807 := by omega
    clear hcap hcm
    have Hc := Lib.hid hcell
    have Ho := Lib.hid hok
    clear hcell hok
    go_enter Try.func20, Try.ntmps20
    go_wp2_with fail
    go_loop [3] (fun i => ∃ j : Nat, j ≤ xs.length ∧ i = .int .i64 ((j : Int) - 1) ∧ Hid (∀ u ∈ xs.drop j, isNil u = true)) (fun i => (intOf i + 1).toNat)
    case atStart => exact ⟨xs.length, Nat.le_refl _, rfl, by unfold Hid; simp⟩
    case round =>
      obtain ⟨j, hj, rfl, hd⟩ := hrel
      cases j with
      | zero =>
        go_wp2
        go_ret
        refine ⟨?_, rfl⟩
        have := border_zero (xs := xs) (by simpa using hd.out)
        simp [this]
      | succ m =>
        obtain ⟨u, hu⟩ : ∃ u, xs[m]? = some u := ⟨xs[m]'(by omega), by simp⟩
        have hic := Hc.out m u hu
        have Hu := Lib.hid hu
        have hok := Ho.out u (List.mem_of_getElem? hu)
        clear hu
        rcases hok with rfl | ⟨tu, xu, rfl, hne⟩
        · go_wp2
          go_round
          case rel => exact ⟨m, by omega, rfl, isNil_drop hd Hu.out rfl⟩
          case measure => simp [intOf]
        · go_wp2
          go_ret
          refine ⟨?_, rfl⟩
          have hb := border_at hd Hu.out (LvOk.not_nil hne)
          rw [hb]
          rfl

set_option maxHeartbeats 400000 in
theorem len_any (w : World) (t : Nat) (T : Tab) (F : Nat → Prop) (h : TabAt w t T F) (hok : ∀ u ∈ T.arr.getD [], LvOk u) :
    Calls Try.prog 19 #[.pointer (some ⟨t, 0, none⟩)] w fun e w' => e = .returned (.int .i64 (border (T.arr.getD []))) ∧ w = w' := by
  obtain ⟨va, vd, vs, vk, vi, hT⟩ := h
  have c1 := hT.cells.2.1
  have hsl := hT.arr
  cases hx : T.arr with
  | none =>
    rw [hx] at hsl
    obtain rfl : va = .slice none 0 0 := hsl
    clear hx hT hok
    go_enter Try.func19, Try.ntmps19
    go_wp2
    go_ret
    exact ⟨by simp [border], rfl⟩
  | some xs =>
    rw [hx] at hsl hok
    simp only [Option.getD_some] at hok
    obtain ⟨g, cap, rfl, hcap, hcm, hcell, hfr⟩ := hsl.cell
    clear hx hT hsl hfr
    unfold maxLen at hcm
    have hxl : (xs.length : Int) ≤ 9223372036854775807 := by omega
    clear hcap hcm
    have Hc := Lib.hid hcell
    have Ho := Lib.hid hok
    clear hcell hok
    go_enter Try.func19, Try.ntmps19
    go_wp2_with fail
    go_loop [3, 4] (fun q i => ∃ j : Nat, j ≤ xs.length ∧ q = lnil ∧ i = .int .i64 ((j : Int) - 1) ∧ Hid (∀ u ∈ xs.drop j, isNil u = true)) (fun _ i => (intOf i + 1).toNat)
    case atStart => exact ⟨xs.length, Nat.le_refl _, rfl, rfl, by unfold Hid; simp⟩
    case round =>
      obtain ⟨j, hj, rfl, rfl, hd⟩ := hrel
      cases j with
      | zero =>
        go_wp2
        go_ret
        refine ⟨?_, rfl⟩
        have := border_zero (xs := xs) (by simpa using hd.out)
        simp [this]
      | succ m =>
        obtain ⟨u, hu⟩ : ∃ u, xs[m]? = some u := ⟨xs[m]'(by omega), by simp⟩
        have hic := Hc.out m u hu
        have Hu := Lib.hid hu
        have hok := Ho.out u (List.mem_of_getElem? hu)
        clear hu
        rcases hok with rfl | ⟨tu, xu, rfl, hne⟩
        · go_wp2
          go_round
          case rel => exact ⟨m, by omega, rfl, rfl, isNil_drop hd Hu.out rfl⟩
          case measure => simp [intOf]
        · go_wp2
          go_ret
          refine ⟨?_, rfl⟩
          have hb := border_at hd Hu.out (LvOk.not_nil hne)
          rw [hb]
          rfl
end Go.Lua
