/-
  n005_156: inArrayB3, by contract.
-/
import Derived.Test.YtpbeecbijlhocaaBase
import Derived.Test.YtpbeecbijlhocaaKeyI
namespace Go.Lua
open Go.Proofs Go.RowKit
set_option linter.unusedVariables false

theorem inArr_yes (w : World) {k : Int} (h : InArr k) : Calls Try.prog 18 #[.int .i64 k] w fun e w' => e = .returned (.bool true) ∧ w = w' := by
  obtain ⟨h1, h2⟩ := h
  go_enter Try.func18, Try.ntmps18
  go_wp2
  go_ret
  exact ⟨rfl, rfl⟩
theorem inArr_no (w : World) {k : Int} (h : ¬ InArr k) : Calls Try.prog 18 #[.int .i64 k] w fun e w' => e = .returned (.bool false) ∧ w = w' := by
  unfold InArr at h
  by_cases h1 : 1 ≤ k
  · have h2 : ¬ k < 67108864 := by omega
    have h3 : decide (k < 67108864) = false := by simpa using h2
    clear h h2
    go_enter Try.func18, Try.ntmps18
    go_wp2
    go_ret
    exact ⟨rfl, rfl⟩
  · clear h
    have h3 : decide (1 ≤ k) = false := by simpa using h1
    go_enter Try.func18, Try.ntmps18
    go_wp2
    go_ret
    exact ⟨rfl, rfl⟩

end Go.Lua
