/-
  A map keyed by integers, as a plain function.
-/
import Derived.Test.YtfpeldekhogfpaaHash
namespace Go.Lua
open Go.Proofs Go.RowKit
set_option linter.unusedVariables false

def IsIK (v : Value) : Prop := ∃ n, v = .int .i64 n
def ikEq : Value → Value → Bool
  | .int .i64 a, .int .i64 b => a == b
  | _, _ => false
theorem ikEq_cases {a b : Value} (h : ikEq a b = true) : ∃ n, a = .int .i64 n ∧ b = .int .i64 n := by
  unfold ikEq at h
  split at h
  · obtain rfl := eq_of_beq h
    exact ⟨_, rfl, rfl⟩
  · cases h
theorem findNow_ik (n : Int) : ∀ (es : List MapEntry) (i : Nat), (∀ x ∈ es, IsIK x.key) → Instr.findNow (.int .i64) (.int .i64 n) es i = some (locate ikEq (.int .i64 n) es i)
  | [], i, _ => rfl
  | e :: es, i, h => by
    obtain ⟨u, hu⟩ := h e (.head _)
    have ih := findNow_ik n es (i + 1) fun x hx => h x (.tail _ hx)
    unfold Instr.findNow locate
    rw [hu]
    simp only [Instr.sameNow, ikEq, if_true]
    by_cases hs : (n == u) = true
    · simp [hs]
    · simp only [Bool.not_eq_true] at hs
      simp [hs, ih]
theorem ik_law : KeyLaw Try.prog 3 IsIK ikEq := by
  refine ⟨?_, ?_, ?_, ?_⟩
  · rintro e k w ⟨s, rfl⟩
    unfold Instr.checkKey
    simp [run_underlying Try.underlying3]
  · rintro k es w ⟨s, rfl⟩ h
    unfold Instr.findKey
    simp [run_underlying Try.underlying3, findNow_ik s es 0 h]
  · intro a b h
    obtain ⟨s, rfl, rfl⟩ := ikEq_cases h
    exact h
  · intro a b c h k
    obtain ⟨s, rfl, rfl⟩ := ikEq_cases h
    exact k
end Go.Lua
