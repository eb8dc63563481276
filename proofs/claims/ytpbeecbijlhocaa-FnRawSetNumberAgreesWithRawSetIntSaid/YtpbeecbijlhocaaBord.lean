/-
  The border of a list of LValues, told by what its slots read.
-/
import Derived.Test.YtpbeecbijlhocaaVal
namespace Go.Lua
open Go.Proofs Go.RowKit
set_option linter.unusedVariables false

theorem border_le2 (xs : List Value) : border xs ≤ xs.length := by unfold border; omega
theorem border_above {xs : List Value} (hok : ∀ u ∈ xs, LvOk u) {k : Int} (h : (border xs : Int) < k) : getAt xs k = lnil := by
  unfold getAt
  rw [if_pos (by omega)]
  by_cases hl : k.toNat - 1 < xs.length
  · rw [rev_at hl]
    have hw : (xs.reverse.takeWhile isNil).length ≤ xs.length := by
      have := (List.takeWhile_sublist isNil (l := xs.reverse)).length_le
      simpa using this
    obtain ⟨u, hu⟩ : ∃ u, xs.reverse[xs.length - 1 - (k.toNat - 1)]? = some u := ⟨_, List.getElem?_eq_getElem (by simp; omega)⟩
    have := takeWhile_all (p := isNil) xs.reverse _ u (by unfold border at h; omega) hu
    rw [hu]
    exact (LvOk.nil_iff (hok u (by simpa using List.mem_of_getElem? hu))).1 this
  · rw [List.getElem?_eq_none (by omega)]; rfl
theorem border_here {xs : List Value} (h : border xs ≠ 0) : getAt xs (border xs) ≠ lnil := by
  have hw : (xs.reverse.takeWhile isNil).length < xs.length := by
    unfold border at h; omega
  unfold getAt
  rw [if_pos (by omega)]
  have hl : (border xs : Int).toNat - 1 < xs.length := by have := border_le2 xs; omega
  rw [rev_at hl]
  have e : xs.length - 1 - ((border xs : Int).toNat - 1) = (xs.reverse.takeWhile isNil).length := by unfold border; omega
  rw [e]
  obtain ⟨u, hu⟩ : ∃ u, xs.reverse[(xs.reverse.takeWhile isNil).length]? = some u := ⟨_, List.getElem?_eq_getElem (by simpa using hw)⟩
  have := takeWhile_stop (p := isNil) xs.reverse u hu
  rw [hu]
  intro he
  rw [show u = lnil from he] at this
  cases this
theorem border_is {xs : List Value} (hok : ∀ u ∈ xs, LvOk u) {b : Nat} (h1 : ∀ k : Int, (b : Int) < k → getAt xs k = lnil) (h2 : b = 0 ∨ getAt xs b ≠ lnil) : border xs = b := by
  rcases Nat.lt_trichotomy (border xs) b with h | h | h
  · rcases h2 with rfl | h2
    · omega
    · exact absurd (border_above hok (by omega)) h2
  · exact h
  · exact absurd (h1 _ (by omega)) (border_here (by omega))
/-- Of a table: the last slot that reads something. -/
theorem Ok.border {T : Tab} {n : Nat} (h : Ok T n) {b : Nat} (h1 : ∀ k : Int, (b : Int) < k → T.av k = lnil) (h2 : b = 0 ∨ T.av b ≠ lnil) : border (T.arr.getD []) = b := border_is h.lv h1 h2
end Go.Lua
