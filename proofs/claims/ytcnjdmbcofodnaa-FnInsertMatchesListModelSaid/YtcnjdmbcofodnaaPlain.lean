/-
  n005_73: plain laws of the list of slots under insert and append.
-/
import Derived.Test.YtcnjdmbcofodnaaSlots
namespace Go.Lua
open Go.Proofs Go.RowKit
set_option linter.unusedVariables false

theorem Below.after {B C : Nat} {a b c : World} (h : Below B a b) (k : Below C b c) (hBC : B ≤ C) : Below B a c := h.trans (k.mono hBC)
theorem ret_eq {a b : Int} (h : a = b) : Ending.returned (.bool (a == b)) = Ending.returned (.bool true) := by rw [h, beq_self_eq_true]
theorem meas {M j : Int} (h : j < M) : (M - (j + 1)).toNat < (M - j).toNat := by omega
theorem atM_low (ms : List Int) {k : Int} (h : k < 1) : atM ms k = 0 := if_neg (by omega)
theorem atM_set {ms : List Int} {i : Nat} {v : Int} (k : Int) : atM (setM ms i v) k = if k = (i : Int) + 1 then v else atM ms k := by
  by_cases hk : 1 ≤ k
  · obtain ⟨q, rfl⟩ : ∃ q : Nat, k = (q : Int) + 1 := ⟨(k - 1).toNat, by omega⟩
    have e : ((q : Int) + 1).toNat - 1 = q := by omega
    unfold atM setM
    rw [if_pos hk, if_pos hk, e]
    by_cases hi : i < ms.length
    · rw [if_pos hi, List.getElem?_set]
      by_cases hq : q = i
      · subst hq; simp [hi]
      · rw [if_neg (fun h => hq h.symm), if_neg (by omega)]
    · rw [if_neg hi]
      by_cases hq : q = i
      · subst hq
        rw [List.getElem?_append_right (by simp; omega)]
        simp
        have : q - (ms.length + (q - ms.length)) = 0 := by omega
        rw [this]
        simp
      · rw [if_neg (by omega)]
        by_cases hql : q < ms.length
        · rw [List.append_assoc, List.getElem?_append_left hql]
        · by_cases hqi : q < i
          · rw [List.append_assoc, List.getElem?_append_right (by omega), List.getElem?_append_left (by simp; omega), List.getElem?_eq_none (l := ms) (by omega)]
            rw [List.getElem?_replicate, if_pos (by omega)]
            rfl
          · rw [List.getElem?_eq_none (by simp; omega), List.getElem?_eq_none (l := ms) (by omega)]
  · rw [atM_low _ (by omega), atM_low _ (by omega), if_neg (by omega)]

theorem atM_ins {ms : List Int} {i v : Int} (hi : 1 ≤ i) (k : Int) : atM (insM ms i v) k = if k < i then atM ms k else if k = i then v else atM ms (k - 1) := by
  unfold insM
  rw [if_neg (by omega)]
  obtain ⟨j, rfl⟩ : ∃ j : Nat, i = (j : Int) + 1 := ⟨(i - 1).toNat, by omega⟩
  have ej : ((j : Int) + 1).toNat - 1 = j := by omega
  rw [ej]
  by_cases hl : (ms.length : Int) < (j : Int) + 1
  · rw [if_pos hl, atM_set]
    by_cases h1 : k < (j : Int) + 1
    · rw [if_neg (by omega), if_pos h1]
    · rw [if_neg h1]
      by_cases h2 : k = (j : Int) + 1
      · rw [if_pos h2, if_pos h2]
      · rw [if_neg h2, if_neg h2, atM_far (by omega), atM_far (by omega)]
  · rw [if_neg hl]
    have h3 : j < ms.length := by omega
    have h4 : (ms.take j).length = j := by simp; omega
    by_cases hk : 1 ≤ k
    · obtain ⟨q, rfl⟩ : ∃ q : Nat, k = (q : Int) + 1 := ⟨(k - 1).toNat, by omega⟩
      have eq : ((q : Int) + 1).toNat - 1 = q := by omega
      by_cases h1 : q < j
      · rw [if_pos (by omega)]
        unfold atM
        rw [if_pos hk, if_pos hk, eq, List.getElem?_append_left (by omega), List.getElem?_take, if_pos h1]
      · rw [if_neg (by omega)]
        by_cases h2 : q = j
        · subst h2
          rw [if_pos rfl]
          unfold atM
          rw [if_pos hk, eq, List.getElem?_append_right (by omega), h4, Nat.sub_self]
          rfl
        · rw [if_neg (by omega)]
          have e2 : ((q : Int) + 1 - 1).toNat - 1 = q - 1 := by omega
          unfold atM
          rw [if_pos hk, if_pos (by omega), eq, e2, List.getElem?_append_right (by omega), h4]
          obtain ⟨d, hd⟩ : ∃ d, q - j = d + 1 := ⟨q - j - 1, by omega⟩
          rw [hd, List.getElem?_cons_succ, List.getElem?_drop]
          congr 2
          omega
    · rw [atM_low _ (by omega), if_pos (by omega), atM_low _ (by omega)]

theorem bord_le_of {ms : List Int} {b : Nat} (h : ∀ k : Int, (b : Int) < k → atM ms k = 0) : bord ms ≤ b := by
  by_cases hb : bord ms ≤ b
  · exact hb
  · exact absurd (h _ (by omega)) (bord_here (by omega))

/-- The last slot behind an insert. -/
theorem bord_ins (ms : List Int) (i v : Int) : (i ≤ 0 → bord (insM ms i v) = bord ms) ∧ (1 ≤ i → v ≠ 0 → i ≤ bord ms + 1 → bord (insM ms i v) = bord ms + 1) ∧ (1 ≤ i → v ≠ 0 → bord ms + 1 < i → (bord (insM ms i v) : Int) = i) ∧
    (1 ≤ i → v = 0 → i ≤ bord ms → bord (insM ms i v) = bord ms + 1) ∧ (1 ≤ i → v = 0 → bord ms < i → bord (insM ms i v) = bord ms) := by
  refine ⟨fun h => by unfold insM; rw [if_pos h], fun h1 h2 h3 => ?_, fun h1 h2 h3 => ?_, fun h1 h2 h3 => ?_, fun h1 h2 h3 => ?_⟩
  · refine bord_is (fun k hk => ?_) (.inr ?_)
    · rw [atM_ins h1, if_neg (by omega), if_neg (by omega)]
      exact bord_above (by omega)
    · rw [atM_ins h1, if_neg (by omega)]
      by_cases he : ((bord ms + 1 : Nat) : Int) = i
      · rw [if_pos he]; exact h2
      · rw [if_neg he]
        have e : ((bord ms + 1 : Nat) : Int) - 1 = bord ms := by omega
        rw [e]
        exact bord_here (by omega)
  · obtain ⟨j, rfl⟩ : ∃ j : Nat, i = j := ⟨i.toNat, by omega⟩
    have := bord_is (ms := insM ms j v) (b := j) (fun k hk => by rw [atM_ins h1, if_neg (by omega), if_neg (by omega)]; exact bord_above (by omega)) (.inr (by rw [atM_ins h1, if_neg (by omega), if_pos rfl]; exact h2))
    omega
  · refine bord_is (fun k hk => ?_) (.inr ?_)
    · rw [atM_ins h1, if_neg (by omega), if_neg (by omega)]
      exact bord_above (by omega)
    · rw [atM_ins h1, if_neg (by omega), if_neg (by omega)]
      have e : ((bord ms + 1 : Nat) : Int) - 1 = bord ms := by omega
      rw [e]
      exact bord_here (by omega)
  · refine bord_is (fun k hk => ?_) ?_
    · rw [atM_ins h1]
      split
      · exact bord_above hk
      · split
        · exact h2
        · exact bord_above (by omega)
    · by_cases hb : bord ms = 0
      · exact .inl hb
      · right
        rw [atM_ins h1, if_pos h3]
        exact bord_here hb
end Go.Lua
