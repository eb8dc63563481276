/-
  Values by number: 0 stands for LNil, another v for the number v. Lists of such values, their last proper place.
-/
import Derived.Test.YtfkemahinnpgdaaKeep
namespace Go.Lua
open Go.Proofs Go.RowKit
set_option linter.unusedVariables false

/-- The value that stands for v in a slot: LNil for 0. -/
def val (v : Int) : Value := if v = 0 then lnil else lnum (fofInt v)
/-- The last place (from 1) that is not 0. -/
def bord (ms : List Int) : Nat := ms.length - (ms.reverse.takeWhile (· == 0)).length
def setM (ms : List Int) (i : Nat) (v : Int) : List Int := if i < ms.length then ms.set i v else ms ++ List.replicate (i - ms.length) 0 ++ [v]
theorem val_zero : val 0 = lnil := rfl
theorem val_num {v : Int} (h : v ≠ 0) : val v = lnum (fofInt v) := if_neg h
theorem isNil_val (v : Int) : isNil (val v) = (v == 0) := by
  by_cases h : v = 0
  · subst h; rfl
  · rw [val_num h, beq_false_of_ne h]; rfl
theorem lvOk_val (v : Int) : LvOk (val v) := by
  by_cases h : v = 0
  · subst h; exact .inl rfl
  · rw [val_num h]; exact .inr ⟨_, _, rfl, by decide⟩
theorem lvOk_vals (ms : List Int) : ∀ u ∈ ms.map val, LvOk u := by
  intro u hu
  obtain ⟨v, -, rfl⟩ := List.mem_map.1 hu
  exact lvOk_val v
theorem val_iface (v : Int) : ∃ tv xv, val v = .iface tv xv := by
  by_cases h : v = 0
  · subst h; exact ⟨_, _, rfl⟩
  · rw [val_num h]; exact ⟨_, _, rfl⟩
theorem border_vals (ms : List Int) : border (ms.map val) = bord ms := by
  unfold border bord
  rw [← List.map_reverse, List.takeWhile_map, List.length_map, List.length_map]
  congr 3
  funext v
  exact isNil_val v
theorem setAt_vals (ms : List Int) (i : Nat) (v : Int) : setAt (ms.map val) i (val v) = (setM ms i v).map val := by
  unfold setAt setM
  rw [List.length_map]
  split
  · rw [List.map_set]
  · simp [val_zero]
theorem bord_le (ms : List Int) : bord ms ≤ ms.length := by unfold bord; omega
theorem setM_length (ms : List Int) (i : Nat) (v : Int) : (setM ms i v).length = max ms.length (i + 1) := by
  unfold setM
  split
  · rw [List.length_set]; omega
  · simp; omega
/-- Slot k (from 1) of the list; 0 outside. -/
def atM (ms : List Int) (k : Int) : Int := if 1 ≤ k then (ms[k.toNat - 1]?).getD 0 else 0
theorem getAt_vals (ms : List Int) (k : Int) : getAt (ms.map val) k = val (atM ms k) := by
  unfold getAt atM
  split
  · rw [List.getElem?_map]
    cases ms[k.toNat - 1]? <;> rfl
  · rfl
theorem takeWhile_all {α : Type} {p : α → Bool} (l : List α) : ∀ i u, i < (l.takeWhile p).length → l[i]? = some u → p u = true := by
  induction l with
  | nil => intro i u h; simp at h
  | cons a l ih =>
    intro i u h hu
    by_cases ha : p a = true
    · rw [List.takeWhile_cons_of_pos ha] at h
      cases i with
      | zero => simp at hu; subst hu; exact ha
      | succ i => exact ih i u (by simpa using h) (by simpa using hu)
    · rw [List.takeWhile_cons_of_neg ha] at h; simp at h
theorem takeWhile_stop {α : Type} {p : α → Bool} (l : List α) : ∀ u, l[(l.takeWhile p).length]? = some u → p u = false := by
  induction l with
  | nil => intro u h; simp at h
  | cons a l ih =>
    intro u hu
    by_cases ha : p a = true
    · rw [List.takeWhile_cons_of_pos ha] at hu
      exact ih u (by simpa using hu)
    · rw [List.takeWhile_cons_of_neg ha] at hu
      simp at hu; subst hu; simpa using ha
theorem rev_at {α : Type} {l : List α} {i : Nat} (h : i < l.length) : l[i]? = l.reverse[l.length - 1 - i]? := by
  rw [List.getElem?_reverse (by omega)]
  congr 1
  omega
theorem bord_above {ms : List Int} {k : Int} (h : (bord ms : Int) < k) : atM ms k = 0 := by
  unfold atM
  rw [if_pos (by omega)]
  by_cases hl : k.toNat - 1 < ms.length
  · rw [rev_at hl]
    have hw : (ms.reverse.takeWhile (· == 0)).length ≤ ms.length := by
      have := (List.takeWhile_sublist (· == (0:Int)) (l := ms.reverse)).length_le
      simpa using this
    obtain ⟨u, hu⟩ : ∃ u, ms.reverse[ms.length - 1 - (k.toNat - 1)]? = some u := ⟨_, List.getElem?_eq_getElem (by simp; omega)⟩
    have := takeWhile_all (p := (· == (0:Int))) ms.reverse _ u (by unfold bord at h; omega) hu
    rw [hu]
    simpa using this
  · rw [List.getElem?_eq_none (by omega)]; rfl
theorem bord_here {ms : List Int} (h : bord ms ≠ 0) : atM ms (bord ms) ≠ 0 := by
  have hw : (ms.reverse.takeWhile (· == 0)).length < ms.length := by
    unfold bord at h; omega
  unfold atM
  rw [if_pos (by omega)]
  have hl : (bord ms : Int).toNat - 1 < ms.length := by have := bord_le ms; omega
  rw [rev_at hl]
  have e : ms.length - 1 - ((bord ms : Int).toNat - 1) = (ms.reverse.takeWhile (· == 0)).length := by unfold bord; omega
  rw [e]
  obtain ⟨u, hu⟩ : ∃ u, ms.reverse[(ms.reverse.takeWhile (· == 0)).length]? = some u := ⟨_, List.getElem?_eq_getElem (by simpa using hw)⟩
  have := takeWhile_stop (p := (· == (0:Int))) ms.reverse u hu
  rw [hu]
  simpa using this
theorem bord_is {ms : List Int} {b : Nat} (h1 : ∀ k : Int, (b : Int) < k → atM ms k = 0) (h2 : b = 0 ∨ atM ms b ≠ 0) : bord ms = b := by
  rcases Nat.lt_trichotomy (bord ms) b with h | h | h
  · rcases h2 with rfl | h2
    · omega
    · exact absurd (bord_above (by omega)) h2
  · exact h
  · exact absurd (h1 _ (by omega)) (bord_here (by omega))
theorem atM_far {ms : List Int} {k : Int} (h : (ms.length : Int) < k) : atM ms k = 0 := bord_above (by have := bord_le ms; omega)
theorem Below.after {B C : Nat} {a b c : World} (h : Below B a b) (k : Below C b c) (hBC : B ≤ C) : Below B a c := h.trans (k.mono hBC)
theorem ret_eq {a b : Int} (h : a = b) : Ending.returned (.bool (a == b)) = Ending.returned (.bool true) := by rw [h, beq_self_eq_true]
theorem meas {M j : Int} (h : j < M) : (M - (j + 1)).toNat < (M - j).toNat := by omega
theorem atM_low (ms : List Int) {k : Int} (h : k < 1) : atM ms k = 0 := if_neg (by omega)
theorem atM_set {ms : List Int} {i : Nat} {v : Int} (k : Int) : atM (setM ms i v) k = if k = (i : Int) + 1 then v else atM ms k := by
  by_cases hk : 1 ≤ k
  · obtain ⟨q, rfl⟩ : ∃ q : Nat, k = (q : Int) + 1 := ⟨(k - 1).toNat, by omega⟩
    have e : ((q : Int) + 1).toNat - 1 = q := by omega
    unfold atM setM
    rw [if_pos hk, if_pos hk, e]
    by_cases hi : i < ms.length
    · rw [if_pos hi, List.getElem?_set]
      by_cases hq : q = i
      · subst hq; simp [hi]
      · rw [if_neg (fun h => hq h.symm), if_neg (by omega)]
    · rw [if_neg hi]
      by_cases hq : q = i
      · subst hq
        rw [List.getElem?_append_right (by simp; omega)]
        simp
        have : q - (ms.length + (q - ms.length)) = 0 := by omega
        rw [this]
        simp
      · rw [if_neg (by omega)]
        by_cases hql : q < ms.length
        · rw [List.append_assoc, List.getElem?_append_left hql]
        · by_cases hqi : q < i
          · rw [List.append_assoc, List.getElem?_append_right (by omega), List.getElem?_append_left (by simp; omega), List.getElem?_eq_none (l := ms) (by omega)]
            rw [List.getElem?_replicate, if_pos (by omega)]
            rfl
          · rw [List.getElem?_eq_none (by simp; omega), List.getElem?_eq_none (l := ms) (by omega)]
  · rw [atM_low _ (by omega), atM_low _ (by omega), if_neg (by omega)]

theorem feq_fof_self {v : Int} (h : -(2 ^ 63) ≤ v ∧ v < 2 ^ 63) : feq (fofInt v) (fofInt v) = true := by
  obtain ⟨u, hu, -⟩ := fkey_ofInt v h
  exact feq_self hu
end Go.Lua
