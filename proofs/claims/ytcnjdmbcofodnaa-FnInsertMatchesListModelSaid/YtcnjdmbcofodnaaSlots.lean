/-
  n005_73: plain facts of the list of slots; what a slot's readers answer.
-/
import Derived.Test.YtcnjdmbcofodnaaPre
namespace Go.Lua
open Go.Proofs Go.RowKit
set_option linter.unusedVariables false

theorem takeWhile_all {α : Type} {p : α → Bool} (l : List α) : ∀ i u, i < (l.takeWhile p).length → l[i]? = some u → p u = true := by
  induction l with
  | nil => intro i u h; simp at h
  | cons a l ih =>
    intro i u h hu
    by_cases ha : p a = true
    · rw [List.takeWhile_cons_of_pos ha] at h
      cases i with
      | zero => simp at hu; subst hu; exact ha
      | succ i => exact ih i u (by simpa using h) (by simpa using hu)
    · rw [List.takeWhile_cons_of_neg ha] at h; simp at h
theorem takeWhile_stop {α : Type} {p : α → Bool} (l : List α) : ∀ u, l[(l.takeWhile p).length]? = some u → p u = false := by
  induction l with
  | nil => intro u h; simp at h
  | cons a l ih =>
    intro u hu
    by_cases ha : p a = true
    · rw [List.takeWhile_cons_of_pos ha] at hu
      exact ih u (by simpa using hu)
    · rw [List.takeWhile_cons_of_neg ha] at hu
      simp at hu; subst hu; simpa using ha

theorem rev_at {α : Type} {l : List α} {i : Nat} (h : i < l.length) : l[i]? = l.reverse[l.length - 1 - i]? := by
  rw [List.getElem?_reverse (by omega)]
  congr 1
  omega
theorem bord_above {ms : List Int} {k : Int} (h : (bord ms : Int) < k) : atM ms k = 0 := by
  unfold atM
  rw [if_pos (by omega)]
  by_cases hl : k.toNat - 1 < ms.length
  · rw [rev_at hl]
    have hw : (ms.reverse.takeWhile (· == 0)).length ≤ ms.length := by
      have := (List.takeWhile_sublist (· == (0:Int)) (l := ms.reverse)).length_le
      simpa using this
    obtain ⟨u, hu⟩ : ∃ u, ms.reverse[ms.length - 1 - (k.toNat - 1)]? = some u := ⟨_, List.getElem?_eq_getElem (by simp; omega)⟩
    have := takeWhile_all (p := (· == (0:Int))) ms.reverse _ u (by unfold bord at h; omega) hu
    rw [hu]
    simpa using this
  · rw [List.getElem?_eq_none (by omega)]; rfl
theorem bord_here {ms : List Int} (h : bord ms ≠ 0) : atM ms (bord ms) ≠ 0 := by
  have hw : (ms.reverse.takeWhile (· == 0)).length < ms.length := by
    unfold bord at h; omega
  unfold atM
  rw [if_pos (by omega)]
  have hl : (bord ms : Int).toNat - 1 < ms.length := by have := bord_le ms; omega
  rw [rev_at hl]
  have e : ms.length - 1 - ((bord ms : Int).toNat - 1) = (ms.reverse.takeWhile (· == 0)).length := by unfold bord; omega
  rw [e]
  obtain ⟨u, hu⟩ : ∃ u, ms.reverse[(ms.reverse.takeWhile (· == 0)).length]? = some u := ⟨_, List.getElem?_eq_getElem (by simpa using hw)⟩
  have := takeWhile_stop (p := (· == (0:Int))) ms.reverse u hu
  rw [hu]
  simpa using this
theorem bord_is {ms : List Int} {b : Nat} (h1 : ∀ k : Int, (b : Int) < k → atM ms k = 0) (h2 : b = 0 ∨ atM ms b ≠ 0) : bord ms = b := by
  rcases Nat.lt_trichotomy (bord ms) b with h | h | h
  · rcases h2 with rfl | h2
    · omega
    · exact absurd (bord_above (by omega)) h2
  · exact h
  · exact absurd (h1 _ (by omega)) (bord_here (by omega))
theorem atM_far {ms : List Int} {k : Int} (h : (ms.length : Int) < k) : atM ms k = 0 := bord_above (by have := bord_le ms; omega)
theorem atM_fit {ms : List Int} (h : ∀ v ∈ ms, -2147483648 ≤ v ∧ v ≤ 2147483647) (k : Int) : -2147483648 ≤ atM ms k ∧ atM ms k ≤ 2147483647 := by
  unfold atM
  split
  · cases hu : ms[k.toNat - 1]? with
    | none => simp
    | some u => exact h u (List.mem_of_getElem? hu)
  · omega

theorem feq_fof {a b : Int} (ha : -2147483648 ≤ a ∧ a ≤ 2147483647) (hb : -2147483648 ≤ b ∧ b ≤ 2147483647) : feq (fofInt a) (fofInt b) = (a == b) := by
  obtain ⟨u, hu, h1, -, -⟩ := fkey_ofInt a (by omega)
  obtain ⟨v, hv, h2, -, -⟩ := fkey_ofInt b (by omega)
  have h1 := h1 (by omega)
  have h2 := h2 (by omega)
  unfold feq
  rw [hu, hv, h1, h2]
  have hp : (unit : Int) ≠ 0 := by have := unit_pos; omega
  by_cases he : a = b
  · subst he; simp
  · rw [beq_false_of_ne he]
    exact beq_false_of_ne fun hh => he (Int.eq_of_mul_eq_mul_right hp hh)
theorem cvt_fof {v : Int} (hv : -2147483648 ≤ v ∧ v ≤ 2147483647) : floatToIntVal .f64 (fofInt v) .i32 = some v := by
  obtain ⟨u, hu, h1, -, -⟩ := fkey_ofInt v (by omega)
  have h1 := h1 (by omega)
  have hp : (unit : Int) ≠ 0 := by have := unit_pos; omega
  have hb : u.natAbs < big := by
    have := big_unit
    rw [h1, Int.natAbs_mul, Int.natAbs_natCast]
    have : v.natAbs * unit ≤ 2 ^ 64 * unit := Nat.mul_le_mul_right _ (by omega)
    omega
  unfold floatToIntVal
  rw [toInt_key hu hb, h1, Int.mul_tdiv_cancel _ hp]
  simp only
  rw [if_pos]
  exact ⟨hv.1, hv.2⟩

/-- What a reader of slot v answers: its number, and whether there is one. -/
def slotOf (v : Int) : Value := if v = 0 then .tuple #[.float .f64 0, .bool false] else .tuple #[.float .f64 (fofInt v), .bool true]

set_option maxHeartbeats 400000 in
theorem Tbl.slotNum {F : Nat → Prop} {t : Nat} {ms : List Int} {n : Nat} {w : World} (h : Tbl F t ms n w) (k : Int) (hk : Is64 k) :
    Calls Try.prog 28 #[.pointer (some ⟨t, 0, none⟩), .int .i64 k] w fun e w' => e = .returned (slotOf (atM ms k)) ∧ w = w' := by
  have C := Lib.hid (h.get k hk)
  unfold slotOf
  generalize atM ms k = v at C ⊢
  by_cases h0 : v = 0
  · subst h0
    rw [if_pos rfl]
    rw [val_zero] at C
    go_enter Try.func28, Try.ntmps28
    go_wp2_with (first | (go_at_call 56; refine C.out.mono ?_; rintro e w1 ⟨rfl, rfl⟩))
    go_ret2
    exact ⟨rfl, rfl⟩
  · rw [if_neg h0]
    rw [val_num h0] at C
    clear h0
    go_enter Try.func28, Try.ntmps28
    go_wp2_with (first | (go_at_call 56; refine C.out.mono ?_; rintro e w1 ⟨rfl, rfl⟩))
    go_ret2
    exact ⟨rfl, rfl⟩

set_option maxHeartbeats 400000 in
theorem Tbl.slotIs {F : Nat → Prop} {t : Nat} {ms : List Int} {n : Nat} {w : World} (h : Tbl F t ms n w) (hf : ∀ v ∈ ms, -2147483648 ≤ v ∧ v ≤ 2147483647) (k : Int) (hk : Is64 k) (x : Int) (hx : -2147483648 ≤ x ∧ x ≤ 2147483647) :
    Calls Try.prog 25 #[.pointer (some ⟨t, 0, none⟩), .int .i64 k, .int .i32 x] w fun e w' => e = .returned (.bool (atM ms k == x)) ∧ w = w' := by
  have C := Lib.hid (h.slotNum k hk)
  have hv := atM_fit hf k
  unfold slotOf at C
  generalize atM ms k = v at *
  by_cases h0 : v = 0
  · subst h0
    rw [if_pos rfl] at C
    by_cases hx0 : x = 0
    · subst hx0
      go_enter Try.func25, Try.ntmps25
      go_wp2_with (first | (go_at_call 28; refine C.out.mono ?_; rintro e w1 ⟨rfl, rfl⟩))
      go_ret
      exact ⟨rfl, rfl⟩
    · have hx1 : (x == 0) = false := beq_false_of_ne hx0
      have hx2 : (0 == x) = false := beq_false_of_ne fun e => hx0 e.symm
      rw [hx2]
      clear hx0
      go_enter Try.func25, Try.ntmps25
      go_wp2_with (first | (go_at_call 28; refine C.out.mono ?_; rintro e w1 ⟨rfl, rfl⟩))
      go_ret
      exact ⟨rfl, rfl⟩
  · rw [if_neg h0] at C
    by_cases hx0 : x = 0
    · subst hx0
      rw [beq_false_of_ne h0]
      go_enter Try.func25, Try.ntmps25
      go_wp2_with (first | (go_at_call 28; refine C.out.mono ?_; rintro e w1 ⟨rfl, rfl⟩))
      go_ret
      exact ⟨rfl, rfl⟩
    · have hx1 : (x == 0) = false := beq_false_of_ne hx0
      rw [← feq_fof hv hx]
      rw [show feq (fofInt v) (fofInt x) = (FloatKind.f64.format.order (fofInt v) (floatOfInt .f64 x) == some .eq) from (order_eq _ _).symm]
      clear hx0 h0
      go_enter Try.func25, Try.ntmps25
      go_wp2_with (first | (go_at_call 28; refine C.out.mono ?_; rintro e w1 ⟨rfl, rfl⟩))
      go_ret
      exact ⟨rfl, rfl⟩

set_option maxHeartbeats 400000 in
theorem Tbl.slot {F : Nat → Prop} {t : Nat} {ms : List Int} {n : Nat} {w : World} (h : Tbl F t ms n w) (hf : ∀ v ∈ ms, -2147483648 ≤ v ∧ v ≤ 2147483647) (k : Int) (hk : Is64 k) :
    Calls Try.prog 57 #[.pointer (some ⟨t, 0, none⟩), .int .i64 k] w fun e w' => e = .returned (.int .i32 (atM ms k)) ∧ w = w' := by
  have C := Lib.hid (h.slotNum k hk)
  have hv := atM_fit hf k
  unfold slotOf at C
  generalize atM ms k = v at *
  by_cases h0 : v = 0
  · subst h0
    rw [if_pos rfl] at C
    go_enter Try.func57, Try.ntmps57
    go_wp2_with (first | (go_at_call 28; refine C.out.mono ?_; rintro e w1 ⟨rfl, rfl⟩))
    go_ret
    exact ⟨rfl, rfl⟩
  · rw [if_neg h0] at C
    have hc : (convert 36 21 (.float .f64 (fofInt v))).run Try.prog w = .ok (.int .i32 v) w := run_convert_float_int w _ _ .f64 .i32 _ v (by rfl) (by rfl) (cvt_fof hv)
    clear h0
    go_enter Try.func57, Try.ntmps57
    go_wp2_with (first | (go_at_call 28; refine C.out.mono ?_; rintro e w1 ⟨rfl, rfl⟩))
    go_ret
    exact ⟨rfl, rfl⟩
end Go.Lua
