/-
  Doubles nearest to integers: none beyond the integers' own range; whole doubles cut to an int64.
-/
import Derived.Test.YtfkemahinnpgdaaNum
namespace Go.Lua
open Go.Proofs Go.RowKit Ieee
set_option linter.unusedVariables false

theorem nearest_upper (neg : Bool) (m : Nat) (hm : m ≤ 2 ^ 63) :
    ∃ v : Nat, fkey (double.nearest neg m 0) = some (if neg then -(v : Int) else (v : Int)) ∧ v ≤ 2 ^ 63 * unit := by
  unfold Format.nearest
  by_cases h0 : m = 0
  · subst h0
    refine ⟨0, ?_, Nat.zero_le _⟩
    have := read_word neg 0 0 (.inl rfl) (by decide) (by decide)
    simp only [Nat.zero_mul, Nat.add_zero] at this
    rw [if_pos rfl, this]
    cases neg <;> simp [signed]
  · obtain ⟨l1, l2⟩ := log2_bounds h0
    have hl : m.log2 < 64 := (Nat.log2_lt h0).2 (by omega)
    have hfb : double.fractionBits = 52 := rfl
    simp only [if_neg h0, leastPlace_double, binade_double, infRung_double, hfb]
    generalize hL : m.log2 = L at *
    have hlast : max ((0 : Int) + (L : Int) - ((52 : Nat) : Int)) (-1074) = (L : Int) - 52 := by omega
    rw [hlast]
    by_cases hs : L ≤ 52
    · have e1 : ((0 : Int) - ((L : Int) - 52)).toNat = 52 - L := by omega
      have e2 : ((L : Int) - 52 - 0).toNat = 0 := by omega
      have e3 : ((L : Int) - 52 - -1074).toNat = L + 1022 := by omega
      rw [e1, e2, e3, cut_zero_drop, Nat.shiftLeft_eq]
      have b1 : 2 ^ 52 ≤ m * 2 ^ (52 - L) := by
        calc 2 ^ 52 = 2 ^ L * 2 ^ (52 - L) := by rw [← Nat.pow_add]; congr 1; omega
          _ ≤ m * 2 ^ (52 - L) := Nat.mul_le_mul_right _ l1
      have b2 : m * 2 ^ (52 - L) < 2 ^ 53 := by
        calc m * 2 ^ (52 - L) < 2 ^ (L + 1) * 2 ^ (52 - L) := Nat.mul_lt_mul_of_pos_right l2 (Nat.pow_pos (by decide))
          _ = 2 ^ 53 := by rw [← Nat.pow_add]; congr 1; omega
      have hv : m * 2 ^ (52 - L) * pw (L + 1022) = m * unit := by
        have : 2 ^ (52 - L) * pw (L + 1022) = unit := by
          rw [two_pow_pw, unit_eq, ← pw_add]
          have : 52 - L + (L + 1022) = 1074 := by omega
          rw [this]
        rw [Nat.mul_assoc, this]
      generalize m * 2 ^ (52 - L) = K at *
      have hr : (L + 1022) * 2 ^ 52 + K < 2047 * 2 ^ 52 := by omega
      rw [Nat.min_eq_left (by omega), read_word neg (L + 1022) _ (.inr b1) (by omega) hr]
      refine ⟨m * unit, ?_, Nat.mul_le_mul_right _ hm⟩
      rw [signed_eq, hv]
    · have e1 : ((0 : Int) - ((L : Int) - 52)).toNat = 0 := by omega
      have e2 : ((L : Int) - 52 - 0).toNat = L - 52 := by omega
      have e3 : ((L : Int) - 52 - -1074).toNat = L + 1022 := by omega
      rw [e1, e2, e3, Nat.shiftLeft_zero]
      have hnear := cut_even_near neg m (L - 52) (by rw [hL]; omega)
      have d1 : 2 ^ 52 ≤ m / 2 ^ (L - 52) := by
        rw [Nat.le_div_iff_mul_le (Nat.pow_pos (by decide)), ← Nat.pow_add]
        have : 52 + (L - 52) = L := by omega
        rw [this]
        exact l1
      have d2 : m / 2 ^ (L - 52) < 2 ^ 53 := by
        rw [Nat.div_lt_iff_lt_mul (Nat.pow_pos (by decide)), ← Nat.pow_add]
        have : 53 + (L - 52) = L + 1 := by omega
        rw [this]
        exact l2
      generalize hK : Toward.even.cut neg m (L - 52) = K at *
      have hr : (L + 1022) * 2 ^ 52 + K < 2047 * 2 ^ 52 := by omega
      rw [Nat.min_eq_left (by omega), read_word neg (L + 1022) K (.inr (by omega)) (by omega) hr]
      refine ⟨K * pw (L + 1022), by rw [signed_eq], ?_⟩
      have hle : L ≤ 62 → 53 + (L + 1022) ≤ 1137 := by omega
      have hK53 : K ≤ 2 ^ 53 := by omega
      have hL63' : ¬ L ≤ 62 → L = 63 := by omega
      have e63 : 2 ^ 63 * unit = pw 1137 := by
        have h63 : (2 : Nat) ^ 63 = pw 63 := two_pow_pw 63
        rw [h63, unit_eq]
        exact (pw_add 63 1074).symm
      rw [e63]
      by_cases h62 : L ≤ 62
      · calc K * pw (L + 1022) ≤ 2 ^ 53 * pw (L + 1022) := Nat.mul_le_mul_right _ hK53
          _ = pw (53 + (L + 1022)) := by rw [pw_add 53, pw53]
          _ ≤ pw 1137 := pw_le (hle h62)
      · have hL63 : L = 63 := hL63' h62
        subst hL63
        have hm63 : m = 2 ^ 63 := Nat.le_antisymm hm l1
        subst hm63
        have hx := cut_even_exact neg (2 ^ 63) (63 - 52) (by rw [hL]; omega) (by decide)
        rw [hK] at hx
        have hk52 : K = 2 ^ 52 := by rw [hx]
        rw [hk52, ← pw52, ← pw_add]
        exact pw_le (Nat.le_of_ble_eq_true rfl)

/-- The double nearest to a negative int64: at most -1, no less than -2^63. -/
theorem fkey_neg (n : Int) (h : -(2 ^ 63) ≤ n) (h0 : n < 0) : ∃ v : Nat, fkey (fofInt n) = some (-(v : Int)) ∧ unit ≤ v ∧ v ≤ 2 ^ 63 * unit := by
  obtain ⟨v, hv, hu⟩ := nearest_upper true n.natAbs (by omega)
  obtain ⟨u, hu1, hu2, hu3, hu4⟩ := fkey_ofInt n (by omega)
  have e : fkey (fofInt n) = some (-(v : Int)) := by
    rw [fofInt_eq, show decide (n < 0) = true from decide_eq_true h0, hv]; rfl
  rw [e] at hu1
  cases hu1
  refine ⟨v, e, ?_, hu⟩
  have hp := unit_pos
  by_cases hb : -(2 ^ 53) ≤ n
  · have h2 := hu2 ⟨hb, by omega⟩
    have : n * (unit : Int) ≤ -1 * (unit : Int) := Int.mul_le_mul_of_nonneg_right (by omega) (by omega)
    omega
  · have h2 := hu4 (by omega)
    omega
theorem tdiv_neg {v : Nat} : (-(v : Int)).tdiv unit = -((v / unit : Nat) : Int) := by
  rw [Int.neg_tdiv]
  rfl
theorem big_unit63 : 2 ^ 63 * unit < big := Nat.lt_of_le_of_lt (Nat.mul_le_mul_right _ (by decide)) big_unit
/-- Such a double cut to an int64: a negative number, and no draw. -/
theorem cvt_neg {P : Program} (src dst : TypeId) (hs : (P.underlying src).isSome = true) (hd : P.underlying dst = some (.int .i64)) (n : Int) (h : -(2 ^ 63) ≤ n) (h0 : n < 0) :
    ∃ m : Int, m < 0 ∧ -9223372036854775808 ≤ m ∧ ∀ w, (convert src dst (.float .f64 (fofInt n))).run P w = .ok (.int .i64 m) w := by
  obtain ⟨v, hv, h1, h2⟩ := fkey_neg n h h0
  have hp := unit_pos
  have hq1 : 1 ≤ v / unit := (Nat.le_div_iff_mul_le hp).2 (by omega)
  have hq2 : v / unit ≤ 2 ^ 63 := Nat.div_le_of_le_mul (by rw [Nat.mul_comm]; exact h2)
  refine ⟨(-(v : Int)).tdiv unit, by rw [tdiv_neg]; omega, by rw [tdiv_neg]; omega, fun w => ?_⟩
  refine run_convert_float_int (P := P) w src dst .f64 .i64 _ _ hs hd ?_
  unfold floatToIntVal
  rw [toInt_key hv (by have := big_unit63; omega)]
  simp only
  rw [if_pos]
  rw [tdiv_neg]
  show -9223372036854775808 ≤ _ ∧ _ ≤ 9223372036854775807
  omega
/-- A whole double in the array's range, cut to an int. -/
theorem cvt_nat {P : Program} (src dst : TypeId) (hs : (P.underlying src).isSome = true) (hd : P.underlying dst = some (.int .i64)) {x i : Nat} (hx : fkey x = some ((i : Int) * unit)) (hi : i ≤ 2 ^ 53) (w : World) :
    (convert src dst (.float .f64 x)).run P w = .ok (.int .i64 i) w := by
  obtain ⟨n, -, -, hsp⟩ := cvt_int (P := P) src dst hs hd x w
  have hp := unit_pos
  obtain ⟨rfl, hr⟩ := hsp _ hx (by rw [Int.natAbs_mul]; exact Nat.mul_le_mul_right _ (by simpa using hi))
  rwa [Int.mul_tdiv_cancel _ (by omega)] at hr
theorem lt_max {x i : Nat} (hx : fkey x = some ((i : Int) * unit)) (hi : i < 67108864) : (FloatKind.f64.format.order x 4724276009111650304 == some .lt) = true := by
  have hp := unit_pos
  rw [order_lt]
  unfold flt
  rw [hx, key26]
  refine decide_eq_true ?_
  rw [show Int.ofNat (67108864 * unit) = 67108864 * (unit : Int) by simp]
  exact Int.mul_lt_mul_of_pos_right (by omega) (by omega)
theorem ge_max {n : Int} (h : n < 2 ^ 63) (hn : 67108864 ≤ n) : (FloatKind.f64.format.order (fofInt n) 4724276009111650304 == some .lt) = false := by
  have hp := unit_pos
  rw [order_lt]
  unfold flt
  obtain ⟨v, hv, h1, h2, -⟩ := fkey_ofInt n (by omega)
  rw [hv, key26]
  refine decide_eq_false ?_
  rw [show Int.ofNat (67108864 * unit) = 67108864 * (unit : Int) by simp]
  by_cases hb : n ≤ 2 ^ 53
  · rw [h1 (by omega)]
    have := Int.mul_le_mul_of_nonneg_right hn (show (0 : Int) ≤ unit by omega)
    omega
  · have := h2 (by omega)
    omega
end Go.Lua
