/-
  isInteger and isArrayKey: what they answer of a double. A draw is made where a double does not fit an int64.
-/
import Derived.Test.YtfkemahinnpgdaaSetH
import Derived.Laws.NewFold
import Derived.Lib.Hide
import Derived.Handy
namespace Go.Lua
open Go.Proofs Go.RowKit
set_option linter.unusedVariables false

/-- x < y, both numbers. -/
def flt (x y : Nat) : Bool := match fkey x, fkey y with
  | some a, some b => decide (a < b)
  | _, _ => false

theorem order_lt (x y : Nat) : (FloatKind.f64.format.order x y == some .lt) = flt x y := by
  unfold flt
  show (Ieee.double.order x y == some .lt) = _
  rw [order_key]
  cases fkey x with
  | none => rfl
  | some a =>
    cases fkey y with
    | none => rfl
    | some b =>
      simp only [Option.bind_some, Option.map_some]
      rcases Int.lt_trichotomy a b with h | h | h
      · rw [compare_lt h]; simp [h]
      · rw [compare_eq h, h]; simp
      · rw [compare_gt h]
        have : ¬ a < b := by omega
        simp [this]
theorem order_gt (x y : Nat) : (FloatKind.f64.format.order x y == some .gt) = flt y x := by
  unfold flt
  show (Ieee.double.order x y == some .gt) = _
  rw [order_key]
  cases fkey x with
  | none => cases fkey y <;> rfl
  | some a =>
    cases fkey y with
    | none => rfl
    | some b =>
      simp only [Option.bind_some, Option.map_some]
      rcases Int.lt_trichotomy a b with h | h | h
      · rw [compare_lt h]
        have : ¬ b < a := by omega
        simp [this]
      · rw [compare_eq h, h]; simp
      · rw [compare_gt h]; simp [h]
theorem order_eq (x y : Nat) : (FloatKind.f64.format.order x y == some .eq) = feq x y := floatEq_feq x y

section
variable {P : Program} (w : World) (t : TypeId) (x y : Nat)
theorem run_lss_float : (binOp .lss t (.float .f64 x) (.float .f64 y)).run P w = .ok (.bool (flt x y)) w := by
  simp [binOp, Op.floatCmp, order_lt]
theorem run_gtr_float : (binOp .gtr t (.float .f64 x) (.float .f64 y)).run P w = .ok (.bool (flt y x)) w := by
  simp [binOp, Op.floatCmp, order_gt]
theorem run_eql_float : (binOp .eql t (.float .f64 x) (.float .f64 y)).run P w = .ok (.bool (feq x y)) w := by
  simp [binOp, Op.floatCmp, order_eq]
theorem run_neq_float : (binOp .neq t (.float .f64 x) (.float .f64 y)).run P w = .ok (.bool (!(feq x y))) w := by
  have : (FloatKind.f64.format.order x y != some .eq) = !(feq x y) := by rw [← order_eq]; rfl
  simp [binOp, Op.floatCmp, this]
theorem run_leq_float : (binOp .leq t (.float .f64 x) (.float .f64 y)).run P w = .ok (.bool (flt x y || feq x y)) w := by
  simp [binOp, Op.floatCmp, order_lt, order_eq]
theorem run_geq_float : (binOp .geq t (.float .f64 x) (.float .f64 y)).run P w = .ok (.bool (flt y x || feq x y)) w := by
  simp [binOp, Op.floatCmp, order_gt, order_eq]
end


theorem key63 : fkey 4890909195324358656 = some (Int.ofNat (9223372036854775808 * unit)) := by kernel_rfl
theorem key26 : fkey 4724276009111650304 = some (Int.ofNat (67108864 * unit)) := by kernel_rfl
theorem key0 : fkey 0 = some 0 := rfl

/-- The array's keys among the doubles: whole numbers from 1 up to 2^26, without that end. -/
def arrKey (x : Nat) : Bool := match fkey x with
  | some v => decide (0 < v ∧ v < 67108864 * (unit : Int) ∧ (unit : Int) ∣ v)
  | none => false

theorem pw_lt {a b : Nat} (h : a < b) : pw a < pw b := by
  have h1 : pw (a + 1) ≤ pw b := pw_le h
  rw [pw_add, pw1] at h1
  have := pw_pos a
  omega
theorem big_unit : 2 ^ 64 * unit < big := by
  have h : pw (64 + 1074) < pw 3000 := pw_lt (by decide)
  rw [pw_add] at h
  rw [unit_eq, big_eq, show (2:Nat) ^ 64 = pw 64 from two_pow_pw 64]
  exact h


/-- int64(x) answers something, and in the range the truth. -/
theorem cvt_int {P : Program} (src dst : TypeId) (hs : (P.underlying src).isSome = true) (hd : P.underlying dst = some (.int .i64)) (x : Nat) (w : World) :
    ∃ n, Is64 n ∧ ((convert src dst (.float .f64 x)).run P w = .ok (.int .i64 n) w ∨ (convert src dst (.float .f64 x)).run P w = .ok (.int .i64 n) w.drew) ∧
      ∀ v, fkey x = some v → v.natAbs ≤ 2 ^ 53 * unit → n = v.tdiv unit ∧ (convert src dst (.float .f64 x)).run P w = .ok (.int .i64 n) w := by
  cases h : floatToIntVal .f64 x .i64 with
  | some n =>
    have hr := run_convert_float_int (P := P) w src dst .f64 .i64 x n hs hd h
    refine ⟨n, is64_of_wf (floatToIntVal_wf h), .inl hr, ?_⟩
    intro v hv hle
    refine ⟨?_, hr⟩
    unfold floatToIntVal at h
    have hb := big_unit
    have : v.natAbs < big := by
      have : (2:Nat) ^ 53 * unit ≤ 2 ^ 64 * unit := Nat.mul_le_mul_right _ (by decide)
      omega
    rw [toInt_key hv this] at h
    simp only at h
    split at h
    · exact (Option.some.inj h).symm
    · cases h
  | none =>
    refine ⟨_, is64_of_wf (RowKit.wrap64_wf (Question.cut (.floatToInt .f64 x .i64) (w.tape w.drawn (.floatToInt .f64 x .i64)))), .inr ?_, ?_⟩
    · obtain ⟨u, hs'⟩ := Option.isSome_iff_exists.1 hs
      unfold floatToIntVal at h
      have hf : Question.forced (.floatToInt .f64 x .i64) = false := rfl
      split at h
      · rename_i m he
        split at h
        · cases h
        · rename_i hb
          have hb' : ¬ (IntKind.i64.min ≤ m ∧ m ≤ 9223372036854775807) := hb
          cases u <;> simp [convert, run_underlying hs', run_underlying hd, Conv.floatToInt, he, hb', hf] <;> rw [IntKind.wrap_i64, RowKit.wrap64]
      · rename_i he
        cases u <;> simp [convert, run_underlying hs', run_underlying hd, Conv.floatToInt, he, hf] <;> rw [IntKind.wrap_i64, RowKit.wrap64]
    · intro v hv hle
      exfalso
      unfold floatToIntVal at h
      have hb := big_unit
      have : v.natAbs < big := by
        have : (2:Nat) ^ 53 * unit ≤ 2 ^ 64 * unit := Nat.mul_le_mul_right _ (by decide)
        omega
      rw [toInt_key hv this] at h
      simp only at h
      split at h
      · cases h
      · rename_i hb
        refine hb ?_
        have h1 : (v.tdiv unit).natAbs ≤ 2 ^ 53 := by
          rw [Int.natAbs_tdiv]
          exact Nat.div_le_of_le_mul (by rw [Nat.mul_comm]; exact hle)
        show IntKind.i64.min ≤ v.tdiv unit ∧ v.tdiv unit ≤ IntKind.i64.max
        rw [show IntKind.i64.min = -9223372036854775808 from rfl, show IntKind.i64.max = 9223372036854775807 from rfl]
        omega


theorem tdiv_bound {v : Int} (h : v.natAbs ≤ 2 ^ 53 * unit) : (v.tdiv unit).natAbs ≤ 2 ^ 53 := by
  rw [Int.natAbs_tdiv]
  exact Nat.div_le_of_le_mul (by rw [Nat.mul_comm]; exact h)

theorem feq_cut {x : Nat} {v : Int} (hv : fkey x = some v) (hle : v.natAbs ≤ 2 ^ 53 * unit) : feq x (fofInt (v.tdiv unit)) = decide ((unit : Int) ∣ v) := by
  have hb := tdiv_bound hle
  obtain ⟨u, hu, h1, -, -⟩ := fkey_ofInt (v.tdiv unit) (by omega)
  have hu' := h1 (by omega)
  unfold feq
  rw [hv, hu, hu']
  show (v == _) = _
  by_cases hd : (unit : Int) ∣ v
  · obtain ⟨c, rfl⟩ := hd
    have hp : (unit : Int) ≠ 0 := by have := unit_pos; omega
    rw [Int.mul_tdiv_cancel_left _ hp, Int.mul_comm c]
    simp
  · rw [decide_eq_false hd]
    refine beq_false_of_ne fun he => hd ⟨v.tdiv unit, ?_⟩
    rw [Int.mul_comm]
    exact he

set_option maxHeartbeats 400000 in
theorem isInteger_any (x : Nat) (w : World) : Calls Try.prog 42 #[.float .f64 x] w fun e w' => ∃ b d, e = .returned (.bool b) ∧ w' = w.drewN d ∧ (fkey x = none → b = false) ∧ ∀ v, fkey x = some v → v.natAbs ≤ 2 ^ 53 * unit → b = decide ((unit : Int) ∣ v) := by
  obtain ⟨n, hn, hr, hspec⟩ := cvt_int (P := Try.prog) 66 2 (by rfl) (by rfl) x w
  have hend : (fkey x = none → feq x (fofInt n) = false) ∧ ∀ v, fkey x = some v → v.natAbs ≤ 2 ^ 53 * unit → feq x (fofInt n) = decide ((unit : Int) ∣ v) := by
    refine ⟨fun hx => ?_, fun v hv hle => ?_⟩
    · unfold feq
      rw [hx]
    · rw [(hspec v hv hle).1]
      exact feq_cut hv hle
  go_enter Try.func42, Try.ntmps42
  clear hspec
  rcases hr with hr | hr
  · have hq : ∀ t, (binOp .eql t (.float .f64 x) (.float .f64 (floatOfInt .f64 n))).run Try.prog w = .ok (.bool (feq x (fofInt n))) w := fun t => run_eql_float w t x _
    go_wp2_with (simp only [hr, hq])
    go_ret
    rw [show feq x (fofInt n) = (FloatKind.f64.format.order x (floatOfInt .f64 n) == some .eq) from (order_eq x _).symm] at hend
    exact ⟨_, 0, rfl, rfl, hend⟩
  · have hq : ∀ t, (binOp .eql t (.float .f64 x) (.float .f64 (floatOfInt .f64 n))).run Try.prog w.drew = .ok (.bool (feq x (fofInt n))) w.drew := fun t => run_eql_float w.drew t x _
    go_wp2_with (simp only [hr, hq])
    go_ret
    rw [show feq x (fofInt n) = (FloatKind.f64.format.order x (floatOfInt .f64 n) == some .eq) from (order_eq x _).symm] at hend
    exact ⟨_, 1, rfl, rfl, hend⟩

theorem arrKey_eq (x : Nat) (b : Bool) (h1 : fkey x = none → b = false) (h2 : ∀ v, fkey x = some v → v.natAbs ≤ 2 ^ 53 * unit → b = decide ((unit : Int) ∣ v)) :
    (((b && flt x 4890909195324358656) && flt 0 x) && flt x 4724276009111650304) = arrKey x := by
  unfold arrKey flt
  rw [key63, key26, key0]
  cases hx : fkey x with
  | none => rw [h1 hx]; rfl
  | some v =>
    have hu := unit_pos
    show (((b && decide (v < Int.ofNat (9223372036854775808 * unit))) && decide (0 < v)) && decide (v < Int.ofNat (67108864 * unit))) = decide _
    rw [show Int.ofNat (9223372036854775808 * unit) = 9223372036854775808 * (unit : Int) by simp, show Int.ofNat (67108864 * unit) = 67108864 * (unit : Int) by simp]
    generalize hU : (unit : Int) = U at *
    by_cases h0 : 0 < v
    · by_cases h3 : v < 67108864 * U
      · have h4 : v < 9223372036854775808 * U := by omega
        have := h2 v hx (by omega)
        simp [this, h0, h3, h4]
      · simp [h0, h3]
    · simp [h0]

set_option maxHeartbeats 400000 in
theorem isArrayKey_any (x : Nat) (w : World) : Calls Try.prog 43 #[.float .f64 x] w fun e w' => ∃ d, e = .returned (.bool (arrKey x)) ∧ w' = w.drewN d := by
  have hl : ∀ (t y : Nat) (w : World), (binOp .lss t (.float .f64 x) (.float .f64 y)).run Try.prog w = .ok (.bool (flt x y)) w := fun t y w => run_lss_float w t x y
  have hg : ∀ (t y : Nat) (w : World), (binOp .gtr t (.float .f64 x) (.float .f64 y)).run Try.prog w = .ok (.bool (flt y x)) w := fun t y w => run_gtr_float w t x y
  go_enter Try.func43, Try.ntmps43
  go_wp2_with fail
  go_call (isInteger_any x) as e w' ⟨b, d, he, hw, h1, h2⟩
  subst he hw
  have hk := arrKey_eq x b h1 h2
  rw [← order_lt x 4890909195324358656, ← order_gt x 0, ← order_lt x 4724276009111650304] at hk
  clear h1 h2 hl hg
  cases b
  · go_wp2
    go_ret
    exact ⟨d, by rw [← hk]; rfl, rfl⟩
  · go_wp2
    all_goals (go_ret; exact ⟨d, by rw [← hk]; simp [*], rfl⟩)
end Go.Lua
