/-
  What double words stand for, as one integer (the value times 2 to the 1074); order, the integer nearest, the way back to an integer, the half. For every word; no condition.
-/
import GoSem.Core.Float
namespace Go.Lua
open Ieee

/-- Powers of two behind a name: numerals of a thousand digits are never written out. -/
def pw (n : Nat) : Nat := 2 ^ n
theorem pw_pos (n : Nat) : 0 < pw n := Nat.pow_pos (by decide)
theorem pw_add (a b : Nat) : pw (a + b) = pw a * pw b := Nat.pow_add ..
theorem pw_le {a b : Nat} (h : a ≤ b) : pw a ≤ pw b := Nat.pow_le_pow_right (by decide) h
theorem shift_pw (m k : Nat) : m <<< k = m * pw k := Nat.shiftLeft_eq ..
theorem pw0 : pw 0 = 1 := rfl
theorem pw1 : pw 1 = 2 := rfl
theorem pw52 : pw 52 = 2 ^ 52 := rfl
theorem pw53 : pw 53 = 2 ^ 53 := rfl
theorem two_pow_pw (n : Nat) : 2 ^ n = pw n := rfl
attribute [irreducible] pw

/-- One, in units of the least place. -/
def unit : Nat := pw 1074
theorem unit_pos : 0 < unit := pw_pos _
theorem unit_eq : unit = pw 1074 := rfl
/-- Beyond every finite number. -/
def big : Nat := pw 3000
theorem big_pos : 0 < big := pw_pos _
theorem big_eq : big = pw 3000 := rfl
attribute [irreducible] unit big

/-- What a datum stands for, in units of the least place; infinity beyond all numbers. -/
def dkey : Datum → Option Int
  | .nan .. => none
  | .infinity s => some (if s then -(big : Int) else (big : Int))
  | .number s m p => some (signed s m (p + 1074).toNat)

def fkey (x : Nat) : Option Int := dkey (double.read x)

theorem leastPlace_double : double.leastPlace = -1074 := by decide
theorem binade_double : double.binade = 2 ^ 52 := by decide
theorem infRung_double : double.infRung = 2047 * 2 ^ 52 := by decide
theorem signWeight_double : double.signWeight = 2 ^ 63 := by decide

/-- The numbers that a word may stand for. -/
theorem read_bound {x : Nat} {s : Bool} {m : Nat} {p : Int} (h : double.read x = .number s m p) : m < 2 ^ 53 ∧ -1074 ≤ p ∧ p ≤ 971 := by
  unfold Format.read at h
  simp only [leastPlace_double, binade_double, infRung_double, signWeight_double] at h
  split at h
  · simp only [Datum.number.injEq] at h
    obtain ⟨-, rfl, rfl⟩ := h
    omega
  · split at h
    · simp only [Datum.number.injEq] at h
      obtain ⟨-, rfl, rfl⟩ := h
      omega
    · split at h <;> cases h

theorem signed_eq (s : Bool) (m k : Nat) : signed s m k = (if s then -((m * pw k : Nat) : Int) else ((m * pw k : Nat) : Int)) := by
  unfold signed
  rw [shift_pw]

theorem signed_scale (s : Bool) (m a b : Nat) : signed s m (a + b) = signed s m a * (pw b : Int) := by
  simp only [signed_eq, pw_add, ← Nat.mul_assoc]
  cases s
  · simp [Int.natCast_mul]
  · simp [Int.natCast_mul, Int.neg_mul]

theorem signed_lt {s : Bool} {m k : Nat} (hm : m < 2 ^ 53) (hk : k ≤ 2045) : -(big : Int) < signed s m k ∧ signed s m k < (big : Int) := by
  have h1 : m * pw k < big := by
    rw [big_eq]
    calc m * pw k < pw 53 * pw k := Nat.mul_lt_mul_of_pos_right (by rw [pw53]; exact hm) (pw_pos k)
      _ = pw (53 + k) := (pw_add ..).symm
      _ ≤ pw 3000 := pw_le (by omega)
  rw [signed_eq]
  generalize m * pw k = a at *
  cases s <;> simp <;> omega

theorem compare_scale (a b : Int) {c : Int} (hc : 0 < c) : compare (a * c) (b * c) = compare a b := by
  have hl : a * c < b * c ↔ a < b := Int.mul_lt_mul_right hc
  have he : a * c = b * c ↔ a = b := Int.mul_eq_mul_right_iff (by omega)
  simp only [compare, compareOfLessAndEq, hl, he]

theorem compare_lt {a b : Int} (h : a < b) : compare a b = .lt := by simp [compare, compareOfLessAndEq, h]
theorem compare_gt {a b : Int} (h : b < a) : compare a b = .gt := by
  have h1 : ¬ a < b := by omega
  have h2 : ¬ a = b := by omega
  simp [compare, compareOfLessAndEq, h1, h2]
theorem compare_eq {a b : Int} (h : a = b) : compare a b = .eq := by simp [compare, compareOfLessAndEq, h]

/-- Two words stand to each other as the integers do that they stand for. -/
theorem order_key (x y : Nat) : double.order x y = (fkey x).bind fun a => (fkey y).map fun b => compare a b := by
  unfold Format.order fkey
  generalize hx : double.read x = dx
  generalize hy : double.read y = dy
  have hpos : (0 : Int) < (big : Int) := Int.natCast_pos.2 big_pos
  cases dx with
  | nan s f => cases dy <;> rfl
  | infinity s =>
    cases dy with
    | nan t f => rfl
    | infinity t =>
      simp only [Datum.order, dkey, Option.bind_some, Option.map_some]
      congr 1
      generalize (big : Int) = B at *
      cases s <;> cases t <;> simp only [if_true, if_false, Bool.false_eq_true, Bool.toNat_true, Bool.toNat_false]
      · exact (compare_eq rfl).symm
      · exact (compare_gt (by omega)).symm
      · exact (compare_lt (by omega)).symm
      · exact (compare_eq rfl).symm
    | number t n j =>
      obtain ⟨hn, hj1, hj2⟩ := read_bound hy
      have hb := signed_lt (s := t) (m := n) (k := (j + 1074).toNat) hn (by omega)
      simp only [Datum.order, dkey, Option.bind_some, Option.map_some]
      congr 1
      generalize (big : Int) = B at *
      cases s <;> simp only [if_true, if_false, Bool.false_eq_true]
      · exact (compare_gt (by omega)).symm
      · exact (compare_lt (by omega)).symm
  | number s m i =>
    obtain ⟨hm, hi1, hi2⟩ := read_bound hx
    have ha := signed_lt (s := s) (m := m) (k := (i + 1074).toNat) hm (by omega)
    cases dy with
    | nan t f => rfl
    | infinity t =>
      simp only [Datum.order, dkey, Option.bind_some, Option.map_some]
      congr 1
      generalize (big : Int) = B at *
      cases t <;> simp only [if_true, if_false, Bool.false_eq_true]
      · exact (compare_lt (by omega)).symm
      · exact (compare_gt (by omega)).symm
    | number t n j =>
      obtain ⟨hn, hj1, hj2⟩ := read_bound hy
      simp only [Datum.order, dkey, Option.bind_some, Option.map_some]
      congr 1
      have e1 : (i + 1074).toNat = (i - min i j).toNat + (min i j + 1074).toNat := by omega
      have e2 : (j + 1074).toNat = (j - min i j).toNat + (min i j + 1074).toNat := by omega
      rw [e1, e2, signed_scale, signed_scale, compare_scale]
      exact Int.natCast_pos.2 (pw_pos _)

/-- A word by its rung: what it stands for. -/
theorem read_word (neg : Bool) (e kept : Nat) (hk : e = 0 ∨ 2 ^ 52 ≤ kept) (hk2 : kept ≤ 2 ^ 53) (hr : e * 2 ^ 52 + kept < 2047 * 2 ^ 52) :
    fkey (double.word neg (e * 2 ^ 52 + kept)) = some (signed neg kept e) := by
  have hmod : double.word neg (e * 2 ^ 52 + kept) % 2 ^ 63 = e * 2 ^ 52 + kept := by
    unfold Format.word
    rw [signWeight_double]
    cases neg <;> simp <;> omega
  have hdiv : (double.word neg (e * 2 ^ 52 + kept) / 2 ^ 63 % 2 == 1) = neg := by
    unfold Format.word
    rw [signWeight_double]
    cases neg <;> simp <;> omega
  unfold fkey Format.read
  simp only [leastPlace_double, binade_double, infRung_double, signWeight_double, hmod, hdiv]
  by_cases h1 : e * 2 ^ 52 + kept < 2 ^ 52
  · have : e = 0 := by omega
    subst this
    rw [if_pos h1]
    simp only [dkey, Nat.zero_mul, Nat.zero_add]
    congr 1
  · rw [if_neg h1, if_pos hr]
    simp only [dkey]
    congr 1
    by_cases h2 : kept = 2 ^ 53
    · subst h2
      have q1 : (e * 2 ^ 52 + 2 ^ 53) % 2 ^ 52 = 0 := by omega
      have q2 : (e * 2 ^ 52 + 2 ^ 53) / 2 ^ 52 = e + 2 := by omega
      rw [q1, q2]
      have q3 : ((-1074 : Int) + ((e + 2 - 1 : Nat) : Int) + 1074).toNat = e + 1 := by omega
      rw [q3, signed_eq, signed_eq, pw_add]
      have q4 : (2 ^ 52 + 0) * (pw e * pw 1) = 2 ^ 53 * pw e := by
        rw [pw1]
        omega
      rw [q4]
    · by_cases h3 : 2 ^ 52 ≤ kept
      · have q1 : (e * 2 ^ 52 + kept) % 2 ^ 52 = kept - 2 ^ 52 := by omega
        have q2 : (e * 2 ^ 52 + kept) / 2 ^ 52 = e + 1 := by omega
        rw [q1, q2]
        have q3 : ((-1074 : Int) + ((e + 1 - 1 : Nat) : Int) + 1074).toNat = e := by omega
        have q4 : 2 ^ 52 + (kept - 2 ^ 52) = kept := by omega
        rw [q3, q4]
      · omega

theorem cut_zero_drop (way : Toward) (neg : Bool) (n : Nat) : way.cut neg n 0 = n := by
  unfold Toward.cut
  simp only [Nat.zero_le, Nat.min_eq_left, Nat.shiftLeft_zero, Nat.div_one, Nat.mod_one]
  cases way <;> simp

/-- Rounding to even of 'n / 2 ^ drop': exact where nothing is left over; else one of the two beside it. -/
theorem cut_even_exact (neg : Bool) (n drop : Nat) (hd : drop ≤ n.log2 + 2) (h : n % 2 ^ drop = 0) : Toward.even.cut neg n drop = n / 2 ^ drop := by
  unfold Toward.cut
  simp only [Nat.min_eq_left hd, Nat.shiftLeft_eq, Nat.one_mul, h]
  have : 0 < 2 ^ drop := Nat.pow_pos (by decide)
  generalize 2 ^ drop = g at *
  have h1 : ¬ (g < 2 * 0) := by omega
  have h2 : (g == 2 * 0) = false := by simp; omega
  simp [h2]

theorem cut_even_near (neg : Bool) (n drop : Nat) (hd : drop ≤ n.log2 + 2) : n / 2 ^ drop ≤ Toward.even.cut neg n drop ∧ Toward.even.cut neg n drop ≤ n / 2 ^ drop + 1 := by
  unfold Toward.cut
  simp only [Nat.min_eq_left hd, Nat.shiftLeft_eq, Nat.one_mul]
  generalize (decide (2 ^ drop < 2 * (n % 2 ^ drop)) || (2 ^ drop == 2 * (n % 2 ^ drop) && n / 2 ^ drop % 2 == 1)) = b
  cases b <;> simp

theorem log2_bounds {n : Nat} (h : n ≠ 0) : 2 ^ n.log2 ≤ n ∧ n < 2 ^ (n.log2 + 1) := ⟨Nat.log2_self_le h, Nat.lt_log2_self⟩

/-- The word nearest to an integer: exact up to 2^53; beyond, of the same sign and no smaller than 2^53. -/
theorem nearest_key (neg : Bool) (m : Nat) (hm : m < 2 ^ 64) :
    ∃ v : Nat, fkey (double.nearest neg m 0) = some (if neg then -(v : Int) else (v : Int)) ∧ (m ≤ 2 ^ 53 → v = m * unit) ∧ (2 ^ 53 ≤ m → 2 ^ 53 * unit ≤ v) := by
  unfold Format.nearest
  by_cases h0 : m = 0
  · subst h0
    refine ⟨0, ?_, by simp, by simp⟩
    have := read_word neg 0 0 (.inl rfl) (by decide) (by decide)
    simp only [Nat.zero_mul, Nat.add_zero] at this
    rw [if_pos rfl, this]
    cases neg <;> simp [signed]
  · obtain ⟨l1, l2⟩ := log2_bounds h0
    have hl : m.log2 < 64 := (Nat.log2_lt h0).2 hm
    have hfb : double.fractionBits = 52 := rfl
    simp only [if_neg h0, leastPlace_double, binade_double, infRung_double, hfb]
    generalize hL : m.log2 = L at *
    have hlast : max ((0 : Int) + (L : Int) - ((52 : Nat) : Int)) (-1074) = (L : Int) - 52 := by omega
    rw [hlast]
    by_cases hs : L ≤ 52
    · have e1 : ((0 : Int) - ((L : Int) - 52)).toNat = 52 - L := by omega
      have e2 : ((L : Int) - 52 - 0).toNat = 0 := by omega
      have e3 : ((L : Int) - 52 - -1074).toNat = L + 1022 := by omega
      rw [e1, e2, e3, cut_zero_drop, Nat.shiftLeft_eq]
      have b1 : 2 ^ 52 ≤ m * 2 ^ (52 - L) := by
        calc 2 ^ 52 = 2 ^ L * 2 ^ (52 - L) := by rw [← Nat.pow_add]; congr 1; omega
          _ ≤ m * 2 ^ (52 - L) := Nat.mul_le_mul_right _ l1
      have b2 : m * 2 ^ (52 - L) < 2 ^ 53 := by
        calc m * 2 ^ (52 - L) < 2 ^ (L + 1) * 2 ^ (52 - L) := Nat.mul_lt_mul_of_pos_right l2 (Nat.pow_pos (by decide))
          _ = 2 ^ 53 := by rw [← Nat.pow_add]; congr 1; omega
      have hv : m * 2 ^ (52 - L) * pw (L + 1022) = m * unit := by
        have : 2 ^ (52 - L) * pw (L + 1022) = unit := by
          rw [two_pow_pw, unit_eq, ← pw_add]
          have : 52 - L + (L + 1022) = 1074 := by omega
          rw [this]
        rw [Nat.mul_assoc, this]
      generalize m * 2 ^ (52 - L) = K at *
      have hr : (L + 1022) * 2 ^ 52 + K < 2047 * 2 ^ 52 := by omega
      rw [Nat.min_eq_left (by omega), read_word neg (L + 1022) _ (.inr b1) (by omega) hr]
      refine ⟨m * unit, ?_, fun _ => rfl, fun h => Nat.mul_le_mul_right _ h⟩
      rw [signed_eq, hv]
    · have e1 : ((0 : Int) - ((L : Int) - 52)).toNat = 0 := by omega
      have e2 : ((L : Int) - 52 - 0).toNat = L - 52 := by omega
      have e3 : ((L : Int) - 52 - -1074).toNat = L + 1022 := by omega
      rw [e1, e2, e3, Nat.shiftLeft_zero]
      have hnear := cut_even_near neg m (L - 52) (by rw [hL]; omega)
      have d1 : 2 ^ 52 ≤ m / 2 ^ (L - 52) := by
        rw [Nat.le_div_iff_mul_le (Nat.pow_pos (by decide)), ← Nat.pow_add]
        have : 52 + (L - 52) = L := by omega
        rw [this]
        exact l1
      have d2 : m / 2 ^ (L - 52) < 2 ^ 53 := by
        rw [Nat.div_lt_iff_lt_mul (Nat.pow_pos (by decide)), ← Nat.pow_add]
        have : 53 + (L - 52) = L + 1 := by omega
        rw [this]
        exact l2
      generalize hK : Toward.even.cut neg m (L - 52) = K at *
      have hr : (L + 1022) * 2 ^ 52 + K < 2047 * 2 ^ 52 := by omega
      rw [Nat.min_eq_left (by omega), read_word neg (L + 1022) K (.inr (by omega)) (by omega) hr]
      refine ⟨K * pw (L + 1022), by rw [signed_eq], fun h => ?_, fun _ => ?_⟩
      · have hm53 : m = 2 ^ 53 := by
          have : 2 ^ 53 ≤ m := Nat.le_trans (Nat.pow_le_pow_right (by decide) (by omega)) l1
          omega
        subst hm53
        have hL53 : L = 53 := by rw [← hL]; exact Nat.log2_two_pow
        subst hL53
        have hx := cut_even_exact neg (2 ^ 53) (53 - 52) (by rw [hL]; omega) (by decide)
        rw [hK] at hx
        subst hx
        have e4 : 53 + 1022 = 1 + 1074 := rfl
        rw [e4, pw_add, pw1, ← unit_eq]
        omega
      · rw [unit_eq]
        calc 2 ^ 53 * pw 1074 = pw (53 + 1074) := by rw [pw_add, pw53]
          _ ≤ pw (52 + (L + 1022)) := pw_le (by omega)
          _ = 2 ^ 52 * pw (L + 1022) := by rw [pw_add, pw52]
          _ ≤ K * pw (L + 1022) := Nat.mul_le_mul_right _ (by omega)

/-- The double nearest to n. -/
def fofInt (n : Int) : Nat := FloatKind.f64.nearest n

theorem fofInt_eq (n : Int) : fofInt n = double.nearest (decide (n < 0)) n.natAbs 0 := rfl

theorem fkey_ofInt (n : Int) (h : -(2 ^ 63) ≤ n ∧ n < 2 ^ 63) :
    ∃ v : Int, fkey (fofInt n) = some v ∧ (-(2 ^ 53) ≤ n ∧ n ≤ 2 ^ 53 → v = n * unit) ∧ (2 ^ 53 ≤ n → 2 ^ 53 * (unit : Int) ≤ v) ∧ (n ≤ -(2 ^ 53) → v ≤ -(2 ^ 53 * (unit : Int))) := by
  obtain ⟨v, hv, h1, h2⟩ := nearest_key (decide (n < 0)) n.natAbs (by omega)
  refine ⟨_, hv, ?_, ?_, ?_⟩
  · intro hb
    have := h1 (by omega)
    subst this
    by_cases hn : n < 0
    · simp only [hn, decide_true, if_true, Int.natCast_mul]
      rw [← Int.neg_mul]
      congr 1
      omega
    · simp only [hn, decide_false, Bool.false_eq_true, if_false, Int.natCast_mul]
      congr 1
      omega
  · intro hb
    have := h2 (by omega)
    have hn : ¬ n < 0 := by omega
    simp only [hn, decide_false, Bool.false_eq_true, if_false]
    exact_mod_cast this
  · intro hb
    have := h2 (by omega)
    have hn : n < 0 := by omega
    simp only [hn, decide_true, if_true]
    have h3 : ((2 ^ 53 * unit : Nat) : Int) ≤ (v : Int) := Int.ofNat_le.2 this
    simp only [Int.natCast_mul] at h3
    have h4 : ((2 ^ 53 : Nat) : Int) = 2 ^ 53 := by decide
    rw [h4] at h3
    omega

theorem cut_zero_way (neg : Bool) (n drop : Nat) : Toward.zero.cut neg n drop = n / 2 ^ drop := by
  unfold Toward.cut
  simp only [Nat.shiftLeft_eq, Nat.one_mul, Bool.toNat_false, Nat.add_zero]
  by_cases h : drop ≤ n.log2 + 2
  · rw [Nat.min_eq_left h]
  · rw [Nat.min_eq_right (by omega)]
    have a1 : n < 2 ^ (n.log2 + 2) := Nat.lt_of_lt_of_le Nat.lt_log2_self (Nat.pow_le_pow_right (by decide) (by omega))
    have a2 : n < 2 ^ drop := Nat.lt_of_lt_of_le Nat.lt_log2_self (Nat.pow_le_pow_right (by decide) (by omega))
    rw [Nat.div_eq_of_lt a1, Nat.div_eq_of_lt a2]

theorem tdiv_signed (s : Bool) (a : Nat) (b : Nat) : (if s then -((a / b : Nat) : Int) else ((a / b : Nat) : Int)) = (if s then -(a : Int) else (a : Int)).tdiv b := by
  cases s
  · simp
  · simp [Int.neg_tdiv]

/-- A number cut toward zero to an integer. -/
theorem toInt_key {x : Nat} {v : Int} (h : fkey x = some v) (hv : v.natAbs < big) : (FloatKind.f64.decode x).toInt .zero = some (v.tdiv unit) := by
  unfold fkey at h
  show (double.read x).toInt .zero = _
  generalize hx : double.read x = d at *
  cases d with
  | nan s f => simp [dkey] at h
  | infinity s =>
    exfalso
    simp only [dkey, Option.some.injEq] at h
    cases s <;> simp at h <;> omega
  | number s m p =>
    obtain ⟨hm, hp1, hp2⟩ := read_bound hx
    simp only [dkey, Option.some.injEq] at h
    subst h
    simp only [Datum.toInt, Datum.integral, cut_zero_way, Option.some.injEq]
    rw [signed_eq, signed_eq, ← tdiv_signed, shift_pw]
    have e0 := pw0
    have : m * pw p.toNat / 2 ^ (-p).toNat = m * pw (p + 1074).toNat / unit := by
      rw [two_pow_pw, unit_eq]
      by_cases h0 : 0 ≤ p
      · have e1 : (-p).toNat = 0 := by omega
        have e2 : (p + 1074).toNat = p.toNat + 1074 := by omega
        rw [e1, e2, pw_add, ← Nat.mul_assoc, Nat.mul_div_cancel _ (pw_pos _), e0, Nat.div_one]
      · have e1 : p.toNat = 0 := by omega
        have e2 : 1074 = (-p).toNat + (p + 1074).toNat := by omega
        have e3 : pw 1074 = pw (-p).toNat * pw (p + 1074).toNat := by rw [← pw_add, ← e2]
        rw [e1, e0, e3, Nat.mul_div_mul_right _ _ (pw_pos _), Nat.mul_one]
    rw [this, e0, Nat.mul_one]

theorem toInt_none {x : Nat} (h : ∀ v, fkey x = some v → ¬ v.natAbs < big) : (FloatKind.f64.decode x).toInt .zero = none := by
  unfold fkey at h
  show (double.read x).toInt .zero = _
  generalize hx : double.read x = d at *
  cases d with
  | nan s f => rfl
  | infinity s => rfl
  | number s m p =>
    obtain ⟨hm, hp1, hp2⟩ := read_bound hx
    exfalso
    have := signed_lt (s := s) (m := m) (k := (p + 1074).toNat) hm (by omega)
    refine h _ rfl ?_
    omega

end Go.Lua
