/-
  The half of a whole number, as a double: exact.
-/
import Derived.Test.YtpbeecbijlhocaaKeyI
import Derived.Test.YtpbeecbijlhocaaVal
namespace Go.Lua
open Go.Proofs Go.RowKit Ieee
set_option linter.unusedVariables false

theorem two_word : double.read 4611686018427387904 = .number false 4503599627370496 (-51) := by decide +kernel
theorem log2_is {n k : Nat} (h1 : 2 ^ k ≤ n) (h2 : n < 2 ^ (k + 1)) : n.log2 = k := by
  have h0 : n ≠ 0 := by have := Nat.pow_pos (n := k) (show 0 < 2 by decide); omega
  rw [Nat.log2_eq_iff h0]
  exact ⟨h1, h2⟩

theorem quot_two (s : Bool) (m : Nat) (i : Int) (hm : m ≠ 0) (hm2 : m < 2 ^ 53) :
    Datum.quotient (double.fractionBits + 2) (.number s m i) (.number false 4503599627370496 (-51)) = some (.number s (m * 2 ^ (55 - m.log2)) (i + m.log2 - 56)) := by
  obtain ⟨l1, l2⟩ := log2_bounds hm
  have hl : m.log2 < 53 := (Nat.log2_lt hm).2 hm2
  have hn : (4503599627370496 : Nat).log2 = 52 := by decide +kernel
  have hfb : double.fractionBits = 52 := rfl
  unfold Datum.quotient
  rw [hfb]
  simp only [hn]
  rw [if_neg (by decide)]
  generalize m.log2 = L at *
  have e1 : 52 + 2 + 52 - L = (54 - L) + 52 := by omega
  have e2 : m <<< (52 + 2 + 52 - L) = (m * 2 ^ (54 - L)) * 4503599627370496 := by
    rw [Nat.shiftLeft_eq, e1, Nat.pow_add, ← Nat.mul_assoc]
  rw [e2, Nat.mul_div_cancel _ (by decide), Nat.mul_mod_left]
  congr 1
  have e3 : 2 * (m * 2 ^ (54 - L)) + ((0 : Nat) != 0).toNat = m * 2 ^ (55 - L) := by
    have : 55 - L = (54 - L) + 1 := by omega
    rw [this, Nat.pow_succ]
    simp
    rw [Nat.mul_comm 2, Nat.mul_assoc]
  rw [e3]
  have e4 : i - -51 - ((52 + 2 + 52 - L : Nat) : Int) - 1 = i + L - 56 := by omega
  rw [e4]
  simp

theorem half_key {x : Nat} {h : Int} (hk : fkey x = some (h * unit)) (hb : h.natAbs ≤ 2 ^ 53) : ∃ r, double.div x 4611686018427387904 = some r ∧ fkey r = some (h * (pw 1073 : Int)) := by
  have hu := unit_pos
  have hbig := big_unit
  have hA : (h * (unit : Int)).natAbs = h.natAbs * unit := by rw [Int.natAbs_mul, Int.natAbs_natCast]
  have hA2 : h.natAbs * unit ≤ 2 ^ 53 * unit := Nat.mul_le_mul_right _ hb
  unfold fkey at hk
  unfold Format.div
  rw [two_word]
  cases hr : double.read x with
  | nan s t => rw [hr] at hk; cases hk
  | infinity s =>
    rw [hr] at hk
    have hk := Option.some.inj hk
    have : (big : Nat) = h.natAbs * unit := by
      rw [← hA, ← hk]
      cases s <;> simp
    have : 2 ^ 53 * unit ≤ 2 ^ 64 * unit := Nat.mul_le_mul_right _ (by decide)
    omega
  | number s m i =>
    rw [hr] at hk
    obtain ⟨b1, b2, b3⟩ := read_bound hr
    have hk := Option.some.inj hk
    obtain ⟨e, he⟩ : ∃ e : Nat, (i + 1074).toNat = e := ⟨_, rfl⟩
    rw [he, signed_eq] at hk
    have hX : m * pw e = h.natAbs * unit := by
      rw [← hA, ← hk]
      cases s
      · rw [if_neg (by decide), Int.natAbs_natCast]
      · rw [if_pos rfl, Int.natAbs_neg, Int.natAbs_natCast]
    by_cases hm : m = 0
    · subst hm
      have h0 : h = 0 := by
        have : h.natAbs * unit = 0 := by rw [← hX]; simp
        rcases Nat.mul_eq_zero.1 this with q | q
        · omega
        · omega
      subst h0
      have hz := read_word (s ^^ false) 0 0 (.inl rfl) (by decide) (by decide)
      simp only [Nat.zero_mul, Nat.add_zero] at hz
      obtain ⟨p, hq⟩ : ∃ p, Datum.quotient (double.fractionBits + 2) (.number s 0 i) (.number false 4503599627370496 (-51)) = some (.number (s ^^ false) 0 p) := by
        unfold Datum.quotient
        refine ⟨i - -51 - ((double.fractionBits + 2 + Nat.log2 4503599627370496 - Nat.log2 0 : Nat) : Int) - 1, ?_⟩
        simp
      rw [hq]
      refine ⟨_, rfl, ?_⟩
      show fkey (double.nearest _ 0 p) = _
      unfold Format.nearest
      rw [if_pos rfl, hz]
      cases s <;> simp [signed]
    · rw [quot_two s m i hm b1]
      obtain ⟨l1, l2⟩ := log2_bounds hm
      have hl : m.log2 < 53 := (Nat.log2_lt hm).2 b1
      generalize m.log2 = L at *
      have hh0 : h.natAbs ≠ 0 := by
        intro h0
        rw [h0, Nat.zero_mul] at hX
        rcases Nat.mul_eq_zero.1 hX with q | q
        · exact hm q
        · have := pw_pos e; omega
      have up : L + e ≤ 53 + 1074 := by
        rcases Nat.lt_or_ge (53 + 1074) (L + e) with q | q
        · have q1 := pw_lt q
          have q2 : pw (L + e) ≤ m * pw e := by rw [pw_add]; exact Nat.mul_le_mul_right _ (by rw [← two_pow_pw]; exact l1)
          have q3 : pw (53 + 1074) = 2 ^ 53 * unit := by rw [pw_add, pw53, unit_eq]
          omega
        · exact q
      have lo : 1074 ≤ L + e := by
        rcases Nat.lt_or_ge (L + e) 1074 with q | q
        · have q1 : pw (L + 1 + e) ≤ pw 1074 := pw_le (by omega)
          have q2 : m * pw e < pw (L + 1 + e) := by rw [pw_add]; exact Nat.mul_lt_mul_of_pos_right (by rw [← two_pow_pw]; exact l2) (pw_pos _)
          have q3 : 1 * unit ≤ h.natAbs * unit := Nat.mul_le_mul_right _ (by omega)
          rw [unit_eq] at q3 hX
          omega
        · exact q
      refine ⟨_, rfl, ?_⟩
      show fkey (double.nearest s (m * 2 ^ (55 - L)) (i + L - 56)) = _
      have hM : (m * 2 ^ (55 - L)).log2 = 55 := by
        refine log2_is ?_ ?_
        · calc 2 ^ 55 = 2 ^ L * 2 ^ (55 - L) := by rw [← Nat.pow_add]; congr 1; omega
            _ ≤ m * 2 ^ (55 - L) := Nat.mul_le_mul_right _ l1
        · calc m * 2 ^ (55 - L) < 2 ^ (L + 1) * 2 ^ (55 - L) := Nat.mul_lt_mul_of_pos_right l2 (Nat.pow_pos (by decide))
            _ = 2 ^ 56 := by rw [← Nat.pow_add]; congr 1; omega
      have hM0 : m * 2 ^ (55 - L) ≠ 0 := by
        intro h0
        rcases Nat.mul_eq_zero.1 h0 with q | q
        · exact hm q
        · have := Nat.pow_pos (n := 55 - L) (show 0 < 2 by decide); omega
      have hfb : double.fractionBits = 52 := rfl
      unfold Format.nearest
      simp only [if_neg hM0, leastPlace_double, binade_double, infRung_double, hfb, hM]
      have hlast : max (i + (L : Int) - 56 + ((55 : Nat) : Int) - ((52 : Nat) : Int)) (-1074) = i + L - 53 := by omega
      rw [hlast]
      have e1 : (i + (L : Int) - 56 - (i + L - 53)).toNat = 0 := by omega
      have e2 : (i + (L : Int) - 53 - (i + L - 56)).toNat = 3 := by omega
      have e3 : (i + (L : Int) - 53 - -1074).toNat = e + L - 53 := by omega
      rw [e1, e2, e3, Nat.shiftLeft_zero]
      have hM8 : m * 2 ^ (55 - L) = m * 2 ^ (52 - L) * 8 := by
        rw [Nat.mul_assoc]
        congr 1
        have : 55 - L = (52 - L) + 3 := by omega
        rw [this, Nat.pow_add]
      have hx := cut_even_exact s (m * 2 ^ (55 - L)) 3 (by rw [hM]; decide) (by rw [hM8]; exact Nat.mul_mod_left _ _)
      rw [hx, hM8, show (2 : Nat) ^ 3 = 8 by decide, Nat.mul_div_cancel _ (by decide)]
      have k1 : 2 ^ 52 ≤ m * 2 ^ (52 - L) := by
        calc 2 ^ 52 = 2 ^ L * 2 ^ (52 - L) := by rw [← Nat.pow_add]; congr 1; omega
          _ ≤ m * 2 ^ (52 - L) := Nat.mul_le_mul_right _ l1
      have k2 : m * 2 ^ (52 - L) < 2 ^ 53 := by
        calc m * 2 ^ (52 - L) < 2 ^ (L + 1) * 2 ^ (52 - L) := Nat.mul_lt_mul_of_pos_right l2 (Nat.pow_pos (by decide))
          _ = 2 ^ 53 := by rw [← Nat.pow_add]; congr 1; omega
      have hr2 : (e + L - 53) * 2 ^ 52 + m * 2 ^ (52 - L) < 2047 * 2 ^ 52 := by omega
      rw [Nat.min_eq_left (by omega), read_word s (e + L - 53) _ (.inr k1) (by omega) hr2, signed_eq]
      have hv : m * 2 ^ (52 - L) * pw (e + L - 53) = h.natAbs * pw 1073 := by
        have q1 : m * 2 ^ (52 - L) * pw (e + L - 53) = m * pw (e - 1) := by
          rw [Nat.mul_assoc, two_pow_pw, ← pw_add]
          congr 2
          omega
        have q2 : m * pw e = m * pw (e - 1) * 2 := by
          have : e = (e - 1) + 1 := by omega
          conv => lhs; rw [this, pw_add, pw1]
          rw [Nat.mul_assoc]
        have q3 : unit = pw 1073 * 2 := by rw [unit_eq, show 1074 = 1073 + 1 from rfl, pw_add, pw1]
        rw [q1]
        rw [q2, q3, ← Nat.mul_assoc] at hX
        omega
      rw [hv]
      have hX' : (m * pw e : Nat) = h.natAbs * unit := hX
      have hup : (0 : Int) < unit := by omega
      cases s
      · simp only [Bool.false_eq_true, if_false] at hk ⊢
        have : 0 ≤ h := by
          rcases Int.lt_or_le h 0 with q | q
          · have := Int.mul_neg_of_neg_of_pos q hup; omega
          · exact q
        rw [Int.natCast_mul, Int.natAbs_of_nonneg this]
      · simp only [if_true] at hk ⊢
        have : h ≤ 0 := by
          rcases Int.lt_or_le 0 h with q | q
          · have := Int.mul_pos q hup; omega
          · exact q
        rw [Int.natCast_mul, ← Int.neg_mul]
        congr 2
        omega

/-- The double of h / 2. -/
def halfW (h : Int) : Nat := (double.div (fofInt h) 4611686018427387904).getD 0
theorem half_of {h : Int} (hb : -2147483648 ≤ h ∧ h ≤ 2147483647) : double.div (fofInt h) 4611686018427387904 = some (halfW h) ∧ fkey (halfW h) = some (h * (pw 1073 : Int)) := by
  obtain ⟨v, hv, h1, -, -⟩ := fkey_ofInt h (by omega)
  have h1 := h1 (by omega)
  subst h1
  obtain ⟨r, hr, hk⟩ := half_key hv (by omega)
  unfold halfW
  rw [hr]
  exact ⟨rfl, hk⟩
theorem unit_half : (unit : Int) = (pw 1073 : Int) * 2 := by
  have q3 : unit = pw 1073 * 2 := by rw [unit_eq, show 1074 = 1073 + 1 from rfl, pw_add, pw1]
  rw [q3]
  rfl
theorem half_even {k : Int} (hb : -2147483648 ≤ 2 * k ∧ 2 * k ≤ 2147483647) : fkey (halfW (2 * k)) = some (k * unit) := by
  rw [(half_of hb).2, unit_half, Int.mul_comm 2 k, Int.mul_assoc, Int.mul_comm 2]
theorem half_feq {a b : Int} (ha : -2147483648 ≤ a ∧ a ≤ 2147483647) (hb : -2147483648 ≤ b ∧ b ≤ 2147483647) : feq (halfW a) (halfW b) = (a == b) := by
  have hp : (pw 1073 : Int) ≠ 0 := by have := pw_pos 1073; omega
  unfold feq
  rw [(half_of ha).2, (half_of hb).2]
  show (a * (pw 1073 : Int) == b * pw 1073) = _
  by_cases he : a = b
  · subst he; simp
  · rw [beq_false_of_ne he]
    exact beq_false_of_ne fun hh => he (Int.eq_of_mul_eq_mul_right hp hh)
/-- Which halves are array keys. -/
def HalfIn (h : Int) : Prop := h % 2 = 0 ∧ InArr (h / 2)
instance (h : Int) : Decidable (HalfIn h) := inferInstanceAs (Decidable (_ ∧ _))
theorem half_in {h : Int} (hb : -2147483648 ≤ h ∧ h ≤ 2147483647) (hi : HalfIn h) : fkey (halfW h) = some (h / 2 * unit) := by
  have := half_even (k := h / 2) (by have := hi.1; omega)
  rwa [show 2 * (h / 2) = h by have := hi.1; omega] at this
theorem half_out {h : Int} (hb : -2147483648 ≤ h ∧ h ≤ 2147483647) (hi : ¬ HalfIn h) : arrKey (halfW h) = false := by
  have hp : (0 : Int) < (pw 1073 : Int) := by have := pw_pos 1073; omega
  unfold arrKey
  rw [(half_of hb).2, unit_half]
  refine decide_eq_false fun ⟨q1, q2, k, q3⟩ => hi ?_
  have hk : h = 2 * k := by
    rw [Int.mul_assoc, Int.mul_comm] at q3
    have := Int.eq_of_mul_eq_mul_left (by omega) q3
    exact this
  subst hk
  have z1 : 0 < 2 * k := by
    rcases Int.lt_or_le 0 (2 * k) with q | q
    · exact q
    · have := Int.mul_nonpos_of_nonpos_of_nonneg q (Int.le_of_lt hp); omega
  have z2 : 2 * k < 67108864 * 2 := by
    have e : (67108864 : Int) * ((pw 1073 : Int) * 2) = 67108864 * 2 * (pw 1073 : Int) := by rw [Int.mul_comm (pw 1073 : Int) 2, ← Int.mul_assoc]
    rw [e] at q2
    exact Int.lt_of_mul_lt_mul_right q2 (Int.le_of_lt hp)
  refine ⟨by omega, ?_⟩
  unfold InArr
  omega
end Go.Lua
