/-
  Integer keys: which go to the array part, what their doubles are, and what a store under one changes.
-/
import Derived.Test.YtfkemahinnpgdaaKeep
namespace Go.Lua
open Go.Proofs Go.RowKit
set_option linter.unusedVariables false

/-- An array key among the integers. -/
def InArr (k : Int) : Prop := 1 ≤ k ∧ k < 67108864
instance (k : Int) : Decidable (InArr k) := inferInstanceAs (Decidable (_ ∧ _))

theorem fkey_in {k : Int} (h : InArr k) : fkey (fofInt k) = some (k * unit) := by
  obtain ⟨h1, h2⟩ := h
  obtain ⟨v, hv, h3, -, -⟩ := fkey_ofInt k (by omega)
  rw [hv, h3 (by omega)]
theorem arrKey_out {k : Int} (hk : Is64 k) (h : ¬ InArr k) : arrKey (fofInt k) = false := by
  unfold Is64 at hk
  unfold InArr at h
  obtain ⟨v, hv, h3, h4, h5⟩ := fkey_ofInt k (by omega)
  have hu := unit_pos
  unfold arrKey
  rw [hv]
  refine decide_eq_false fun ⟨q1, q2, q3⟩ => ?_
  by_cases hb : -(2 ^ 53) ≤ k ∧ k ≤ 2 ^ 53
  · rw [h3 hb] at q1 q2
    rcases Int.lt_or_le k 1 with hlt | hge
    · have : k * (unit : Int) ≤ 0 := Int.mul_nonpos_of_nonpos_of_nonneg (by omega) (by omega)
      omega
    · have : 67108864 * (unit : Int) ≤ k * unit := Int.mul_le_mul_of_nonneg_right (by omega) (by omega)
      omega
  · rcases Int.lt_or_le k 0 with hlt | hge
    · have := h5 (by omega)
      omega
    · have := h4 (by omega)
      omega
theorem feq_in {a k : Int} (ha : Is64 a) (h : InArr k) : feq (fofInt a) (fofInt k) = (a == k) := by
  unfold Is64 at ha
  obtain ⟨v, hv, h3, h4, h5⟩ := fkey_ofInt a (by omega)
  have hu := unit_pos
  have hp : (unit : Int) ≠ 0 := by omega
  unfold feq
  rw [hv, fkey_in h]
  obtain ⟨h1, h2⟩ := h
  show (v == k * (unit : Int)) = _
  by_cases hb : -(2 ^ 53) ≤ a ∧ a ≤ 2 ^ 53
  · rw [h3 hb]
    by_cases he : a = k
    · subst he; simp
    · rw [beq_false_of_ne he]
      exact beq_false_of_ne fun hh => he (Int.eq_of_mul_eq_mul_right hp hh)
  · have hb1 : k * (unit : Int) < 67108864 * unit := Int.mul_lt_mul_of_pos_right h2 (by omega)
    have hb0 : (0 : Int) < k * unit := Int.mul_pos (by omega) (by omega)
    rw [beq_false_of_ne (show a ≠ k by omega)]
    refine beq_false_of_ne fun hh => ?_
    rcases Int.lt_or_le a 0 with hlt | hge
    · have := h5 (by omega)
      omega
    · have := h4 (by omega)
      omega

/-- What a store under an integer key leaves. -/
def Tab.setKey (T : Tab) (k : Int) (v : Value) : Tab := if InArr k then T.setArr k v else T.setNum (fofInt k) v
/-- What an integer key holds. -/
def Tab.iv (T : Tab) (k : Int) : Value := if InArr k then T.av k else T.nv (fofInt k)

theorem Ok.setKey {T : Tab} {n : Nat} (h : Ok T n) (k : Int) (hk : ¬ (65536 < k ∧ k < 67108864)) {v : Value} (hv : LvOk v) : Ok (T.setKey k v) (n + 1) := by
  unfold Tab.setKey
  split
  · rename_i hi
    unfold InArr at hi
    exact (h.setArr k (by omega) hv).more (by omega)
  · exact h.setNum _ _
theorem sv_setKey (T : Tab) (k : Int) (v : Value) (s : ByteArray) : (T.setKey k v).sv s = T.sv s := by
  unfold Tab.setKey
  split
  · rfl
  · exact sv_setNum ..
theorem av_setKey (T : Tab) (k : Int) (v : Value) (q : Int) : (T.setKey k v).av q = if InArr k ∧ q = k then v else T.av q := by
  unfold Tab.setKey
  by_cases hi : InArr k
  · rw [if_pos hi, av_setArr _ _ hi.1]
    simp [hi]
  · rw [if_neg hi, av_setNum, if_neg (fun h => hi h.1)]
theorem iv_setKey (T : Tab) {k q : Int} (hk : Is64 k) (hq : Is64 q) {v : Value} (hv : LvOk v) : (T.setKey k v).iv q = if feq (fofInt k) (fofInt q) then v else T.iv q := by
  unfold Tab.iv
  by_cases hqi : InArr q
  · rw [if_pos hqi, if_pos hqi, av_setKey, feq_in hk hqi]
    by_cases he : k = q
    · subst he
      simp [hqi]
    · rw [if_neg (fun h => he h.2.symm), beq_false_of_ne he]
      rfl
  · rw [if_neg hqi, if_neg hqi]
    unfold Tab.setKey
    by_cases hki : InArr k
    · rw [if_pos hki, nv_setArr, feq_symm, feq_in hq hki, beq_false_of_ne (fun h : q = k => hqi (h ▸ hki))]
      rfl
    · rw [if_neg hki, nv_setNum _ _ hv, feq_symm]
theorem iv_new (a b : Int) (q : Int) : (newTab a b).iv q = lnil := by
  unfold Tab.iv
  split
  · exact av_new ..
  · rfl
/-- A slot outside the array's range reads nothing. -/
theorem Ok.av_out {T : Tab} {n : Nat} (h : Ok T n) {q : Int} (hq : ¬ InArr q) : T.av q = lnil := by
  unfold InArr at hq
  have := h.alen
  unfold Tab.av getAt
  split
  · rw [List.getElem?_eq_none (by omega)]; rfl
  · rfl

theorem rawSetInt_key (w : World) (t : Nat) (T : Tab) (F : Nat → Prop) (h : TabAt w t T F) {n : Nat} (ho : Ok T n) (hn : n ≤ 1000000) (k : Int) (HXX : Hid (feq (fofInt k) (fofInt k) = true)) (v : Value) (hv : LvOk v) :
    Calls Try.prog 28 #[.pointer (some ⟨t, 0, none⟩), .int .i64 k, v] w (UpdTo F w t (T.setKey k v)) := by
  have hl := ho.alen
  obtain ⟨tv, xv, rfl⟩ : ∃ tv xv, v = .iface tv xv := by
    rcases hv with rfl | ⟨tv, xv, rfl, -⟩
    · exact ⟨_, _, rfl⟩
    · exact ⟨_, _, rfl⟩
  unfold Tab.setKey
  by_cases hi : InArr k
  · rw [if_pos hi]
    exact rawSetInt_arr w t T F h k hi.1 hi.2 (by omega) tv xv
  · rw [if_neg hi]
    exact rawSetInt_hash w t T F h (ho.wf hn) k HXX (by unfold InArr at hi; omega) _ hv
end Go.Lua
