/-
  Number keys, any double: what a RawSet under one changes, and RawSet itself.
-/
import Derived.Test.YtfkemahinnpgdaaKeyI
import Derived.Test.YtfkemahinnpgdaaSetArr
namespace Go.Lua
open Go.Proofs Go.RowKit
set_option linter.unusedVariables false

/-- The slot that an array key stands for. -/
def arrIdx (x : Nat) : Int := ((fkey x).getD 0).tdiv unit
theorem arrIdx_of {x : Nat} {k : Int} (h : fkey x = some (k * unit)) : arrIdx x = k := by
  unfold arrIdx
  rw [h]
  have hu := unit_pos
  exact Int.mul_tdiv_cancel _ (by omega)
theorem arr_is {x : Nat} (hx : arrKey x = true) : InArr (arrIdx x) ∧ fkey x = some (arrIdx x * unit) := by
  obtain ⟨k, h1, h2, h3, -⟩ := arr_index hx
  rw [arrIdx_of h3]
  exact ⟨⟨h1, h2⟩, h3⟩
theorem arrKey_in {k : Int} (h : InArr k) : arrKey (fofInt k) = true ∧ arrIdx (fofInt k) = k := by
  have hu := unit_pos
  refine ⟨?_, arrIdx_of (fkey_in h)⟩
  unfold arrKey
  rw [fkey_in h]
  obtain ⟨h1, h2⟩ := h
  refine decide_eq_true ⟨?_, ?_, ⟨k, Int.mul_comm _ _⟩⟩
  · exact Int.mul_pos (by omega) (by omega)
  · exact Int.mul_lt_mul_of_pos_right h2 (by omega)
theorem feq_key {x y : Nat} (h : feq x y = true) : fkey x = fkey y := by
  obtain ⟨a, h1, h2⟩ := (feq_iff x y).1 h
  rw [h1, h2]
theorem arrKey_congr {x y : Nat} (h : fkey x = fkey y) : arrKey x = arrKey y ∧ arrIdx x = arrIdx y := by
  unfold arrKey arrIdx
  rw [h]
  exact ⟨rfl, rfl⟩

def Tab.setFlt (T : Tab) (x : Nat) (v : Value) : Tab := if arrKey x then T.setArr (arrIdx x) v else T.setNum x v
/-- What a number reads by RawGet. -/
def Tab.fv (T : Tab) (x : Nat) : Value := if arrKey x then T.av (arrIdx x) else T.nv x

theorem fv_setFlt (T : Tab) (x : Nat) {v : Value} (hv : LvOk v) (q : Nat) : (T.setFlt x v).fv q = if feq x q then v else T.fv q := by
  unfold Tab.setFlt Tab.fv
  by_cases hq : arrKey q = true
  · obtain ⟨iq, kq⟩ := arr_is hq
    rw [if_pos hq, if_pos hq]
    by_cases hx : arrKey x = true
    · obtain ⟨ix, kx⟩ := arr_is hx
      rw [if_pos hx, av_setArr _ _ ix.1]
      have hu := unit_pos
      have he : feq x q = decide (arrIdx q = arrIdx x) := by
        unfold feq
        rw [kx, kq]
        show (arrIdx x * (unit : Int) == arrIdx q * unit) = _
        by_cases h : arrIdx q = arrIdx x
        · rw [h]; simp
        · rw [decide_eq_false h]
          exact beq_false_of_ne fun hh => h (Int.eq_of_mul_eq_mul_right (by omega) hh).symm
      rw [he]
      by_cases h : arrIdx q = arrIdx x <;> simp [h]
    · rw [if_neg hx, av_setNum]
      rw [if_neg (fun h => hx ((arrKey_congr (feq_key h)).1.trans hq))]
  · rw [if_neg hq, if_neg hq]
    by_cases hx : arrKey x = true
    · rw [if_pos hx, nv_setArr, if_neg (fun h => hq ((arrKey_congr (feq_key h)).1.symm.trans hx))]
    · rw [if_neg hx, nv_setNum _ _ hv, feq_symm]
theorem sv_setFlt (T : Tab) (x : Nat) (v : Value) (s : ByteArray) : (T.setFlt x v).sv s = T.sv s := by
  unfold Tab.setFlt
  split
  · rfl
  · exact sv_setNum ..
theorem fv_setStr (T : Tab) (s : ByteArray) (v : Value) (x : Nat) : (T.setStr s v).fv x = T.fv x := by
  unfold Tab.fv
  rw [av_setStr, nv_setStr]
theorem fv_new (a b : Int) (x : Nat) : (newTab a b).fv x = lnil := by
  unfold Tab.fv
  split
  · exact av_new ..
  · rfl
/-- What a number reads by RawGetH behind such stores: nothing at an array key. -/
theorem nv_setFlt (T : Tab) (x : Nat) {v : Value} (hv : LvOk v) (q : Nat) : (T.setFlt x v).nv q = if arrKey x = false ∧ feq x q = true then v else T.nv q := by
  unfold Tab.setFlt
  by_cases hx : arrKey x = true
  · rw [if_pos hx, nv_setArr, if_neg (by simp [hx])]
  · rw [if_neg hx, nv_setNum _ _ hv, feq_symm]
    rw [Bool.not_eq_true] at hx
    simp [hx]
/-- The bound that the laws' checks leave of a number key. -/
def FNear (x : Nat) : Prop := arrKey x = true → arrIdx x ≤ 65536
theorem Ok.setFlt {T : Tab} {n : Nat} (h : Ok T n) {x : Nat} (hx : FNear x) {v : Value} (hv : LvOk v) : Ok (T.setFlt x v) (n + 1) := by
  unfold Tab.setFlt
  split
  · rename_i hi
    exact (h.setArr _ ⟨(arr_is hi).1.1, hx hi⟩ hv).more (by omega)
  · exact h.setNum _ _
theorem iface_of {v : Value} (hv : LvOk v) : ∃ tv xv, v = .iface tv xv := by
  rcases hv with rfl | ⟨tv, xv, rfl, -⟩
  · exact ⟨_, _, rfl⟩
  · exact ⟨_, _, rfl⟩

theorem rawSet_flt (w : World) (t : Nat) (T : Tab) (F : Nat → Prop) (h : TabAt w t T F) {n : Nat} (ho : Ok T n) (hn : n ≤ 1000000) (x : Nat) (HXX : Hid (feq x x = true)) (v : Value) (hv : LvOk v) :
    Calls Try.prog 37 #[.pointer (some ⟨t, 0, none⟩), lnum x, v] w (UpdTo F w t (T.setFlt x v)) := by
  have hl := ho.alen
  unfold Tab.setFlt
  by_cases hx : arrKey x = true
  · obtain ⟨ix, kx⟩ := arr_is hx
    rw [if_pos hx]
    obtain ⟨tv, xv, rfl⟩ := iface_of hv
    exact rawSet_arr w t T F h (by omega) x _ ix.1 ix.2 kx tv xv
  · rw [if_neg hx]
    exact rawSet_hash w t T F h (ho.wf hn) x HXX (by simpa using hx) v hv
end Go.Lua
