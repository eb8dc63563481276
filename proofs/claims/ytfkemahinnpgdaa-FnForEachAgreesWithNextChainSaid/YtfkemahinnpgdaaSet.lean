/-
  RawSet for a string key and for a number key outside the array's range; RawSetInt for an integer outside it: they end in the hash.
-/
import Derived.Test.YtfkemahinnpgdaaNum
namespace Go.Lua
open Go.Proofs Go.RowKit
set_option linter.unusedVariables false

theorem UpdTo.drewN {F : Nat → Prop} {w w' : World} {t : Nat} {T : Tab} {e : Ending} {d : Nat} (h : UpdTo F (w.drewN d) t T e w') : UpdTo F w t T e w' := by
  obtain ⟨h1, h2, h3⟩ := h
  exact ⟨h1, h2, ⟨h3.os, h3.tape, h3.output, h3.size, h3.block⟩⟩

theorem TabAt.drewN {w : World} {t : Nat} {T : Tab} {F : Nat → Prop} (h : TabAt w t T F) (d : Nat) : TabAt (w.drewN d) t T F := by
  obtain ⟨va, vd, vs, vk, vi, hT⟩ := h
  exact ⟨va, vd, vs, vk, vi, hT.drewN d⟩

set_option maxRecDepth 100000 in
set_option maxHeartbeats 1000000 in
theorem rawSet_hash (w : World) (t : Nat) (T : Tab) (F : Nat → Prop) (h : TabAt w t T F) (hwf : T.Wf) (x : Nat) (HXX : Hid (feq x x = true)) (hx : arrKey x = false) (v : Value) (hv : LvOk v) :
    Calls Try.prog 37 #[.pointer (some ⟨t, 0, none⟩), lnum x, v] w (UpdTo F w t (T.setNum x v)) := by
  go_enter Try.func37, Try.ntmps37
  go_wp2_with fail
  go_call (isArrayKey_any x) as e w' ⟨d, he, hw⟩
  rw [hx] at he
  subst he hw
  go_wp2_with fail
  go_call (rawSetH_num (w.drewN d) t T F (h.drewN d) hwf x HXX v hv) as e w' ⟨he, h1, h2⟩
  subst he
  go_wp2_with fail
  go_end0
  exact UpdTo.drewN ⟨rfl, h1, h2⟩

set_option maxRecDepth 100000 in
set_option maxHeartbeats 1000000 in
theorem rawSet_str (w : World) (t : Nat) (T : Tab) (F : Nat → Prop) (h : TabAt w t T F) (hwf : T.Wf) (s : ByteArray) (v : Value) (hv : LvOk v) :
    Calls Try.prog 37 #[.pointer (some ⟨t, 0, none⟩), lstr s, v] w (UpdTo F w t (T.setStr s v)) := by
  go_enter Try.func37, Try.ntmps37
  go_wp2_with fail
  go_call (rawSetString_any w t T F h hwf s v hv) as e w' ⟨he, h1, h2⟩
  subst he
  go_wp2_with fail
  exact bodyPost_ret (v := .tuple #[]) (results_none rfl _ _ _) rfl ⟨rfl, h1, h2⟩

set_option maxHeartbeats 1000000 in
theorem rawSetInt_hash (w : World) (t : Nat) (T : Tab) (F : Nat → Prop) (h : TabAt w t T F) (hwf : T.Wf) (k : Int) (HXX : Hid (feq (fofInt k) (fofInt k) = true)) (hk : k < 1 ∨ 67108864 ≤ k) (v : Value) (hv : LvOk v) :
    Calls Try.prog 28 #[.pointer (some ⟨t, 0, none⟩), .int .i64 k, v] w (UpdTo F w t (T.setNum (fofInt k) v)) := by
  rcases hk with hk | hk
  · go_enter Try.func28, Try.ntmps28
    go_wp2_with fail
    go_call (rawSetH_num w t T F h hwf (fofInt k) HXX v hv) as e w' ⟨he, h1, h2⟩
    subst he
    go_wp2_with fail
    exact bodyPost_ret (v := .tuple #[]) (results_none rfl _ _ _) rfl ⟨rfl, h1, h2⟩
  · have hk1 : ¬ k < 1 := by omega
    go_enter Try.func28, Try.ntmps28
    go_wp2_with fail
    go_call (rawSetH_num w t T F h hwf (fofInt k) HXX v hv) as e w' ⟨he, h1, h2⟩
    subst he
    go_wp2_with fail
    exact bodyPost_ret (v := .tuple #[]) (results_none rfl _ _ _) rfl ⟨rfl, h1, h2⟩
end Go.Lua
