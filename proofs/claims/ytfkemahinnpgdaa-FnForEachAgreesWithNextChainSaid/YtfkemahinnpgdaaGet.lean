/-
  RawGetH for a number key and for a string key: what the hash parts hold, LNil where they hold nothing. 
-/
import Derived.Test.YtfkemahinnpgdaaSet
namespace Go.Lua
open Go.Proofs Go.RowKit
set_option linter.unusedVariables false

set_option maxHeartbeats 400000 in
theorem rawGetH_num (w : World) (t : Nat) (T : Tab) (F : Nat → Prop) (h : TabAt w t T F) (x : Nat) (HXX : Hid (feq x x = true)) :
    Calls Try.prog 26 #[.pointer (some ⟨t, 0, none⟩), lnum x] w fun e w' => e = .returned ((mget T.dict (lnum x)).getD lnil) ∧ w = w' := by
  obtain ⟨va, vd, vs, vk, vi, hT⟩ := h
  have c2 := hT.cells.2.2.1
  have hd := hT.dict
  cases hx : T.dict with
  | none =>
    rw [hx] at hd
    obtain rfl : vd = .map none := hd
    clear hT
    go_enter Try.func26, Try.ntmps26
    go_wp2
    go_ret
    exact ⟨rfl, rfl⟩
  | some f =>
    rw [hx] at hd
    obtain ⟨r, rfl, hr⟩ := hd
    cases hk : f (lnum x) with
    | none =>
      have Hk := Lib.hid hk
      have hres : Hid ((mget (some f) (lnum x)).getD lnil = lnil) := Lib.hid (by unfold mget; simp [hk])
      rw [hres.out]
      clear hk hT hx
      go_enter Try.func26, Try.ntmps26
      go_wp2_with (at_lookup; go_must (refine wpList_lookup_mp lk_law rfl _ _ _ _ rfl Try.underlying68 .nilIface zero_lv r _ rfl hr (lnum x) rfl (lk_num HXX) none Hk.out ?_))
      go_ret
      exact ⟨rfl, rfl⟩
    | some u =>
      have Hk := Lib.hid hk
      have hres : Hid ((mget (some f) (lnum x)).getD lnil = u) := Lib.hid (by unfold mget; simp [hk])
      rw [hres.out]
      clear hk hT hx
      go_enter Try.func26, Try.ntmps26
      go_wp2_with (at_lookup; go_must (refine wpList_lookup_mp lk_law rfl _ _ _ _ rfl Try.underlying68 .nilIface zero_lv r _ rfl hr (lnum x) rfl (lk_num HXX) (some u) Hk.out ?_))
      go_ret
      exact ⟨rfl, rfl⟩
set_option maxHeartbeats 400000 in
theorem rawGetH_str (w : World) (t : Nat) (T : Tab) (F : Nat → Prop) (h : TabAt w t T F) (s : ByteArray) :
    Calls Try.prog 26 #[.pointer (some ⟨t, 0, none⟩), lstr s] w fun e w' => e = .returned ((mget T.sdict (Value.string s)).getD lnil) ∧ w = w' := by
  obtain ⟨va, vd, vs, vk, vi, hT⟩ := h
  have c2 := hT.cells.2.2.2.1
  have hd := hT.sdict
  cases hx : T.sdict with
  | none =>
    rw [hx] at hd
    obtain rfl : vs = .map none := hd
    clear hT
    go_enter Try.func26, Try.ntmps26
    go_wp2
    go_ret
    exact ⟨rfl, rfl⟩
  | some f =>
    rw [hx] at hd
    obtain ⟨r, rfl, hr⟩ := hd
    cases hk : f (Value.string s) with
    | none =>
      have Hk := Lib.hid hk
      have hres : Hid ((mget (some f) (Value.string s)).getD lnil = lnil) := Lib.hid (by unfold mget; simp [hk])
      rw [hres.out]
      clear hk hT hx
      go_enter Try.func26, Try.ntmps26
      go_wp2_with (at_lookup; go_must (refine wpList_lookup_mp sk_law rfl _ _ _ _ rfl Try.underlying69 .nilIface zero_lv r _ rfl hr (Value.string s) rfl ⟨s, rfl⟩ none Hk.out ?_))
      go_ret
      exact ⟨rfl, rfl⟩
    | some u =>
      have Hk := Lib.hid hk
      have hres : Hid ((mget (some f) (Value.string s)).getD lnil = u) := Lib.hid (by unfold mget; simp [hk])
      rw [hres.out]
      clear hk hT hx
      go_enter Try.func26, Try.ntmps26
      go_wp2_with (at_lookup; go_must (refine wpList_lookup_mp sk_law rfl _ _ _ _ rfl Try.underlying69 .nilIface zero_lv r _ rfl hr (Value.string s) rfl ⟨s, rfl⟩ (some u) Hk.out ?_))
      go_ret
      exact ⟨rfl, rfl⟩
end Go.Lua
