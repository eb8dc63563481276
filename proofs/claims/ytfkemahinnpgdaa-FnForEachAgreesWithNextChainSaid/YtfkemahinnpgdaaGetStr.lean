/-
  RawGetString: what the string part holds, LNil where it holds nothing.
-/
import Derived.Test.YtfkemahinnpgdaaGet
namespace Go.Lua
open Go.Proofs Go.RowKit
set_option linter.unusedVariables false

set_option maxHeartbeats 400000 in
theorem rawGetString_any (w : World) (t : Nat) (T : Tab) (F : Nat → Prop) (h : TabAt w t T F) (s : ByteArray) :
    Calls Try.prog 18 #[.pointer (some ⟨t, 0, none⟩), .string s] w fun e w' => e = .returned ((mget T.sdict (Value.string s)).getD lnil) ∧ w = w' := by
  obtain ⟨va, vd, vs, vk, vi, hT⟩ := h
  have c2 := hT.cells.2.2.2.1
  have hd := hT.sdict
  cases hx : T.sdict with
  | none =>
    rw [hx] at hd
    obtain rfl : vs = .map none := hd
    clear hT
    go_enter Try.func18, Try.ntmps18
    go_wp2
    go_ret
    exact ⟨rfl, rfl⟩
  | some f =>
    rw [hx] at hd
    obtain ⟨r, rfl, hr⟩ := hd
    cases hk : f (Value.string s) with
    | none =>
      have Hk := Lib.hid hk
      have hres : Hid ((mget (some f) (Value.string s)).getD lnil = lnil) := Lib.hid (by unfold mget; simp [hk])
      rw [hres.out]
      clear hk hT hx
      go_enter Try.func18, Try.ntmps18
      go_wp2_with (at_lookup; go_must (refine wpList_lookup_mp sk_law rfl _ _ _ _ rfl Try.underlying69 .nilIface zero_lv r _ rfl hr (Value.string s) rfl ⟨s, rfl⟩ none Hk.out ?_))
      go_ret
      exact ⟨rfl, rfl⟩
    | some u =>
      have Hk := Lib.hid hk
      have hres : Hid ((mget (some f) (Value.string s)).getD lnil = u) := Lib.hid (by unfold mget; simp [hk])
      rw [hres.out]
      clear hk hT hx
      go_enter Try.func18, Try.ntmps18
      go_wp2_with (at_lookup; go_must (refine wpList_lookup_mp sk_law rfl _ _ _ _ rfl Try.underlying69 .nilIface zero_lv r _ rfl hr (Value.string s) rfl ⟨s, rfl⟩ (some u) Hk.out ?_))
      go_ret
      exact ⟨rfl, rfl⟩
end Go.Lua
