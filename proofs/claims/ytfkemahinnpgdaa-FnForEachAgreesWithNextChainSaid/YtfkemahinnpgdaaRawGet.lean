/-
  RawGet for a number and for a string: what it answers. A draw may be made.
-/
import Derived.Test.YtfkemahinnpgdaaFlK
import Derived.Test.YtfkemahinnpgdaaGet
namespace Go.Lua
open Go.Proofs Go.RowKit
set_option linter.unusedVariables false

/-- It answers u; at most some draws are made. -/
def Tells (w : World) (u : Value) (e : Ending) (w' : World) : Prop := e = .returned u ∧ ∃ d, w' = w.drewN d

set_option maxHeartbeats 1000000 in
theorem rawGet_num (w : World) (t : Nat) (T : Tab) (F : Nat → Prop) (h : TabAt w t T F) (x : Nat) (HXX : Hid (feq x x = true)) :
    Calls Try.prog 25 #[.pointer (some ⟨t, 0, none⟩), lnum x] w (Tells w (T.fv x)) := by
  obtain ⟨va, vd, vs, vk, vi, hT0⟩ := h
  by_cases hx : arrKey x = true
  · obtain ⟨k, hk1, hk2, hk3, hc⟩ := arr_index hx
    have hfv : T.fv x = getAt (T.arr.getD []) k := by
      unfold Tab.fv
      rw [if_pos hx, arrIdx_of hk3]
      rfl
    rw [hfv]
    have Hc := Lib.hid hc
    have HX := Lib.hid hx
    clear hfv hc hk3 hx
    have hsl := hT0.arr
    cases ha : T.arr with
    | none =>
      rw [ha] at hsl
      obtain rfl : va = .slice none 0 0 := hsl
      clear ha
      go_enter Try.func25, Try.ntmps25
      go_wp2_with fail
      go_call (isArrayKey_any x) as e W ⟨d, he, hw⟩
      rw [HX.out] at he
      subst he
      have hT := hT0.drewN d
      rw [← hw] at hT
      have HW := Lib.hid hw
      clear hT0 hw
      have c1 := hT.cells.2.1
      clear hT
      go_wp2
      go_ret
      exact ⟨by simp [getAt], d, HW.out⟩
    | some xs =>
      rw [ha] at hsl
      obtain ⟨g, cap, rfl, hcap, hcm, -, -⟩ := hsl.cell
      unfold maxLen at hcm
      have hxl : (xs.length : Int) ≤ 9223372036854775807 := by omega
      clear hcap hcm hsl
      have HA := Lib.hid ha
      clear ha
      go_enter Try.func25, Try.ntmps25
      go_wp2_with fail
      go_call (isArrayKey_any x) as e W ⟨d, he, hw⟩
      rw [HX.out] at he
      subst he
      have hT := hT0.drewN d
      rw [← hw] at hT
      have HW := Lib.hid hw
      clear hT0 hw
      have c1 := hT.cells.2.1
      have hsl := hT.arr
      rw [HA.out] at hsl
      obtain ⟨g', cap', hge, -, -, hcell, -⟩ := hsl.cell
      obtain ⟨rfl, rfl⟩ : g = g' ∧ cap = cap' := by injection hge with q1 q2 q3; injection q1 with q1; injection q1 with q1; exact ⟨q1, q3⟩
      clear hsl hT hge
      have hc := Hc.out
      by_cases h2 : k - 1 < xs.length
      · obtain ⟨i, hi⟩ : ∃ i : Nat, k - 1 = i := ⟨(k - 1).toNat, by omega⟩
        obtain ⟨u, hu⟩ : ∃ u, xs[i]? = some u := ⟨xs[i]'(by omega), by simp⟩
        have hic := hcell i u hu
        have Hu := Lib.hid hu
        clear hcell hu
        go_wp2_with (simp only [hc])
        go_ret
        refine ⟨?_, d, HW.out⟩
        have e : k.toNat - 1 = i := by omega
        simp [getAt, e, Hu.out, hk1]
      · clear hcell
        go_wp2_with (simp only [hc])
        go_ret
        refine ⟨?_, d, HW.out⟩
        have hl : xs.length ≤ k.toNat - 1 := by omega
        simp [getAt, hl]
  · have hfv : T.fv x = T.nv x := by unfold Tab.fv; rw [if_neg hx]
    rw [hfv]
    have HX := Lib.hid (show arrKey x = false by simpa using hx)
    clear hfv hx
    have hd := hT0.dict
    cases hx : T.dict with
    | none =>
      rw [hx] at hd
      obtain rfl : vd = .map none := hd
      have hres : Hid (T.nv x = lnil) := Lib.hid (by unfold Tab.nv mget; rw [hx]; rfl)
      rw [hres.out]
      clear hx
      go_enter Try.func25, Try.ntmps25
      go_wp2_with fail
      go_call (isArrayKey_any x) as e W ⟨d, he, hw⟩
      rw [HX.out] at he
      subst he
      have hT := hT0.drewN d
      rw [← hw] at hT
      have HW := Lib.hid hw
      clear hT0 hw
      have c2 := hT.cells.2.2.1
      clear hT
      go_wp2
      go_ret
      exact ⟨rfl, d, HW.out⟩
    | some f =>
      rw [hx] at hd
      obtain ⟨r, rfl, -⟩ := hd
      have HD := Lib.hid hx
      cases hk : f (lnum x) with
      | none =>
        have Hk := Lib.hid hk
        have hres : Hid (T.nv x = lnil) := Lib.hid (by unfold Tab.nv mget; rw [hx]; simp [hk])
        rw [hres.out]
        clear hk hx
        go_enter Try.func25, Try.ntmps25
        go_wp2_with fail
        go_call (isArrayKey_any x) as e W ⟨d, he, hw⟩
        rw [HX.out] at he
        subst he
        have hT := hT0.drewN d
        rw [← hw] at hT
        have HW := Lib.hid hw
        clear hT0 hw
        have c2 := hT.cells.2.2.1
        have hd := hT.dict
        rw [HD.out] at hd
        obtain ⟨r', hre, hr⟩ := hd
        obtain rfl : r = r' := by injection hre with q; injection q
        clear hT hre
        go_wp2_with (at_lookup; go_must (refine wpList_lookup_mp lk_law rfl _ _ _ _ rfl Try.underlying68 .nilIface zero_lv r _ rfl hr (lnum x) rfl (lk_num HXX) none Hk.out ?_))
        go_ret
        exact ⟨rfl, d, HW.out⟩
      | some u =>
        have Hk := Lib.hid hk
        have hres : Hid (T.nv x = u) := Lib.hid (by unfold Tab.nv mget; rw [hx]; simp [hk])
        rw [hres.out]
        clear hk hx
        go_enter Try.func25, Try.ntmps25
        go_wp2_with fail
        go_call (isArrayKey_any x) as e W ⟨d, he, hw⟩
        rw [HX.out] at he
        subst he
        have hT := hT0.drewN d
        rw [← hw] at hT
        have HW := Lib.hid hw
        clear hT0 hw
        have c2 := hT.cells.2.2.1
        have hd := hT.dict
        rw [HD.out] at hd
        obtain ⟨r', hre, hr⟩ := hd
        obtain rfl : r = r' := by injection hre with q; injection q
        clear hT hre
        go_wp2_with (at_lookup; go_must (refine wpList_lookup_mp lk_law rfl _ _ _ _ rfl Try.underlying68 .nilIface zero_lv r _ rfl hr (lnum x) rfl (lk_num HXX) (some u) Hk.out ?_))
        go_ret
        exact ⟨rfl, d, HW.out⟩

set_option maxHeartbeats 400000 in
theorem rawGet_str (w : World) (t : Nat) (T : Tab) (F : Nat → Prop) (h : TabAt w t T F) (s : ByteArray) :
    Calls Try.prog 25 #[.pointer (some ⟨t, 0, none⟩), lstr s] w fun e w' => e = .returned (T.sv s) ∧ w = w' := by
  unfold Tab.sv
  obtain ⟨va, vd, vs, vk, vi, hT⟩ := h
  have c2 := hT.cells.2.2.2.1
  have hd := hT.sdict
  cases hx : T.sdict with
  | none =>
    rw [hx] at hd
    obtain rfl : vs = .map none := hd
    clear hT
    go_enter Try.func25, Try.ntmps25
    go_wp2
    go_ret
    exact ⟨rfl, rfl⟩
  | some f =>
    rw [hx] at hd
    obtain ⟨r, rfl, hr⟩ := hd
    cases hk : f (Value.string s) with
    | none =>
      have Hk := Lib.hid hk
      have hres : Hid ((mget (some f) (Value.string s)).getD lnil = lnil) := Lib.hid (by unfold mget; simp [hk])
      rw [hres.out]
      clear hk hT hx
      go_enter Try.func25, Try.ntmps25
      go_wp2_with (at_lookup; go_must (refine wpList_lookup_mp sk_law rfl _ _ _ _ rfl Try.underlying69 .nilIface zero_lv r _ rfl hr (Value.string s) rfl ⟨s, rfl⟩ none Hk.out ?_))
      go_ret
      exact ⟨rfl, rfl⟩
    | some u =>
      have Hk := Lib.hid hk
      have hres : Hid ((mget (some f) (Value.string s)).getD lnil = u) := Lib.hid (by unfold mget; simp [hk])
      rw [hres.out]
      clear hk hT hx
      go_enter Try.func25, Try.ntmps25
      go_wp2_with (at_lookup; go_must (refine wpList_lookup_mp sk_law rfl _ _ _ _ rfl Try.underlying69 .nilIface zero_lv r _ rfl hr (Value.string s) rfl ⟨s, rfl⟩ (some u) Hk.out ?_))
      go_ret
      exact ⟨rfl, rfl⟩
end Go.Lua
