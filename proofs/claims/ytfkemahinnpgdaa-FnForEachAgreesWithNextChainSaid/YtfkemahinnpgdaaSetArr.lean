/-
  RawSet at a number that is an array key: the array part is set, filled up with LNil where the key lies beyond its end.
-/
import Derived.Test.YtfkemahinnpgdaaKeep
namespace Go.Lua
open Go.Proofs Go.RowKit
set_option linter.unusedVariables false

/-- An array key is a whole number, and int(..) answers it. -/
theorem arr_index {x : Nat} (hx : arrKey x = true) : ∃ k : Int, 1 ≤ k ∧ k < 67108864 ∧ fkey x = some (k * unit) ∧ ∀ w, (convert 66 3 (.float .f64 x)).run Try.prog w = .ok (.int .i64 k) w := by
  unfold arrKey at hx
  cases hv : fkey x with
  | none => rw [hv] at hx; cases hx
  | some v =>
    rw [hv] at hx
    have hx := of_decide_eq_true hx
    obtain ⟨h0, h1, k, rfl⟩ := hx
    have hu := unit_pos
    have hp : (unit : Int) ≠ 0 := by omega
    rw [Int.mul_comm] at h0 h1 hv
    have hu' : (0 : Int) < unit := by omega
    have k1 : 0 < k := by
      rcases Int.lt_trichotomy k 0 with h | h | h
      · have := Int.mul_neg_of_neg_of_pos h hu'; omega
      · subst h; omega
      · exact h
    have k2 : k < 67108864 := Int.lt_of_mul_lt_mul_right h1 (by omega)
    refine ⟨k, by omega, k2, by rw [Int.mul_comm], fun w => ?_⟩
    obtain ⟨n, -, -, hs⟩ := cvt_int (P := Try.prog) 66 3 (by rfl) (by rfl) x w
    have hb : (k * (unit : Int)).natAbs ≤ 2 ^ 53 * unit := by
      rw [Int.natAbs_mul, Int.natAbs_natCast]
      exact Nat.mul_le_mul_right _ (by omega)
    obtain ⟨h1, h2⟩ := hs _ hv hb
    rw [h1, Int.mul_tdiv_cancel _ hp] at h2
    exact h2

set_option maxRecDepth 100000 in
set_option maxHeartbeats 2000000 in
theorem rawSet_some (w : World) (t : Nat) (T : Tab) (F : Nat → Prop) (xs : List Value) (h : TabAt w t T F) (hx : T.arr = some xs) (x : Nat) (k : Int) (ha : arrKey x = true) (hk1 : 1 ≤ k) (hk2 : k < 67108864)
    (hc : ∀ w, (convert 66 3 (.float .f64 x)).run Try.prog w = .ok (.int .i64 k) w) (hl : xs.length < 1073741824) (tv : TypeId) (xv : Value) :
    Calls Try.prog 37 #[.pointer (some ⟨t, 0, none⟩), lnum x, .iface tv xv] w (UpdTo F w t { T with arr := some (setAt xs (k.toNat - 1) (.iface tv xv)) }) := by
  obtain ⟨va, vd, vs, vk, vi, hT0⟩ := h
  obtain ⟨mt, arr, dict, sdict, keys, k2i⟩ := T
  obtain rfl : arr = some xs := hx
  obtain ⟨g, cap, rfl, hcap, hcm, -, -⟩ := hT0.arr.cell
  have Hc := Lib.hid hc
  by_cases h1 : k - 1 = xs.length
  · clear hc
    go_enter Try.func37, Try.ntmps37
    go_wp2_with fail
    go_call (isArrayKey_any x) as e W ⟨d, he, hw⟩
    rw [ha] at he
    subst he
    have hT := hT0.drewN d
    rw [← hw] at hT
    have hend : Hid (∀ T' e w', UpdTo F W t T' e w' → UpdTo F w t T' e w') := Lib.hid (by rw [hw]; exact fun _ _ _ h => h.drewN)
    clear hT0 hw
    have c1 := hT.cells.2.1
    have f1 := hT.thaw 1
    have hc := Hc.out
    go_wp2_with (first | (simp only [hc]) | (at_builtin; go_must (refine wpList_append_lv rfl _ _ rfl (.slice (some ⟨g, 0, none⟩) xs.length cap) (some xs) xs rfl rfl (hT.alloc _).arr _ _ (.iface tv xv) rfl (by simp) rfl (by omega) ?_); intro g1 cap1 w1 hs1 hg1 hb1 hso1; obtain ⟨e1, e2⟩ := (hT.alloc _).grown_arr hg1))
    refine bodyPost_ret (v := .tuple #[]) (results_none rfl _ _ _) rfl ?_
    refine hend.out _ _ _ ⟨rfl, end_append (hT.mono fun k _ hk => .inl hk) (Upd.refl F W) _ hs1 hg1 hb1 hso1 ?_ rfl⟩
    rw [setAt_end _ (by omega)]
  · by_cases h2 : k - 1 < xs.length
    · clear hc
      obtain ⟨i, hi⟩ : ∃ i : Nat, k - 1 = i := ⟨(k - 1).toNat, by omega⟩
      go_enter Try.func37, Try.ntmps37
      go_wp2_with fail
      go_call (isArrayKey_any x) as e W ⟨d, he, hw⟩
      rw [ha] at he
      subst he
      have hT := hT0.drewN d
      rw [← hw] at hT
      have hend : Hid (∀ T' e w', UpdTo F W t T' e w' → UpdTo F w t T' e w') := Lib.hid (by rw [hw]; exact fun _ _ _ h => h.drewN)
      clear hT0 hw
      have c1 := hT.cells.2.1
      have f1 := hT.thaw 1
      have hsl := hT.arr
      obtain ⟨g', cap', hge, -, -, hcell, hfr⟩ := hsl.cell
      obtain ⟨rfl, rfl⟩ : g = g' ∧ cap = cap' := by injection hge with q1 q2 q3; injection q1 with q1; injection q1 with q1; exact ⟨q1, q3⟩
      have hic := hcell i (xs[i]'(by omega)) (by simp)
      have hif := hfr i
      have hc := Hc.out
      clear hcell hfr hge
      go_wp2_with (simp only [hc])
      refine bodyPost_ret (v := .tuple #[]) (results_none rfl _ _ _) rfl ?_
      obtain ⟨q1, q2⟩ := (hT.mono fun k _ hk => (.inl hk : Fw F W k)).setElem rfl i (.iface tv xv) (by omega)
      obtain ⟨q3, q4⟩ := hT.setElem rfl i (.iface tv xv) (by omega)
      refine hend.out _ _ _ ⟨rfl, ?_, q4⟩
      rw [setAt_in _ (by omega)]
      have e : k.toNat - 1 = i := by omega
      rw [e]
      exact q1.at
    · have h3 : xs.length < k - 1 := by omega
      clear h1 h2 hc
      have h1 : (k - 1 == (xs.length : Int)) = false := by simp; omega
      go_enter Try.func37, Try.ntmps37
      go_wp2_with fail
      go_call (isArrayKey_any x) as e W ⟨d, he, hw⟩
      rw [ha] at he
      subst he
      have hT := hT0.drewN d
      rw [← hw] at hT
      have hend : Hid (∀ T' e w', UpdTo F W t T' e w' → UpdTo F w t T' e w') := Lib.hid (by rw [hw]; exact fun _ _ _ h => h.drewN)
      clear hT0 hw
      have c1 := hT.cells.2.1
      have f1 := hT.thaw 1
      have hsl := hT.arr
      have hc := Hc.out
      go_wp2_with (simp only [hc])
      clear hc
      go_loopw [9] (Filled F W t { mt := mt, arr := none, dict := dict, sdict := sdict, keys := keys, k2i := k2i } xs (k - 1 - xs.length).toNat) (fun i _ => ((k - 1 - xs.length) - intOf i).toNat)
      case atStart => exact ⟨0, Nat.zero_le _, rfl, by simpa using (hT.mono fun k _ hk => .inl hk).at, Upd.refl F W⟩
      case round =>
        clear c1 f1 hsl hT
        obtain ⟨j, hj, rfl, ⟨va2, vd2, vs2, vk2, vi2, hR⟩, hu⟩ := hrel
        obtain ⟨ys, hys⟩ : ∃ ys, ys = xs ++ List.replicate j lnil := ⟨_, rfl⟩
        have hlj : ys.length = xs.length + j := by rw [hys]; simp
        rw [← hys] at hR
        have hR3 := hR.cells.2.1
        have hR4 := hR.thaw 1
        have hRs := hR.arr
        obtain ⟨g2, cap2, rfl, -, -, -, -⟩ := hRs.cell
        have Hl := Lib.hid hlj
        have Hy := Lib.hid hys
        clear hlj hys
        by_cases hlt2 : (j : Int) < k - 1 - xs.length
        · go_wp2_with (at_builtin; go_must (refine wpList_append_lv rfl _ _ rfl (.slice (some ⟨g2, 0, none⟩) _ cap2) (some ys) ys rfl rfl (hR.alloc _).arr _ _ lnil rfl (by simp) rfl (by rw [Hl.out]; omega) ?_); intro g1 cap1 w1 hs1 hg1 hb1 hso1; obtain ⟨e1, e2⟩ := (hR.alloc _).grown_arr hg1)
          go_roundw
          case rel =>
            have hys := Hy.out
            subst hys
            exact Filled.next hR hu _ (by omega) hs1 hg1 hb1 hso1 (by go_num)
          case measure => simp [intOf]; omega
        · go_wp2_with (at_builtin; go_must (refine wpList_append_lv rfl _ _ rfl (.slice (some ⟨g2, 0, none⟩) _ cap2) (some ys) ys rfl rfl (hR.alloc _).arr _ _ (.iface tv xv) rfl (by simp) rfl (by rw [Hl.out]; omega) ?_); intro g1 cap1 w1 hs1 hg1 hb1 hso1; obtain ⟨e1, e2⟩ := (hR.alloc _).grown_arr hg1)
          refine bodyPost_ret (v := .tuple #[]) (results_none rfl _ _ _) rfl ?_
          refine hend.out _ _ _ ⟨rfl, end_append hR hu _ hs1 hg1 hb1 hso1 ?_ rfl⟩
          rw [Hy.out, setAt_past _ (by omega)]
          have e : k.toNat - 1 - xs.length = j := by omega
          rw [e]

set_option maxRecDepth 100000 in
set_option maxHeartbeats 2000000 in
theorem rawSet_none (w : World) (t : Nat) (T : Tab) (F : Nat → Prop) (h : TabAt w t T F) (hx : T.arr = none) (x : Nat) (k : Int) (ha : arrKey x = true) (hk1 : 1 ≤ k) (hk2 : k < 67108864)
    (hc : ∀ w, (convert 66 3 (.float .f64 x)).run Try.prog w = .ok (.int .i64 k) w) (tv : TypeId) (xv : Value) :
    Calls Try.prog 37 #[.pointer (some ⟨t, 0, none⟩), lnum x, .iface tv xv] w (UpdTo F w t { T with arr := some (setAt [] (k.toNat - 1) (.iface tv xv)) }) := by
  obtain ⟨va, vd, vs, vk, vi, hT0⟩ := h
  obtain ⟨mt, arr, dict, sdict, keys, k2i⟩ := T
  obtain rfl : arr = none := hx
  obtain rfl : va = .slice none 0 0 := hT0.arr
  have Hc := Lib.hid hc
  clear hc
  by_cases h1 : k - 1 = 0
  · go_enter Try.func37, Try.ntmps37
    go_wp2_with fail
    go_call (isArrayKey_any x) as e W ⟨d, he, hw⟩
    rw [ha] at he
    subst he
    have hT := hT0.drewN d
    rw [← hw] at hT
    have hend : Hid (∀ T' e w', UpdTo F W t T' e w' → UpdTo F w t T' e w') := Lib.hid (by rw [hw]; exact fun _ _ _ h => h.drewN)
    clear hT0 hw
    have hlt := hT.lt
    have c1 := hT.cells.2.1
    have f1 := hT.thaw 1
    obtain ⟨hT1, hU1⟩ := hT.make_arr2 32 (by decide)
    have hc := Hc.out
    go_wp2_with (first | (simp only [hc]) | (at_builtin; go_must (refine wpList_append_lv rfl _ _ rfl (.slice (some ⟨W.heap.size, 0, none⟩) 0 32) (some []) [] rfl rfl (hT1.alloc _).arr _ _ (.iface tv xv) rfl (cell_new_of (by simp)) rfl (by decide) ?_); intro g1 cap1 w1 hs1 hg1 hb1 hso1; obtain ⟨e1, e2⟩ := (hT1.alloc _).grown_arr hg1))
    refine bodyPost_ret (v := .tuple #[]) (results_none rfl _ _ _) rfl ?_
    refine hend.out _ _ _ ⟨rfl, end_append hT1 hU1 _ hs1 hg1 hb1 hso1 ?_ rfl⟩
    rw [setAt_end _ (by simp; omega)]
  · have h3 : 0 < k - 1 := by omega
    clear h1
    have h1 : (k - 1 == 0) = false := by simp; omega
    go_enter Try.func37, Try.ntmps37
    go_wp2_with fail
    go_call (isArrayKey_any x) as e W ⟨d, he, hw⟩
    rw [ha] at he
    subst he
    have hT := hT0.drewN d
    rw [← hw] at hT
    have hend : Hid (∀ T' e w', UpdTo F W t T' e w' → UpdTo F w t T' e w') := Lib.hid (by rw [hw]; exact fun _ _ _ h => h.drewN)
    clear hT0 hw
    have hlt := hT.lt
    have c1 := hT.cells.2.1
    have f1 := hT.thaw 1
    obtain ⟨hT1, hU1⟩ := hT.make_arr2 32 (by decide)
    have hc := Hc.out
    go_wp2_with (simp only [hc])
    clear hc
    go_loopw [9] (Filled F W t { mt := mt, arr := none, dict := dict, sdict := sdict, keys := keys, k2i := k2i } [] (k - 1).toNat) (fun i _ => ((k - 1) - intOf i).toNat)
    case atStart => exact ⟨0, Nat.zero_le _, rfl, by simpa using hT1.at, hU1⟩
    case round =>
      clear c1 f1 hT hT1 hU1
      obtain ⟨j, hj, rfl, ⟨va2, vd2, vs2, vk2, vi2, hR⟩, hu⟩ := hrel
      obtain ⟨ys, hys⟩ : ∃ ys, ys = [] ++ List.replicate j lnil := ⟨_, rfl⟩
      have hlj : ys.length = j := by rw [hys]; simp
      rw [← hys] at hR
      have hR3 := hR.cells.2.1
      have hR4 := hR.thaw 1
      have hRs := hR.arr
      obtain ⟨g2, cap2, rfl, -, -, -, -⟩ := hRs.cell
      have Hl := Lib.hid hlj
      have Hy := Lib.hid hys
      clear hlj hys
      by_cases hlt2 : (j : Int) < k - 1
      · go_wp2_with (at_builtin; go_must (refine wpList_append_lv rfl _ _ rfl (.slice (some ⟨g2, 0, none⟩) _ cap2) (some ys) ys rfl rfl (hR.alloc _).arr _ _ lnil rfl (by simp) rfl (by rw [Hl.out]; omega) ?_); intro g1 cap1 w1 hs1 hg1 hb1 hso1; obtain ⟨e1, e2⟩ := (hR.alloc _).grown_arr hg1)
        go_roundw
        case rel =>
          have hys := Hy.out
          subst hys
          exact Filled.next hR hu _ (by omega) hs1 hg1 hb1 hso1 (by go_num)
        case measure => simp [intOf]; omega
      · go_wp2_with (at_builtin; go_must (refine wpList_append_lv rfl _ _ rfl (.slice (some ⟨g2, 0, none⟩) _ cap2) (some ys) ys rfl rfl (hR.alloc _).arr _ _ (.iface tv xv) rfl (by simp) rfl (by rw [Hl.out]; omega) ?_); intro g1 cap1 w1 hs1 hg1 hb1 hso1; obtain ⟨e1, e2⟩ := (hR.alloc _).grown_arr hg1)
        refine bodyPost_ret (v := .tuple #[]) (results_none rfl _ _ _) rfl ?_
        refine hend.out _ _ _ ⟨rfl, end_append hR hu _ hs1 hg1 hb1 hso1 ?_ rfl⟩
        rw [Hy.out, setAt_past _ (by simp)]
        have e : k.toNat - 1 - ([] : List Value).length = j := by simp; omega
        rw [e]

/-- RawSet at an array key. -/
theorem rawSet_arr (w : World) (t : Nat) (T : Tab) (F : Nat → Prop) (h : TabAt w t T F) (hl : (T.arr.getD []).length < 1073741824) (x : Nat) (k : Int) (hk1 : 1 ≤ k) (hk2 : k < 67108864) (hx : fkey x = some (k * unit)) (tv : TypeId) (xv : Value) :
    Calls Try.prog 37 #[.pointer (some ⟨t, 0, none⟩), lnum x, .iface tv xv] w (UpdTo F w t (T.setArr k (.iface tv xv))) := by
  have hu := unit_pos
  have ha : arrKey x = true := by
    unfold arrKey
    rw [hx]
    refine decide_eq_true ⟨?_, ?_, ⟨k, Int.mul_comm _ _⟩⟩
    · exact Int.mul_pos (by omega) (by omega)
    · exact Int.mul_lt_mul_of_pos_right hk2 (by omega)
  obtain ⟨k', -, -, h3, h4⟩ := arr_index ha
  obtain rfl : k = k' := by
    rw [hx] at h3
    exact Int.eq_of_mul_eq_mul_right (by omega) (Option.some.inj h3)
  cases ht : T.arr with
  | none => have := rawSet_none w t T F h ht x k ha hk1 hk2 h4 tv xv; unfold Tab.setArr; rw [ht]; exact this
  | some xs => have := rawSet_some w t T F xs h ht x k ha hk1 hk2 h4 (by rw [ht] at hl; exact hl) tv xv; unfold Tab.setArr; rw [ht]; exact this
end Go.Lua
