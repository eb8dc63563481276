/-
  n005_23: Next (printed by mknext.py).
-/
import Derived.Test.YtfkemahinnpgdaaNextP
import Derived.Test.YtfkemahinnpgdaaFlt2
namespace Go.Lua
open Go.Proofs Go.RowKit Go.Deep
set_option linter.unusedVariables false


theorem lk_form {k : Value} (h : IsLK k) : ∃ t x, k = .iface t x ∧ t ≠ 47 := by
  rcases h with ⟨x, rfl, -⟩ | ⟨s, rfl⟩
  · exact ⟨_, _, rfl, by decide⟩
  · exact ⟨_, _, rfl, by decide⟩

set_option maxRecDepth 100000 in
set_option maxHeartbeats 2000000 in
theorem next_str (w : World) (t : Nat) (T : Tab) (F : Nat → Prop) (h : TabAt w t T F) (hn : Nx T) (s : ByteArray) (j : Nat) (hj : (T.keys.getD [])[j]? = some (lstr s)) (r : Value × Value) (hr : T.nextH (j + 1) = r) :
    Calls Try.prog 22 #[.pointer (some ⟨t, 0, none⟩), lstr s] w (Nexts w r) := by
  obtain ⟨va, vd, vs, vk, vi, hT0⟩ := h
  have HT := Lib.hid hT0
  have HN := Lib.hid hn
  have HJ := Lib.hid (hn.cut w hj r hr 0)
  clear hT0 hn hj hr
  go_enter Try.func22, Try.ntmps22
  go_upto_if 24 with (fail)
  go_cut [1] (fun k wc => CutN w T r k wc)
  case first =>
    go_wp2_with fail
    go_meet
    case rel => exact HJ.out
  case rest =>
    skip
    obtain ⟨j, ks, ki, hq, hks, hki, hkj, hjl, hr, d, rfl⟩ := hcut
    have hT := HT.out.drewN d
    have HTT := Lib.hid hT
    have HR := Lib.hid hr
    have HKS := Lib.hid hks
    have hkl := HN.out.klen
    rw [hks] at hkl
    simp only [Option.getD_some] at hkl
    have h4 := hT.keys
    rw [hks] at h4
    obtain ⟨g, cap, rfl, hcap, hcm, hcell, -⟩ := h4.cell
    have h5 := hT.k2i
    rw [hki] at h5
    obtain ⟨ri, rfl, hi⟩ := h5
    have c5 := hT.cells.2.2.2.2.2
    have c4 := hT.cells.2.2.2.2.1
    have HC := Lib.hid hcell
    have HQ := Lib.hid hq
    have HKJ := Lib.hid hkj
    have hxl : (ks.length : Int) ≤ 9223372036854775807 := by omega
    clear hT hr hks hki hkj h4 hcell hcap hcm
    obtain ⟨tq, xq, hqf, htq⟩ : ∃ tq xq, u1 = .iface tq xq ∧ tq ≠ 47 := lk_form hq
    subst hqf
    clear hq
    go_wp2_with (at_lookup; go_must (refine wpList_lookup1_mp lk_law rfl _ _ _ _ rfl Try.underlying70 (.int .i64 0) zero_int ri _ rfl hi _ rfl HQ.out (some (.int .i64 j)) HKJ.out ?_))
    go_loop [12] (fun v => ∃ i : Nat, i ≤ ks.length ∧ v = .int .i64 i ∧ Hid (T.nextH i = r)) (fun v => ks.length - (intOf v).toNat)
    case atStart => exact ⟨j + 1, by omega, by go_num, HR⟩
    case round =>
      obtain ⟨i, hil, rfl, hn⟩ := hrel
      by_cases hlt : (i : Int) < ks.length
      · obtain ⟨q2, hq2⟩ : ∃ q2, ks[i]? = some q2 := ⟨ks[i]'(by omega), by simp⟩
        have ha : (T.keys.getD [])[i]? = some q2 := by rw [HKS.out]; exact hq2
        have hl2 := HN.out.isk q2 (List.mem_of_getElem? ha)
        have hic := HC.out i q2 hq2
        have hlv := HN.out.hlv q2 hl2
        have HA := Lib.hid ha
        have C := Lib.hid (rawGetH_hv _ t T F HTT.out.at q2 hl2 rfl)
        generalize hu : T.hvD q2 = u at hlv C
        have HU := Lib.hid hu
        obtain ⟨t2, x2, rfl, ht2⟩ := lk_form hl2
        clear hq2 ha hl2 hu
        rcases hlv with rfl | ⟨tu, xu, rfl, hne⟩
        · go_wp2_with (go_at_call 26; refine C.out.mono ?_; rintro e w1 ⟨rfl, rfl⟩)
          go_round
          case rel => exact ⟨i + 1, by omega, by go_num, Lib.hid ((nextH_nil HA.out HU.out).symm.trans hn.out)⟩
          case measure => simp [intOf]; omega
        · go_wp2_with (go_at_call 26; refine C.out.mono ?_; rintro e w1 ⟨rfl, rfl⟩)
          go_ret2
          exact ⟨by rw [← hn.out, nextH_live HA.out HU.out (LvOk.not_nil hne)]; rfl, d, rfl⟩
      · go_wp2
        go_ret2
        exact ⟨by rw [← hn.out, nextH_end (by rw [HKS.out]; simp only [Option.getD_some]; omega)]; rfl, d, rfl⟩


set_option maxRecDepth 100000 in
set_option maxHeartbeats 2000000 in
theorem next_zero (w : World) (t : Nat) (T : Tab) (F : Nat → Prop) (h : TabAt w t T F) (hn : Nx T) (n : Int)  (j : Nat) (hj : (T.keys.getD [])[j]? = some (lnum 0)) (r : Value × Value) (hr : T.nextH (j + 1) = r) :
    Calls Try.prog 22 #[.pointer (some ⟨t, 0, none⟩), lnum 0] w (Nexts w r) := by
  obtain ⟨va, vd, vs, vk, vi, hT0⟩ := h
  have HT := Lib.hid hT0
  have HN := Lib.hid hn
  have HJ := Lib.hid (fun d => hn.cut w hj r hr d)
  have hz : feq 0 0 = true := by decide
  clear hT0 hn hj hr
  go_enter Try.func22, Try.ntmps22
  go_upto_if 24 with (fail)
  go_cut [1] (fun k wc => CutN w T r k wc)
  case first =>
    go_wp2_with fail
    go_meet
    case rel => exact HJ.out 0
  case rest =>
    skip
    obtain ⟨j, ks, ki, hq, hks, hki, hkj, hjl, hr, d, rfl⟩ := hcut
    have hT := HT.out.drewN d
    have HTT := Lib.hid hT
    have HR := Lib.hid hr
    have HKS := Lib.hid hks
    have hkl := HN.out.klen
    rw [hks] at hkl
    simp only [Option.getD_some] at hkl
    have h4 := hT.keys
    rw [hks] at h4
    obtain ⟨g, cap, rfl, hcap, hcm, hcell, -⟩ := h4.cell
    have h5 := hT.k2i
    rw [hki] at h5
    obtain ⟨ri, rfl, hi⟩ := h5
    have c5 := hT.cells.2.2.2.2.2
    have c4 := hT.cells.2.2.2.2.1
    have HC := Lib.hid hcell
    have HQ := Lib.hid hq
    have HKJ := Lib.hid hkj
    have hxl : (ks.length : Int) ≤ 9223372036854775807 := by omega
    clear hT hr hks hki hkj h4 hcell hcap hcm
    obtain ⟨tq, xq, hqf, htq⟩ : ∃ tq xq, u1 = .iface tq xq ∧ tq ≠ 47 := lk_form hq
    subst hqf
    clear hq
    go_wp2_with (at_lookup; go_must (refine wpList_lookup1_mp lk_law rfl _ _ _ _ rfl Try.underlying70 (.int .i64 0) zero_int ri _ rfl hi _ rfl HQ.out (some (.int .i64 j)) HKJ.out ?_))
    go_loop [12] (fun v => ∃ i : Nat, i ≤ ks.length ∧ v = .int .i64 i ∧ Hid (T.nextH i = r)) (fun v => ks.length - (intOf v).toNat)
    case atStart => exact ⟨j + 1, by omega, by go_num, HR⟩
    case round =>
      obtain ⟨i, hil, rfl, hn⟩ := hrel
      by_cases hlt : (i : Int) < ks.length
      · obtain ⟨q2, hq2⟩ : ∃ q2, ks[i]? = some q2 := ⟨ks[i]'(by omega), by simp⟩
        have ha : (T.keys.getD [])[i]? = some q2 := by rw [HKS.out]; exact hq2
        have hl2 := HN.out.isk q2 (List.mem_of_getElem? ha)
        have hic := HC.out i q2 hq2
        have hlv := HN.out.hlv q2 hl2
        have HA := Lib.hid ha
        have C := Lib.hid (rawGetH_hv _ t T F HTT.out.at q2 hl2 rfl)
        generalize hu : T.hvD q2 = u at hlv C
        have HU := Lib.hid hu
        obtain ⟨t2, x2, rfl, ht2⟩ := lk_form hl2
        clear hq2 ha hl2 hu
        rcases hlv with rfl | ⟨tu, xu, rfl, hne⟩
        · go_wp2_with (go_at_call 26; refine C.out.mono ?_; rintro e w1 ⟨rfl, rfl⟩)
          go_round
          case rel => exact ⟨i + 1, by omega, by go_num, Lib.hid ((nextH_nil HA.out HU.out).symm.trans hn.out)⟩
          case measure => simp [intOf]; omega
        · go_wp2_with (go_at_call 26; refine C.out.mono ?_; rintro e w1 ⟨rfl, rfl⟩)
          go_ret2
          exact ⟨by rw [← hn.out, nextH_live HA.out HU.out (LvOk.not_nil hne)]; rfl, d, rfl⟩
      · go_wp2
        go_ret2
        exact ⟨by rw [← hn.out, nextH_end (by rw [HKS.out]; simp only [Option.getD_some]; omega)]; rfl, d, rfl⟩


set_option maxRecDepth 100000 in
set_option maxHeartbeats 2000000 in
theorem next_neg (w : World) (t : Nat) (T : Tab) (F : Nat → Prop) (h : TabAt w t T F) (hn : Nx T) (n : Int) (h64 : -(2 ^ 63) ≤ n) (h0 : n < 0) (j : Nat) (hj : (T.keys.getD [])[j]? = some (lnum (fofInt n))) (r : Value × Value) (hr : T.nextH (j + 1) = r) :
    Calls Try.prog 22 #[.pointer (some ⟨t, 0, none⟩), lnum (fofInt n)] w (Nexts w r) := by
  obtain ⟨va, vd, vs, vk, vi, hT0⟩ := h
  have HT := Lib.hid hT0
  have HN := Lib.hid hn
  have HJ := Lib.hid (fun d => hn.cut w hj r hr d)
  have hz : feq (fofInt n) 0 = false := by
    obtain ⟨v, hv, h1, -⟩ := fkey_neg n h64 h0
    have := unit_pos
    unfold feq
    rw [hv, key0]
    exact beq_false_of_ne (by omega)
  obtain ⟨m, hm0, hm1, hcv⟩ := cvt_neg (P := Try.prog) 66 3 (by rfl) (by rfl) n h64 h0
  clear h64 h0
  clear hT0 hn hj hr
  go_enter Try.func22, Try.ntmps22
  go_upto_if 24 with (fail)
  go_cut [1] (fun k wc => CutN w T r k wc)
  case first =>
    go_wp2_with fail
    go_call (isInteger_any (fofInt n)) as e W ⟨b, d, he, hw, -, -⟩
    subst he
    have HJ := Lib.hid (hw ▸ HJ.out d)
    clear hw
    cases b
    · go_wp2_with fail
      go_meet
      case rel => exact HJ.out
    · go_wp2_with (simp only [hcv])
      go_meet
      case rel => exact HJ.out
  case rest =>
    skip
    obtain ⟨j, ks, ki, hq, hks, hki, hkj, hjl, hr, d, rfl⟩ := hcut
    have hT := HT.out.drewN d
    have HTT := Lib.hid hT
    have HR := Lib.hid hr
    have HKS := Lib.hid hks
    have hkl := HN.out.klen
    rw [hks] at hkl
    simp only [Option.getD_some] at hkl
    have h4 := hT.keys
    rw [hks] at h4
    obtain ⟨g, cap, rfl, hcap, hcm, hcell, -⟩ := h4.cell
    have h5 := hT.k2i
    rw [hki] at h5
    obtain ⟨ri, rfl, hi⟩ := h5
    have c5 := hT.cells.2.2.2.2.2
    have c4 := hT.cells.2.2.2.2.1
    have HC := Lib.hid hcell
    have HQ := Lib.hid hq
    have HKJ := Lib.hid hkj
    have hxl : (ks.length : Int) ≤ 9223372036854775807 := by omega
    clear hT hr hks hki hkj h4 hcell hcap hcm
    obtain ⟨tq, xq, hqf, htq⟩ : ∃ tq xq, u1 = .iface tq xq ∧ tq ≠ 47 := lk_form hq
    subst hqf
    clear hq
    go_wp2_with (at_lookup; go_must (refine wpList_lookup1_mp lk_law rfl _ _ _ _ rfl Try.underlying70 (.int .i64 0) zero_int ri _ rfl hi _ rfl HQ.out (some (.int .i64 j)) HKJ.out ?_))
    go_loop [12] (fun v => ∃ i : Nat, i ≤ ks.length ∧ v = .int .i64 i ∧ Hid (T.nextH i = r)) (fun v => ks.length - (intOf v).toNat)
    case atStart => exact ⟨j + 1, by omega, by go_num, HR⟩
    case round =>
      obtain ⟨i, hil, rfl, hn⟩ := hrel
      by_cases hlt : (i : Int) < ks.length
      · obtain ⟨q2, hq2⟩ : ∃ q2, ks[i]? = some q2 := ⟨ks[i]'(by omega), by simp⟩
        have ha : (T.keys.getD [])[i]? = some q2 := by rw [HKS.out]; exact hq2
        have hl2 := HN.out.isk q2 (List.mem_of_getElem? ha)
        have hic := HC.out i q2 hq2
        have hlv := HN.out.hlv q2 hl2
        have HA := Lib.hid ha
        have C := Lib.hid (rawGetH_hv _ t T F HTT.out.at q2 hl2 rfl)
        generalize hu : T.hvD q2 = u at hlv C
        have HU := Lib.hid hu
        obtain ⟨t2, x2, rfl, ht2⟩ := lk_form hl2
        clear hq2 ha hl2 hu
        rcases hlv with rfl | ⟨tu, xu, rfl, hne⟩
        · go_wp2_with (go_at_call 26; refine C.out.mono ?_; rintro e w1 ⟨rfl, rfl⟩)
          go_round
          case rel => exact ⟨i + 1, by omega, by go_num, Lib.hid ((nextH_nil HA.out HU.out).symm.trans hn.out)⟩
          case measure => simp [intOf]; omega
        · go_wp2_with (go_at_call 26; refine C.out.mono ?_; rintro e w1 ⟨rfl, rfl⟩)
          go_ret2
          exact ⟨by rw [← hn.out, nextH_live HA.out HU.out (LvOk.not_nil hne)]; rfl, d, rfl⟩
      · go_wp2
        go_ret2
        exact ⟨by rw [← hn.out, nextH_end (by rw [HKS.out]; simp only [Option.getD_some]; omega)]; rfl, d, rfl⟩


set_option maxRecDepth 100000 in
set_option maxHeartbeats 2000000 in
theorem next_big (w : World) (t : Nat) (T : Tab) (F : Nat → Prop) (h : TabAt w t T F) (hn : Nx T) (n : Int) (h64 : n < 2 ^ 63) (h0 : 67108864 ≤ n) (j : Nat) (hj : (T.keys.getD [])[j]? = some (lnum (fofInt n))) (r : Value × Value) (hr : T.nextH (j + 1) = r) :
    Calls Try.prog 22 #[.pointer (some ⟨t, 0, none⟩), lnum (fofInt n)] w (Nexts w r) := by
  obtain ⟨va, vd, vs, vk, vi, hT0⟩ := h
  have HT := Lib.hid hT0
  have HN := Lib.hid hn
  have HJ := Lib.hid (fun d => hn.cut w hj r hr d)
  have hz : feq (fofInt n) 0 = false := by
    obtain ⟨v, hv, h1, h2, -⟩ := fkey_ofInt n (by omega)
    have hp := unit_pos
    unfold feq
    rw [hv, key0]
    refine beq_false_of_ne ?_
    by_cases hb : n ≤ 2 ^ 53
    · rw [h1 (by omega)]
      have := Int.mul_le_mul_of_nonneg_right h0 (show (0 : Int) ≤ unit by omega)
      omega
    · have := h2 (by omega)
      omega
  have hge := ge_max h64 h0
  clear h64 h0
  clear hT0 hn hj hr
  go_enter Try.func22, Try.ntmps22
  go_upto_if 24 with (fail)
  go_cut [1] (fun k wc => CutN w T r k wc)
  case first =>
    go_wp2_with fail
    go_call (isInteger_any (fofInt n)) as e W ⟨b, d, he, hw, -, -⟩
    subst he
    have HJ1 := Lib.hid (show CutN w T r _ W.drew by rw [hw]; exact HJ.out (d + 1))
    have HJ := Lib.hid (hw ▸ HJ.out d)
    clear hw
    cases b
    · go_wp2_with fail
      go_meet
      case rel => exact HJ.out
    · obtain ⟨m, -, hcv, -⟩ := cvt_int (P := Try.prog) 66 3 (by rfl) (by rfl) (fofInt n) W
      rcases hcv with hcv | hcv
      · go_wp2_with (simp only [hcv])
        all_goals
          go_meet
          case rel => exact HJ.out
      · go_wp2_with (simp only [hcv])
        all_goals
          go_meet
          case rel => exact HJ1.out
  case rest =>
    skip
    obtain ⟨j, ks, ki, hq, hks, hki, hkj, hjl, hr, d, rfl⟩ := hcut
    have hT := HT.out.drewN d
    have HTT := Lib.hid hT
    have HR := Lib.hid hr
    have HKS := Lib.hid hks
    have hkl := HN.out.klen
    rw [hks] at hkl
    simp only [Option.getD_some] at hkl
    have h4 := hT.keys
    rw [hks] at h4
    obtain ⟨g, cap, rfl, hcap, hcm, hcell, -⟩ := h4.cell
    have h5 := hT.k2i
    rw [hki] at h5
    obtain ⟨ri, rfl, hi⟩ := h5
    have c5 := hT.cells.2.2.2.2.2
    have c4 := hT.cells.2.2.2.2.1
    have HC := Lib.hid hcell
    have HQ := Lib.hid hq
    have HKJ := Lib.hid hkj
    have hxl : (ks.length : Int) ≤ 9223372036854775807 := by omega
    clear hT hr hks hki hkj h4 hcell hcap hcm
    obtain ⟨tq, xq, hqf, htq⟩ : ∃ tq xq, u1 = .iface tq xq ∧ tq ≠ 47 := lk_form hq
    subst hqf
    clear hq
    go_wp2_with (at_lookup; go_must (refine wpList_lookup1_mp lk_law rfl _ _ _ _ rfl Try.underlying70 (.int .i64 0) zero_int ri _ rfl hi _ rfl HQ.out (some (.int .i64 j)) HKJ.out ?_))
    go_loop [12] (fun v => ∃ i : Nat, i ≤ ks.length ∧ v = .int .i64 i ∧ Hid (T.nextH i = r)) (fun v => ks.length - (intOf v).toNat)
    case atStart => exact ⟨j + 1, by omega, by go_num, HR⟩
    case round =>
      obtain ⟨i, hil, rfl, hn⟩ := hrel
      by_cases hlt : (i : Int) < ks.length
      · obtain ⟨q2, hq2⟩ : ∃ q2, ks[i]? = some q2 := ⟨ks[i]'(by omega), by simp⟩
        have ha : (T.keys.getD [])[i]? = some q2 := by rw [HKS.out]; exact hq2
        have hl2 := HN.out.isk q2 (List.mem_of_getElem? ha)
        have hic := HC.out i q2 hq2
        have hlv := HN.out.hlv q2 hl2
        have HA := Lib.hid ha
        have C := Lib.hid (rawGetH_hv _ t T F HTT.out.at q2 hl2 rfl)
        generalize hu : T.hvD q2 = u at hlv C
        have HU := Lib.hid hu
        obtain ⟨t2, x2, rfl, ht2⟩ := lk_form hl2
        clear hq2 ha hl2 hu
        rcases hlv with rfl | ⟨tu, xu, rfl, hne⟩
        · go_wp2_with (go_at_call 26; refine C.out.mono ?_; rintro e w1 ⟨rfl, rfl⟩)
          go_round
          case rel => exact ⟨i + 1, by omega, by go_num, Lib.hid ((nextH_nil HA.out HU.out).symm.trans hn.out)⟩
          case measure => simp [intOf]; omega
        · go_wp2_with (go_at_call 26; refine C.out.mono ?_; rintro e w1 ⟨rfl, rfl⟩)
          go_ret2
          exact ⟨by rw [← hn.out, nextH_live HA.out HU.out (LvOk.not_nil hne)]; rfl, d, rfl⟩
      · go_wp2
        go_ret2
        exact ⟨by rw [← hn.out, nextH_end (by rw [HKS.out]; simp only [Option.getD_some]; omega)]; rfl, d, rfl⟩

end Go.Lua
