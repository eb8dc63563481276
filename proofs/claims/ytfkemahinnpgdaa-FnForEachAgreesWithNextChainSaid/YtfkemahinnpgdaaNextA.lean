/-
  n005_23: Next from LNil or from an array key (printed by mknexta.py).
-/
import Derived.Test.YtfkemahinnpgdaaNext
namespace Go.Lua
open Go.Proofs Go.RowKit Go.Deep
set_option linter.unusedVariables false


set_option maxRecDepth 100000 in
set_option maxHeartbeats 4000000 in
theorem next_none_nil (w : World) (t : Nat) (T : Tab) (F : Nat → Prop) (h : TabAt w t T F) (hn : Nx T) (i : Nat) (hi0 : i = 0) (hi : i < 67108864) (hil : i ≤ (T.arr.getD []).length) (ha : T.arr = none) (r : Value × Value) (hr : r = T.nextA i) :
    Calls Try.prog 22 #[.pointer (some ⟨t, 0, none⟩), lnil] w (Nexts w r) := by
  obtain ⟨va, vd, vs, vk, vi, hT0⟩ := h
  have HT := Lib.hid hT0
  have HN := Lib.hid hn
  have HR := Lib.hid hr
  have hx : fkey 0 = some ((i : Int) * unit) := by rw [hi0, key0]; simp
  have hcv := fun W => cvt_nat (P := Try.prog) 66 3 (by rfl) (by rfl) hx (by omega) W
  have hlt := lt_max hx hi
  have HX := Lib.hid hx
  have HA := Lib.hid ha
  have HL := Lib.hid hil
  subst hi0
  clear hT0 hn hr hx ha hil
  go_enter Try.func22, Try.ntmps22
  go_upto_if 24 with (fail)
  go_cut [1] (fun k wc => CutN w T r k wc)
  case first =>
    go_wp2_with fail
    go_call (isInteger_any 0) as e W ⟨b, d, he, hw, -, h2⟩
    have hb : b = true := (h2 _ HX.out (by rw [Int.natAbs_mul]; exact Nat.mul_le_mul_right _ (by omega))).trans (decide_eq_true ⟨_, Int.mul_comm _ _⟩)
    subst hb he
    have hT := HT.out.drewN d
    rw [← hw] at hT
    have HW := Lib.hid hw
    have hcv := hcv W
    have c1 := hT.cells.2.1
    clear h2 hw
    have h1 := hT.arr
    rw [HA.out] at h1
    obtain rfl : va = .slice none 0 0 := h1
    have hend : r = T.nextH 0 := HR.out.trans (nextA_end (by rw [HA.out]; exact Nat.zero_le _))
    have HRR := Lib.hid hend
    clear hend
    obtain ⟨rd, rfl, hrd⟩ := hT.dict.form
    obtain ⟨rs, rfl, hrs⟩ := hT.sdict.form
    obtain ⟨nd, hld, hed⟩ := hT.dict.len2 (fun q hq => lk_self hq)
    obtain ⟨nsd, hls, hes⟩ := hT.sdict.len2 (fun q hq => sk_self hq)
    have c2 := hT.cells.2.2.1
    have c3 := hT.cells.2.2.2.1
    have c4 := hT.cells.2.2.2.2.1
    have hld : ∀ ty, (Builtin.len_ #[68] ty #[.map rd]).run Try.prog W = .ok (.int .i64 nd) W := fun ty => hld _ _ ty _ _ Try.underlying68
    have hls : ∀ ty, (Builtin.len_ #[69] ty #[.map rs]).run Try.prog W = .ok (.int .i64 nsd) W := fun ty => hls _ _ ty _ _ Try.underlying69
    by_cases hemp : nd = 0 ∧ nsd = 0
    · have hres := HN.out.none_next (hed.1 hemp.1) (hes.1 hemp.2)
      have HE := Lib.hid (HRR.out.trans hres)
      obtain ⟨rfl, rfl⟩ := hemp
      clear hT hed hes hrd hrs hres
      cases rd <;> cases rs
      all_goals
        go_wp2_with (simp only [hcv, hld, hls])
        go_ret2
        exact ⟨by rw [HE.out]; rfl, d, HW.out⟩
    · have hkn : T.keys.getD [] ≠ [] := fun hk => hemp ⟨hed.2 (HN.out.empty hk).1, hes.2 (HN.out.empty hk).2⟩
      obtain ⟨ks, hks⟩ : ∃ ks, T.keys = some ks := by
        cases hkk : T.keys with
        | none => exact absurd (by rw [hkk]; rfl) hkn
        | some ks => exact ⟨ks, rfl⟩
      have hk4 := hT.keys
      rw [hks] at hk4
      obtain ⟨g4, cap4, rfl, hcap4, hcm4, hcell4, -⟩ := hk4.cell
      obtain ⟨k0, hk0⟩ : ∃ k0, ks[0]? = some k0 := by
        rw [hks] at hkn
        cases ks with
        | nil => exact absurd rfl hkn
        | cons a l => exact ⟨a, rfl⟩
      have hc0 := hcell4 0 k0 hk0
      have ha0 : (T.keys.getD [])[0]? = some k0 := by rw [hks]; exact hk0
      have hkl : 0 < ks.length := (List.getElem?_eq_some_iff.1 hk0).1
      have hkl2 := HN.out.klen
      rw [hks] at hkl2
      simp only [Option.getD_some] at hkl2
      have hlk := HN.out.isk k0 (List.mem_of_getElem? ha0)
      have hlv := HN.out.hlv k0 hlk
      have C := Lib.hid (rawGetH_hv W t T F hT.at k0 hlk rfl)
      have HJ : Hid (∀ r, T.nextH 1 = r → CutN w T r k0 W) := Lib.hid fun r hr => by rw [HW.out]; exact HN.out.cut w ha0 r hr d
      have HA0 := Lib.hid ha0
      have hd0 : nd = 0 → nsd ≠ 0 := fun h1 h2 => hemp ⟨h1, h2⟩
      have hrd0 : rd = none → nd = 0 := fun h1 => hed.2 fun q hq => by rw [hrd.1 h1]; rfl
      have hrs0 : rs = none → nsd = 0 := fun h1 => hes.2 fun q hq => by rw [hrs.1 h1]; rfl
      generalize hu : T.hvD k0 = u at hlv C
      have HU := Lib.hid hu
      obtain ⟨t2, x2, rfl, ht2⟩ := lk_form hlk
      clear hT hed hes hrd hrs hk4 hks hkn hk0 ha0 hlk hu hcell4 hemp hcap4 hcm4
      have hcase : (∃ a, rd = some a ∧ nd ≠ 0) ∨ (∃ a, rd = some a ∧ nd = 0 ∧ ∃ b, rs = some b ∧ nsd ≠ 0) ∨ (rd = none ∧ ∃ b, rs = some b ∧ nsd ≠ 0) := by
        by_cases h0 : nd = 0
        · have h1 := hd0 h0
          cases rs with
          | none => exact absurd (hrs0 rfl) h1
          | some b => cases rd with
            | none => exact .inr (.inr ⟨rfl, b, rfl, h1⟩)
            | some a => exact .inr (.inl ⟨a, rfl, h0, b, rfl, h1⟩)
        · cases rd with
          | none => exact absurd (hrd0 rfl) h0
          | some a => exact .inl ⟨a, rfl, h0⟩
      clear hd0 hrd0 hrs0
      rcases hlv with rfl | ⟨tu, xu, rfl, hne⟩
      · have HM := Lib.hid (HJ.out r (by rw [HRR.out, nextH_nil HA0.out HU.out]))
        rcases hcase with ⟨a, rfl, h0⟩ | ⟨a, rfl, rfl, b, rfl, h1⟩ | ⟨rfl, b, rfl, h1⟩
        all_goals
          go_wp2_with (first
            | (simp only [hcv, hld, hls])
            | (go_at_call 26; refine C.out.mono ?_; rintro e w1 ⟨rfl, rfl⟩))
          go_meet
          case rel => exact HM.out
      · have HE := Lib.hid (HRR.out.trans (nextH_live HA0.out HU.out (LvOk.not_nil hne)))
        rcases hcase with ⟨a, rfl, h0⟩ | ⟨a, rfl, rfl, b, rfl, h1⟩ | ⟨rfl, b, rfl, h1⟩
        all_goals
          go_wp2_with (first
            | (simp only [hcv, hld, hls])
            | (go_at_call 26; refine C.out.mono ?_; rintro e w1 ⟨rfl, rfl⟩))
          go_ret2
          exact ⟨by rw [HE.out]; rfl, d, HW.out⟩
  case rest =>
    skip
    obtain ⟨j, ks, ki, hq, hks, hki, hkj, hjl, hr, d, rfl⟩ := hcut
    have hT := HT.out.drewN d
    have HTT := Lib.hid hT
    have HR := Lib.hid hr
    have HKS := Lib.hid hks
    have hkl := HN.out.klen
    rw [hks] at hkl
    simp only [Option.getD_some] at hkl
    have h4 := hT.keys
    rw [hks] at h4
    obtain ⟨g, cap, rfl, hcap, hcm, hcell, -⟩ := h4.cell
    have h5 := hT.k2i
    rw [hki] at h5
    obtain ⟨ri, rfl, hi⟩ := h5
    have c5 := hT.cells.2.2.2.2.2
    have c4 := hT.cells.2.2.2.2.1
    have HC := Lib.hid hcell
    have HQ := Lib.hid hq
    have HKJ := Lib.hid hkj
    have hxl : (ks.length : Int) ≤ 9223372036854775807 := by omega
    clear hT hr hks hki hkj h4 hcell hcap hcm
    obtain ⟨tq, xq, hqf, htq⟩ : ∃ tq xq, u1 = .iface tq xq ∧ tq ≠ 47 := lk_form hq
    subst hqf
    clear hq
    go_wp2_with (at_lookup; go_must (refine wpList_lookup1_mp lk_law rfl _ _ _ _ rfl Try.underlying70 (.int .i64 0) zero_int ri _ rfl hi _ rfl HQ.out (some (.int .i64 j)) HKJ.out ?_))
    go_loop [12] (fun v => ∃ i : Nat, i ≤ ks.length ∧ v = .int .i64 i ∧ Hid (T.nextH i = r)) (fun v => ks.length - (intOf v).toNat)
    case atStart => exact ⟨j + 1, by omega, by go_num, HR⟩
    case round =>
      obtain ⟨i, hil, rfl, hn⟩ := hrel
      by_cases hlt : (i : Int) < ks.length
      · obtain ⟨q2, hq2⟩ : ∃ q2, ks[i]? = some q2 := ⟨ks[i]'(by omega), by simp⟩
        have ha : (T.keys.getD [])[i]? = some q2 := by rw [HKS.out]; exact hq2
        have hl2 := HN.out.isk q2 (List.mem_of_getElem? ha)
        have hic := HC.out i q2 hq2
        have hlv := HN.out.hlv q2 hl2
        have HA := Lib.hid ha
        have C := Lib.hid (rawGetH_hv _ t T F HTT.out.at q2 hl2 rfl)
        generalize hu : T.hvD q2 = u at hlv C
        have HU := Lib.hid hu
        obtain ⟨t2, x2, rfl, ht2⟩ := lk_form hl2
        clear hq2 ha hl2 hu
        rcases hlv with rfl | ⟨tu, xu, rfl, hne⟩
        · go_wp2_with (go_at_call 26; refine C.out.mono ?_; rintro e w1 ⟨rfl, rfl⟩)
          go_round
          case rel => exact ⟨i + 1, by omega, by go_num, Lib.hid ((nextH_nil HA.out HU.out).symm.trans hn.out)⟩
          case measure => simp [intOf]; omega
        · go_wp2_with (go_at_call 26; refine C.out.mono ?_; rintro e w1 ⟨rfl, rfl⟩)
          go_ret2
          exact ⟨by rw [← hn.out, nextH_live HA.out HU.out (LvOk.not_nil hne)]; rfl, d, rfl⟩
      · go_wp2
        go_ret2
        exact ⟨by rw [← hn.out, nextH_end (by rw [HKS.out]; simp only [Option.getD_some]; omega)]; rfl, d, rfl⟩


set_option maxRecDepth 100000 in
set_option maxHeartbeats 4000000 in
theorem next_none_num (w : World) (t : Nat) (T : Tab) (F : Nat → Prop) (h : TabAt w t T F) (hn : Nx T) (i : Nat) (hi0 : 1 ≤ i) (hi : i < 67108864) (hil : i ≤ (T.arr.getD []).length) (ha : T.arr = none) (r : Value × Value) (hr : r = T.nextA i) :
    Calls Try.prog 22 #[.pointer (some ⟨t, 0, none⟩), lnum (fofInt i)] w (Nexts w r) := by
  obtain ⟨va, vd, vs, vk, vi, hT0⟩ := h
  have HT := Lib.hid hT0
  have HN := Lib.hid hn
  have HR := Lib.hid hr
  have hx : fkey (fofInt i) = some ((i : Int) * unit) := fkey_in ⟨by omega, by omega⟩
  have hz : feq (fofInt i) 0 = false := by
    have hp := unit_pos
    unfold feq
    rw [hx, key0]
    refine beq_false_of_ne ?_
    have := Int.mul_le_mul_of_nonneg_right (show (1 : Int) ≤ i by omega) (show (0 : Int) ≤ unit by omega)
    omega
  have hcv := fun W => cvt_nat (P := Try.prog) 66 3 (by rfl) (by rfl) hx (by omega) W
  have hlt := lt_max hx hi
  have HX := Lib.hid hx
  have HA := Lib.hid ha
  have HL := Lib.hid hil

  clear hT0 hn hr hx ha hil
  go_enter Try.func22, Try.ntmps22
  go_upto_if 24 with (fail)
  go_cut [1] (fun k wc => CutN w T r k wc)
  case first =>
    go_wp2_with fail
    go_call (isInteger_any (fofInt i)) as e W ⟨b, d, he, hw, -, h2⟩
    have hb : b = true := (h2 _ HX.out (by rw [Int.natAbs_mul]; exact Nat.mul_le_mul_right _ (by omega))).trans (decide_eq_true ⟨_, Int.mul_comm _ _⟩)
    subst hb he
    have hT := HT.out.drewN d
    rw [← hw] at hT
    have HW := Lib.hid hw
    have hcv := hcv W
    have c1 := hT.cells.2.1
    clear h2 hw
    have h1 := hT.arr
    rw [HA.out] at h1
    obtain rfl : va = .slice none 0 0 := h1
    have hend : r = T.nextH 0 := HR.out.trans (nextA_end (by rw [HA.out]; exact Nat.zero_le _))
    have HRR := Lib.hid hend
    clear hend
    obtain ⟨rd, rfl, hrd⟩ := hT.dict.form
    obtain ⟨rs, rfl, hrs⟩ := hT.sdict.form
    obtain ⟨nd, hld, hed⟩ := hT.dict.len2 (fun q hq => lk_self hq)
    obtain ⟨nsd, hls, hes⟩ := hT.sdict.len2 (fun q hq => sk_self hq)
    have c2 := hT.cells.2.2.1
    have c3 := hT.cells.2.2.2.1
    have c4 := hT.cells.2.2.2.2.1
    have hld : ∀ ty, (Builtin.len_ #[68] ty #[.map rd]).run Try.prog W = .ok (.int .i64 nd) W := fun ty => hld _ _ ty _ _ Try.underlying68
    have hls : ∀ ty, (Builtin.len_ #[69] ty #[.map rs]).run Try.prog W = .ok (.int .i64 nsd) W := fun ty => hls _ _ ty _ _ Try.underlying69
    by_cases hemp : nd = 0 ∧ nsd = 0
    · have hres := HN.out.none_next (hed.1 hemp.1) (hes.1 hemp.2)
      have HE := Lib.hid (HRR.out.trans hres)
      obtain ⟨rfl, rfl⟩ := hemp
      clear hT hed hes hrd hrs hres
      cases rd <;> cases rs
      all_goals
        go_wp2_with (simp only [hcv, hld, hls])
        go_ret2
        exact ⟨by rw [HE.out]; rfl, d, HW.out⟩
    · have hkn : T.keys.getD [] ≠ [] := fun hk => hemp ⟨hed.2 (HN.out.empty hk).1, hes.2 (HN.out.empty hk).2⟩
      obtain ⟨ks, hks⟩ : ∃ ks, T.keys = some ks := by
        cases hkk : T.keys with
        | none => exact absurd (by rw [hkk]; rfl) hkn
        | some ks => exact ⟨ks, rfl⟩
      have hk4 := hT.keys
      rw [hks] at hk4
      obtain ⟨g4, cap4, rfl, hcap4, hcm4, hcell4, -⟩ := hk4.cell
      obtain ⟨k0, hk0⟩ : ∃ k0, ks[0]? = some k0 := by
        rw [hks] at hkn
        cases ks with
        | nil => exact absurd rfl hkn
        | cons a l => exact ⟨a, rfl⟩
      have hc0 := hcell4 0 k0 hk0
      have ha0 : (T.keys.getD [])[0]? = some k0 := by rw [hks]; exact hk0
      have hkl : 0 < ks.length := (List.getElem?_eq_some_iff.1 hk0).1
      have hkl2 := HN.out.klen
      rw [hks] at hkl2
      simp only [Option.getD_some] at hkl2
      have hlk := HN.out.isk k0 (List.mem_of_getElem? ha0)
      have hlv := HN.out.hlv k0 hlk
      have C := Lib.hid (rawGetH_hv W t T F hT.at k0 hlk rfl)
      have HJ : Hid (∀ r, T.nextH 1 = r → CutN w T r k0 W) := Lib.hid fun r hr => by rw [HW.out]; exact HN.out.cut w ha0 r hr d
      have HA0 := Lib.hid ha0
      have hd0 : nd = 0 → nsd ≠ 0 := fun h1 h2 => hemp ⟨h1, h2⟩
      have hrd0 : rd = none → nd = 0 := fun h1 => hed.2 fun q hq => by rw [hrd.1 h1]; rfl
      have hrs0 : rs = none → nsd = 0 := fun h1 => hes.2 fun q hq => by rw [hrs.1 h1]; rfl
      generalize hu : T.hvD k0 = u at hlv C
      have HU := Lib.hid hu
      obtain ⟨t2, x2, rfl, ht2⟩ := lk_form hlk
      clear hT hed hes hrd hrs hk4 hks hkn hk0 ha0 hlk hu hcell4 hemp hcap4 hcm4
      have hcase : (∃ a, rd = some a ∧ nd ≠ 0) ∨ (∃ a, rd = some a ∧ nd = 0 ∧ ∃ b, rs = some b ∧ nsd ≠ 0) ∨ (rd = none ∧ ∃ b, rs = some b ∧ nsd ≠ 0) := by
        by_cases h0 : nd = 0
        · have h1 := hd0 h0
          cases rs with
          | none => exact absurd (hrs0 rfl) h1
          | some b => cases rd with
            | none => exact .inr (.inr ⟨rfl, b, rfl, h1⟩)
            | some a => exact .inr (.inl ⟨a, rfl, h0, b, rfl, h1⟩)
        · cases rd with
          | none => exact absurd (hrd0 rfl) h0
          | some a => exact .inl ⟨a, rfl, h0⟩
      clear hd0 hrd0 hrs0
      rcases hlv with rfl | ⟨tu, xu, rfl, hne⟩
      · have HM := Lib.hid (HJ.out r (by rw [HRR.out, nextH_nil HA0.out HU.out]))
        rcases hcase with ⟨a, rfl, h0⟩ | ⟨a, rfl, rfl, b, rfl, h1⟩ | ⟨rfl, b, rfl, h1⟩
        all_goals
          go_wp2_with (first
            | (simp only [hcv, hld, hls])
            | (go_at_call 26; refine C.out.mono ?_; rintro e w1 ⟨rfl, rfl⟩))
          go_meet
          case rel => exact HM.out
      · have HE := Lib.hid (HRR.out.trans (nextH_live HA0.out HU.out (LvOk.not_nil hne)))
        rcases hcase with ⟨a, rfl, h0⟩ | ⟨a, rfl, rfl, b, rfl, h1⟩ | ⟨rfl, b, rfl, h1⟩
        all_goals
          go_wp2_with (first
            | (simp only [hcv, hld, hls])
            | (go_at_call 26; refine C.out.mono ?_; rintro e w1 ⟨rfl, rfl⟩))
          go_ret2
          exact ⟨by rw [HE.out]; rfl, d, HW.out⟩
  case rest =>
    skip
    obtain ⟨j, ks, ki, hq, hks, hki, hkj, hjl, hr, d, rfl⟩ := hcut
    have hT := HT.out.drewN d
    have HTT := Lib.hid hT
    have HR := Lib.hid hr
    have HKS := Lib.hid hks
    have hkl := HN.out.klen
    rw [hks] at hkl
    simp only [Option.getD_some] at hkl
    have h4 := hT.keys
    rw [hks] at h4
    obtain ⟨g, cap, rfl, hcap, hcm, hcell, -⟩ := h4.cell
    have h5 := hT.k2i
    rw [hki] at h5
    obtain ⟨ri, rfl, hi⟩ := h5
    have c5 := hT.cells.2.2.2.2.2
    have c4 := hT.cells.2.2.2.2.1
    have HC := Lib.hid hcell
    have HQ := Lib.hid hq
    have HKJ := Lib.hid hkj
    have hxl : (ks.length : Int) ≤ 9223372036854775807 := by omega
    clear hT hr hks hki hkj h4 hcell hcap hcm
    obtain ⟨tq, xq, hqf, htq⟩ : ∃ tq xq, u1 = .iface tq xq ∧ tq ≠ 47 := lk_form hq
    subst hqf
    clear hq
    go_wp2_with (at_lookup; go_must (refine wpList_lookup1_mp lk_law rfl _ _ _ _ rfl Try.underlying70 (.int .i64 0) zero_int ri _ rfl hi _ rfl HQ.out (some (.int .i64 j)) HKJ.out ?_))
    go_loop [12] (fun v => ∃ i : Nat, i ≤ ks.length ∧ v = .int .i64 i ∧ Hid (T.nextH i = r)) (fun v => ks.length - (intOf v).toNat)
    case atStart => exact ⟨j + 1, by omega, by go_num, HR⟩
    case round =>
      obtain ⟨i, hil, rfl, hn⟩ := hrel
      by_cases hlt : (i : Int) < ks.length
      · obtain ⟨q2, hq2⟩ : ∃ q2, ks[i]? = some q2 := ⟨ks[i]'(by omega), by simp⟩
        have ha : (T.keys.getD [])[i]? = some q2 := by rw [HKS.out]; exact hq2
        have hl2 := HN.out.isk q2 (List.mem_of_getElem? ha)
        have hic := HC.out i q2 hq2
        have hlv := HN.out.hlv q2 hl2
        have HA := Lib.hid ha
        have C := Lib.hid (rawGetH_hv _ t T F HTT.out.at q2 hl2 rfl)
        generalize hu : T.hvD q2 = u at hlv C
        have HU := Lib.hid hu
        obtain ⟨t2, x2, rfl, ht2⟩ := lk_form hl2
        clear hq2 ha hl2 hu
        rcases hlv with rfl | ⟨tu, xu, rfl, hne⟩
        · go_wp2_with (go_at_call 26; refine C.out.mono ?_; rintro e w1 ⟨rfl, rfl⟩)
          go_round
          case rel => exact ⟨i + 1, by omega, by go_num, Lib.hid ((nextH_nil HA.out HU.out).symm.trans hn.out)⟩
          case measure => simp [intOf]; omega
        · go_wp2_with (go_at_call 26; refine C.out.mono ?_; rintro e w1 ⟨rfl, rfl⟩)
          go_ret2
          exact ⟨by rw [← hn.out, nextH_live HA.out HU.out (LvOk.not_nil hne)]; rfl, d, rfl⟩
      · go_wp2
        go_ret2
        exact ⟨by rw [← hn.out, nextH_end (by rw [HKS.out]; simp only [Option.getD_some]; omega)]; rfl, d, rfl⟩


set_option maxRecDepth 100000 in
set_option maxHeartbeats 4000000 in
theorem next_some_nil (w : World) (t : Nat) (T : Tab) (F : Nat → Prop) (h : TabAt w t T F) (hn : Nx T) (i : Nat) (hi0 : i = 0) (hi : i < 67108864) (hil : i ≤ (T.arr.getD []).length) (xs : List Value) (ha : T.arr = some xs) (r : Value × Value) (hr : r = T.nextA i) :
    Calls Try.prog 22 #[.pointer (some ⟨t, 0, none⟩), lnil] w (Nexts w r) := by
  obtain ⟨va, vd, vs, vk, vi, hT0⟩ := h
  have HT := Lib.hid hT0
  have HN := Lib.hid hn
  have HR := Lib.hid hr
  have hx : fkey 0 = some ((i : Int) * unit) := by rw [hi0, key0]; simp
  have hcv := fun W => cvt_nat (P := Try.prog) 66 3 (by rfl) (by rfl) hx (by omega) W
  have hlt := lt_max hx hi
  have HX := Lib.hid hx
  have HA := Lib.hid ha
  have HL := Lib.hid hil
  subst hi0
  clear hT0 hn hr hx ha hil
  go_enter Try.func22, Try.ntmps22
  go_upto_if 24 with (fail)
  go_cut [1] (fun k wc => CutN w T r k wc)
  case first =>
    go_wp2_with fail
    go_call (isInteger_any 0) as e W ⟨b, d, he, hw, -, h2⟩
    have hb : b = true := (h2 _ HX.out (by rw [Int.natAbs_mul]; exact Nat.mul_le_mul_right _ (by omega))).trans (decide_eq_true ⟨_, Int.mul_comm _ _⟩)
    subst hb he
    have hT := HT.out.drewN d
    rw [← hw] at hT
    have HW := Lib.hid hw
    have hcv := hcv W
    have c1 := hT.cells.2.1
    clear h2 hw
    have h1 := hT.arr
    rw [HA.out] at h1
    obtain ⟨g, cap, rfl, hcap, hcm, hcell, -⟩ := h1.cell
    have hal := HN.out.alen
    have hL := HL.out
    rw [HA.out] at hal hL
    simp only [Option.getD_some] at hal hL
    have HC := Lib.hid hcell
    have HTT := Lib.hid hT
    have hxl : (xs.length : Int) ≤ 9223372036854775807 := by omega
    clear hcell hcap hcm h1 hT
    go_wp2_with (simp only [hcv])
    go_loop [9] (fun v => ∃ j : Nat, j ≤ xs.length ∧ v = .int .i64 j ∧ Hid (r = T.nextA j)) (fun v => xs.length - (intOf v).toNat)
    case atStart => exact ⟨0, Nat.zero_le _, rfl, HR⟩
    case round =>
      obtain ⟨j, hj, rfl, hn⟩ := hrel
      by_cases hlt2 : (j : Int) < xs.length
      · obtain ⟨u, hu⟩ : ∃ u, xs[j]? = some u := ⟨xs[j]'(by omega), by simp⟩
        have ha2 : (T.arr.getD [])[j]? = some u := by rw [HA.out]; exact hu
        have hlv := HN.out.lv u (List.mem_of_getElem? ha2)
        have hic := HC.out j u hu
        have HA2 := Lib.hid ha2
        clear hu ha2
        rcases hlv with rfl | ⟨tu, xu, rfl, hne⟩
        · go_wp2_with fail
          go_round
          case rel => exact ⟨j + 1, by omega, by go_num, Lib.hid (hn.out.trans (nextA_nil HA2.out))⟩
          case measure => simp [intOf]; omega
        · go_wp2_with fail
          go_ret2
          exact ⟨by rw [hn.out, nextA_live HA2.out (LvOk.not_nil hne)]; rfl, d, HW.out⟩
      · obtain rfl : j = xs.length := by omega
        have hend : r = T.nextH 0 := hn.out.trans (nextA_end (by rw [HA.out]; exact Nat.le_refl _))
        have hT := HTT.out
        clear hn
        have HRR := Lib.hid hend
        clear hend
        obtain ⟨rd, rfl, hrd⟩ := hT.dict.form
        obtain ⟨rs, rfl, hrs⟩ := hT.sdict.form
        obtain ⟨nd, hld, hed⟩ := hT.dict.len2 (fun q hq => lk_self hq)
        obtain ⟨nsd, hls, hes⟩ := hT.sdict.len2 (fun q hq => sk_self hq)
        have c2 := hT.cells.2.2.1
        have c3 := hT.cells.2.2.2.1
        have c4 := hT.cells.2.2.2.2.1
        have hld : ∀ ty, (Builtin.len_ #[68] ty #[.map rd]).run Try.prog W = .ok (.int .i64 nd) W := fun ty => hld _ _ ty _ _ Try.underlying68
        have hls : ∀ ty, (Builtin.len_ #[69] ty #[.map rs]).run Try.prog W = .ok (.int .i64 nsd) W := fun ty => hls _ _ ty _ _ Try.underlying69
        by_cases hemp : nd = 0 ∧ nsd = 0
        · have hres := HN.out.none_next (hed.1 hemp.1) (hes.1 hemp.2)
          have HE := Lib.hid (HRR.out.trans hres)
          obtain ⟨rfl, rfl⟩ := hemp
          clear hT hed hes hrd hrs hres
          cases rd <;> cases rs
          all_goals
            go_wp2_with (simp only [hld, hls])
            go_ret2
            exact ⟨by rw [HE.out]; rfl, d, HW.out⟩
        · have hkn : T.keys.getD [] ≠ [] := fun hk => hemp ⟨hed.2 (HN.out.empty hk).1, hes.2 (HN.out.empty hk).2⟩
          obtain ⟨ks, hks⟩ : ∃ ks, T.keys = some ks := by
            cases hkk : T.keys with
            | none => exact absurd (by rw [hkk]; rfl) hkn
            | some ks => exact ⟨ks, rfl⟩
          have hk4 := hT.keys
          rw [hks] at hk4
          obtain ⟨g4, cap4, rfl, hcap4, hcm4, hcell4, -⟩ := hk4.cell
          obtain ⟨k0, hk0⟩ : ∃ k0, ks[0]? = some k0 := by
            rw [hks] at hkn
            cases ks with
            | nil => exact absurd rfl hkn
            | cons a l => exact ⟨a, rfl⟩
          have hc0 := hcell4 0 k0 hk0
          have ha0 : (T.keys.getD [])[0]? = some k0 := by rw [hks]; exact hk0
          have hkl : 0 < ks.length := (List.getElem?_eq_some_iff.1 hk0).1
          have hkl2 := HN.out.klen
          rw [hks] at hkl2
          simp only [Option.getD_some] at hkl2
          have hlk := HN.out.isk k0 (List.mem_of_getElem? ha0)
          have hlv := HN.out.hlv k0 hlk
          have C := Lib.hid (rawGetH_hv W t T F hT.at k0 hlk rfl)
          have HJ : Hid (∀ r, T.nextH 1 = r → CutN w T r k0 W) := Lib.hid fun r hr => by rw [HW.out]; exact HN.out.cut w ha0 r hr d
          have HA0 := Lib.hid ha0
          have hd0 : nd = 0 → nsd ≠ 0 := fun h1 h2 => hemp ⟨h1, h2⟩
          have hrd0 : rd = none → nd = 0 := fun h1 => hed.2 fun q hq => by rw [hrd.1 h1]; rfl
          have hrs0 : rs = none → nsd = 0 := fun h1 => hes.2 fun q hq => by rw [hrs.1 h1]; rfl
          generalize hu : T.hvD k0 = u at hlv C
          have HU := Lib.hid hu
          obtain ⟨t2, x2, rfl, ht2⟩ := lk_form hlk
          clear hT hed hes hrd hrs hk4 hks hkn hk0 ha0 hlk hu hcell4 hemp hcap4 hcm4
          have hcase : (∃ a, rd = some a ∧ nd ≠ 0) ∨ (∃ a, rd = some a ∧ nd = 0 ∧ ∃ b, rs = some b ∧ nsd ≠ 0) ∨ (rd = none ∧ ∃ b, rs = some b ∧ nsd ≠ 0) := by
            by_cases h0 : nd = 0
            · have h1 := hd0 h0
              cases rs with
              | none => exact absurd (hrs0 rfl) h1
              | some b => cases rd with
                | none => exact .inr (.inr ⟨rfl, b, rfl, h1⟩)
                | some a => exact .inr (.inl ⟨a, rfl, h0, b, rfl, h1⟩)
            · cases rd with
              | none => exact absurd (hrd0 rfl) h0
              | some a => exact .inl ⟨a, rfl, h0⟩
          clear hd0 hrd0 hrs0
          rcases hlv with rfl | ⟨tu, xu, rfl, hne⟩
          · have HM := Lib.hid (HJ.out r (by rw [HRR.out, nextH_nil HA0.out HU.out]))
            rcases hcase with ⟨a, rfl, h0⟩ | ⟨a, rfl, rfl, b, rfl, h1⟩ | ⟨rfl, b, rfl, h1⟩
            all_goals
              go_wp2_with (first
                | (simp only [hld, hls])
                | (go_at_call 26; refine C.out.mono ?_; rintro e w1 ⟨rfl, rfl⟩))
              go_meet
              case rel => exact HM.out
          · have HE := Lib.hid (HRR.out.trans (nextH_live HA0.out HU.out (LvOk.not_nil hne)))
            rcases hcase with ⟨a, rfl, h0⟩ | ⟨a, rfl, rfl, b, rfl, h1⟩ | ⟨rfl, b, rfl, h1⟩
            all_goals
              go_wp2_with (first
                | (simp only [hld, hls])
                | (go_at_call 26; refine C.out.mono ?_; rintro e w1 ⟨rfl, rfl⟩))
              go_ret2
              exact ⟨by rw [HE.out]; rfl, d, HW.out⟩
  case rest =>
    skip
    obtain ⟨j, ks, ki, hq, hks, hki, hkj, hjl, hr, d, rfl⟩ := hcut
    have hT := HT.out.drewN d
    have HTT := Lib.hid hT
    have HR := Lib.hid hr
    have HKS := Lib.hid hks
    have hkl := HN.out.klen
    rw [hks] at hkl
    simp only [Option.getD_some] at hkl
    have h4 := hT.keys
    rw [hks] at h4
    obtain ⟨g, cap, rfl, hcap, hcm, hcell, -⟩ := h4.cell
    have h5 := hT.k2i
    rw [hki] at h5
    obtain ⟨ri, rfl, hi⟩ := h5
    have c5 := hT.cells.2.2.2.2.2
    have c4 := hT.cells.2.2.2.2.1
    have HC := Lib.hid hcell
    have HQ := Lib.hid hq
    have HKJ := Lib.hid hkj
    have hxl : (ks.length : Int) ≤ 9223372036854775807 := by omega
    clear hT hr hks hki hkj h4 hcell hcap hcm
    obtain ⟨tq, xq, hqf, htq⟩ : ∃ tq xq, u1 = .iface tq xq ∧ tq ≠ 47 := lk_form hq
    subst hqf
    clear hq
    go_wp2_with (at_lookup; go_must (refine wpList_lookup1_mp lk_law rfl _ _ _ _ rfl Try.underlying70 (.int .i64 0) zero_int ri _ rfl hi _ rfl HQ.out (some (.int .i64 j)) HKJ.out ?_))
    go_loop [12] (fun v => ∃ i : Nat, i ≤ ks.length ∧ v = .int .i64 i ∧ Hid (T.nextH i = r)) (fun v => ks.length - (intOf v).toNat)
    case atStart => exact ⟨j + 1, by omega, by go_num, HR⟩
    case round =>
      obtain ⟨i, hil, rfl, hn⟩ := hrel
      by_cases hlt : (i : Int) < ks.length
      · obtain ⟨q2, hq2⟩ : ∃ q2, ks[i]? = some q2 := ⟨ks[i]'(by omega), by simp⟩
        have ha : (T.keys.getD [])[i]? = some q2 := by rw [HKS.out]; exact hq2
        have hl2 := HN.out.isk q2 (List.mem_of_getElem? ha)
        have hic := HC.out i q2 hq2
        have hlv := HN.out.hlv q2 hl2
        have HA := Lib.hid ha
        have C := Lib.hid (rawGetH_hv _ t T F HTT.out.at q2 hl2 rfl)
        generalize hu : T.hvD q2 = u at hlv C
        have HU := Lib.hid hu
        obtain ⟨t2, x2, rfl, ht2⟩ := lk_form hl2
        clear hq2 ha hl2 hu
        rcases hlv with rfl | ⟨tu, xu, rfl, hne⟩
        · go_wp2_with (go_at_call 26; refine C.out.mono ?_; rintro e w1 ⟨rfl, rfl⟩)
          go_round
          case rel => exact ⟨i + 1, by omega, by go_num, Lib.hid ((nextH_nil HA.out HU.out).symm.trans hn.out)⟩
          case measure => simp [intOf]; omega
        · go_wp2_with (go_at_call 26; refine C.out.mono ?_; rintro e w1 ⟨rfl, rfl⟩)
          go_ret2
          exact ⟨by rw [← hn.out, nextH_live HA.out HU.out (LvOk.not_nil hne)]; rfl, d, rfl⟩
      · go_wp2
        go_ret2
        exact ⟨by rw [← hn.out, nextH_end (by rw [HKS.out]; simp only [Option.getD_some]; omega)]; rfl, d, rfl⟩


set_option maxRecDepth 100000 in
set_option maxHeartbeats 4000000 in
theorem next_some_num (w : World) (t : Nat) (T : Tab) (F : Nat → Prop) (h : TabAt w t T F) (hn : Nx T) (i : Nat) (hi0 : 1 ≤ i) (hi : i < 67108864) (hil : i ≤ (T.arr.getD []).length) (xs : List Value) (ha : T.arr = some xs) (r : Value × Value) (hr : r = T.nextA i) :
    Calls Try.prog 22 #[.pointer (some ⟨t, 0, none⟩), lnum (fofInt i)] w (Nexts w r) := by
  obtain ⟨va, vd, vs, vk, vi, hT0⟩ := h
  have HT := Lib.hid hT0
  have HN := Lib.hid hn
  have HR := Lib.hid hr
  have hx : fkey (fofInt i) = some ((i : Int) * unit) := fkey_in ⟨by omega, by omega⟩
  have hz : feq (fofInt i) 0 = false := by
    have hp := unit_pos
    unfold feq
    rw [hx, key0]
    refine beq_false_of_ne ?_
    have := Int.mul_le_mul_of_nonneg_right (show (1 : Int) ≤ i by omega) (show (0 : Int) ≤ unit by omega)
    omega
  have hcv := fun W => cvt_nat (P := Try.prog) 66 3 (by rfl) (by rfl) hx (by omega) W
  have hlt := lt_max hx hi
  have HX := Lib.hid hx
  have HA := Lib.hid ha
  have HL := Lib.hid hil

  clear hT0 hn hr hx ha hil
  go_enter Try.func22, Try.ntmps22
  go_upto_if 24 with (fail)
  go_cut [1] (fun k wc => CutN w T r k wc)
  case first =>
    go_wp2_with fail
    go_call (isInteger_any (fofInt i)) as e W ⟨b, d, he, hw, -, h2⟩
    have hb : b = true := (h2 _ HX.out (by rw [Int.natAbs_mul]; exact Nat.mul_le_mul_right _ (by omega))).trans (decide_eq_true ⟨_, Int.mul_comm _ _⟩)
    subst hb he
    have hT := HT.out.drewN d
    rw [← hw] at hT
    have HW := Lib.hid hw
    have hcv := hcv W
    have c1 := hT.cells.2.1
    clear h2 hw
    have h1 := hT.arr
    rw [HA.out] at h1
    obtain ⟨g, cap, rfl, hcap, hcm, hcell, -⟩ := h1.cell
    have hal := HN.out.alen
    have hL := HL.out
    rw [HA.out] at hal hL
    simp only [Option.getD_some] at hal hL
    have HC := Lib.hid hcell
    have HTT := Lib.hid hT
    have hxl : (xs.length : Int) ≤ 9223372036854775807 := by omega
    clear hcell hcap hcm h1 hT
    go_wp2_with (simp only [hcv])
    go_loop [9] (fun v => ∃ j : Nat, j ≤ xs.length ∧ v = .int .i64 j ∧ Hid (r = T.nextA j)) (fun v => xs.length - (intOf v).toNat)
    case atStart => exact ⟨i, hL, rfl, HR⟩
    case round =>
      obtain ⟨j, hj, rfl, hn⟩ := hrel
      by_cases hlt2 : (j : Int) < xs.length
      · obtain ⟨u, hu⟩ : ∃ u, xs[j]? = some u := ⟨xs[j]'(by omega), by simp⟩
        have ha2 : (T.arr.getD [])[j]? = some u := by rw [HA.out]; exact hu
        have hlv := HN.out.lv u (List.mem_of_getElem? ha2)
        have hic := HC.out j u hu
        have HA2 := Lib.hid ha2
        clear hu ha2
        rcases hlv with rfl | ⟨tu, xu, rfl, hne⟩
        · go_wp2_with fail
          go_round
          case rel => exact ⟨j + 1, by omega, by go_num, Lib.hid (hn.out.trans (nextA_nil HA2.out))⟩
          case measure => simp [intOf]; omega
        · go_wp2_with fail
          go_ret2
          exact ⟨by rw [hn.out, nextA_live HA2.out (LvOk.not_nil hne)]; rfl, d, HW.out⟩
      · obtain rfl : j = xs.length := by omega
        have hend : r = T.nextH 0 := hn.out.trans (nextA_end (by rw [HA.out]; exact Nat.le_refl _))
        have hT := HTT.out
        clear hn
        have HRR := Lib.hid hend
        clear hend
        obtain ⟨rd, rfl, hrd⟩ := hT.dict.form
        obtain ⟨rs, rfl, hrs⟩ := hT.sdict.form
        obtain ⟨nd, hld, hed⟩ := hT.dict.len2 (fun q hq => lk_self hq)
        obtain ⟨nsd, hls, hes⟩ := hT.sdict.len2 (fun q hq => sk_self hq)
        have c2 := hT.cells.2.2.1
        have c3 := hT.cells.2.2.2.1
        have c4 := hT.cells.2.2.2.2.1
        have hld : ∀ ty, (Builtin.len_ #[68] ty #[.map rd]).run Try.prog W = .ok (.int .i64 nd) W := fun ty => hld _ _ ty _ _ Try.underlying68
        have hls : ∀ ty, (Builtin.len_ #[69] ty #[.map rs]).run Try.prog W = .ok (.int .i64 nsd) W := fun ty => hls _ _ ty _ _ Try.underlying69
        by_cases hemp : nd = 0 ∧ nsd = 0
        · have hres := HN.out.none_next (hed.1 hemp.1) (hes.1 hemp.2)
          have HE := Lib.hid (HRR.out.trans hres)
          obtain ⟨rfl, rfl⟩ := hemp
          clear hT hed hes hrd hrs hres
          cases rd <;> cases rs
          all_goals
            go_wp2_with (simp only [hld, hls])
            go_ret2
            exact ⟨by rw [HE.out]; rfl, d, HW.out⟩
        · have hkn : T.keys.getD [] ≠ [] := fun hk => hemp ⟨hed.2 (HN.out.empty hk).1, hes.2 (HN.out.empty hk).2⟩
          obtain ⟨ks, hks⟩ : ∃ ks, T.keys = some ks := by
            cases hkk : T.keys with
            | none => exact absurd (by rw [hkk]; rfl) hkn
            | some ks => exact ⟨ks, rfl⟩
          have hk4 := hT.keys
          rw [hks] at hk4
          obtain ⟨g4, cap4, rfl, hcap4, hcm4, hcell4, -⟩ := hk4.cell
          obtain ⟨k0, hk0⟩ : ∃ k0, ks[0]? = some k0 := by
            rw [hks] at hkn
            cases ks with
            | nil => exact absurd rfl hkn
            | cons a l => exact ⟨a, rfl⟩
          have hc0 := hcell4 0 k0 hk0
          have ha0 : (T.keys.getD [])[0]? = some k0 := by rw [hks]; exact hk0
          have hkl : 0 < ks.length := (List.getElem?_eq_some_iff.1 hk0).1
          have hkl2 := HN.out.klen
          rw [hks] at hkl2
          simp only [Option.getD_some] at hkl2
          have hlk := HN.out.isk k0 (List.mem_of_getElem? ha0)
          have hlv := HN.out.hlv k0 hlk
          have C := Lib.hid (rawGetH_hv W t T F hT.at k0 hlk rfl)
          have HJ : Hid (∀ r, T.nextH 1 = r → CutN w T r k0 W) := Lib.hid fun r hr => by rw [HW.out]; exact HN.out.cut w ha0 r hr d
          have HA0 := Lib.hid ha0
          have hd0 : nd = 0 → nsd ≠ 0 := fun h1 h2 => hemp ⟨h1, h2⟩
          have hrd0 : rd = none → nd = 0 := fun h1 => hed.2 fun q hq => by rw [hrd.1 h1]; rfl
          have hrs0 : rs = none → nsd = 0 := fun h1 => hes.2 fun q hq => by rw [hrs.1 h1]; rfl
          generalize hu : T.hvD k0 = u at hlv C
          have HU := Lib.hid hu
          obtain ⟨t2, x2, rfl, ht2⟩ := lk_form hlk
          clear hT hed hes hrd hrs hk4 hks hkn hk0 ha0 hlk hu hcell4 hemp hcap4 hcm4
          have hcase : (∃ a, rd = some a ∧ nd ≠ 0) ∨ (∃ a, rd = some a ∧ nd = 0 ∧ ∃ b, rs = some b ∧ nsd ≠ 0) ∨ (rd = none ∧ ∃ b, rs = some b ∧ nsd ≠ 0) := by
            by_cases h0 : nd = 0
            · have h1 := hd0 h0
              cases rs with
              | none => exact absurd (hrs0 rfl) h1
              | some b => cases rd with
                | none => exact .inr (.inr ⟨rfl, b, rfl, h1⟩)
                | some a => exact .inr (.inl ⟨a, rfl, h0, b, rfl, h1⟩)
            · cases rd with
              | none => exact absurd (hrd0 rfl) h0
              | some a => exact .inl ⟨a, rfl, h0⟩
          clear hd0 hrd0 hrs0
          rcases hlv with rfl | ⟨tu, xu, rfl, hne⟩
          · have HM := Lib.hid (HJ.out r (by rw [HRR.out, nextH_nil HA0.out HU.out]))
            rcases hcase with ⟨a, rfl, h0⟩ | ⟨a, rfl, rfl, b, rfl, h1⟩ | ⟨rfl, b, rfl, h1⟩
            all_goals
              go_wp2_with (first
                | (simp only [hld, hls])
                | (go_at_call 26; refine C.out.mono ?_; rintro e w1 ⟨rfl, rfl⟩))
              go_meet
              case rel => exact HM.out
          · have HE := Lib.hid (HRR.out.trans (nextH_live HA0.out HU.out (LvOk.not_nil hne)))
            rcases hcase with ⟨a, rfl, h0⟩ | ⟨a, rfl, rfl, b, rfl, h1⟩ | ⟨rfl, b, rfl, h1⟩
            all_goals
              go_wp2_with (first
                | (simp only [hld, hls])
                | (go_at_call 26; refine C.out.mono ?_; rintro e w1 ⟨rfl, rfl⟩))
              go_ret2
              exact ⟨by rw [HE.out]; rfl, d, HW.out⟩
  case rest =>
    skip
    obtain ⟨j, ks, ki, hq, hks, hki, hkj, hjl, hr, d, rfl⟩ := hcut
    have hT := HT.out.drewN d
    have HTT := Lib.hid hT
    have HR := Lib.hid hr
    have HKS := Lib.hid hks
    have hkl := HN.out.klen
    rw [hks] at hkl
    simp only [Option.getD_some] at hkl
    have h4 := hT.keys
    rw [hks] at h4
    obtain ⟨g, cap, rfl, hcap, hcm, hcell, -⟩ := h4.cell
    have h5 := hT.k2i
    rw [hki] at h5
    obtain ⟨ri, rfl, hi⟩ := h5
    have c5 := hT.cells.2.2.2.2.2
    have c4 := hT.cells.2.2.2.2.1
    have HC := Lib.hid hcell
    have HQ := Lib.hid hq
    have HKJ := Lib.hid hkj
    have hxl : (ks.length : Int) ≤ 9223372036854775807 := by omega
    clear hT hr hks hki hkj h4 hcell hcap hcm
    obtain ⟨tq, xq, hqf, htq⟩ : ∃ tq xq, u1 = .iface tq xq ∧ tq ≠ 47 := lk_form hq
    subst hqf
    clear hq
    go_wp2_with (at_lookup; go_must (refine wpList_lookup1_mp lk_law rfl _ _ _ _ rfl Try.underlying70 (.int .i64 0) zero_int ri _ rfl hi _ rfl HQ.out (some (.int .i64 j)) HKJ.out ?_))
    go_loop [12] (fun v => ∃ i : Nat, i ≤ ks.length ∧ v = .int .i64 i ∧ Hid (T.nextH i = r)) (fun v => ks.length - (intOf v).toNat)
    case atStart => exact ⟨j + 1, by omega, by go_num, HR⟩
    case round =>
      obtain ⟨i, hil, rfl, hn⟩ := hrel
      by_cases hlt : (i : Int) < ks.length
      · obtain ⟨q2, hq2⟩ : ∃ q2, ks[i]? = some q2 := ⟨ks[i]'(by omega), by simp⟩
        have ha : (T.keys.getD [])[i]? = some q2 := by rw [HKS.out]; exact hq2
        have hl2 := HN.out.isk q2 (List.mem_of_getElem? ha)
        have hic := HC.out i q2 hq2
        have hlv := HN.out.hlv q2 hl2
        have HA := Lib.hid ha
        have C := Lib.hid (rawGetH_hv _ t T F HTT.out.at q2 hl2 rfl)
        generalize hu : T.hvD q2 = u at hlv C
        have HU := Lib.hid hu
        obtain ⟨t2, x2, rfl, ht2⟩ := lk_form hl2
        clear hq2 ha hl2 hu
        rcases hlv with rfl | ⟨tu, xu, rfl, hne⟩
        · go_wp2_with (go_at_call 26; refine C.out.mono ?_; rintro e w1 ⟨rfl, rfl⟩)
          go_round
          case rel => exact ⟨i + 1, by omega, by go_num, Lib.hid ((nextH_nil HA.out HU.out).symm.trans hn.out)⟩
          case measure => simp [intOf]; omega
        · go_wp2_with (go_at_call 26; refine C.out.mono ?_; rintro e w1 ⟨rfl, rfl⟩)
          go_ret2
          exact ⟨by rw [← hn.out, nextH_live HA.out HU.out (LvOk.not_nil hne)]; rfl, d, rfl⟩
      · go_wp2
        go_ret2
        exact ⟨by rw [← hn.out, nextH_end (by rw [HKS.out]; simp only [Option.getD_some]; omega)]; rfl, d, rfl⟩

end Go.Lua
