/-
  n005_96: FnRawGetIntAfterRawSetInt.
-/
import Derived.Test.YtbbdcoaicikddaaScript
namespace Go.Lua
open Go.Proofs Go.RowKit
set_option linter.unusedVariables false

set_option maxHeartbeats 2000000 in
theorem bytes_intAfter (w : World) (v0 : Value) (l0 : List Int) (h0 : IsInts .i64 w v0 l0) (v1 : Value) (l1 : List ByteArray) (h1 : IsStrs w v1 l1) (v2 : Value) (l2 : List Int) (h2 : IsInts .i64 w v2 l2) :
    Calls Try.prog 24 #[v0, v1, v2] w (YnIf (Hid (Shorts l1 l1.length)) w) := by
  have H1 := Lib.hid h1.2
  obtain ⟨p0, c0, e0, k0, m0, -, g0⟩ := h0.1.form
  obtain ⟨p1, c1, e1, k1, m1, -, g1⟩ := h1.1.form
  obtain ⟨p2, c2, e2, k2, m2, -, g2⟩ := h2.1.form
  simp only [List.length_map] at *
  unfold maxLen at *
  subst e0
  have q0 : (l0.length : Int) ≤ 9223372036854775807 := by omega
  clear g0 h0 k0 m0
  subst e1
  have G1 := Lib.hid g1
  have q1 : (l1.length : Int) ≤ 9223372036854775807 := by omega
  clear g1 h1 k1 m1
  subst e2
  have q2 : (l2.length : Int) ≤ 9223372036854775807 := by omega
  clear g2 h2 k2 m2
  go_enter Try.func24, Try.ntmps24
  go_wp2
  all_goals first | (go_ret; exact ⟨rfl, .inl rfl⟩) | skip
  go_loop [7, 8] (fun z i => ∃ (j : Nat) (n : Int), j ≤ l1.length ∧ i = .int .i64 j ∧ z = .int .i64 n ∧ 0 ≤ n ∧ n ≤ 1048576 ∧ Hid (Shorts l1 j)) (fun _ i => (l1.length - intOf i).toNat)
  case atStart =>
    refine ⟨0, _, Nat.zero_le _, rfl, rfl, ?_, ?_, Lib.hid (Shorts.zero _)⟩ <;> omega
  case round =>
    obtain ⟨j, n1, hj, rfl, rfl, hn0, hn1, HS1⟩ := hrel
    by_cases hlt : (j : Int) < l1.length
    · obtain ⟨s, ho⟩ : ∃ s, l1[j]? = some s := ⟨l1[j]'(by omega), by simp⟩
      obtain ⟨a, rfl, d0⟩ := G1.out j (.string s) (by simp [ho])
      have hz := (H1.out s (List.mem_of_getElem? ho))
      unfold maxLen at hz
      have HO := Lib.hid ho
      clear ho
      go_wp2
      all_goals first | (go_ret; exact ⟨rfl, .inl rfl⟩) | skip
      go_round
      case rel => exact ⟨j + 1, _, by omega, by go_num, rfl, by omega, by omega, Lib.hid (HS1.out.next HO.out (by omega))⟩
      case measure => exact meas (by omega)
    · have hje : j = l1.length := by omega
      subst hje
      go_wp2
      all_goals first | (go_ret; exact ⟨rfl, .inl rfl⟩) | skip
      all_goals (go_ret; first | exact ⟨rfl, .inr ⟨rfl, trivial⟩⟩ | exact ⟨rfl, .inr ⟨rfl, Lib.hid ⟨HS1.out⟩⟩⟩)


set_option maxRecDepth 100000 in
set_option maxHeartbeats 16000000 in
theorem intAfter_walk (w : World) (v0 : Value) (ks : List Int) (h0 : IsInts .i64 w v0 ks) (v1 : Value) (vs : List ByteArray) (h1 : IsStrs w v1 vs) (v2 : Value) (ps : List Int) (h2 : IsInts .i64 w v2 ps) :
    Calls Try.prog 5 #[v0, v1, v2] w (Fine w) := by
  have CB := Lib.hid (bytes_intAfter w v0 ks h0 v1 vs h1 v2 ps h2)
  have H0 := Lib.hid h0
  have H1 := Lib.hid h1
  have H2 := Lib.hid h2
  obtain ⟨p0, c0, e0, k0, m0, -, g0⟩ := h0.1.form
  obtain ⟨p1, c1, e1, k1, m1, -, g1⟩ := h1.1.form
  obtain ⟨p2, c2, e2, k2, m2, -, g2⟩ := h2.1.form
  simp only [List.length_map] at *
  unfold maxLen at m0 m1 m2
  subst e0
  subst e1
  subst e2
  have q0 : (ks.length : Int) ≤ 9223372036854775807 := by omega
  have q1 : (vs.length : Int) ≤ 9223372036854775807 := by omega
  have q2 : (ps.length : Int) ≤ 9223372036854775807 := by omega
  have G0 := Lib.hid g0
  have G1 := Lib.hid g1
  have G2 := Lib.hid g2
  clear g0 h0 k0 m0 g1 h1 k1 m1 g2 h2 k2 m2
  by_cases z0 : (4096 : Int) < ks.length
  · go_enter Try.func5, Try.ntmps5
    go_wp2_with (first
      | (go_at_call 24; refine CB.out.mono ?_; rintro e w1 ⟨rfl, rfl | ⟨rfl, HS⟩⟩))
    all_goals (go_ret; exact ⟨rfl, Below.refl _ _⟩)
  have y0 : decide ((4096 : Int) < ks.length) = false := by simpa using z0
  by_cases z1 : (4096 : Int) < vs.length
  · go_enter Try.func5, Try.ntmps5
    go_wp2_with (first
      | (go_at_call 24; refine CB.out.mono ?_; rintro e w1 ⟨rfl, rfl | ⟨rfl, HS⟩⟩))
    all_goals (go_ret; exact ⟨rfl, Below.refl _ _⟩)
  have y1 : decide ((4096 : Int) < vs.length) = false := by simpa using z1
  by_cases z2 : (4096 : Int) < ps.length
  · go_enter Try.func5, Try.ntmps5
    go_wp2_with (first
      | (go_at_call 24; refine CB.out.mono ?_; rintro e w1 ⟨rfl, rfl | ⟨rfl, HS⟩⟩))
    all_goals (go_ret; exact ⟨rfl, Below.refl _ _⟩)
  have y2 : decide ((4096 : Int) < ps.length) = false := by simpa using z2
  go_enter Try.func5, Try.ntmps5
  go_wp2_with (first
    | (go_at_call 24; refine CB.out.mono ?_; rintro e w1 ⟨rfl, rfl | ⟨rfl, HS⟩⟩)
    | (go_at_call 11; (with_reducible refine (strBytes_any _ _ vs H1.out HS (by omega)).mono ?_); rintro e w1 ⟨rfl, n1, hl1, hh1, rfl⟩)
    | (go_at_call 25; refine (anyBigInt_any _ _ _ H0.out (by omega)).mono ?_; rintro e w1 ⟨rfl, rfl | ⟨rfl, HF⟩⟩)
    | (go_at_call 12; refine (new_any _ _ _ (by omega) (by omega)).mono ?_; intro e w1 hf; obtain ⟨rfl, hR⟩ := Has.fresh hf; clear hf))
  all_goals first | (go_ret; exact ⟨rfl, Below.refl _ _⟩) | skip
  go_loopw [8] (ScW w w.heap.size ks.length (IntP ks vs)) (fun i _ => (ks.length - intOf i).toNat)
  case atStart => exact ⟨0, Nat.zero_le _, rfl, _, Ok.new _ _, IntP.start _ _ _ _, hR⟩
  case round =>
    clear hR
    obtain ⟨j, hj, rfl, T, hok, hP, hH⟩ := hrel
    by_cases hlt : (j : Int) < ks.length
    · obtain ⟨x, hx⟩ : ∃ x, ks[j]? = some x := ⟨ks[j]'(by omega), by simp⟩
      obtain ⟨a, rfl, hc0⟩ := G0.out j (.int .i64 x) (by simp [hx])
      have d0 := old_at hH.2 hc0
      have HP := Lib.hid (hP.step hx)
      have HOK := Lib.hid ((hok.setKey x (HF.out.at hx) (lvOk_sval (valAt vs j))).more (show 2 * j + 1 ≤ 2 * (j + 1) by omega))
      have CV := Lib.hid (still_of (valAt_any wr.drew _ vs ⟨H1.out.1.has hH.drew, H1.out.2⟩ j (by omega)))
      have CW := Lib.hid (still_of (value_any wr.drew (valAt vs j)))
      have D := Lib.hid (rawSetInt_key wr.drew _ T _ hH.drew.1 hok (by omega) x (sval (valAt vs j)) (lvOk_sval _))
      have HH := Lib.hid hH
      clear hx hc0 hP hok hH
      go_wp2_with fail
      refine wp_region_still_tail 9 (by kernel_rfl) (by kernel_rfl) ?_
      simp only [List.take_succ_cons, List.take_zero, List.drop_succ_cons, List.drop_zero]
      repeat still_step
      still_call CV.out
      still_call CW.out
      refine wpStill_nil ?_
      change wpList _ _ _ _ _ wr.drew
      go_wp2_with (first
        | (go_at_call 26; refine D.out.mono ?_; intro e w2 hu; obtain ⟨rfl, hR⟩ := HH.out.drew.step hu; clear hu))
      go_roundw
      case rel => exact ⟨j + 1, by omega, by go_num, _, HOK.out, HP.out, hR⟩
      case measure => exact meas (by omega)
    · have hje : j = ks.length := by omega
      subst hje
      have HG := Lib.hid hP
      have HO := Lib.hid hok
      clear hP hok
      go_wp2_with fail
      go_loopw [9] (RdW w w.heap.size T (ks.length + ps.length)) (fun i _ => (((ks.length + ps.length : Nat) : Int) - intOf i).toNat)
      case atStart => exact ⟨0, Nat.zero_le _, rfl, hH⟩
      case round =>
        clear hH
        obtain ⟨j, hj, rfl, hH⟩ := hrel
        by_cases hlt : (j : Int) < ks.length + ps.length
        · by_cases hk : (j : Int) < ks.length
          · obtain ⟨q, hq⟩ : ∃ q, ks[j]? = some q := ⟨ks[j]'(by omega), by simp⟩
            obtain ⟨a, rfl, hc0⟩ := G0.out j (.int .i64 q) (by simp [hq])
            have d0 := old_at hH.2 hc0
            have hq64 := is64_of_wf (H0.out.2 q (List.mem_of_getElem? hq))
            clear hq hc0
            have C3 := Lib.hid (lastInt_any wr _ ks ⟨H0.out.1.has hH, H0.out.2⟩ _ vs ⟨H1.out.1.has hH, H1.out.2⟩ q)
            have HH := Lib.hid hH
            by_cases i1 : 1 ≤ q
            · by_cases i2 : q < 67108864
              · have hv := HG.out q ⟨i1, i2⟩
                have C2 := rawGetInt_any wr w.heap.size T _ hH.1 q hq64
                rw [show getAt (T.arr.getD []) q = T.av q from rfl, hv] at C2
                have C2 := Lib.hid C2
                clear hH hv hq64
                go_wp2_with (first
                  | (go_at_call 27; refine C3.out.mono ?_; rintro e w3 ⟨rfl, rfl⟩)
                  | (go_at_call 28; refine C2.out.mono ?_; rintro e w2 ⟨rfl, rfl⟩)
                  | (go_at_call 19; refine (is_yes _ _).mono ?_; rintro e w4 ⟨rfl, rfl⟩))
                go_roundw
                case rel => exact ⟨j + 1, by omega, by go_num, HH.out⟩
                case measure => exact meas (by omega)
              · have i3 : decide (q < 67108864) = false := by simpa using i2
                have hv : T.av q = lnil := HO.out.av_out (fun h => i2 h.2)
                have C2 := rawGetInt_any wr w.heap.size T _ hH.1 q hq64
                rw [show getAt (T.arr.getD []) q = T.av q from rfl, hv, ← sval_nos] at C2
                have C2 := Lib.hid C2
                clear hH hv hq64
                go_wp2_with (first
                  | (go_at_call 28; refine C2.out.mono ?_; rintro e w2 ⟨rfl, rfl⟩)
                  | (go_at_call 19; refine (is_yes _ nos).mono ?_; rintro e w4 ⟨rfl, rfl⟩))
                go_roundw
                case rel => exact ⟨j + 1, by omega, by go_num, HH.out⟩
                case measure => exact meas (by omega)
            · have i3 : decide (1 ≤ q) = false := by simpa using i1
              have hv : T.av q = lnil := HO.out.av_out (fun h => i1 h.1)
              have C2 := rawGetInt_any wr w.heap.size T _ hH.1 q hq64
              rw [show getAt (T.arr.getD []) q = T.av q from rfl, hv, ← sval_nos] at C2
              have C2 := Lib.hid C2
              clear hH hv hq64
              go_wp2_with (first
                | (go_at_call 28; refine C2.out.mono ?_; rintro e w2 ⟨rfl, rfl⟩)
                | (go_at_call 19; refine (is_yes _ nos).mono ?_; rintro e w4 ⟨rfl, rfl⟩))
              go_roundw
              case rel => exact ⟨j + 1, by omega, by go_num, HH.out⟩
              case measure => exact meas (by omega)
          · obtain ⟨jj, hjj⟩ : ∃ jj : Nat, (j : Int) - ks.length = jj := ⟨j - ks.length, by omega⟩
            have hjl : (jj : Int) < ps.length := by omega
            obtain ⟨q, hq⟩ : ∃ q, ps[jj]? = some q := ⟨ps[jj]'(by omega), by simp⟩
            obtain ⟨a, rfl, hc0⟩ := G2.out jj (.int .i64 q) (by simp [hq])
            have d0 := old_at hH.2 hc0
            have hq64 := is64_of_wf (H2.out.2 q (List.mem_of_getElem? hq))
            clear hq hc0
            have C3 := Lib.hid (lastInt_any wr _ ks ⟨H0.out.1.has hH, H0.out.2⟩ _ vs ⟨H1.out.1.has hH, H1.out.2⟩ q)
            have HH := Lib.hid hH
            by_cases i1 : 1 ≤ q
            · by_cases i2 : q < 67108864
              · have hv := HG.out q ⟨i1, i2⟩
                have C2 := rawGetInt_any wr w.heap.size T _ hH.1 q hq64
                rw [show getAt (T.arr.getD []) q = T.av q from rfl, hv] at C2
                have C2 := Lib.hid C2
                clear hH hv hq64
                go_wp2_with (first
                  | (go_at_call 27; refine C3.out.mono ?_; rintro e w3 ⟨rfl, rfl⟩)
                  | (go_at_call 28; refine C2.out.mono ?_; rintro e w2 ⟨rfl, rfl⟩)
                  | (go_at_call 19; refine (is_yes _ _).mono ?_; rintro e w4 ⟨rfl, rfl⟩))
                go_roundw
                case rel => exact ⟨j + 1, by omega, by go_num, HH.out⟩
                case measure => exact meas (by omega)
              · have i3 : decide (q < 67108864) = false := by simpa using i2
                have hv : T.av q = lnil := HO.out.av_out (fun h => i2 h.2)
                have C2 := rawGetInt_any wr w.heap.size T _ hH.1 q hq64
                rw [show getAt (T.arr.getD []) q = T.av q from rfl, hv, ← sval_nos] at C2
                have C2 := Lib.hid C2
                clear hH hv hq64
                go_wp2_with (first
                  | (go_at_call 28; refine C2.out.mono ?_; rintro e w2 ⟨rfl, rfl⟩)
                  | (go_at_call 19; refine (is_yes _ nos).mono ?_; rintro e w4 ⟨rfl, rfl⟩))
                go_roundw
                case rel => exact ⟨j + 1, by omega, by go_num, HH.out⟩
                case measure => exact meas (by omega)
            · have i3 : decide (1 ≤ q) = false := by simpa using i1
              have hv : T.av q = lnil := HO.out.av_out (fun h => i1 h.1)
              have C2 := rawGetInt_any wr w.heap.size T _ hH.1 q hq64
              rw [show getAt (T.arr.getD []) q = T.av q from rfl, hv, ← sval_nos] at C2
              have C2 := Lib.hid C2
              clear hH hv hq64
              go_wp2_with (first
                | (go_at_call 28; refine C2.out.mono ?_; rintro e w2 ⟨rfl, rfl⟩)
                | (go_at_call 19; refine (is_yes _ nos).mono ?_; rintro e w4 ⟨rfl, rfl⟩))
              go_roundw
              case rel => exact ⟨j + 1, by omega, by go_num, HH.out⟩
              case measure => exact meas (by omega)
        · have HB := Lib.hid (none_below hH.2)
          clear hH
          go_wp2
          go_ret
          exact ⟨rfl, HB.out⟩
end Go.Lua
