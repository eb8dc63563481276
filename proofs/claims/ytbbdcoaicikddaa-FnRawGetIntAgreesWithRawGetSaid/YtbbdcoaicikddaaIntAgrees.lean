/-
  n005_96: FnRawGetIntAgreesWithRawGet.
-/
import Derived.Test.YtbbdcoaicikddaaScript
namespace Go.Lua
open Go.Proofs Go.RowKit
set_option linter.unusedVariables false

set_option maxHeartbeats 2000000 in
theorem bytes_intAgrees (w : World) (v0 : Value) (l0 : List Nat) (h0 : IsFloats w v0 l0) (v1 : Value) (l1 : List ByteArray) (h1 : IsStrs w v1 l1) (v2 : Value) (l2 : List Int) (h2 : IsInts .i64 w v2 l2) :
    Calls Try.prog 34 #[v0, v1, v2] w (YnIf (Hid (Shorts l1 l1.length)) w) := by
  have H1 := Lib.hid h1.2
  obtain ⟨p0, c0, e0, k0, m0, -, g0⟩ := h0.1.form
  obtain ⟨p1, c1, e1, k1, m1, -, g1⟩ := h1.1.form
  obtain ⟨p2, c2, e2, k2, m2, -, g2⟩ := h2.1.form
  simp only [List.length_map] at *
  unfold maxLen at *
  subst e0
  have q0 : (l0.length : Int) ≤ 9223372036854775807 := by omega
  clear g0 h0 k0 m0
  subst e1
  have G1 := Lib.hid g1
  have q1 : (l1.length : Int) ≤ 9223372036854775807 := by omega
  clear g1 h1 k1 m1
  subst e2
  have q2 : (l2.length : Int) ≤ 9223372036854775807 := by omega
  clear g2 h2 k2 m2
  go_enter Try.func34, Try.ntmps34
  go_wp2
  all_goals first | (go_ret; exact ⟨rfl, .inl rfl⟩) | skip
  go_loop [7, 8] (fun z i => ∃ (j : Nat) (n : Int), j ≤ l1.length ∧ i = .int .i64 j ∧ z = .int .i64 n ∧ 0 ≤ n ∧ n ≤ 1048576 ∧ Hid (Shorts l1 j)) (fun _ i => (l1.length - intOf i).toNat)
  case atStart =>
    refine ⟨0, _, Nat.zero_le _, rfl, rfl, ?_, ?_, Lib.hid (Shorts.zero _)⟩ <;> omega
  case round =>
    obtain ⟨j, n1, hj, rfl, rfl, hn0, hn1, HS1⟩ := hrel
    by_cases hlt : (j : Int) < l1.length
    · obtain ⟨s, ho⟩ : ∃ s, l1[j]? = some s := ⟨l1[j]'(by omega), by simp⟩
      obtain ⟨a, rfl, d0⟩ := G1.out j (.string s) (by simp [ho])
      have hz := (H1.out s (List.mem_of_getElem? ho))
      unfold maxLen at hz
      have HO := Lib.hid ho
      clear ho
      go_wp2
      all_goals first | (go_ret; exact ⟨rfl, .inl rfl⟩) | skip
      go_round
      case rel => exact ⟨j + 1, _, by omega, by go_num, rfl, by omega, by omega, Lib.hid (HS1.out.next HO.out (by omega))⟩
      case measure => exact meas (by omega)
    · have hje : j = l1.length := by omega
      subst hje
      go_wp2
      all_goals first | (go_ret; exact ⟨rfl, .inl rfl⟩) | skip
      all_goals (go_ret; first | exact ⟨rfl, .inr ⟨rfl, trivial⟩⟩ | exact ⟨rfl, .inr ⟨rfl, Lib.hid ⟨HS1.out⟩⟩⟩)


set_option maxRecDepth 100000 in
set_option maxHeartbeats 16000000 in
theorem intAgrees_walk (w : World) (v0 : Value) (ks : List Nat) (h0 : IsFloats w v0 ks) (v1 : Value) (vs : List ByteArray) (h1 : IsStrs w v1 vs) (v2 : Value) (ps : List Int) (h2 : IsInts .i64 w v2 ps) :
    Calls Try.prog 8 #[v0, v1, v2] w (Fine w) := by
  have CB := Lib.hid (bytes_intAgrees w v0 ks h0 v1 vs h1 v2 ps h2)
  have H0 := Lib.hid h0
  have H1 := Lib.hid h1
  have H2 := Lib.hid h2
  obtain ⟨p0, c0, e0, k0, m0, -, g0⟩ := h0.1.form
  obtain ⟨p1, c1, e1, k1, m1, -, g1⟩ := h1.1.form
  obtain ⟨p2, c2, e2, k2, m2, -, g2⟩ := h2.1.form
  simp only [List.length_map] at *
  unfold maxLen at m0 m1 m2
  subst e0
  subst e1
  subst e2
  have q0 : (ks.length : Int) ≤ 9223372036854775807 := by omega
  have q1 : (vs.length : Int) ≤ 9223372036854775807 := by omega
  have q2 : (ps.length : Int) ≤ 9223372036854775807 := by omega
  have G0 := Lib.hid g0
  have G1 := Lib.hid g1
  have G2 := Lib.hid g2
  clear g0 h0 k0 m0 g1 h1 k1 m1 g2 h2 k2 m2
  by_cases z0 : (4096 : Int) < ks.length
  · go_enter Try.func8, Try.ntmps8
    go_wp2_with (first
      | (go_at_call 34; refine CB.out.mono ?_; rintro e w1 ⟨rfl, rfl | ⟨rfl, HS⟩⟩))
    all_goals (go_ret; exact ⟨rfl, Below.refl _ _⟩)
  have y0 : decide ((4096 : Int) < ks.length) = false := by simpa using z0
  by_cases z1 : (4096 : Int) < vs.length
  · go_enter Try.func8, Try.ntmps8
    go_wp2_with (first
      | (go_at_call 34; refine CB.out.mono ?_; rintro e w1 ⟨rfl, rfl | ⟨rfl, HS⟩⟩))
    all_goals (go_ret; exact ⟨rfl, Below.refl _ _⟩)
  have y1 : decide ((4096 : Int) < vs.length) = false := by simpa using z1
  by_cases z2 : (4096 : Int) < ps.length
  · go_enter Try.func8, Try.ntmps8
    go_wp2_with (first
      | (go_at_call 34; refine CB.out.mono ?_; rintro e w1 ⟨rfl, rfl | ⟨rfl, HS⟩⟩))
    all_goals (go_ret; exact ⟨rfl, Below.refl _ _⟩)
  have y2 : decide ((4096 : Int) < ps.length) = false := by simpa using z2
  go_enter Try.func8, Try.ntmps8
  go_wp2_with (first
    | (go_at_call 34; refine CB.out.mono ?_; rintro e w1 ⟨rfl, rfl | ⟨rfl, HS⟩⟩)
    | (go_at_call 11; (with_reducible refine (strBytes_any _ _ vs H1.out HS (by omega)).mono ?_); rintro e w1 ⟨rfl, n1, hl1, hh1, rfl⟩)
    | (go_at_call 22; refine (anyBig_any _ _ _ H0.out (by omega)).mono ?_; rintro e w1 ⟨rfl, rfl | ⟨rfl, HF⟩⟩)
    | (go_at_call 12; refine (new_any _ _ _ (by omega) (by omega)).mono ?_; intro e w1 hf; obtain ⟨rfl, hR⟩ := Has.fresh hf; clear hf))
  all_goals first | (go_ret; exact ⟨rfl, Below.refl _ _⟩) | skip
  go_loopw [8] (ScW w w.heap.size ks.length (NumP Tab.fv ks vs)) (fun i _ => (ks.length - intOf i).toNat)
  case atStart => exact ⟨0, Nat.zero_le _, rfl, _, Ok.new _ _, NumP.start _ _ _ (fv_new _ _) _ _, hR⟩
  case round =>
    clear hR
    obtain ⟨j, hj, rfl, T, hok, hP, hH⟩ := hrel
    by_cases hlt : (j : Int) < ks.length
    · obtain ⟨x, hx⟩ : ∃ x, ks[j]? = some x := ⟨ks[j]'(by omega), by simp⟩
      obtain ⟨a, rfl, hc0⟩ := G0.out j (.float .f64 x) (by simp [hx])
      have d0 := old_at hH.2 hc0
      have HP := Lib.hid (hP.step (T' := T.setFlt x (sval (valAt vs j))) hx (fun q => fv_setFlt T x (lvOk_sval _) q))
      have HOK := Lib.hid ((hok.setFlt (HF.out.at hx) (lvOk_sval (valAt vs j))).more (show 2 * j + 1 ≤ 2 * (j + 1) by omega))
      have CV := Lib.hid (still_of (valAt_any wr.drew _ vs ⟨H1.out.1.has hH.drew, H1.out.2⟩ j (by omega)))
      have CW := Lib.hid (still_of (value_any wr.drew (valAt vs j)))
      have D := Lib.hid (rawSet_flt wr.drew _ T _ hH.drew.1 hok (by omega) x (sval (valAt vs j)) (lvOk_sval _))
      have HH := Lib.hid hH
      clear hx hc0 hP hok hH
      go_wp2_with fail
      refine wp_region_still_tail 10 (by kernel_rfl) (by kernel_rfl) ?_
      simp only [List.take_succ_cons, List.take_zero, List.drop_succ_cons, List.drop_zero]
      repeat still_step
      still_call CV.out
      still_call CW.out
      refine wpStill_nil ?_
      change wpList _ _ _ _ _ wr.drew
      go_wp2_with (first
        | (go_at_call 23; refine D.out.mono ?_; intro e w2 hu; obtain ⟨rfl, hR⟩ := HH.out.drew.step hu; clear hu))
      go_roundw
      case rel => exact ⟨j + 1, by omega, by go_num, _, HOK.out, HP.out, hR⟩
      case measure => exact meas (by omega)
    · have hje : j = ks.length := by omega
      subst hje
      have HG := Lib.hid (fun q => hP.end (Nat.le_refl _) q)
      have HO := Lib.hid hok
      clear hP hok
      go_wp2_with fail
      go_loopw [9] (RdW w w.heap.size T (ks.length + ps.length)) (fun i _ => (((ks.length + ps.length : Nat) : Int) - intOf i).toNat)
      case atStart => exact ⟨0, Nat.zero_le _, rfl, hH⟩
      case round =>
        clear hH
        obtain ⟨j, hj, rfl, hH⟩ := hrel
        by_cases hlt : (j : Int) < ks.length + ps.length
        · by_cases hk : (j : Int) < ks.length
          · obtain ⟨x, hx⟩ : ∃ x, ks[j]? = some x := ⟨ks[j]'(by omega), by simp⟩
            obtain ⟨a, rfl, hc0⟩ := G0.out j (.float .f64 x) (by simp [hx])
            have d0 := old_at hH.2 hc0
            clear hx hc0
            have f5 : ∀ w : World, w = w := fun w => rfl
            have HH := Lib.hid hH
            have hf := range_cases x
            rw [← order_gt x 14069245235905429504, ← order_eq x 14069245235905429504, ← order_lt x 4845873199050653696, ← order_eq x 4845873199050653696] at hf
            rcases hf with ⟨f1, f2⟩ | ⟨f1, f2, f3⟩ | ⟨f1, f2, q, hq64, f6, f7⟩
            · clear hH f5
              go_wp2
              go_roundw
              case rel => exact ⟨j + 1, by omega, by go_num, HH.out⟩
              case measure => exact meas (by omega)
            · clear hH f5
              go_wp2
              go_roundw
              case rel => exact ⟨j + 1, by omega, by go_num, HH.out⟩
              case measure => exact meas (by omega)
            · clear f5
              have f5 := f6
              clear f6
              have f8 := hq64
              unfold Is64 at f8
              obtain ⟨f9, f10⟩ := f8
              by_cases he : feq (fofInt q) x = true
              · rw [← order_eq] at he
                have he : (FloatKind.f64.format.order (floatOfInt .f64 q) x == some .eq) = true := he
                have hne : (FloatKind.f64.format.order (floatOfInt .f64 q) x != some .eq) = false := by unfold bne; rw [he]; rfl
                clear HH he
                have C2 : Calls Try.prog 20 #[.pointer (some ⟨w.heap.size, 0, none⟩), .iface 30 (.float .f64 (floatOfInt .f64 q))] wr (Tells wr (T.fv (fofInt q))) := rawGet_num wr w.heap.size T _ hH.1 (fofInt q)
                have hst := HG.out (fofInt q)
                rw [hst] at C2
                have C2 := Lib.hid C2
                have C3 : Calls Try.prog 18 #[.slice (some a) ks.length c0, .slice p1 vs.length c1, .float .f64 (floatOfInt .f64 q)] wr fun e w' => e = .returned (.string (lastN ks vs (fofInt q) ks.length)) ∧ wr = w' := lastNum_any wr _ ks ⟨H0.out.1.has hH, H0.out.2⟩ _ vs ⟨H1.out.1.has hH, H1.out.2⟩ (fofInt q)
                have HH := Lib.hid hH
                have hO := HO.out
                by_cases i1 : 1 ≤ q
                · by_cases i2 : q < 67108864
                  · have hv : T.av q = sval (lastN ks vs (fofInt q) ks.length) := by
                      rw [← hst]
                      unfold Tab.fv
                      rw [if_pos (arrKey_in ⟨i1, i2⟩).1, (arrKey_in ⟨i1, i2⟩).2]
                    have C5 := fun d => rawGetInt_any (wr.drewN d) w.heap.size T _ (hH.drewN d).1 q hq64
                    rw [show getAt (T.arr.getD []) q = T.av q from rfl, hv] at C5
                    generalize lastN ks vs (fofInt q) ks.length = sv at C2 C3 C5
                    have C3 := Lib.hid C3
                    have C5 := Lib.hid C5
                    clear hH hv hq64 hst hO
                    go_wp2_with (first
                      | (simp only [f5])
                      | (go_at_call 18; refine C3.out.mono ?_; rintro e w3 ⟨rfl, rfl⟩)
                      | (go_at_call 20; refine C2.out.mono ?_; rintro e w2 ⟨rfl, d, rfl⟩)
                      | (go_at_call 28; refine (C5.out _).mono ?_; rintro e w2 ⟨rfl, rfl⟩)
                      | (go_at_call 19; refine (is_yes _ _).mono ?_; rintro e w4 ⟨rfl, rfl⟩))
                    go_roundw
                    case rel => exact ⟨j + 1, by omega, by go_num, HH.out.drewN _⟩
                    case measure => exact meas (by omega)
                  · have i3 : decide (q < 67108864) = false := by simpa using i2
                    have hv : T.av q = lnil := hO.av_out (fun h => i2 h.2)
                    have C5 := fun d => rawGetInt_any (wr.drewN d) w.heap.size T _ (hH.drewN d).1 q hq64
                    rw [show getAt (T.arr.getD []) q = T.av q from rfl, hv, ← sval_nos] at C5
                    generalize lastN ks vs (fofInt q) ks.length = sv at C2 C3
                    have C3 := Lib.hid C3
                    have C5 := Lib.hid C5
                    clear hH hv hq64 hst hO
                    go_wp2_with (first
                      | (simp only [f5])
                      | (go_at_call 18; refine C3.out.mono ?_; rintro e w3 ⟨rfl, rfl⟩)
                      | (go_at_call 20; refine C2.out.mono ?_; rintro e w2 ⟨rfl, d, rfl⟩)
                      | (go_at_call 28; refine (C5.out _).mono ?_; rintro e w2 ⟨rfl, rfl⟩)
                      | (go_at_call 19; (with_reducible refine (is_yes _ _).mono ?_); rintro e w4 ⟨rfl, rfl⟩)
                      | (go_at_call 19; refine (is_yes _ nos).mono ?_; rintro e w4 ⟨rfl, rfl⟩))
                    go_roundw
                    case rel => exact ⟨j + 1, by omega, by go_num, HH.out.drewN _⟩
                    case measure => exact meas (by omega)
                · have i3 : decide (1 ≤ q) = false := by simpa using i1
                  have hv : T.av q = lnil := hO.av_out (fun h => i1 h.1)
                  have C5 := fun d => rawGetInt_any (wr.drewN d) w.heap.size T _ (hH.drewN d).1 q hq64
                  rw [show getAt (T.arr.getD []) q = T.av q from rfl, hv, ← sval_nos] at C5
                  generalize lastN ks vs (fofInt q) ks.length = sv at C2 C3
                  have C3 := Lib.hid C3
                  have C5 := Lib.hid C5
                  clear hH hv hq64 hst hO
                  go_wp2_with (first
                    | (simp only [f5])
                    | (go_at_call 18; refine C3.out.mono ?_; rintro e w3 ⟨rfl, rfl⟩)
                    | (go_at_call 20; refine C2.out.mono ?_; rintro e w2 ⟨rfl, d, rfl⟩)
                    | (go_at_call 28; refine (C5.out _).mono ?_; rintro e w2 ⟨rfl, rfl⟩)
                    | (go_at_call 19; (with_reducible refine (is_yes _ _).mono ?_); rintro e w4 ⟨rfl, rfl⟩)
                    | (go_at_call 19; refine (is_yes _ nos).mono ?_; rintro e w4 ⟨rfl, rfl⟩))
                  go_roundw
                  case rel => exact ⟨j + 1, by omega, by go_num, HH.out.drewN _⟩
                  case measure => exact meas (by omega)
              · rw [Bool.not_eq_true, ← order_eq] at he
                have he : (FloatKind.f64.format.order (floatOfInt .f64 q) x == some .eq) = false := he
                have hne : (FloatKind.f64.format.order (floatOfInt .f64 q) x != some .eq) = true := by unfold bne; rw [he]; rfl
                clear hH he
                go_wp2_with (simp only [f5])
                go_roundw
                case rel => exact ⟨j + 1, by omega, by go_num, HH.out⟩
                case measure => exact meas (by omega)
          · obtain ⟨jj, hjj⟩ : ∃ jj : Nat, (j : Int) - ks.length = jj := ⟨j - ks.length, by omega⟩
            have hjl : (jj : Int) < ps.length := by omega
            obtain ⟨q, hq⟩ : ∃ q, ps[jj]? = some q := ⟨ps[jj]'(by omega), by simp⟩
            obtain ⟨a, rfl, hc0⟩ := G2.out jj (.int .i64 q) (by simp [hq])
            have d0 := old_at hH.2 hc0
            have hq64 := is64_of_wf (H2.out.2 q (List.mem_of_getElem? hq))
            have f8 := hq64
            unfold Is64 at f8
            obtain ⟨f9, f10⟩ := f8
            clear hq hc0
            have C2 : Calls Try.prog 20 #[.pointer (some ⟨w.heap.size, 0, none⟩), .iface 30 (.float .f64 (floatOfInt .f64 q))] wr (Tells wr (T.fv (fofInt q))) := rawGet_num wr w.heap.size T _ hH.1 (fofInt q)
            have hst := HG.out (fofInt q)
            rw [hst] at C2
            have C2 := Lib.hid C2
            have C3 : Calls Try.prog 18 #[.slice p0 ks.length c0, .slice p1 vs.length c1, .float .f64 (floatOfInt .f64 q)] wr fun e w' => e = .returned (.string (lastN ks vs (fofInt q) ks.length)) ∧ wr = w' := lastNum_any wr _ ks ⟨H0.out.1.has hH, H0.out.2⟩ _ vs ⟨H1.out.1.has hH, H1.out.2⟩ (fofInt q)
            have HH := Lib.hid hH
            have hO := HO.out
            by_cases i1 : 1 ≤ q
            · by_cases i2 : q < 67108864
              · have hv : T.av q = sval (lastN ks vs (fofInt q) ks.length) := by
                  rw [← hst]
                  unfold Tab.fv
                  rw [if_pos (arrKey_in ⟨i1, i2⟩).1, (arrKey_in ⟨i1, i2⟩).2]
                have C5 := fun d => rawGetInt_any (wr.drewN d) w.heap.size T _ (hH.drewN d).1 q hq64
                rw [show getAt (T.arr.getD []) q = T.av q from rfl, hv] at C5
                generalize lastN ks vs (fofInt q) ks.length = sv at C2 C3 C5
                have C3 := Lib.hid C3
                have C5 := Lib.hid C5
                clear hH hv hq64 hst hO
                go_wp2_with (first
                  | (go_at_call 18; refine C3.out.mono ?_; rintro e w3 ⟨rfl, rfl⟩)
                  | (go_at_call 20; refine C2.out.mono ?_; rintro e w2 ⟨rfl, d, rfl⟩)
                  | (go_at_call 28; refine (C5.out _).mono ?_; rintro e w2 ⟨rfl, rfl⟩)
                  | (go_at_call 19; refine (is_yes _ _).mono ?_; rintro e w4 ⟨rfl, rfl⟩))
                go_roundw
                case rel => exact ⟨j + 1, by omega, by go_num, HH.out.drewN _⟩
                case measure => exact meas (by omega)
              · have i3 : decide (q < 67108864) = false := by simpa using i2
                have hv : T.av q = lnil := hO.av_out (fun h => i2 h.2)
                have C5 := fun d => rawGetInt_any (wr.drewN d) w.heap.size T _ (hH.drewN d).1 q hq64
                rw [show getAt (T.arr.getD []) q = T.av q from rfl, hv, ← sval_nos] at C5
                generalize lastN ks vs (fofInt q) ks.length = sv at C2 C3
                have C3 := Lib.hid C3
                have C5 := Lib.hid C5
                clear hH hv hq64 hst hO
                go_wp2_with (first
                  | (go_at_call 18; refine C3.out.mono ?_; rintro e w3 ⟨rfl, rfl⟩)
                  | (go_at_call 20; refine C2.out.mono ?_; rintro e w2 ⟨rfl, d, rfl⟩)
                  | (go_at_call 28; refine (C5.out _).mono ?_; rintro e w2 ⟨rfl, rfl⟩)
                  | (go_at_call 19; (with_reducible refine (is_yes _ _).mono ?_); rintro e w4 ⟨rfl, rfl⟩)
                  | (go_at_call 19; refine (is_yes _ nos).mono ?_; rintro e w4 ⟨rfl, rfl⟩))
                go_roundw
                case rel => exact ⟨j + 1, by omega, by go_num, HH.out.drewN _⟩
                case measure => exact meas (by omega)
            · have i3 : decide (1 ≤ q) = false := by simpa using i1
              have hv : T.av q = lnil := hO.av_out (fun h => i1 h.1)
              have C5 := fun d => rawGetInt_any (wr.drewN d) w.heap.size T _ (hH.drewN d).1 q hq64
              rw [show getAt (T.arr.getD []) q = T.av q from rfl, hv, ← sval_nos] at C5
              generalize lastN ks vs (fofInt q) ks.length = sv at C2 C3
              have C3 := Lib.hid C3
              have C5 := Lib.hid C5
              clear hH hv hq64 hst hO
              go_wp2_with (first
                | (go_at_call 18; refine C3.out.mono ?_; rintro e w3 ⟨rfl, rfl⟩)
                | (go_at_call 20; refine C2.out.mono ?_; rintro e w2 ⟨rfl, d, rfl⟩)
                | (go_at_call 28; refine (C5.out _).mono ?_; rintro e w2 ⟨rfl, rfl⟩)
                | (go_at_call 19; (with_reducible refine (is_yes _ _).mono ?_); rintro e w4 ⟨rfl, rfl⟩)
                | (go_at_call 19; refine (is_yes _ nos).mono ?_; rintro e w4 ⟨rfl, rfl⟩))
              go_roundw
              case rel => exact ⟨j + 1, by omega, by go_num, HH.out.drewN _⟩
              case measure => exact meas (by omega)
        · have HB := Lib.hid (none_below hH.2)
          clear hH
          go_wp2
          go_ret
          exact ⟨rfl, HB.out⟩
end Go.Lua
