/-
  n005_96: FnRawGetHAgreesWithRawGet.
-/
import Derived.Test.YtbbdcoaicikddaaScript
namespace Go.Lua
open Go.Proofs Go.RowKit
set_option linter.unusedVariables false

set_option maxHeartbeats 2000000 in
theorem bytes_hAgrees (w : World) (v0 : Value) (l0 : List Nat) (h0 : IsFloats w v0 l0) (v1 : Value) (l1 : List ByteArray) (h1 : IsStrs w v1 l1) (v2 : Value) (l2 : List ByteArray) (h2 : IsStrs w v2 l2) (v3 : Value) (l3 : List ByteArray) (h3 : IsStrs w v3 l3) (v4 : Value) (l4 : List Nat) (h4 : IsFloats w v4 l4) (v5 : Value) (l5 : List ByteArray) (h5 : IsStrs w v5 l5) :
    Calls Try.prog 35 #[v0, v1, v2, v3, v4, v5] w (YnIf (Hid (Shorts l1 l1.length ∧ Shorts l2 l2.length ∧ Shorts l3 l3.length ∧ Shorts l5 l5.length)) w) := by
  have H1 := Lib.hid h1.2
  have H2 := Lib.hid h2.2
  have H3 := Lib.hid h3.2
  have H5 := Lib.hid h5.2
  obtain ⟨p0, c0, e0, k0, m0, -, g0⟩ := h0.1.form
  obtain ⟨p1, c1, e1, k1, m1, -, g1⟩ := h1.1.form
  obtain ⟨p2, c2, e2, k2, m2, -, g2⟩ := h2.1.form
  obtain ⟨p3, c3, e3, k3, m3, -, g3⟩ := h3.1.form
  obtain ⟨p4, c4, e4, k4, m4, -, g4⟩ := h4.1.form
  obtain ⟨p5, c5, e5, k5, m5, -, g5⟩ := h5.1.form
  simp only [List.length_map] at *
  unfold maxLen at *
  subst e0
  have q0 : (l0.length : Int) ≤ 9223372036854775807 := by omega
  clear g0 h0 k0 m0
  subst e1
  have G1 := Lib.hid g1
  have q1 : (l1.length : Int) ≤ 9223372036854775807 := by omega
  clear g1 h1 k1 m1
  subst e2
  have G2 := Lib.hid g2
  have q2 : (l2.length : Int) ≤ 9223372036854775807 := by omega
  clear g2 h2 k2 m2
  subst e3
  have G3 := Lib.hid g3
  have q3 : (l3.length : Int) ≤ 9223372036854775807 := by omega
  clear g3 h3 k3 m3
  subst e4
  have q4 : (l4.length : Int) ≤ 9223372036854775807 := by omega
  clear g4 h4 k4 m4
  subst e5
  have G5 := Lib.hid g5
  have q5 : (l5.length : Int) ≤ 9223372036854775807 := by omega
  clear g5 h5 k5 m5
  go_enter Try.func35, Try.ntmps35
  go_wp2
  all_goals first | (go_ret; exact ⟨rfl, .inl rfl⟩) | skip
  go_loop [13, 14] (fun z i => ∃ (j : Nat) (n : Int), j ≤ l1.length ∧ i = .int .i64 j ∧ z = .int .i64 n ∧ 0 ≤ n ∧ n ≤ 1048576 ∧ Hid (Shorts l1 j)) (fun _ i => (l1.length - intOf i).toNat)
  case atStart =>
    refine ⟨0, _, Nat.zero_le _, rfl, rfl, ?_, ?_, Lib.hid (Shorts.zero _)⟩ <;> omega
  case round =>
    obtain ⟨j, n1, hj, rfl, rfl, hn0, hn1, HS1⟩ := hrel
    by_cases hlt : (j : Int) < l1.length
    · obtain ⟨s, ho⟩ : ∃ s, l1[j]? = some s := ⟨l1[j]'(by omega), by simp⟩
      obtain ⟨a, rfl, d0⟩ := G1.out j (.string s) (by simp [ho])
      have hz := (H1.out s (List.mem_of_getElem? ho))
      unfold maxLen at hz
      have HO := Lib.hid ho
      clear ho
      go_wp2
      all_goals first | (go_ret; exact ⟨rfl, .inl rfl⟩) | skip
      go_round
      case rel => exact ⟨j + 1, _, by omega, by go_num, rfl, by omega, by omega, Lib.hid (HS1.out.next HO.out (by omega))⟩
      case measure => exact meas (by omega)
    · have hje : j = l1.length := by omega
      subst hje
      go_wp2
      all_goals first | (go_ret; exact ⟨rfl, .inl rfl⟩) | skip
      go_loop [13, 15] (fun z i => ∃ (j : Nat) (n : Int), j ≤ l2.length ∧ i = .int .i64 j ∧ z = .int .i64 n ∧ 0 ≤ n ∧ n ≤ 1048576 ∧ Hid (Shorts l2 j)) (fun _ i => (l2.length - intOf i).toNat)
      case atStart =>
        refine ⟨0, _, Nat.zero_le _, rfl, rfl, ?_, ?_, Lib.hid (Shorts.zero _)⟩ <;> omega
      case round =>
        obtain ⟨j, n2, hj, rfl, rfl, hn0, hn1, HS2⟩ := hrel
        by_cases hlt : (j : Int) < l2.length
        · obtain ⟨s, ho⟩ : ∃ s, l2[j]? = some s := ⟨l2[j]'(by omega), by simp⟩
          obtain ⟨a, rfl, d0⟩ := G2.out j (.string s) (by simp [ho])
          have hz := (H2.out s (List.mem_of_getElem? ho))
          unfold maxLen at hz
          have HO := Lib.hid ho
          clear ho
          go_wp2
          all_goals first | (go_ret; exact ⟨rfl, .inl rfl⟩) | skip
          go_round
          case rel => exact ⟨j + 1, _, by omega, by go_num, rfl, by omega, by omega, Lib.hid (HS2.out.next HO.out (by omega))⟩
          case measure => exact meas (by omega)
        · have hje : j = l2.length := by omega
          subst hje
          go_wp2
          all_goals first | (go_ret; exact ⟨rfl, .inl rfl⟩) | skip
          go_loop [13, 16] (fun z i => ∃ (j : Nat) (n : Int), j ≤ l3.length ∧ i = .int .i64 j ∧ z = .int .i64 n ∧ 0 ≤ n ∧ n ≤ 1048576 ∧ Hid (Shorts l3 j)) (fun _ i => (l3.length - intOf i).toNat)
          case atStart =>
            refine ⟨0, _, Nat.zero_le _, rfl, rfl, ?_, ?_, Lib.hid (Shorts.zero _)⟩ <;> omega
          case round =>
            obtain ⟨j, n3, hj, rfl, rfl, hn0, hn1, HS3⟩ := hrel
            by_cases hlt : (j : Int) < l3.length
            · obtain ⟨s, ho⟩ : ∃ s, l3[j]? = some s := ⟨l3[j]'(by omega), by simp⟩
              obtain ⟨a, rfl, d0⟩ := G3.out j (.string s) (by simp [ho])
              have hz := (H3.out s (List.mem_of_getElem? ho))
              unfold maxLen at hz
              have HO := Lib.hid ho
              clear ho
              go_wp2
              all_goals first | (go_ret; exact ⟨rfl, .inl rfl⟩) | skip
              go_round
              case rel => exact ⟨j + 1, _, by omega, by go_num, rfl, by omega, by omega, Lib.hid (HS3.out.next HO.out (by omega))⟩
              case measure => exact meas (by omega)
            · have hje : j = l3.length := by omega
              subst hje
              go_wp2
              all_goals first | (go_ret; exact ⟨rfl, .inl rfl⟩) | skip
              go_loop [13, 17] (fun z i => ∃ (j : Nat) (n : Int), j ≤ l5.length ∧ i = .int .i64 j ∧ z = .int .i64 n ∧ 0 ≤ n ∧ n ≤ 1048576 ∧ Hid (Shorts l5 j)) (fun _ i => (l5.length - intOf i).toNat)
              case atStart =>
                refine ⟨0, _, Nat.zero_le _, rfl, rfl, ?_, ?_, Lib.hid (Shorts.zero _)⟩ <;> omega
              case round =>
                obtain ⟨j, n5, hj, rfl, rfl, hn0, hn1, HS5⟩ := hrel
                by_cases hlt : (j : Int) < l5.length
                · obtain ⟨s, ho⟩ : ∃ s, l5[j]? = some s := ⟨l5[j]'(by omega), by simp⟩
                  obtain ⟨a, rfl, d0⟩ := G5.out j (.string s) (by simp [ho])
                  have hz := (H5.out s (List.mem_of_getElem? ho))
                  unfold maxLen at hz
                  have HO := Lib.hid ho
                  clear ho
                  go_wp2
                  all_goals first | (go_ret; exact ⟨rfl, .inl rfl⟩) | skip
                  go_round
                  case rel => exact ⟨j + 1, _, by omega, by go_num, rfl, by omega, by omega, Lib.hid (HS5.out.next HO.out (by omega))⟩
                  case measure => exact meas (by omega)
                · have hje : j = l5.length := by omega
                  subst hje
                  go_wp2
                  all_goals (go_ret; first | exact ⟨rfl, .inr ⟨rfl, trivial⟩⟩ | exact ⟨rfl, .inr ⟨rfl, Lib.hid ⟨HS1.out, HS2.out, HS3.out, HS5.out⟩⟩⟩)


set_option maxRecDepth 100000 in
set_option maxHeartbeats 16000000 in
theorem hAgrees_walk (w : World) (v0 : Value) (ks : List Nat) (h0 : IsFloats w v0 ks) (v1 : Value) (vs : List ByteArray) (h1 : IsStrs w v1 vs) (v2 : Value) (ss : List ByteArray) (h2 : IsStrs w v2 ss) (v3 : Value) (ts : List ByteArray) (h3 : IsStrs w v3 ts) (v4 : Value) (ps : List Nat) (h4 : IsFloats w v4 ps) (v5 : Value) (sp : List ByteArray) (h5 : IsStrs w v5 sp) :
    Calls Try.prog 9 #[v0, v1, v2, v3, v4, v5] w (Fine w) := by
  have CB := Lib.hid (bytes_hAgrees w v0 ks h0 v1 vs h1 v2 ss h2 v3 ts h3 v4 ps h4 v5 sp h5)
  have H0 := Lib.hid h0
  have H1 := Lib.hid h1
  have H2 := Lib.hid h2
  have H3 := Lib.hid h3
  have H4 := Lib.hid h4
  have H5 := Lib.hid h5
  obtain ⟨p0, c0, e0, k0, m0, -, g0⟩ := h0.1.form
  obtain ⟨p1, c1, e1, k1, m1, -, g1⟩ := h1.1.form
  obtain ⟨p2, c2, e2, k2, m2, -, g2⟩ := h2.1.form
  obtain ⟨p3, c3, e3, k3, m3, -, g3⟩ := h3.1.form
  obtain ⟨p4, c4, e4, k4, m4, -, g4⟩ := h4.1.form
  obtain ⟨p5, c5, e5, k5, m5, -, g5⟩ := h5.1.form
  simp only [List.length_map] at *
  unfold maxLen at m0 m1 m2 m3 m4 m5
  subst e0
  subst e1
  subst e2
  subst e3
  subst e4
  subst e5
  have q0 : (ks.length : Int) ≤ 9223372036854775807 := by omega
  have q1 : (vs.length : Int) ≤ 9223372036854775807 := by omega
  have q2 : (ss.length : Int) ≤ 9223372036854775807 := by omega
  have q3 : (ts.length : Int) ≤ 9223372036854775807 := by omega
  have q4 : (ps.length : Int) ≤ 9223372036854775807 := by omega
  have q5 : (sp.length : Int) ≤ 9223372036854775807 := by omega
  have G0 := Lib.hid g0
  have G1 := Lib.hid g1
  have G2 := Lib.hid g2
  have G3 := Lib.hid g3
  have G4 := Lib.hid g4
  have G5 := Lib.hid g5
  clear g0 h0 k0 m0 g1 h1 k1 m1 g2 h2 k2 m2 g3 h3 k3 m3 g4 h4 k4 m4 g5 h5 k5 m5
  by_cases z0 : (4096 : Int) < ks.length
  · go_enter Try.func9, Try.ntmps9
    go_wp2_with (first
      | (go_at_call 35; refine CB.out.mono ?_; rintro e w1 ⟨rfl, rfl | ⟨rfl, HS⟩⟩))
    all_goals (go_ret; exact ⟨rfl, Below.refl _ _⟩)
  have y0 : decide ((4096 : Int) < ks.length) = false := by simpa using z0
  by_cases z1 : (4096 : Int) < vs.length
  · go_enter Try.func9, Try.ntmps9
    go_wp2_with (first
      | (go_at_call 35; refine CB.out.mono ?_; rintro e w1 ⟨rfl, rfl | ⟨rfl, HS⟩⟩))
    all_goals (go_ret; exact ⟨rfl, Below.refl _ _⟩)
  have y1 : decide ((4096 : Int) < vs.length) = false := by simpa using z1
  by_cases z2 : (4096 : Int) < ss.length
  · go_enter Try.func9, Try.ntmps9
    go_wp2_with (first
      | (go_at_call 35; refine CB.out.mono ?_; rintro e w1 ⟨rfl, rfl | ⟨rfl, HS⟩⟩))
    all_goals (go_ret; exact ⟨rfl, Below.refl _ _⟩)
  have y2 : decide ((4096 : Int) < ss.length) = false := by simpa using z2
  by_cases z3 : (4096 : Int) < ts.length
  · go_enter Try.func9, Try.ntmps9
    go_wp2_with (first
      | (go_at_call 35; refine CB.out.mono ?_; rintro e w1 ⟨rfl, rfl | ⟨rfl, HS⟩⟩))
    all_goals (go_ret; exact ⟨rfl, Below.refl _ _⟩)
  have y3 : decide ((4096 : Int) < ts.length) = false := by simpa using z3
  by_cases z4 : (4096 : Int) < ps.length
  · go_enter Try.func9, Try.ntmps9
    go_wp2_with (first
      | (go_at_call 35; refine CB.out.mono ?_; rintro e w1 ⟨rfl, rfl | ⟨rfl, HS⟩⟩))
    all_goals (go_ret; exact ⟨rfl, Below.refl _ _⟩)
  have y4 : decide ((4096 : Int) < ps.length) = false := by simpa using z4
  by_cases z5 : (4096 : Int) < sp.length
  · go_enter Try.func9, Try.ntmps9
    go_wp2_with (first
      | (go_at_call 35; refine CB.out.mono ?_; rintro e w1 ⟨rfl, rfl | ⟨rfl, HS⟩⟩))
    all_goals (go_ret; exact ⟨rfl, Below.refl _ _⟩)
  have y5 : decide ((4096 : Int) < sp.length) = false := by simpa using z5
  go_enter Try.func9, Try.ntmps9
  go_upto_if 87 with (first
    | (go_at_call 35; refine CB.out.mono ?_; rintro e w1 ⟨rfl, rfl | ⟨rfl, HS⟩⟩)
    | (go_at_call 11; (with_reducible refine (strBytes_any _ _ vs H1.out (Lib.hid HS.out.1) (by omega)).mono ?_); rintro e w1 ⟨rfl, n1, hl1, hh1, rfl⟩)
    | (go_at_call 11; (with_reducible refine (strBytes_any _ _ ss H2.out (Lib.hid HS.out.2.1) (by omega)).mono ?_); rintro e w1 ⟨rfl, n2, hl2, hh2, rfl⟩)
    | (go_at_call 11; (with_reducible refine (strBytes_any _ _ ts H3.out (Lib.hid HS.out.2.2.1) (by omega)).mono ?_); rintro e w1 ⟨rfl, n3, hl3, hh3, rfl⟩)
    | (go_at_call 11; (with_reducible refine (strBytes_any _ _ sp H5.out (Lib.hid HS.out.2.2.2) (by omega)).mono ?_); rintro e w1 ⟨rfl, n5, hl5, hh5, rfl⟩)
    | (go_at_call 22; refine (anyBig_any _ _ _ H0.out (by omega)).mono ?_; rintro e w1 ⟨rfl, rfl | ⟨rfl, HF⟩⟩)
    | (go_at_call 12; refine (new_any _ _ _ (by omega) (by omega)).mono ?_; intro e w1 hf; obtain ⟨rfl, hR⟩ := Has.fresh hf; clear hf))
  all_goals first | (go_ret; exact ⟨rfl, Below.refl _ _⟩) | skip
  obtain ⟨N, hN1, hN2, hN3⟩ : ∃ N : Nat, ks.length ≤ N ∧ ss.length ≤ N ∧ N = max ks.length ss.length := ⟨_, Nat.le_max_left _ _, Nat.le_max_right _ _, rfl⟩
  go_cut [14] (fun q wx => q = .int .i64 (N : Int) ∧ wx = w1)
  case first =>
    by_cases hc : (ks.length : Int) < ss.length
    · have HN : Hid (Value.int .i64 (ss.length : Int) = .int .i64 (N : Int)) := Lib.hid (by rw [hN3]; congr 1; omega)
      clear hR hN1 hN2 hN3
      go_wp2_with fail
      go_meet
      case rel => exact ⟨HN.out, rfl⟩
    · have HN : Hid (Value.int .i64 (ks.length : Int) = .int .i64 (N : Int)) := Lib.hid (by rw [hN3]; congr 1; omega)
      clear hR hN1 hN2 hN3
      go_wp2_with fail
      go_meet
      case rel => exact ⟨HN.out, rfl⟩
  case rest =>
    obtain ⟨rfl, rfl⟩ := hcut
    have hNb : N ≤ 4096 := by omega
    have HN4 : Hid (N = ks.length ∨ N = ss.length) := Lib.hid (by omega)
    clear hN3
    go_wp2_with fail
    go_loopw [15] (ScW w w.heap.size N (fun T j => NumP Tab.fv ks vs T j ∧ StrP ss ts T j ∧ ∀ q, arrKey q = true → T.nv q = lnil)) (fun i _ => ((N : Int) - intOf i).toNat)
    case atStart => exact ⟨0, Nat.zero_le _, rfl, _, Ok.new _ _, ⟨NumP.start _ _ _ (fv_new _ _) _ _, StrP.start _ _ _ _, fun q _ => nv_new _ _ q⟩, hR⟩
    case round =>
      clear hR
      obtain ⟨j, hj, rfl, T, hok, ⟨hP, hQ, hZ⟩, hH⟩ := hrel
      by_cases hlt : (j : Int) < N
      · by_cases ha : (j : Int) < ks.length
        · obtain ⟨x, hx⟩ : ∃ x, ks[j]? = some x := ⟨ks[j]'(by omega), by simp⟩
          obtain ⟨a, rfl, hc0⟩ := G0.out j (.float .f64 x) (by simp [hx])
          have d0 := old_at hH.2 hc0
          have hP1 := hP.step (T' := T.setFlt x (sval (valAt vs j))) hx (fun q => fv_setFlt T x (lvOk_sval _) q)
          have hQ1 := hQ.other (sv_setFlt T x (sval (valAt vs j)))
          have hZ1 : ∀ q, arrKey q = true → (T.setFlt x (sval (valAt vs j))).nv q = lnil := fun q hq => (nv_setFlt T x (lvOk_sval _) q).trans (by rw [if_neg (fun h => by rw [(arrKey_congr (feq_key h.2)).1, hq] at h; exact absurd h.1 (by decide))]; exact hZ q hq)
          have hok1 := hok.setFlt (HF.out.at hx) (lvOk_sval (valAt vs j))
          have CV := Lib.hid (still_of (valAt_any wr.drew _ vs ⟨H1.out.1.has hH.drew, H1.out.2⟩ j (by omega)))
          have CW := Lib.hid (still_of (value_any wr.drew (valAt vs j)))
          have D := Lib.hid (rawSet_flt wr.drew _ T _ hH.drew.1 hok (by omega) x (sval (valAt vs j)) (lvOk_sval _))
          have HH := Lib.hid hH
          by_cases hb : (j : Int) < ss.length
          · obtain ⟨s, hs⟩ : ∃ s, ss[j]? = some s := ⟨ss[j]'(by omega), by simp⟩
            obtain ⟨b, rfl, hd0⟩ := G2.out j (.string s) (by simp [hs])
            have HP := Lib.hid (hP1.other (T' := (T.setFlt x (sval (valAt vs j))).setStr s (sval (valAt ts j))) (fun q => fv_setStr _ _ _ q))
            have HQ := Lib.hid (hQ1.step (T' := (T.setFlt x (sval (valAt vs j))).setStr s (sval (valAt ts j))) hs (fun q => sv_setStr _ s (lvOk_sval _) q))
            have HZ := Lib.hid (fun q (hq : arrKey q = true) => (nv_setStr (T.setFlt x (sval (valAt vs j))) s (sval (valAt ts j)) q).trans (hZ1 q hq))
            have HO1 := Lib.hid hok1
            have HOK := Lib.hid (hok1.setStr s (sval (valAt ts j)))
            clear hx hc0 hP hQ hok hH hP1 hQ1 hok1 hs hZ hZ1
            go_wp2_with fail
            refine wp_region_still_tail 10 (by kernel_rfl) (by kernel_rfl) ?_
            simp only [List.take_succ_cons, List.take_zero, List.drop_succ_cons, List.drop_zero]
            repeat still_step
            still_call CV.out
            still_call CW.out
            refine wpStill_nil ?_
            change wpList _ _ _ _ _ wr.drew
            go_wp2_with (first
              | (go_at_call 23; refine D.out.mono ?_; intro e w2 hu; obtain ⟨rfl, hR⟩ := HH.out.drew.step hu; clear hu))
            have d0 := old_at hR.2 hd0
            have CV2 := Lib.hid (still_of (valAt_any w2.drew _ ts ⟨H3.out.1.has hR.drew, H3.out.2⟩ j (by omega)))
            have CW2 := Lib.hid (still_of (value_any w2.drew (valAt ts j)))
            have D2 := Lib.hid (rawSet_str w2.drew _ _ _ hR.drew.1 (HO1.out.wf (by omega)) s (sval (valAt ts j)) (lvOk_sval _))
            have HR := Lib.hid hR
            clear hR
            refine wp_region_still_tail 10 (by kernel_rfl) (by kernel_rfl) ?_
            simp only [List.take_succ_cons, List.take_zero, List.drop_succ_cons, List.drop_zero]
            repeat still_step
            still_call CV2.out
            still_call CW2.out
            refine wpStill_nil ?_
            change wpList _ _ _ _ _ w2.drew
            go_wp2_with (first
              | (go_at_call 23; refine D2.out.mono ?_; intro e w3 hu; obtain ⟨rfl, hR⟩ := HR.out.drew.step hu; clear hu))
            go_roundw
            case rel => exact ⟨j + 1, by omega, by go_num, _, HOK.out, ⟨HP.out, HQ.out, HZ.out⟩, hR⟩
            case measure => exact meas (by omega)
          · have HP := Lib.hid hP1
            have HQ := Lib.hid (hQ1.past (by omega))
            have HZ := Lib.hid hZ1
            have HOK := Lib.hid (hok1.more (show 2 * j + 1 ≤ 2 * (j + 1) by omega))
            clear hx hc0 hP hQ hok hH hP1 hQ1 hok1 hZ hZ1
            go_wp2_with fail
            refine wp_region_still_tail 10 (by kernel_rfl) (by kernel_rfl) ?_
            simp only [List.take_succ_cons, List.take_zero, List.drop_succ_cons, List.drop_zero]
            repeat still_step
            still_call CV.out
            still_call CW.out
            refine wpStill_nil ?_
            change wpList _ _ _ _ _ wr.drew
            go_wp2_with (first
              | (go_at_call 23; refine D.out.mono ?_; intro e w2 hu; obtain ⟨rfl, hR⟩ := HH.out.drew.step hu; clear hu))
            go_roundw
            case rel => exact ⟨j + 1, by omega, by go_num, _, HOK.out, ⟨HP.out, HQ.out, HZ.out⟩, hR⟩
            case measure => exact meas (by omega)
        · have hb : (j : Int) < ss.length := by have := HN4.out; omega
          obtain ⟨s, hs⟩ : ∃ s, ss[j]? = some s := ⟨ss[j]'(by omega), by simp⟩
          obtain ⟨b, rfl, hd0⟩ := G2.out j (.string s) (by simp [hs])
          have d0 := old_at hH.2 hd0
          have HP := Lib.hid ((hP.past (by omega)).other (T' := T.setStr s (sval (valAt ts j))) (fun q => fv_setStr _ _ _ q))
          have HQ := Lib.hid (hQ.step (T' := T.setStr s (sval (valAt ts j))) hs (fun q => sv_setStr _ s (lvOk_sval _) q))
          have HZ := Lib.hid (fun q (hq : arrKey q = true) => (nv_setStr T s (sval (valAt ts j)) q).trans (hZ q hq))
          have HOK := Lib.hid ((hok.setStr s (sval (valAt ts j))).more (show 2 * j + 1 ≤ 2 * (j + 1) by omega))
          have CV2 := Lib.hid (still_of (valAt_any wr.drew _ ts ⟨H3.out.1.has hH.drew, H3.out.2⟩ j (by omega)))
          have CW2 := Lib.hid (still_of (value_any wr.drew (valAt ts j)))
          have D2 := Lib.hid (rawSet_str wr.drew _ _ _ hH.drew.1 (hok.wf (by omega)) s (sval (valAt ts j)) (lvOk_sval _))
          have HH := Lib.hid hH
          clear hP hQ hok hH hs hd0 hZ
          go_wp2_with fail
          refine wp_region_still_tail 10 (by kernel_rfl) (by kernel_rfl) ?_
          simp only [List.take_succ_cons, List.take_zero, List.drop_succ_cons, List.drop_zero]
          repeat still_step
          still_call CV2.out
          still_call CW2.out
          refine wpStill_nil ?_
          change wpList _ _ _ _ _ wr.drew
          go_wp2_with (first
            | (go_at_call 23; refine D2.out.mono ?_; intro e w3 hu; obtain ⟨rfl, hR⟩ := HH.out.drew.step hu; clear hu))
          go_roundw
          case rel => exact ⟨j + 1, by omega, by go_num, _, HOK.out, ⟨HP.out, HQ.out, HZ.out⟩, hR⟩
          case measure => exact meas (by omega)
      · have hje : j = N := by omega
        subst hje
        have HG := Lib.hid (fun q => hP.end hN1 q)
        have HGS := Lib.hid (fun q => hQ.end hN2 q)
        have HZ := Lib.hid hZ
        clear hP hQ hZ
        go_wp2_with fail
        go_loopw [16] (RdW w w.heap.size T (ss.length + sp.length)) (fun i _ => (((ss.length + sp.length : Nat) : Int) - intOf i).toNat)
        case atStart => exact ⟨0, Nat.zero_le _, rfl, hH⟩
        case round =>
          clear hH
          obtain ⟨j, hj, rfl, hH⟩ := hrel
          by_cases hlt : (j : Int) < ss.length + sp.length
          · obtain ⟨s, hs⟩ : ∃ s, (ss ++ sp)[j]? = some s := ⟨(ss ++ sp)[j]'(by simp; omega), by simp⟩
            have C1 := Lib.hid (strAt_any wr _ ss ⟨H2.out.1.has hH, H2.out.2⟩ _ sp ⟨H5.out.1.has hH, H5.out.2⟩ j s (by omega) (by omega) hs)
            have C3 := Lib.hid (lastStr_any wr _ ss ⟨H2.out.1.has hH, H2.out.2⟩ _ ts ⟨H3.out.1.has hH, H3.out.2⟩ s)
            have C2 := rawGet_str wr w.heap.size T _ hH.1 s
            rw [HGS.out] at C2
            have C2 := Lib.hid C2
            have C2h := rawGetH_str wr w.heap.size T _ hH.1 s
            rw [show (mget T.sdict (.string s)).getD lnil = T.sv s from rfl, HGS.out] at C2h
            have C2h := Lib.hid C2h
            have HH := Lib.hid hH
            clear hs hH
            go_wp2_with (first
              | (go_at_call 31; refine C1.out.mono ?_; rintro e w2 ⟨rfl, rfl⟩)
              | (go_at_call 32; refine C3.out.mono ?_; rintro e w3 ⟨rfl, rfl⟩)
              | (go_at_call 20; refine C2.out.mono ?_; rintro e w2 ⟨rfl, rfl⟩)
              | (go_at_call 30; refine C2h.out.mono ?_; rintro e w2 ⟨rfl, rfl⟩)
              | (go_at_call 19; refine (is_yes _ _).mono ?_; rintro e w4 ⟨rfl, rfl⟩))
            go_roundw
            case rel => exact ⟨j + 1, by omega, by go_num, HH.out⟩
            case measure => exact meas (by omega)
          · have HH := Lib.hid hH
            clear hH
            go_wp2_with fail
            go_loopw [19] (RdW w w.heap.size T (ks.length + ps.length)) (fun i _ => (((ks.length + ps.length : Nat) : Int) - intOf i).toNat)
            case atStart => exact ⟨0, Nat.zero_le _, rfl, HH.out⟩
            case round =>
              clear HH
              obtain ⟨j, hj, rfl, hH⟩ := hrel
              by_cases hlt : (j : Int) < ks.length + ps.length
              · obtain ⟨x, hx⟩ : ∃ x, (ks ++ ps)[j]? = some x := ⟨(ks ++ ps)[j]'(by simp; omega), by simp⟩
                have C1 := Lib.hid (numAt_any wr _ ks ⟨H0.out.1.has hH, H0.out.2⟩ _ ps ⟨H4.out.1.has hH, H4.out.2⟩ j x (by omega) (by omega) hx)
                have C4 := isArrKey_any wr x
                have C2 := rawGet_num wr w.heap.size T _ hH.1 x
                rw [HG.out] at C2
                have C2 := Lib.hid C2
                have C3 := Lib.hid (lastNum_any wr _ ks ⟨H0.out.1.has hH, H0.out.2⟩ _ vs ⟨H1.out.1.has hH, H1.out.2⟩ x)
                by_cases hk : arrKey x = true
                · have C5 := Lib.hid (fun d => rawGetH_num (wr.drewN d) w.heap.size T _ (hH.drewN d).1 x)
                  rw [hk] at C4
                  rw [show (mget T.dict (lnum x)).getD lnil = T.nv x from rfl, HZ.out x hk, ← sval_nos] at C5
                  have C4 := Lib.hid (fun d => isArrKey_any (wr.drewN d) x)
                  rw [hk] at C4
                  have HH := Lib.hid hH
                  clear hx hH hk
                  go_wp2_with (first
                    | (go_at_call 16; refine C1.out.mono ?_; rintro e w2 ⟨rfl, rfl⟩)
                    | (go_at_call 17; refine (C4.out _).mono ?_; rintro e w2 ⟨rfl, rfl⟩)
                    | (go_at_call 20; refine C2.out.mono ?_; rintro e w2 ⟨rfl, d, rfl⟩)
                    | (go_at_call 30; refine (C5.out _).mono ?_; rintro e w2 ⟨rfl, rfl⟩)
                    | (go_at_call 18; refine C3.out.mono ?_; rintro e w3 ⟨rfl, rfl⟩)
                    | (go_at_call 19; (with_reducible refine (is_yes _ _).mono ?_); rintro e w4 ⟨rfl, rfl⟩)
                    | (go_at_call 19; refine (is_yes _ nos).mono ?_; rintro e w4 ⟨rfl, rfl⟩))
                  go_roundw
                  case rel => exact ⟨j + 1, by omega, by go_num, HH.out.drewN _⟩
                  case measure => exact meas (by omega)
                · have hnv : T.nv x = sval (lastN ks vs x ks.length) := by
                    rw [← HG.out]
                    unfold Tab.fv
                    rw [if_neg hk]
                  rw [Bool.not_eq_true] at hk
                  have C5 := Lib.hid (fun d => rawGetH_num (wr.drewN d) w.heap.size T _ (hH.drewN d).1 x)
                  rw [show (mget T.dict (lnum x)).getD lnil = T.nv x from rfl, hnv] at C5
                  have C4 := Lib.hid (fun d => isArrKey_any (wr.drewN d) x)
                  rw [hk] at C4
                  have HH := Lib.hid hH
                  clear hx hH hk hnv
                  go_wp2_with (first
                    | (go_at_call 16; refine C1.out.mono ?_; rintro e w2 ⟨rfl, rfl⟩)
                    | (go_at_call 17; refine (C4.out _).mono ?_; rintro e w2 ⟨rfl, rfl⟩)
                    | (go_at_call 20; refine C2.out.mono ?_; rintro e w2 ⟨rfl, d, rfl⟩)
                    | (go_at_call 30; refine (C5.out _).mono ?_; rintro e w2 ⟨rfl, rfl⟩)
                    | (go_at_call 18; refine C3.out.mono ?_; rintro e w3 ⟨rfl, rfl⟩)
                    | (go_at_call 19; refine (is_yes _ _).mono ?_; rintro e w4 ⟨rfl, rfl⟩))
                  go_roundw
                  case rel => exact ⟨j + 1, by omega, by go_num, HH.out.drewN _⟩
                  case measure => exact meas (by omega)
              · have HB := Lib.hid (none_below hH.2)
                clear hH
                go_wp2
                go_ret
                exact ⟨rfl, HB.out⟩
end Go.Lua
