/-
  n005_96: FnRawGetAfterRawSetNumberKeys.
-/
import Derived.Test.YtbbdcoaicikddaaScript
namespace Go.Lua
open Go.Proofs Go.RowKit
set_option linter.unusedVariables false

set_option maxHeartbeats 2000000 in
theorem bytes_numKeys (w : World) (i0 : Int) (i1 : Int) (v2 : Value) (l2 : List Nat) (h2 : IsFloats w v2 l2) (v3 : Value) (l3 : List ByteArray) (h3 : IsStrs w v3 l3) (v4 : Value) (l4 : List Nat) (h4 : IsFloats w v4 l4) :
    Calls Try.prog 21 #[.int .i64 i0, .int .i64 i1, v2, v3, v4] w (YnIf (Hid (Shorts l3 l3.length)) w) := by
  have H3 := Lib.hid h3.2
  obtain ⟨p2, c2, e2, k2, m2, -, g2⟩ := h2.1.form
  obtain ⟨p3, c3, e3, k3, m3, -, g3⟩ := h3.1.form
  obtain ⟨p4, c4, e4, k4, m4, -, g4⟩ := h4.1.form
  simp only [List.length_map] at *
  unfold maxLen at *
  subst e2
  have q2 : (l2.length : Int) ≤ 9223372036854775807 := by omega
  clear g2 h2 k2 m2
  subst e3
  have G3 := Lib.hid g3
  have q3 : (l3.length : Int) ≤ 9223372036854775807 := by omega
  clear g3 h3 k3 m3
  subst e4
  have q4 : (l4.length : Int) ≤ 9223372036854775807 := by omega
  clear g4 h4 k4 m4
  go_enter Try.func21, Try.ntmps21
  go_wp2
  all_goals first | (go_ret; exact ⟨rfl, .inl rfl⟩) | skip
  go_loop [11, 12] (fun z i => ∃ (j : Nat) (n : Int), j ≤ l3.length ∧ i = .int .i64 j ∧ z = .int .i64 n ∧ 0 ≤ n ∧ n ≤ 1048576 ∧ Hid (Shorts l3 j)) (fun _ i => (l3.length - intOf i).toNat)
  case atStart =>
    refine ⟨0, _, Nat.zero_le _, rfl, rfl, ?_, ?_, Lib.hid (Shorts.zero _)⟩ <;> omega
  case round =>
    obtain ⟨j, n3, hj, rfl, rfl, hn0, hn1, HS3⟩ := hrel
    by_cases hlt : (j : Int) < l3.length
    · obtain ⟨s, ho⟩ : ∃ s, l3[j]? = some s := ⟨l3[j]'(by omega), by simp⟩
      obtain ⟨a, rfl, d0⟩ := G3.out j (.string s) (by simp [ho])
      have hz := (H3.out s (List.mem_of_getElem? ho))
      unfold maxLen at hz
      have HO := Lib.hid ho
      clear ho
      go_wp2
      all_goals first | (go_ret; exact ⟨rfl, .inl rfl⟩) | skip
      go_round
      case rel => exact ⟨j + 1, _, by omega, by go_num, rfl, by omega, by omega, Lib.hid (HS3.out.next HO.out (by omega))⟩
      case measure => exact meas (by omega)
    · have hje : j = l3.length := by omega
      subst hje
      go_wp2
      all_goals first | (go_ret; exact ⟨rfl, .inl rfl⟩) | skip
      all_goals (go_ret; first | exact ⟨rfl, .inr ⟨rfl, trivial⟩⟩ | exact ⟨rfl, .inr ⟨rfl, Lib.hid ⟨HS3.out⟩⟩⟩)

set_option maxRecDepth 100000 in
set_option maxHeartbeats 8000000 in
theorem numKeys_walk (w : World) (ac : Int) (hac : (Lit.int .i64 ac).wf = true) (hc : Int) (hhc : (Lit.int .i64 hc).wf = true) (v2 : Value) (ks : List Nat) (h2 : IsFloats w v2 ks) (v3 : Value) (vs : List ByteArray) (h3 : IsStrs w v3 vs) (v4 : Value) (ps : List Nat) (h4 : IsFloats w v4 ps) :
    Calls Try.prog 4 #[.int .i64 ac, .int .i64 hc, v2, v3, v4] w (Fine w) := by
  have CB := Lib.hid (bytes_numKeys w ac hc v2 ks h2 v3 vs h3 v4 ps h4)
  have H2 := Lib.hid h2
  have H3 := Lib.hid h3
  have H4 := Lib.hid h4
  obtain ⟨p2, c2, e2, k2, m2, -, g2⟩ := h2.1.form
  obtain ⟨p3, c3, e3, k3, m3, -, g3⟩ := h3.1.form
  obtain ⟨p4, c4, e4, k4, m4, -, g4⟩ := h4.1.form
  simp only [List.length_map] at *
  unfold maxLen at m2 m3 m4
  subst e2 e3 e4
  have q2 : (ks.length : Int) ≤ 9223372036854775807 := by omega
  have q3 : (vs.length : Int) ≤ 9223372036854775807 := by omega
  have q4 : (ps.length : Int) ≤ 9223372036854775807 := by omega
  have G2 := Lib.hid g2
  clear g2 g3 g4 h2 h3 h4 k2 k3 k4 m2 m3 m4
  by_cases z1 : (4096 : Int) < ks.length
  · go_enter Try.func4, Try.ntmps4
    go_wp2_with (first
      | (go_at_call 21; refine CB.out.mono ?_; rintro e w1 ⟨rfl, rfl | ⟨rfl, HS⟩⟩))
    all_goals (go_ret; exact ⟨rfl, Below.refl _ _⟩)
  by_cases z2 : (4096 : Int) < ps.length
  · go_enter Try.func4, Try.ntmps4
    go_wp2_with (first
      | (go_at_call 21; refine CB.out.mono ?_; rintro e w1 ⟨rfl, rfl | ⟨rfl, HS⟩⟩))
    all_goals (go_ret; exact ⟨rfl, Below.refl _ _⟩)
  by_cases z3 : (4096 : Int) < vs.length
  · go_enter Try.func4, Try.ntmps4
    go_wp2_with (first
      | (go_at_call 21; refine CB.out.mono ?_; rintro e w1 ⟨rfl, rfl | ⟨rfl, HS⟩⟩))
    all_goals (go_ret; exact ⟨rfl, Below.refl _ _⟩)
  have y1 : decide ((4096 : Int) < ks.length) = false := by simpa using z1
  have y2 : decide ((4096 : Int) < ps.length) = false := by simpa using z2
  have y3 : decide ((4096 : Int) < vs.length) = false := by simpa using z3
  by_cases z4 : (65536 : Int) < ac
  · go_enter Try.func4, Try.ntmps4
    go_wp2_with (first
      | (go_at_call 21; refine CB.out.mono ?_; rintro e w1 ⟨rfl, rfl | ⟨rfl, HS⟩⟩)
      | (go_at_call 11; refine (strBytes_any _ _ _ H3.out HS (by omega)).mono ?_; rintro e w1 ⟨rfl, n, hn0, hn1, rfl⟩))
    all_goals (go_ret; exact ⟨rfl, Below.refl _ _⟩)
  by_cases z5 : (65536 : Int) < hc
  · have y4 : decide ((65536 : Int) < ac) = false := by simpa using z4
    go_enter Try.func4, Try.ntmps4
    go_wp2_with (first
      | (go_at_call 21; refine CB.out.mono ?_; rintro e w1 ⟨rfl, rfl | ⟨rfl, HS⟩⟩)
      | (go_at_call 11; refine (strBytes_any _ _ _ H3.out HS (by omega)).mono ?_; rintro e w1 ⟨rfl, n, hn0, hn1, rfl⟩))
    all_goals (go_ret; exact ⟨rfl, Below.refl _ _⟩)
  have y4 : decide ((65536 : Int) < ac) = false := by simpa using z4
  have y5 : decide ((65536 : Int) < hc) = false := by simpa using z5
  go_enter Try.func4, Try.ntmps4
  go_wp2_with (first
    | (go_at_call 21; refine CB.out.mono ?_; rintro e w1 ⟨rfl, rfl | ⟨rfl, HS⟩⟩)
    | (go_at_call 11; refine (strBytes_any _ _ _ H3.out HS (by omega)).mono ?_; rintro e w1 ⟨rfl, n, hn0, hn1, rfl⟩)
    | (go_at_call 22; refine (anyBig_any _ _ _ H2.out (by omega)).mono ?_; rintro e w1 ⟨rfl, rfl | ⟨rfl, HF⟩⟩)
    | (go_at_call 12; refine (new_any _ _ _ (by omega) (by omega)).mono ?_; intro e w1 hf; obtain ⟨rfl, hR⟩ := Has.fresh hf; clear hf))
  all_goals first | (go_ret; exact ⟨rfl, Below.refl _ _⟩) | skip
  go_loopw [12] (ScW w w.heap.size ks.length (NumP Tab.fv ks vs)) (fun i _ => (ks.length - intOf i).toNat)
  case atStart => exact ⟨0, Nat.zero_le _, rfl, _, Ok.new _ _, NumP.start _ _ _ (fv_new _ _) _ _, hR⟩
  case round =>
    clear hR
    obtain ⟨j, hj, rfl, T, hok, hP, hH⟩ := hrel
    by_cases hlt : (j : Int) < ks.length
    · obtain ⟨x, hx⟩ : ∃ x, ks[j]? = some x := ⟨ks[j]'(by omega), by simp⟩
      obtain ⟨a, rfl, hc0⟩ := G2.out j (.float .f64 x) (by simp [hx])
      have d0 := old_at hH.2 hc0
      have HP := Lib.hid (hP.step (T' := T.setFlt x (sval (valAt vs j))) hx (fun q => fv_setFlt T x (lvOk_sval _) q))
      have HOK := Lib.hid ((hok.setFlt (HF.out.at hx) (lvOk_sval (valAt vs j))).more (show 2 * j + 1 ≤ 2 * (j + 1) by omega))
      have CV := Lib.hid (still_of (valAt_any wr.drew _ vs ⟨H3.out.1.has hH.drew, H3.out.2⟩ j (by omega)))
      have CW := Lib.hid (still_of (value_any wr.drew (valAt vs j)))
      have D := Lib.hid (rawSet_flt wr.drew _ T _ hH.drew.1 hok (by omega) x (sval (valAt vs j)) (lvOk_sval _))
      have HH := Lib.hid hH
      clear hx hc0 hP hok hH
      go_wp2_with fail
      refine wp_region_still_tail 10 (by kernel_rfl) (by kernel_rfl) ?_
      simp only [List.take_succ_cons, List.take_zero, List.drop_succ_cons, List.drop_zero]
      repeat still_step
      still_call CV.out
      still_call CW.out
      refine wpStill_nil ?_
      change wpList _ _ _ _ _ wr.drew
      go_wp2_with (first
        | (go_at_call 23; refine D.out.mono ?_; intro e w2 hu; obtain ⟨rfl, hR⟩ := HH.out.drew.step hu; clear hu))
      go_roundw
      case rel => exact ⟨j + 1, by omega, by go_num, _, HOK.out, HP.out, hR⟩
      case measure => exact meas (by omega)
    · have hje : j = ks.length := by omega
      subst hje
      have HG := Lib.hid (fun q => hP.end (Nat.le_refl _) q)
      clear hP
      go_wp2_with fail
      go_loopw [13] (RdW w w.heap.size T (ks.length + ps.length)) (fun i _ => (((ks.length + ps.length : Nat) : Int) - intOf i).toNat)
      case atStart => exact ⟨0, Nat.zero_le _, rfl, hH⟩
      case round =>
        clear hH
        obtain ⟨j, hj, rfl, hH⟩ := hrel
        by_cases hlt : (j : Int) < ks.length + ps.length
        · obtain ⟨x, hx⟩ : ∃ x, (ks ++ ps)[j]? = some x := ⟨(ks ++ ps)[j]'(by simp; omega), by simp⟩
          have C1 := Lib.hid (numAt_any wr _ ks ⟨H2.out.1.has hH, H2.out.2⟩ _ ps ⟨H4.out.1.has hH, H4.out.2⟩ j x (by omega) (by omega) hx)
          have C2 := rawGet_num wr w.heap.size T _ hH.1 x
          rw [HG.out] at C2
          have C2 := Lib.hid C2
          have C3 := Lib.hid (fun d => lastNum_any (wr.drewN d) _ ks ⟨H2.out.1.has (hH.drewN d), H2.out.2⟩ _ vs ⟨H3.out.1.has (hH.drewN d), H3.out.2⟩ x)
          have HH := Lib.hid hH
          clear hx hH
          go_wp2_with (first
            | (go_at_call 16; refine C1.out.mono ?_; rintro e w2 ⟨rfl, rfl⟩)
            | (go_at_call 20; refine C2.out.mono ?_; rintro e w2 ⟨rfl, d, rfl⟩)
            | (go_at_call 18; refine (C3.out _).mono ?_; rintro e w3 ⟨rfl, rfl⟩)
            | (go_at_call 19; refine (is_yes _ _).mono ?_; rintro e w4 ⟨rfl, rfl⟩))
          go_roundw
          case rel => exact ⟨j + 1, by omega, by go_num, HH.out.drewN _⟩
          case measure => exact meas (by omega)
        · have HB := Lib.hid (none_below hH.2)
          clear hH
          go_wp2
          go_ret
          exact ⟨rfl, HB.out⟩
end Go.Lua
