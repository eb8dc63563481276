/-
  n005_73: FnMaxNIsLastNonNilSlot.
-/
import Derived.Test.YtcnjdmbcofodnaaPlain
namespace Go.Lua
open Go.Proofs Go.RowKit
set_option linter.unusedVariables false

/-- The loop's word: the last slot below k that is not nil. -/
def LastW (w : World) (ms : List Int) (last k : Value) (wr : World) : Prop :=
  ∃ j l : Nat, 1 ≤ j ∧ j ≤ 66563 ∧ k = .int .i64 j ∧ last = .int .i64 l ∧ l ≤ 66563 ∧ (∀ q : Int, (l : Int) < q → q < j → atM ms q = 0) ∧ (l = 0 ∨ atM ms l ≠ 0) ∧ wr = w

set_option maxHeartbeats 1000000 in
theorem bytes_maxLast (w : World) (p0 p1 p2 : Option Addr) (n0 n1 n2 c0 c1 c2 : Nat) (h0 : n0 ≤ maxLen) (h1 : n1 ≤ maxLen) (h2 : n2 ≤ maxLen) :
    Calls Try.prog 27 #[.slice p0 n0 c0, .slice p1 n1 c1, .slice p2 n2 c2] w (Some w) := by
  unfold maxLen at h0 h1 h2
  go_enter Try.func27, Try.ntmps27
  go_wp2
  all_goals (go_ret; first | exact ⟨rfl, .inl rfl⟩ | exact ⟨rfl, .inr rfl⟩)

set_option maxHeartbeats 4000000 in
theorem maxLast_walk (w : World) (v0 : Value) (ks : List Bool) (h0 : IsBools w v0 ks) (v1 : Value) (is : List Int) (h1 : IsInts .i64 w v1 is) (v2 : Value) (vs : List Int) (h2 : IsInts .i32 w v2 vs) :
    Calls Try.prog 6 #[v0, v1, v2] w fun e w' => e = .returned (.bool true) ∧ Below w.heap.size w w' := by
  have CS := Lib.hid (scriptOK_any w v0 v1 v2 ks is vs h0 h1 h2)
  have H0 := Lib.hid h0
  have H1 := Lib.hid h1
  have H2 := Lib.hid h2
  obtain ⟨p0, c0, e0, k0, m0, -, -⟩ := IsSl.form h0
  obtain ⟨p1, c1, e1, k1, m1, -, -⟩ := IsSl.form h1.1
  obtain ⟨p2, c2, e2, k2, m2, -, -⟩ := IsSl.form h2.1
  simp only [List.length_map] at *
  clear h0 h1 h2
  subst e0 e1 e2
  have CB := Lib.hid (bytes_maxLast w p0 p1 p2 ks.length is.length vs.length c0 c1 c2 (Nat.le_trans k0 m0) (Nat.le_trans k1 m1) (Nat.le_trans k2 m2))
  unfold maxLen at m0 m1 m2
  have hbl := bord_le (runM ks is vs ks.length)
  go_enter Try.func6, Try.ntmps6
  go_wp2_with (first
    | (go_at_call 27; refine CB.out.mono ?_; rintro e w1 ⟨rfl, rfl | rfl⟩)
    | (go_at_call 14; refine CS.out.mono ?_; rintro e w1 ⟨rfl, rfl | ⟨rfl, hok⟩⟩; (try (obtain ⟨b1, b2, b3, b4⟩ := id hok; have b4 := Lib.hid b4)))
    | (go_at_call 15; refine (cloneB_any _ _ _ H0.out (len_map_le _ (by omega)) (mk_all _ _)).mono ?_; intro e w1 hc; obtain ⟨x0, rfl, y0, u0⟩ := clonedB hc)
    | (go_at_call 16; refine (cloneI_any _ _ _ (H1.out.1.later u0) (len_map_le _ (by omega)) (mk_all _ _)).mono ?_; intro e w2 hc; obtain ⟨x1, rfl, y1, u1⟩ := clonedI H1.out.2 hc)
    | (go_at_call 17; refine (clone32_any _ _ _ (H2.out.1.later (none_trans u0 u1)) (len_map_le _ (by omega)) (mk_all _ _)).mono ?_; intro e w3 hc; obtain ⟨x2, rfl, y2, u2⟩ := clonedI H2.out.2 hc)
    | (go_at_call 18; refine (run_any _ _ _ _ ks is vs (IsSl.later y0 (none_trans u1 u2)) ⟨y1.1.later u2, y1.2⟩ y2 hok).mono ?_; rintro e w4 ⟨rfl, T, hS, hT, hU⟩; have hTb : Tbl w3.heap.size w3.heap.size (runM ks is vs ks.length) ks.length w4 := ⟨T, hS, hT⟩; have hB : Below w.heap.size w w4 := none_below (none_trans (none_trans u0 u1) (none_trans u2 hU)); have hsz : w3.heap.size ≤ w4.heap.size := hU.size; have hs3 : w.heap.size ≤ w3.heap.size := Nat.le_trans u0.size (Nat.le_trans u1.size u2.size); have hfit := Lib.hid hS.fit; have hlen := hS.len; clear hT hU hS)
    | (go_at_call 20; refine hTb.maxN.mono ?_; rintro e w5 ⟨rfl, rfl⟩))
  all_goals first | (go_ret; exact ⟨rfl, Below.refl _ _⟩) | skip
  go_loopw [8, 9] (LastW w4 (runM ks is vs ks.length)) (fun _ k _ => (66563 - intOf k).toNat)
  case atStart => exact ⟨1, 0, by omega, by omega, rfl, rfl, by omega, fun q h1 h2 => by omega, .inl rfl, rfl⟩
  case round =>
    obtain ⟨j, l, hj1, hj2, rfl, rfl, hl, hq, hl0, rfl⟩ := hrel
    have HQ := Lib.hid hq
    have HL := Lib.hid hl0
    clear hq hl0
    have C := Lib.hid (hTb.slotNum j (by unfold Is64; omega))
    unfold slotOf at C
    obtain ⟨x, hx⟩ : ∃ x, x = atM (runM ks is vs ks.length) j := ⟨_, rfl⟩
    rw [← hx] at C
    have HX := Lib.hid hx
    clear hx
    by_cases hj3 : (j : Int) ≤ 66562
    · by_cases h0 : x = 0
      · rw [if_pos h0] at C
        have H00 := Lib.hid h0
        clear h0
        go_wp2_with (first | (go_at_call 28; refine C.out.mono ?_; rintro e w5 ⟨rfl, rfl⟩))
        go_roundw
        case rel =>
          refine ⟨j + 1, l, by omega, by omega, by go_num, rfl, hl, fun q h1 h2 => ?_, HL.out, rfl⟩
          by_cases he : q = j
          · rw [he, ← HX.out]; exact H00.out
          · exact HQ.out q h1 (by omega)
        case measure => exact meas (by omega)
      · rw [if_neg h0] at C
        have H00 := Lib.hid h0
        clear h0
        go_wp2_with (first | (go_at_call 28; refine C.out.mono ?_; rintro e w5 ⟨rfl, rfl⟩))
        go_roundw
        case rel =>
          refine ⟨j + 1, j, by omega, by omega, by go_num, rfl, by omega, fun q h1 h2 => by omega, .inr ?_, rfl⟩
          rw [← HX.out]; exact H00.out
        case measure => exact meas (by omega)
    · go_wp2_with (first | (go_at_call 20; refine hTb.maxN.mono ?_; rintro e w5 ⟨rfl, rfl⟩))
      go_ret
      refine ⟨ret_eq ?_, hB⟩
      obtain ⟨b1, b2, b3, b4⟩ := hok
      have := bord_is (ms := runM ks is vs ks.length) (b := l) (fun k hk => by
        by_cases hkj : k < j
        · exact HQ.out k hk hkj
        · exact atM_far (by omega)) HL.out
      omega

end Go.Lua
