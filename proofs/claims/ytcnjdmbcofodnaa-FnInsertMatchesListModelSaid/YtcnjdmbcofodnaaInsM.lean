/-
  n005_73: FnInsertMatchesListModel.
-/
import Derived.Test.YtcnjdmbcofodnaaModel4
namespace Go.Lua
open Go.Proofs Go.RowKit
set_option linter.unusedVariables false

def KW (w : World) (k : Value) (wr : World) : Prop := ∃ j : Nat, 1 ≤ j ∧ j ≤ 66563 ∧ k = .int .i64 j ∧ wr = w

set_option maxHeartbeats 1000000 in
theorem bytes_insML (w : World) (p0 p1 p2 : Option Addr) (n0 n1 n2 c0 c1 c2 : Nat) (h0 : n0 ≤ maxLen) (h1 : n1 ≤ maxLen) (h2 : n2 ≤ maxLen) :
    Calls Try.prog 24 #[.slice p0 n0 c0, .slice p1 n1 c1, .slice p2 n2 c2] w (Some w) := by
  unfold maxLen at h0 h1 h2
  go_enter Try.func24, Try.ntmps24
  go_wp2
  all_goals (go_ret; first | exact ⟨rfl, .inl rfl⟩ | exact ⟨rfl, .inr rfl⟩)

set_option maxHeartbeats 4000000 in
theorem insML_walk (w : World) (v0 : Value) (ks : List Bool) (h0 : IsBools w v0 ks) (v1 : Value) (is : List Int) (h1 : IsInts .i64 w v1 is) (v2 : Value) (vs : List Int) (h2 : IsInts .i32 w v2 vs) :
    Calls Try.prog 5 #[v0, v1, v2] w fun e w' => e = .returned (.bool true) ∧ Below w.heap.size w w' := by
  have CS := Lib.hid (scriptOK_any w v0 v1 v2 ks is vs h0 h1 h2)
  have H0 := Lib.hid h0
  have H1 := Lib.hid h1
  have H2 := Lib.hid h2
  obtain ⟨p0, c0, e0, k0, m0, -, -⟩ := IsSl.form h0
  obtain ⟨p1, c1, e1, k1, m1, -, -⟩ := IsSl.form h1.1
  obtain ⟨p2, c2, e2, k2, m2, -, -⟩ := IsSl.form h2.1
  simp only [List.length_map] at *
  clear h0 h1 h2
  subst e0 e1 e2
  have CB := Lib.hid (bytes_insML w p0 p1 p2 ks.length is.length vs.length c0 c1 c2 (Nat.le_trans k0 m0) (Nat.le_trans k1 m1) (Nat.le_trans k2 m2))
  unfold maxLen at m0 m1 m2
  go_enter Try.func5, Try.ntmps5
  go_wp2_with (first
    | (go_at_call 24; refine CB.out.mono ?_; rintro e w1 ⟨rfl, rfl | rfl⟩)
    | (go_at_call 14; refine CS.out.mono ?_; rintro e w1 ⟨rfl, rfl | ⟨rfl, hok⟩⟩; (try (obtain ⟨b1, b2, b3, b4⟩ := id hok; have b4 := Lib.hid b4)))
    | (go_at_call 15; refine (cloneB_any _ _ _ H0.out (len_map_le _ (by omega)) (mk_all _ _)).mono ?_; intro e w1 hc; obtain ⟨x0, rfl, y0, u0⟩ := clonedB hc)
    | (go_at_call 16; refine (cloneI_any _ _ _ (H1.out.1.later u0) (len_map_le _ (by omega)) (mk_all _ _)).mono ?_; intro e w2 hc; obtain ⟨x1, rfl, y1, u1⟩ := clonedI H1.out.2 hc)
    | (go_at_call 17; refine (clone32_any _ _ _ (H2.out.1.later (none_trans u0 u1)) (len_map_le _ (by omega)) (mk_all _ _)).mono ?_; intro e w3 hc; obtain ⟨x2, rfl, y2, u2⟩ := clonedI H2.out.2 hc)
    | (go_at_call 18; refine (run_any _ _ _ _ ks is vs (IsSl.later y0 (none_trans u1 u2)) ⟨y1.1.later u2, y1.2⟩ y2 hok).mono ?_; rintro e w4 ⟨rfl, T, hS, hT, hU⟩; have hTb : Tbl (fun k => w3.heap.size ≤ k) w3.heap.size (runM ks is vs ks.length) ks.length w4 := ⟨T, hS, hT⟩; have hB : Below w.heap.size w w4 := none_below (none_trans (none_trans u0 u1) (none_trans u2 hU)); have hsz : w3.heap.size ≤ w4.heap.size := hU.size; have hs3 : w.heap.size ≤ w3.heap.size := Nat.le_trans u0.size (Nat.le_trans u1.size u2.size); have hfit := Lib.hid hS.fit; have hlen := hS.len; have hU4 := hU; clear hT hU hS)
    | (go_at_call 22; refine (model_any _ _ _ _ ks is vs (IsSl.later y0 (none_trans u1 (none_trans u2 hU4))) ((IsInts.later y1 u2).later hU4) (y2.later hU4) hok).mono ?_; rintro e w5 ⟨xm, rfl, hM, uM⟩; replace hTb := hTb.later uM))
  all_goals first | (go_ret; exact ⟨rfl, Below.refl _ _⟩) | skip
  go_loopw [9] (KW w5) (fun k _ => (66563 - intOf k).toNat)
  case atStart => exact ⟨1, by omega, by omega, rfl, rfl⟩
  case round =>
    obtain ⟨j, hj1, hj2, rfl, rfl⟩ := hrel
    have CA := Lib.hid (modelAt_any _ xm _ hM (j : Int) (by unfold Is64; omega))
    have CS := Lib.hid (hTb.slotIs hTb.fit (j : Int) (by unfold Is64; omega) (atM (runM ks is vs ks.length) j) (atM_fit hTb.fit _))
    rw [beq_self_eq_true] at CS
    by_cases hj3 : (j : Int) ≤ 66562
    · go_wp2_with (first
        | (go_at_call 26; refine CA.out.mono ?_; rintro e w6 ⟨rfl, rfl⟩)
        | (go_at_call 25; refine CS.out.mono ?_; rintro e w6 ⟨rfl, rfl⟩))
      go_roundw
      case rel => exact ⟨j + 1, by omega, by omega, by go_num, rfl⟩
      case measure => exact meas (by omega)
    · go_wp2_with fail
      go_ret
      exact ⟨rfl, Below.after hB (none_below uM) (Nat.le_trans hs3 hsz)⟩
end Go.Lua
