/-
  n005_73: FnAppendWritesAtMaxNPlusOne.
-/
import Derived.Test.YtcnjdmbcofodnaaRem
namespace Go.Lua
open Go.Proofs Go.RowKit
set_option linter.unusedVariables false

theorem app_at (ms : List Int) (v : Int) : atM (appM ms v) ((bord ms : Int) + 1) = v ∧ atM (appM ms v) ((bord ms : Int) + 2) = 0 := by
  by_cases hv : v = 0
  · subst hv
    rw [show appM ms 0 = ms from if_pos rfl]
    exact ⟨bord_above (by omega), bord_above (by omega)⟩
  · rw [atM_app hv, atM_app hv, if_pos rfl, if_neg (by omega)]
    exact ⟨rfl, bord_above (by omega)⟩
theorem app_bord (ms : List Int) (v : Int) : (v = 0 → bord (appM ms v) = bord ms) ∧ (v ≠ 0 → bord (appM ms v) = bord ms + 1) :=
  ⟨fun h => by subst h; rfl, fun h => bord_app h⟩
theorem app_snap (ms : List Int) (v : Int) : ∀ (q : Nat) z, (snap ms (bord ms))[q]? = some z → atM (appM ms v) ((q : Int) + 1) = z := by
  intro q z h
  obtain ⟨hq, rfl⟩ := snap_at h
  by_cases hv : v = 0
  · subst hv; rfl
  · rw [atM_app hv, if_neg (by omega)]

set_option maxHeartbeats 1000000 in
theorem bytes_appW (w : World) (p0 p1 p2 : Option Addr) (n0 n1 n2 c0 c1 c2 : Nat) (v : Int) (h0 : n0 ≤ maxLen) (h1 : n1 ≤ maxLen) (h2 : n2 ≤ maxLen) :
    Calls Try.prog 29 #[.slice p0 n0 c0, .slice p1 n1 c1, .slice p2 n2 c2, .int .i32 v] w (Some w) := by
  unfold maxLen at h0 h1 h2
  go_enter Try.func29, Try.ntmps29
  go_wp2
  all_goals (go_ret; first | exact ⟨rfl, .inl rfl⟩ | exact ⟨rfl, .inr rfl⟩)

set_option maxHeartbeats 4000000 in
theorem appW_walk (w : World) (v0 : Value) (ks : List Bool) (h0 : IsBools w v0 ks) (v1 : Value) (is : List Int) (h1 : IsInts .i64 w v1 is) (v2 : Value) (vs : List Int) (h2 : IsInts .i32 w v2 vs) (v : Int) (hv : (Lit.int .i32 v).wf = true) :
    Calls Try.prog 7 #[v0, v1, v2, .int .i32 v] w fun e w' => e = .returned (.bool true) ∧ Below w.heap.size w w' := by
  have CS := Lib.hid (scriptOK_any w v0 v1 v2 ks is vs h0 h1 h2)
  have H0 := Lib.hid h0
  have H1 := Lib.hid h1
  have H2 := Lib.hid h2
  obtain ⟨p0, c0, e0, k0, m0, -, -⟩ := IsSl.form h0
  obtain ⟨p1, c1, e1, k1, m1, -, -⟩ := IsSl.form h1.1
  obtain ⟨p2, c2, e2, k2, m2, -, -⟩ := IsSl.form h2.1
  simp only [List.length_map] at *
  clear h0 h1 h2
  subst e0 e1 e2
  have CB := Lib.hid (bytes_appW w p0 p1 p2 ks.length is.length vs.length c0 c1 c2 v (Nat.le_trans k0 m0) (Nat.le_trans k1 m1) (Nat.le_trans k2 m2))
  unfold maxLen at m0 m1 m2
  have hvb : -2147483648 ≤ v ∧ v ≤ 2147483647 := by simpa [Lit.wf, IntKind.min, IntKind.max, IntKind.signed, IntKind.bits] using hv
  have hbl := bord_le (runM ks is vs ks.length)
  have F1 := app_at (runM ks is vs ks.length) v
  have F2 := Lib.hid (app_bord (runM ks is vs ks.length) v)
  go_enter Try.func7, Try.ntmps7
  go_wp2_with (first
    | (go_at_call 29; refine CB.out.mono ?_; rintro e w1 ⟨rfl, rfl | rfl⟩)
    | (go_at_call 14; refine CS.out.mono ?_; rintro e w1 ⟨rfl, rfl | ⟨rfl, hok⟩⟩; (try (obtain ⟨b1, b2, b3, b4⟩ := id hok; have b4 := Lib.hid b4)))
    | (go_at_call 15; refine (cloneB_any _ _ _ H0.out (len_map_le _ (by omega)) (mk_all _ _)).mono ?_; intro e w1 hc; obtain ⟨x0, rfl, y0, u0⟩ := clonedB hc)
    | (go_at_call 16; refine (cloneI_any _ _ _ (H1.out.1.later u0) (len_map_le _ (by omega)) (mk_all _ _)).mono ?_; intro e w2 hc; obtain ⟨x1, rfl, y1, u1⟩ := clonedI H1.out.2 hc)
    | (go_at_call 17; refine (clone32_any _ _ _ (H2.out.1.later (none_trans u0 u1)) (len_map_le _ (by omega)) (mk_all _ _)).mono ?_; intro e w3 hc; obtain ⟨x2, rfl, y2, u2⟩ := clonedI H2.out.2 hc)
    | (go_at_call 18; refine (run_any _ _ _ _ ks is vs (IsSl.later y0 (none_trans u1 u2)) ⟨y1.1.later u2, y1.2⟩ y2 hok).mono ?_; rintro e w4 ⟨rfl, T, hS, hT, hU⟩; have hTb : Tbl (fun k => w3.heap.size ≤ k) w3.heap.size (runM ks is vs ks.length) ks.length w4 := ⟨T, hS, hT⟩; have hB : Below w.heap.size w w4 := none_below (none_trans (none_trans u0 u1) (none_trans u2 hU)); have hsz : w3.heap.size ≤ w4.heap.size := hU.size; have hs3 : w.heap.size ≤ w3.heap.size := Nat.le_trans u0.size (Nat.le_trans u1.size u2.size); have hfit := Lib.hid hS.fit; have hlen := hS.len; clear hT hU hS)
    | (go_at_call 20; refine hTb.maxN.mono ?_; rintro e w5 ⟨rfl, rfl⟩)
    | (go_at_call 30; refine (hTb.snapshot hfit.out (bord (runM ks is vs ks.length)) (by omega)).mono ?_; rintro e w5 ⟨x5, rfl, hsn, uS, hnew⟩; replace hTb := (hTb.mono (G := fun k => w3.heap.size ≤ k ∧ k < w4.heap.size) fun k a b => ⟨b, a⟩).later uS)
    | (go_at_call 31; refine (hTb.doF (by omega) true 0 v (by omega) hvb).mono ?_; rintro e w6 ⟨rfl, hT6, u6⟩; clear hTb; have hTb : Tbl _ w3.heap.size (appM (runM ks is vs ks.length) v) (ks.length + 1) w6 := hT6)
    | (go_at_call 32; refine (hTb.same hTb.fit x5 (snap (runM ks is vs ks.length) (bord (runM ks is vs ks.length))) ⟨snap_kept hsn.1 u6 hnew (fun k a => a.2), hsn.2⟩ (by rw [snap_length]; omega) (app_snap _ _)).mono ?_; rintro e w7 ⟨rfl, rfl⟩)
    | (go_at_call 25; refine (hTb.slotIs hTb.fit _ (by unfold Is64; omega) _ (by omega)).mono ?_; rintro e w7 ⟨rfl, rfl⟩))
  all_goals
    go_ret
    first
    | exact ⟨rfl, Below.refl _ _⟩
    | exact ⟨rfl, Below.after (Below.after hB (none_below uS) (Nat.le_trans hs3 hsz)) (u6.below (fun k a => a.1) (Nat.le_trans hsz uS.size)) hs3⟩
    | (exfalso
       obtain ⟨f1, f2⟩ := F2.out
       first
       | (have hz := beq_iff_eq.1 (show (v == 0) = true by assumption); omega)
       | (have hz := beq_eq_false_iff_ne.1 (show (v == 0) = false by assumption); omega))

end Go.Lua
