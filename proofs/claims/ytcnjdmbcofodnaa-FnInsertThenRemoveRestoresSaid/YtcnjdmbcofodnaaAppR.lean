/-
  n005_73: FnAppendThenRemoveRestores.
-/
import Derived.Test.YtcnjdmbcofodnaaRem
namespace Go.Lua
open Go.Proofs Go.RowKit
set_option linter.unusedVariables false

theorem neq_self (v : Int) (hv : -2147483648 ≤ v ∧ v ≤ 2147483647) : (FloatKind.f64.format.order (fofInt v) (floatOfInt .f64 v) != some .eq) = false := by
  have h : (FloatKind.f64.format.order (fofInt v) (fofInt v) == some .eq) = true := by rw [order_eq, feq_fof hv hv, beq_self_eq_true]
  rw [bne, show floatOfInt .f64 v = fofInt v from rfl, h]
  rfl
theorem app_rem (ms : List Int) (v : Int) (hv : v ≠ 0) : (bord (appM ms v) : Int) = bord ms + 1 ∧ bord (appM ms v) ≤ (appM ms v).length ∧ slotOf (atM (appM ms v) ((bord ms : Int) + 1)) = .tuple #[.float .f64 (fofInt v), .bool true] ∧
    bord ((appM ms v).eraseIdx (bord ms)) = bord ms ∧ (∀ (q : Nat) z, (snap ms (bord ms))[q]? = some z → atM ((appM ms v).eraseIdx (((bord ms : Int) + 1).toNat - 1)) ((q : Int) + 1) = z) ∧
    atM ((appM ms v).eraseIdx (bord ms)) ((bord ms : Int) + 1) = 0 := by
  have hb := bord_app (ms := ms) hv
  have e : ((bord ms : Int) + 1).toNat - 1 = bord ms := by omega
  have key : ∀ k : Int, 1 ≤ k → atM ((appM ms v).eraseIdx (bord ms)) k = atM ms k := by
    intro k hk
    rw [atM_erase k hk]
    split
    · rw [atM_app hv, if_neg (by omega)]
    · rw [atM_app hv, if_neg (by omega), bord_above (by omega), bord_above (by omega)]
  rw [e]
  refine ⟨by omega, bord_le _, ?_, ?_, ?_, ?_⟩
  · rw [atM_app hv, if_pos rfl]
    exact if_neg hv
  · refine bord_is (fun k hk => ?_) ?_
    · rw [key k (by omega)]; exact bord_above hk
    · by_cases h0 : bord ms = 0
      · exact .inl h0
      · right
        rw [key _ (by omega)]
        exact bord_here h0
  · intro q z h
    obtain ⟨hq, rfl⟩ := snap_at h
    exact key _ (by omega)
  · rw [key _ (by omega)]
    exact bord_above (by omega)

set_option maxHeartbeats 1000000 in
theorem bytes_appR (w : World) (p0 p1 p2 : Option Addr) (n0 n1 n2 c0 c1 c2 : Nat) (v : Int) (h0 : n0 ≤ maxLen) (h1 : n1 ≤ maxLen) (h2 : n2 ≤ maxLen) :
    Calls Try.prog 33 #[.slice p0 n0 c0, .slice p1 n1 c1, .slice p2 n2 c2, .int .i32 v] w (Some w) := by
  unfold maxLen at h0 h1 h2
  go_enter Try.func33, Try.ntmps33
  go_wp2
  all_goals (go_ret; first | exact ⟨rfl, .inl rfl⟩ | exact ⟨rfl, .inr rfl⟩)

set_option maxHeartbeats 4000000 in
theorem appR_walk (w : World) (v0 : Value) (ks : List Bool) (h0 : IsBools w v0 ks) (v1 : Value) (is : List Int) (h1 : IsInts .i64 w v1 is) (v2 : Value) (vs : List Int) (h2 : IsInts .i32 w v2 vs) (v : Int) (hv : (Lit.int .i32 v).wf = true) :
    Calls Try.prog 8 #[v0, v1, v2, .int .i32 v] w fun e w' => e = .returned (.bool true) ∧ Below w.heap.size w w' := by
  have CS := Lib.hid (scriptOK_any w v0 v1 v2 ks is vs h0 h1 h2)
  have H0 := Lib.hid h0
  have H1 := Lib.hid h1
  have H2 := Lib.hid h2
  obtain ⟨p0, c0, e0, k0, m0, -, -⟩ := IsSl.form h0
  obtain ⟨p1, c1, e1, k1, m1, -, -⟩ := IsSl.form h1.1
  obtain ⟨p2, c2, e2, k2, m2, -, -⟩ := IsSl.form h2.1
  simp only [List.length_map] at *
  clear h0 h1 h2
  subst e0 e1 e2
  have CB := Lib.hid (bytes_appR w p0 p1 p2 ks.length is.length vs.length c0 c1 c2 v (Nat.le_trans k0 m0) (Nat.le_trans k1 m1) (Nat.le_trans k2 m2))
  unfold maxLen at m0 m1 m2
  have hvb : -2147483648 ≤ v ∧ v ≤ 2147483647 := by simpa [Lit.wf, IntKind.min, IntKind.max, IntKind.signed, IntKind.bits] using hv
  have hbl := bord_le (runM ks is vs ks.length)
  have hne := neq_self v hvb
  have F2 := Lib.hid (app_rem (runM ks is vs ks.length) v)
  go_enter Try.func8, Try.ntmps8
  go_wp2_with (first
    | (go_at_call 33; refine CB.out.mono ?_; rintro e w1 ⟨rfl, rfl | rfl⟩)
    | (go_at_call 14; refine CS.out.mono ?_; rintro e w1 ⟨rfl, rfl | ⟨rfl, hok⟩⟩; (try (obtain ⟨b1, b2, b3, b4⟩ := id hok; have b4 := Lib.hid b4)))
    | (go_at_call 15; refine (cloneB_any _ _ _ H0.out (len_map_le _ (by omega)) (mk_all _ _)).mono ?_; intro e w1 hc; obtain ⟨x0, rfl, y0, u0⟩ := clonedB hc)
    | (go_at_call 16; refine (cloneI_any _ _ _ (H1.out.1.later u0) (len_map_le _ (by omega)) (mk_all _ _)).mono ?_; intro e w2 hc; obtain ⟨x1, rfl, y1, u1⟩ := clonedI H1.out.2 hc)
    | (go_at_call 17; refine (clone32_any _ _ _ (H2.out.1.later (none_trans u0 u1)) (len_map_le _ (by omega)) (mk_all _ _)).mono ?_; intro e w3 hc; obtain ⟨x2, rfl, y2, u2⟩ := clonedI H2.out.2 hc)
    | (go_at_call 18; refine (run_any _ _ _ _ ks is vs (IsSl.later y0 (none_trans u1 u2)) ⟨y1.1.later u2, y1.2⟩ y2 hok).mono ?_; rintro e w4 ⟨rfl, T, hS, hT, hU⟩; have hTb : Tbl (fun k => w3.heap.size ≤ k) w3.heap.size (runM ks is vs ks.length) ks.length w4 := ⟨T, hS, hT⟩; have hB : Below w.heap.size w w4 := none_below (none_trans (none_trans u0 u1) (none_trans u2 hU)); have hsz : w3.heap.size ≤ w4.heap.size := hU.size; have hs3 : w.heap.size ≤ w3.heap.size := Nat.le_trans u0.size (Nat.le_trans u1.size u2.size); have hfit := Lib.hid hS.fit; have hlen := hS.len; clear hT hU hS)
    | (go_at_call 20; refine hTb.maxN.mono ?_; rintro e w5 ⟨rfl, rfl⟩)
    | (go_at_call 30; refine (hTb.snapshot hfit.out (bord (runM ks is vs ks.length)) (by omega)).mono ?_; rintro e w5 ⟨x5, rfl, hsn, uS, hnew⟩; replace hTb := (hTb.mono (G := fun k => w3.heap.size ≤ k ∧ k < w4.heap.size) fun k a b => ⟨b, a⟩).later uS)
    | (go_at_call 31; refine (hTb.doF (by omega) true 0 v (by omega) hvb).mono ?_; rintro e w6 ⟨rfl, hT6, u6⟩; clear hTb; have hTb : Tbl _ w3.heap.size (appM (runM ks is vs ks.length) v) (ks.length + 1) w6 := hT6; have hz := beq_eq_false_iff_ne.1 (show (v == 0) = false by assumption); have F3 := F2.out hz; obtain ⟨f1, f2, f3, f4, f5, f6⟩ := F3; have f3 := Lib.hid f3; have f5 := Lib.hid f5; have hl6 := hTb.len_le; clear hz)
    | (go_at_call 34; refine (hTb.remove _ (by omega) (by omega) (by omega)).mono ?_; rintro e w7 ⟨he, hT7, u7⟩; rw [f3.out] at he; subst he; clear hTb; have hTb := hT7; have u8 := u6.trans u7)
    | (go_at_call 32; refine (hTb.same hTb.fit x5 (snap (runM ks is vs ks.length) (bord (runM ks is vs ks.length))) ⟨snap_kept hsn.1 u8 hnew (fun k a => a.2), hsn.2⟩ (by rw [snap_length]; omega) f5.out).mono ?_; rintro e w7 ⟨rfl, rfl⟩)
    | (go_at_call 25; refine (hTb.slotIs hTb.fit _ (by unfold Is64; omega) _ (by omega)).mono ?_; rintro e w7 ⟨rfl, rfl⟩))
  all_goals
    go_ret
    first
    | exact ⟨rfl, Below.refl _ _⟩
    | exact ⟨rfl, Below.after (Below.after hB (none_below uS) (Nat.le_trans hs3 hsz)) (u8.below (fun k a => a.1) (Nat.le_trans hsz uS.size)) hs3⟩
    | (go_show; sorry)
end Go.Lua
