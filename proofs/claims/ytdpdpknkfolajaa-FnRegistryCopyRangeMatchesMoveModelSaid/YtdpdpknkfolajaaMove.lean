/-
  n005_31: FnRegistryCopyRangeMatchesMoveModel (printed by mkmove.py).
-/
import Derived.Test.YtdpdpknkfolajaaFillM
namespace Go.Lua
open Go.Proofs Go.RowKit
set_option linter.unusedVariables false

/-- The model's class and number of slot j. -/
def InSrc (s L : Int) (v j : Nat) : Prop := 0 ≤ s + ((j : Int) - v) ∧ s + ((j : Int) - v) < L
instance (s L : Int) (v j : Nat) : Decidable (InSrc s L v j) := inferInstanceAs (Decidable (_ ∧ _))
def mvk (xs : List Int) (v k : Nat) (s L : Int) (j : Nat) : Int := if v + k ≤ j then 0 else if v ≤ j then (if InSrc s L v j then 2 else 1) else if j < xs.length then 2 else 0
def mvm (xs : List Int) (v k : Nat) (s L : Int) (j : Nat) : Int := if v + k ≤ j then 0 else if v ≤ j then (if InSrc s L v j then xs.getD (s + ((j : Int) - v)).toNat 0 else 0) else if j < xs.length then xs.getD j 0 else 0
theorem move_pure {xs : List Int} (hx : ∀ z ∈ xs, I32 z) (v k : Nat) (s L : Int) (hL : L ≤ xs.length) (j : Nat) :
    (mvk xs v k s L j = 0 ∨ mvk xs v k s L j = 1 ∨ mvk xs v k s L j = 2) ∧ I32 (mvm xs v k s L j) ∧
    cut (moved (regOf xs) v s L k) (v + k) (xs.length : Int) j = slotV (mvk xs v k s L j) (mvm xs v k s L j) := by
  have hi : I32 (mvm xs v k s L j) := by
    unfold mvm
    split
    · exact i32_zero
    · split
      · split
        · exact getD_i32 hx _
        · exact i32_zero
      · split
        · exact getD_i32 hx j
        · exact i32_zero
  refine ⟨?_, hi, ?_⟩
  · unfold mvk; split
    · exact .inl rfl
    · split
      · split
        · exact .inr (.inr rfl)
        · exact .inr (.inl rfl)
      · split
        · exact .inr (.inr rfl)
        · exact .inl rfl
  · by_cases h1 : v + k ≤ j
    · rw [show mvk xs v k s L j = 0 from if_pos h1, slotV0]
      unfold cut
      by_cases h2 : (j : Int) < xs.length
      · rw [if_pos (by omega)]
      · rw [if_neg (by omega), moved_off (by omega), regOf_none (by omega)]
    · unfold cut
      rw [if_neg (by omega)]
      by_cases h2 : v ≤ j
      · unfold moved
        rw [if_pos (by omega)]
        unfold src
        by_cases h3 : InSrc s L v j
        · rw [show mvk xs v k s L j = 2 from (if_neg h1).trans ((if_pos h2).trans (if_pos h3)), slotV2, show mvm xs v k s L j = xs.getD (s + ((j : Int) - v)).toNat 0 from (if_neg h1).trans ((if_pos h2).trans (if_pos h3))]
          unfold InSrc at h3
          rw [if_neg (by omega), show s + ((j - v : Nat) : Int) = s + ((j : Int) - v) by omega]
          exact regOf_in (by omega)
        · rw [show mvk xs v k s L j = 1 from (if_neg h1).trans ((if_pos h2).trans (if_neg h3)), slotV1]
          unfold InSrc at h3
          rw [if_pos (by omega)]
      · rw [moved_off (by omega)]
        by_cases h3 : j < xs.length
        · rw [show mvk xs v k s L j = 2 from (if_neg h1).trans ((if_neg h2).trans (if_pos h3)), slotV2, regOf_in h3, show mvm xs v k s L j = xs.getD j 0 from (if_neg h1).trans ((if_neg h2).trans (if_pos h3))]
        · rw [show mvk xs v k s L j = 0 from (if_neg h1).trans ((if_neg h2).trans (if_neg h3)), slotV0, regOf_none (by omega)]

set_option maxHeartbeats 400000 in
theorem bytes_move (w : World) (v : Value) (xs : List Int) (h : IsInts .i32 w v xs) (a b c d f : Int) :
    Calls Try.prog 19 #[v, .int .i64 a, .int .i64 b, .int .i64 c, .int .i64 d, .int .i64 f] w (Asks w) := by
  obtain ⟨p, q, rfl, k, m, -, -⟩ := IsSl.form h.1
  simp only [List.length_map] at *
  unfold maxLen at m
  clear h
  go_enter Try.func19, Try.ntmps19
  go_wp2
  all_goals (go_ret; first | exact ⟨rfl, .inl rfl⟩ | exact ⟨rfl, .inr rfl⟩)

def MoveW (w2 : World) (bk bm n : Nat) (xs : List Int) (v k : Nat) (s L : Int) (i : Value) (wr : World) : Prop := ∃ j : Nat, j ≤ n ∧ i = .int .i64 j ∧ Rows2 w2 bk bm n (mvk xs v k s L) (mvm xs v k s L) j wr
/-- A number that lay there before the rows, behind a store into the first of them. -/
theorem read_num {w2 wr : World} {b j i : Nat} {a : Addr} {u : Value} (hu : Upd (fun _ => False) w2 wr) (hc : w2.cell? (a.add i) = some u) (hb : b = w2.heap.size) (q : Value) :
    a.block ≠ b ∧ (wr.setCell ⟨b, j, none⟩ q).cell? (a.add i) = some u := by
  have hbb : (a.add i).block = a.block := by unfold Addr.add; split <;> rfl
  have hlt := World.block_lt_of_cell? w2 _ hc
  have d := old_at hu hc
  refine ⟨by omega, ?_⟩
  rw [← d]
  unfold World.cell?
  rw [Below.heap_setCell wr ⟨b, j, none⟩ _ _ (by simp; omega)]
theorem getD_of {xs : List Int} {i : Nat} {z : Int} (h : xs[i]? = some z) : xs.getD i 0 = z := by rw [List.getD_eq_getElem?_getD, h]; rfl

set_option maxRecDepth 100000 in
set_option maxHeartbeats 4000000 in
theorem moveA_lo (w : World) (vv : Value) (xs : List Int) (h : IsInts .i32 w vv xs) (n v k : Nat) (s l : Int) (hl64 : -9223372036854775808 ≤ l ∧ l ≤ 9223372036854775807) (hg : Hid (xs.length ≤ 65536 ∧ xs.length ≤ n ∧ n ≤ 65536 ∧ v + k ≤ n ∧ -1073741824 ≤ s ∧ s ≤ 1073741824)) (hd : (v : Int) ≤ s)  :
    Calls Try.prog 7 #[vv, .int .i64 n, .int .i64 v, .int .i64 s, .int .i64 (-1), .int .i64 k] w (Fine w) := by
  have CB := Lib.hid (bytes_move w vv xs h n v s (-1) k)
  have H0 := Lib.hid h
  obtain ⟨p, q, rfl, k', mx, -, -⟩ := IsSl.form h.1
  simp only [List.length_map] at *
  unfold maxLen at mx
  obtain ⟨g1, g2, g3, g4, g5, g6⟩ := hg.out
  obtain ⟨l1, l2⟩ := hl64
  have hm1 := kind_made n (by omega)
  have hm2 := clone32_made n (by omega)
  have hb2 : decide (n < xs.length) = false := decide_eq_false (by omega)
  have HE := Lib.hid (show eff (-1) xs.length = (xs.length : Int) from if_pos (.inl rfl))
  have HD := Lib.hid hd
  have HLL := Lib.hid (show (xs.length : Int) ≤ (xs.length : Int) by omega)
  have hs1 : decide ((v : Int) > s) = false := decide_eq_false (by omega)
  clear h hd
  go_enter Try.func7, Try.ntmps7
  go_wp2_with (first
    | (go_at_call 19; refine CB.out.mono ?_; rintro e w1 ⟨rfl, rfl | rfl⟩)
    | (go_at_call 9; refine (cloneI_any _ _ xs H0.out (by omega)).mono ?_; rintro e w2 ⟨p2, c2, rfl, hV, hU⟩; have HX := Lib.hid (isints_i32 hV); have HV := Lib.hid hV; have HU := Lib.hid hU; clear hV hU)
    | (simp only [hm1, hm2]))
  all_goals first | (go_ret; exact ⟨rfl, Below.refl _ _⟩) | skip
  have HM := Lib.hid (Rows2.start w2 n (mvk xs v k s (xs.length : Int)) (mvm xs v k s (xs.length : Int)))
  obtain ⟨pv, cv, hpv, -, -, -, GV⟩ := HV.out.1.form
  obtain ⟨rfl, -, rfl⟩ : p2 = pv ∧ True ∧ c2 = cv := by injection hpv with q1 q2 q3; exact ⟨q1, trivial, q3⟩
  clear hpv
  have GV := Lib.hid GV
  go_loopw [18] (MoveW w2 w2.heap.size (w2.heap.size + 1) n xs v k s (xs.length : Int)) (fun i _ => (n - (intOf i).toNat))
  case atStart => exact ⟨0, Nat.zero_le _, rfl, HM.out⟩
  case round =>
    clear HM hm1 hm2
    obtain ⟨j, hj, rfl, hR⟩ := hrel
    by_cases hlt : (j : Int) < n
    · obtain ⟨ck, fk1, cm, fm1⟩ := hR.cells (show j < n by omega)
      have hne : w2.heap.size ≠ w2.heap.size + 1 := hR.ne
      have HR := Lib.hid hR
      clear hR
      by_cases h1 : v + k ≤ j
      · have e1 := Lib.hid (show mvk xs v k s (xs.length : Int) j = 0 from if_pos h1)
        have e2 := Lib.hid (show mvm xs v k s (xs.length : Int) j = 0 from if_pos h1)
        go_wp2_with fail
        go_roundw
        case rel => exact ⟨j + 1, by omega, by go_num, HR.out.one e1.out e2.out⟩
        case measure => simp [intOf]; omega
      by_cases h2 : v ≤ j
      · by_cases h3 : InSrc s (xs.length : Int) v j
        · have e1 := Lib.hid (show mvk xs v k s (xs.length : Int) j = 2 from (if_neg h1).trans ((if_pos h2).trans (if_pos h3)))
          have e2 := Lib.hid (show mvm xs v k s (xs.length : Int) j = xs.getD (s + ((j : Int) - v)).toNat 0 from (if_neg h1).trans ((if_pos h2).trans (if_pos h3)))
          unfold InSrc at h3
          obtain ⟨h31, h32⟩ := h3
          have hll := HLL.out
          obtain ⟨i, hi⟩ : ∃ i : Nat, s + ((j : Int) - v) = i := ⟨(s + ((j : Int) - v)).toNat, by omega⟩
          have hii : i < xs.length := by omega
          obtain ⟨z, hz⟩ : ∃ z, xs[i]? = some z := ⟨xs[i]'hii, by simp⟩
          obtain ⟨a, rfl, hc⟩ := GV.out i (.int .i32 z) (by simp [hz])
          have e2 := Lib.hid (e2.out.trans (show xs.getD (s + ((j : Int) - v)).toNat 0 = z by rw [hi]; exact getD_of hz))
          obtain ⟨hab, d2⟩ := read_num (j := j) HR.out.upd hc rfl (.int .i64 2)
          clear hz hc
          go_wp2_with (simp only [hi])
          go_roundw
          case rel => exact ⟨j + 1, by omega, by go_num, HR.out.two e1.out e2.out⟩
          case measure => simp [intOf]; omega
        · have e1 := Lib.hid (show mvk xs v k s (xs.length : Int) j = 1 from (if_neg h1).trans ((if_pos h2).trans (if_neg h3)))
          have e2 := Lib.hid (show mvm xs v k s (xs.length : Int) j = 0 from (if_neg h1).trans ((if_pos h2).trans (if_neg h3)))
          unfold InSrc at h3
          by_cases h31 : 0 ≤ s + ((j : Int) - v)
          · have h32 : ¬ s + ((j : Int) - v) < (xs.length : Int) := fun q => h3 ⟨h31, q⟩
            clear h3
            go_wp2_with fail
            go_roundw
            case rel => exact ⟨j + 1, by omega, by go_num, HR.out.one e1.out e2.out⟩
            case measure => simp [intOf]; omega
          · clear h3
            go_wp2_with fail
            go_roundw
            case rel => exact ⟨j + 1, by omega, by go_num, HR.out.one e1.out e2.out⟩
            case measure => simp [intOf]; omega
      by_cases h3 : j < xs.length
      · have e1 := Lib.hid (show mvk xs v k s (xs.length : Int) j = 2 from (if_neg h1).trans ((if_neg h2).trans (if_pos h3)))
        have e2 := Lib.hid (show mvm xs v k s (xs.length : Int) j = xs.getD j 0 from (if_neg h1).trans ((if_neg h2).trans (if_pos h3)))
        obtain ⟨z, hz⟩ : ∃ z, xs[j]? = some z := ⟨xs[j]'h3, by simp⟩
        obtain ⟨a, rfl, hc⟩ := GV.out j (.int .i32 z) (by simp [hz])
        have e2 := Lib.hid (e2.out.trans (getD_of hz))
        obtain ⟨hab, d2⟩ := read_num (j := j) HR.out.upd hc rfl (.int .i64 2)
        clear hz hc
        go_wp2_with fail
        go_roundw
        case rel => exact ⟨j + 1, by omega, by go_num, HR.out.two e1.out e2.out⟩
        case measure => simp [intOf]; omega
      · have e1 := Lib.hid (show mvk xs v k s (xs.length : Int) j = 0 from (if_neg h1).trans ((if_neg h2).trans (if_neg h3)))
        have e2 := Lib.hid (show mvm xs v k s (xs.length : Int) j = 0 from (if_neg h1).trans ((if_neg h2).trans (if_neg h3)))
        go_wp2_with fail
        go_roundw
        case rel => exact ⟨j + 1, by omega, by go_num, HR.out.one e1.out e2.out⟩
        case measure => simp [intOf]; omega
    · obtain rfl : j = n := by omega
      have HR := Lib.hid hR
      have PU := Lib.hid (fun x => move_pure HX.out v k s (xs.length : Int) HLL.out x)
      clear hR
      go_wp2_with (first
        | (go_at_call 10; refine (build_any _ _ xs (HV.out.kept HR.out.upd) j (by omega) (by omega)).mono ?_; intro e w3 hB; obtain ⟨rfl, hO⟩ := One.make hB (Upd.refl _ _); have HO := Lib.hid hO; clear hB hO)
        | (go_at_call 12; refine (zcopy_any HO.out.at' (by omega) (fun i _ => (regOf_slot HX.out i).one) (by omega) v k s (-1) (by omega) (by omega) (.inl HD.out)).mono ?_; intro e w4 hs; obtain ⟨rfl, hO⟩ := HO.out.to hs; rw [HE.out] at hO; have HO := Lib.hid hO; clear hs hO)
        | (go_at_call 17; refine (matches_yes _ _ _ j _ _ HO.out.at' (by omega) _ _ _ _ (HR.out.full HO.out.upd).1 (HR.out.full HO.out.upd).2 (fun x _ => PU.out x)).mono ?_; rintro e w7 ⟨rfl, rfl⟩))
      go_ret
      exact ⟨rfl, none_below (none_trans HU.out (none_trans HR.out.upd HO.out.upd))⟩

set_option maxRecDepth 100000 in
set_option maxHeartbeats 4000000 in
theorem moveB_lo (w : World) (vv : Value) (xs : List Int) (h : IsInts .i32 w vv xs) (n v k : Nat) (s l : Int) (hl64 : -9223372036854775808 ≤ l ∧ l ≤ 9223372036854775807) (hg : Hid (xs.length ≤ 65536 ∧ xs.length ≤ n ∧ n ≤ 65536 ∧ v + k ≤ n ∧ -1073741824 ≤ s ∧ s ≤ 1073741824)) (hd : (v : Int) ≤ s) (hl : l ≠ -1) (hl2 : (xs.length : Int) < l) :
    Calls Try.prog 7 #[vv, .int .i64 n, .int .i64 v, .int .i64 s, .int .i64 l, .int .i64 k] w (Fine w) := by
  have CB := Lib.hid (bytes_move w vv xs h n v s l k)
  have H0 := Lib.hid h
  obtain ⟨p, q, rfl, k', mx, -, -⟩ := IsSl.form h.1
  simp only [List.length_map] at *
  unfold maxLen at mx
  obtain ⟨g1, g2, g3, g4, g5, g6⟩ := hg.out
  obtain ⟨l1, l2⟩ := hl64
  have hm1 := kind_made n (by omega)
  have hm2 := clone32_made n (by omega)
  have hb2 : decide (n < xs.length) = false := decide_eq_false (by omega)
  have HE := Lib.hid (show eff l xs.length = (xs.length : Int) from if_pos (.inr hl2))
  have HD := Lib.hid hd
  have HLL := Lib.hid (show (xs.length : Int) ≤ (xs.length : Int) by omega)
  have hs1 : decide ((v : Int) > s) = false := decide_eq_false (by omega)
  have hl3 : (l == -1) = false := by simpa using hl
  have hl4 : decide (l > (xs.length : Int)) = true := decide_eq_true (by omega)
  clear hl
  clear h hd
  go_enter Try.func7, Try.ntmps7
  go_wp2_with (first
    | (go_at_call 19; refine CB.out.mono ?_; rintro e w1 ⟨rfl, rfl | rfl⟩)
    | (go_at_call 9; refine (cloneI_any _ _ xs H0.out (by omega)).mono ?_; rintro e w2 ⟨p2, c2, rfl, hV, hU⟩; have HX := Lib.hid (isints_i32 hV); have HV := Lib.hid hV; have HU := Lib.hid hU; clear hV hU)
    | (simp only [hm1, hm2]))
  all_goals first | (go_ret; exact ⟨rfl, Below.refl _ _⟩) | skip
  have HM := Lib.hid (Rows2.start w2 n (mvk xs v k s (xs.length : Int)) (mvm xs v k s (xs.length : Int)))
  obtain ⟨pv, cv, hpv, -, -, -, GV⟩ := HV.out.1.form
  obtain ⟨rfl, -, rfl⟩ : p2 = pv ∧ True ∧ c2 = cv := by injection hpv with q1 q2 q3; exact ⟨q1, trivial, q3⟩
  clear hpv
  have GV := Lib.hid GV
  go_loopw [18] (MoveW w2 w2.heap.size (w2.heap.size + 1) n xs v k s (xs.length : Int)) (fun i _ => (n - (intOf i).toNat))
  case atStart => exact ⟨0, Nat.zero_le _, rfl, HM.out⟩
  case round =>
    clear HM hm1 hm2
    obtain ⟨j, hj, rfl, hR⟩ := hrel
    by_cases hlt : (j : Int) < n
    · obtain ⟨ck, fk1, cm, fm1⟩ := hR.cells (show j < n by omega)
      have hne : w2.heap.size ≠ w2.heap.size + 1 := hR.ne
      have HR := Lib.hid hR
      clear hR
      by_cases h1 : v + k ≤ j
      · have e1 := Lib.hid (show mvk xs v k s (xs.length : Int) j = 0 from if_pos h1)
        have e2 := Lib.hid (show mvm xs v k s (xs.length : Int) j = 0 from if_pos h1)
        go_wp2_with fail
        go_roundw
        case rel => exact ⟨j + 1, by omega, by go_num, HR.out.one e1.out e2.out⟩
        case measure => simp [intOf]; omega
      by_cases h2 : v ≤ j
      · by_cases h3 : InSrc s (xs.length : Int) v j
        · have e1 := Lib.hid (show mvk xs v k s (xs.length : Int) j = 2 from (if_neg h1).trans ((if_pos h2).trans (if_pos h3)))
          have e2 := Lib.hid (show mvm xs v k s (xs.length : Int) j = xs.getD (s + ((j : Int) - v)).toNat 0 from (if_neg h1).trans ((if_pos h2).trans (if_pos h3)))
          unfold InSrc at h3
          obtain ⟨h31, h32⟩ := h3
          have hll := HLL.out
          obtain ⟨i, hi⟩ : ∃ i : Nat, s + ((j : Int) - v) = i := ⟨(s + ((j : Int) - v)).toNat, by omega⟩
          have hii : i < xs.length := by omega
          obtain ⟨z, hz⟩ : ∃ z, xs[i]? = some z := ⟨xs[i]'hii, by simp⟩
          obtain ⟨a, rfl, hc⟩ := GV.out i (.int .i32 z) (by simp [hz])
          have e2 := Lib.hid (e2.out.trans (show xs.getD (s + ((j : Int) - v)).toNat 0 = z by rw [hi]; exact getD_of hz))
          obtain ⟨hab, d2⟩ := read_num (j := j) HR.out.upd hc rfl (.int .i64 2)
          clear hz hc
          go_wp2_with (simp only [hi])
          go_roundw
          case rel => exact ⟨j + 1, by omega, by go_num, HR.out.two e1.out e2.out⟩
          case measure => simp [intOf]; omega
        · have e1 := Lib.hid (show mvk xs v k s (xs.length : Int) j = 1 from (if_neg h1).trans ((if_pos h2).trans (if_neg h3)))
          have e2 := Lib.hid (show mvm xs v k s (xs.length : Int) j = 0 from (if_neg h1).trans ((if_pos h2).trans (if_neg h3)))
          unfold InSrc at h3
          by_cases h31 : 0 ≤ s + ((j : Int) - v)
          · have h32 : ¬ s + ((j : Int) - v) < (xs.length : Int) := fun q => h3 ⟨h31, q⟩
            clear h3
            go_wp2_with fail
            go_roundw
            case rel => exact ⟨j + 1, by omega, by go_num, HR.out.one e1.out e2.out⟩
            case measure => simp [intOf]; omega
          · clear h3
            go_wp2_with fail
            go_roundw
            case rel => exact ⟨j + 1, by omega, by go_num, HR.out.one e1.out e2.out⟩
            case measure => simp [intOf]; omega
      by_cases h3 : j < xs.length
      · have e1 := Lib.hid (show mvk xs v k s (xs.length : Int) j = 2 from (if_neg h1).trans ((if_neg h2).trans (if_pos h3)))
        have e2 := Lib.hid (show mvm xs v k s (xs.length : Int) j = xs.getD j 0 from (if_neg h1).trans ((if_neg h2).trans (if_pos h3)))
        obtain ⟨z, hz⟩ : ∃ z, xs[j]? = some z := ⟨xs[j]'h3, by simp⟩
        obtain ⟨a, rfl, hc⟩ := GV.out j (.int .i32 z) (by simp [hz])
        have e2 := Lib.hid (e2.out.trans (getD_of hz))
        obtain ⟨hab, d2⟩ := read_num (j := j) HR.out.upd hc rfl (.int .i64 2)
        clear hz hc
        go_wp2_with fail
        go_roundw
        case rel => exact ⟨j + 1, by omega, by go_num, HR.out.two e1.out e2.out⟩
        case measure => simp [intOf]; omega
      · have e1 := Lib.hid (show mvk xs v k s (xs.length : Int) j = 0 from (if_neg h1).trans ((if_neg h2).trans (if_neg h3)))
        have e2 := Lib.hid (show mvm xs v k s (xs.length : Int) j = 0 from (if_neg h1).trans ((if_neg h2).trans (if_neg h3)))
        go_wp2_with fail
        go_roundw
        case rel => exact ⟨j + 1, by omega, by go_num, HR.out.one e1.out e2.out⟩
        case measure => simp [intOf]; omega
    · obtain rfl : j = n := by omega
      have HR := Lib.hid hR
      have PU := Lib.hid (fun x => move_pure HX.out v k s (xs.length : Int) HLL.out x)
      clear hR
      go_wp2_with (first
        | (go_at_call 10; refine (build_any _ _ xs (HV.out.kept HR.out.upd) j (by omega) (by omega)).mono ?_; intro e w3 hB; obtain ⟨rfl, hO⟩ := One.make hB (Upd.refl _ _); have HO := Lib.hid hO; clear hB hO)
        | (go_at_call 12; refine (zcopy_any HO.out.at' (by omega) (fun i _ => (regOf_slot HX.out i).one) (by omega) v k s l (by omega) (by omega) (.inl HD.out)).mono ?_; intro e w4 hs; obtain ⟨rfl, hO⟩ := HO.out.to hs; rw [HE.out] at hO; have HO := Lib.hid hO; clear hs hO)
        | (go_at_call 17; refine (matches_yes _ _ _ j _ _ HO.out.at' (by omega) _ _ _ _ (HR.out.full HO.out.upd).1 (HR.out.full HO.out.upd).2 (fun x _ => PU.out x)).mono ?_; rintro e w7 ⟨rfl, rfl⟩))
      go_ret
      exact ⟨rfl, none_below (none_trans HU.out (none_trans HR.out.upd HO.out.upd))⟩

set_option maxRecDepth 100000 in
set_option maxHeartbeats 4000000 in
theorem moveC_lo (w : World) (vv : Value) (xs : List Int) (h : IsInts .i32 w vv xs) (n v k : Nat) (s l : Int) (hl64 : -9223372036854775808 ≤ l ∧ l ≤ 9223372036854775807) (hg : Hid (xs.length ≤ 65536 ∧ xs.length ≤ n ∧ n ≤ 65536 ∧ v + k ≤ n ∧ -1073741824 ≤ s ∧ s ≤ 1073741824)) (hd : (v : Int) ≤ s) (hl : l ≠ -1) (hl2 : l ≤ (xs.length : Int)) :
    Calls Try.prog 7 #[vv, .int .i64 n, .int .i64 v, .int .i64 s, .int .i64 l, .int .i64 k] w (Fine w) := by
  have CB := Lib.hid (bytes_move w vv xs h n v s l k)
  have H0 := Lib.hid h
  obtain ⟨p, q, rfl, k', mx, -, -⟩ := IsSl.form h.1
  simp only [List.length_map] at *
  unfold maxLen at mx
  obtain ⟨g1, g2, g3, g4, g5, g6⟩ := hg.out
  obtain ⟨l1, l2⟩ := hl64
  have hm1 := kind_made n (by omega)
  have hm2 := clone32_made n (by omega)
  have hb2 : decide (n < xs.length) = false := decide_eq_false (by omega)
  have HE := Lib.hid (show eff l xs.length = l from if_neg (by omega))
  have HD := Lib.hid hd
  have HLL := Lib.hid (show l ≤ (xs.length : Int) by omega)
  have hs1 : decide ((v : Int) > s) = false := decide_eq_false (by omega)
  have hl3 : (l == -1) = false := by simpa using hl
  have hl4 : decide (l > (xs.length : Int)) = false := decide_eq_false (by omega)
  clear hl
  clear h hd
  go_enter Try.func7, Try.ntmps7
  go_wp2_with (first
    | (go_at_call 19; refine CB.out.mono ?_; rintro e w1 ⟨rfl, rfl | rfl⟩)
    | (go_at_call 9; refine (cloneI_any _ _ xs H0.out (by omega)).mono ?_; rintro e w2 ⟨p2, c2, rfl, hV, hU⟩; have HX := Lib.hid (isints_i32 hV); have HV := Lib.hid hV; have HU := Lib.hid hU; clear hV hU)
    | (simp only [hm1, hm2]))
  all_goals first | (go_ret; exact ⟨rfl, Below.refl _ _⟩) | skip
  have HM := Lib.hid (Rows2.start w2 n (mvk xs v k s l) (mvm xs v k s l))
  obtain ⟨pv, cv, hpv, -, -, -, GV⟩ := HV.out.1.form
  obtain ⟨rfl, -, rfl⟩ : p2 = pv ∧ True ∧ c2 = cv := by injection hpv with q1 q2 q3; exact ⟨q1, trivial, q3⟩
  clear hpv
  have GV := Lib.hid GV
  go_loopw [18] (MoveW w2 w2.heap.size (w2.heap.size + 1) n xs v k s l) (fun i _ => (n - (intOf i).toNat))
  case atStart => exact ⟨0, Nat.zero_le _, rfl, HM.out⟩
  case round =>
    clear HM hm1 hm2
    obtain ⟨j, hj, rfl, hR⟩ := hrel
    by_cases hlt : (j : Int) < n
    · obtain ⟨ck, fk1, cm, fm1⟩ := hR.cells (show j < n by omega)
      have hne : w2.heap.size ≠ w2.heap.size + 1 := hR.ne
      have HR := Lib.hid hR
      clear hR
      by_cases h1 : v + k ≤ j
      · have e1 := Lib.hid (show mvk xs v k s l j = 0 from if_pos h1)
        have e2 := Lib.hid (show mvm xs v k s l j = 0 from if_pos h1)
        go_wp2_with fail
        go_roundw
        case rel => exact ⟨j + 1, by omega, by go_num, HR.out.one e1.out e2.out⟩
        case measure => simp [intOf]; omega
      by_cases h2 : v ≤ j
      · by_cases h3 : InSrc s l v j
        · have e1 := Lib.hid (show mvk xs v k s l j = 2 from (if_neg h1).trans ((if_pos h2).trans (if_pos h3)))
          have e2 := Lib.hid (show mvm xs v k s l j = xs.getD (s + ((j : Int) - v)).toNat 0 from (if_neg h1).trans ((if_pos h2).trans (if_pos h3)))
          unfold InSrc at h3
          obtain ⟨h31, h32⟩ := h3
          have hll := HLL.out
          obtain ⟨i, hi⟩ : ∃ i : Nat, s + ((j : Int) - v) = i := ⟨(s + ((j : Int) - v)).toNat, by omega⟩
          have hii : i < xs.length := by omega
          obtain ⟨z, hz⟩ : ∃ z, xs[i]? = some z := ⟨xs[i]'hii, by simp⟩
          obtain ⟨a, rfl, hc⟩ := GV.out i (.int .i32 z) (by simp [hz])
          have e2 := Lib.hid (e2.out.trans (show xs.getD (s + ((j : Int) - v)).toNat 0 = z by rw [hi]; exact getD_of hz))
          obtain ⟨hab, d2⟩ := read_num (j := j) HR.out.upd hc rfl (.int .i64 2)
          clear hz hc
          go_wp2_with (simp only [hi])
          go_roundw
          case rel => exact ⟨j + 1, by omega, by go_num, HR.out.two e1.out e2.out⟩
          case measure => simp [intOf]; omega
        · have e1 := Lib.hid (show mvk xs v k s l j = 1 from (if_neg h1).trans ((if_pos h2).trans (if_neg h3)))
          have e2 := Lib.hid (show mvm xs v k s l j = 0 from (if_neg h1).trans ((if_pos h2).trans (if_neg h3)))
          unfold InSrc at h3
          by_cases h31 : 0 ≤ s + ((j : Int) - v)
          · have h32 : ¬ s + ((j : Int) - v) < l := fun q => h3 ⟨h31, q⟩
            clear h3
            go_wp2_with fail
            go_roundw
            case rel => exact ⟨j + 1, by omega, by go_num, HR.out.one e1.out e2.out⟩
            case measure => simp [intOf]; omega
          · clear h3
            go_wp2_with fail
            go_roundw
            case rel => exact ⟨j + 1, by omega, by go_num, HR.out.one e1.out e2.out⟩
            case measure => simp [intOf]; omega
      by_cases h3 : j < xs.length
      · have e1 := Lib.hid (show mvk xs v k s l j = 2 from (if_neg h1).trans ((if_neg h2).trans (if_pos h3)))
        have e2 := Lib.hid (show mvm xs v k s l j = xs.getD j 0 from (if_neg h1).trans ((if_neg h2).trans (if_pos h3)))
        obtain ⟨z, hz⟩ : ∃ z, xs[j]? = some z := ⟨xs[j]'h3, by simp⟩
        obtain ⟨a, rfl, hc⟩ := GV.out j (.int .i32 z) (by simp [hz])
        have e2 := Lib.hid (e2.out.trans (getD_of hz))
        obtain ⟨hab, d2⟩ := read_num (j := j) HR.out.upd hc rfl (.int .i64 2)
        clear hz hc
        go_wp2_with fail
        go_roundw
        case rel => exact ⟨j + 1, by omega, by go_num, HR.out.two e1.out e2.out⟩
        case measure => simp [intOf]; omega
      · have e1 := Lib.hid (show mvk xs v k s l j = 0 from (if_neg h1).trans ((if_neg h2).trans (if_neg h3)))
        have e2 := Lib.hid (show mvm xs v k s l j = 0 from (if_neg h1).trans ((if_neg h2).trans (if_neg h3)))
        go_wp2_with fail
        go_roundw
        case rel => exact ⟨j + 1, by omega, by go_num, HR.out.one e1.out e2.out⟩
        case measure => simp [intOf]; omega
    · obtain rfl : j = n := by omega
      have HR := Lib.hid hR
      have PU := Lib.hid (fun x => move_pure HX.out v k s l HLL.out x)
      clear hR
      go_wp2_with (first
        | (go_at_call 10; refine (build_any _ _ xs (HV.out.kept HR.out.upd) j (by omega) (by omega)).mono ?_; intro e w3 hB; obtain ⟨rfl, hO⟩ := One.make hB (Upd.refl _ _); have HO := Lib.hid hO; clear hB hO)
        | (go_at_call 12; refine (zcopy_any HO.out.at' (by omega) (fun i _ => (regOf_slot HX.out i).one) (by omega) v k s l (by omega) (by omega) (.inl HD.out)).mono ?_; intro e w4 hs; obtain ⟨rfl, hO⟩ := HO.out.to hs; rw [HE.out] at hO; have HO := Lib.hid hO; clear hs hO)
        | (go_at_call 17; refine (matches_yes _ _ _ j _ _ HO.out.at' (by omega) _ _ _ _ (HR.out.full HO.out.upd).1 (HR.out.full HO.out.upd).2 (fun x _ => PU.out x)).mono ?_; rintro e w7 ⟨rfl, rfl⟩))
      go_ret
      exact ⟨rfl, none_below (none_trans HU.out (none_trans HR.out.upd HO.out.upd))⟩

set_option maxRecDepth 100000 in
set_option maxHeartbeats 4000000 in
theorem moveA_hi (w : World) (vv : Value) (xs : List Int) (h : IsInts .i32 w vv xs) (n v k : Nat) (s l : Int) (hl64 : -9223372036854775808 ≤ l ∧ l ≤ 9223372036854775807) (hg : Hid (xs.length ≤ 65536 ∧ xs.length ≤ n ∧ n ≤ 65536 ∧ v + k ≤ n ∧ -1073741824 ≤ s ∧ s ≤ 1073741824)) (hd0 : ¬ (v : Int) ≤ s) (hd : s + k ≤ v)  :
    Calls Try.prog 7 #[vv, .int .i64 n, .int .i64 v, .int .i64 s, .int .i64 (-1), .int .i64 k] w (Fine w) := by
  have CB := Lib.hid (bytes_move w vv xs h n v s (-1) k)
  have H0 := Lib.hid h
  obtain ⟨p, q, rfl, k', mx, -, -⟩ := IsSl.form h.1
  simp only [List.length_map] at *
  unfold maxLen at mx
  obtain ⟨g1, g2, g3, g4, g5, g6⟩ := hg.out
  obtain ⟨l1, l2⟩ := hl64
  have hm1 := kind_made n (by omega)
  have hm2 := clone32_made n (by omega)
  have hb2 : decide (n < xs.length) = false := decide_eq_false (by omega)
  have HE := Lib.hid (show eff (-1) xs.length = (xs.length : Int) from if_pos (.inl rfl))
  have HD := Lib.hid hd
  have HLL := Lib.hid (show (xs.length : Int) ≤ (xs.length : Int) by omega)
  have hs1 : decide ((v : Int) > s) = true := decide_eq_true (by omega)
  have hs2 : decide ((v : Int) < s + k) = false := decide_eq_false (by omega)
  clear h hd
  go_enter Try.func7, Try.ntmps7
  go_wp2_with (first
    | (go_at_call 19; refine CB.out.mono ?_; rintro e w1 ⟨rfl, rfl | rfl⟩)
    | (go_at_call 9; refine (cloneI_any _ _ xs H0.out (by omega)).mono ?_; rintro e w2 ⟨p2, c2, rfl, hV, hU⟩; have HX := Lib.hid (isints_i32 hV); have HV := Lib.hid hV; have HU := Lib.hid hU; clear hV hU)
    | (simp only [hm1, hm2]))
  all_goals first | (go_ret; exact ⟨rfl, Below.refl _ _⟩) | skip
  have HM := Lib.hid (Rows2.start w2 n (mvk xs v k s (xs.length : Int)) (mvm xs v k s (xs.length : Int)))
  obtain ⟨pv, cv, hpv, -, -, -, GV⟩ := HV.out.1.form
  obtain ⟨rfl, -, rfl⟩ : p2 = pv ∧ True ∧ c2 = cv := by injection hpv with q1 q2 q3; exact ⟨q1, trivial, q3⟩
  clear hpv
  have GV := Lib.hid GV
  go_loopw [18] (MoveW w2 w2.heap.size (w2.heap.size + 1) n xs v k s (xs.length : Int)) (fun i _ => (n - (intOf i).toNat))
  case atStart => exact ⟨0, Nat.zero_le _, rfl, HM.out⟩
  case round =>
    clear HM hm1 hm2
    obtain ⟨j, hj, rfl, hR⟩ := hrel
    by_cases hlt : (j : Int) < n
    · obtain ⟨ck, fk1, cm, fm1⟩ := hR.cells (show j < n by omega)
      have hne : w2.heap.size ≠ w2.heap.size + 1 := hR.ne
      have HR := Lib.hid hR
      clear hR
      by_cases h1 : v + k ≤ j
      · have e1 := Lib.hid (show mvk xs v k s (xs.length : Int) j = 0 from if_pos h1)
        have e2 := Lib.hid (show mvm xs v k s (xs.length : Int) j = 0 from if_pos h1)
        go_wp2_with fail
        go_roundw
        case rel => exact ⟨j + 1, by omega, by go_num, HR.out.one e1.out e2.out⟩
        case measure => simp [intOf]; omega
      by_cases h2 : v ≤ j
      · by_cases h3 : InSrc s (xs.length : Int) v j
        · have e1 := Lib.hid (show mvk xs v k s (xs.length : Int) j = 2 from (if_neg h1).trans ((if_pos h2).trans (if_pos h3)))
          have e2 := Lib.hid (show mvm xs v k s (xs.length : Int) j = xs.getD (s + ((j : Int) - v)).toNat 0 from (if_neg h1).trans ((if_pos h2).trans (if_pos h3)))
          unfold InSrc at h3
          obtain ⟨h31, h32⟩ := h3
          have hll := HLL.out
          obtain ⟨i, hi⟩ : ∃ i : Nat, s + ((j : Int) - v) = i := ⟨(s + ((j : Int) - v)).toNat, by omega⟩
          have hii : i < xs.length := by omega
          obtain ⟨z, hz⟩ : ∃ z, xs[i]? = some z := ⟨xs[i]'hii, by simp⟩
          obtain ⟨a, rfl, hc⟩ := GV.out i (.int .i32 z) (by simp [hz])
          have e2 := Lib.hid (e2.out.trans (show xs.getD (s + ((j : Int) - v)).toNat 0 = z by rw [hi]; exact getD_of hz))
          obtain ⟨hab, d2⟩ := read_num (j := j) HR.out.upd hc rfl (.int .i64 2)
          clear hz hc
          go_wp2_with (simp only [hi])
          go_roundw
          case rel => exact ⟨j + 1, by omega, by go_num, HR.out.two e1.out e2.out⟩
          case measure => simp [intOf]; omega
        · have e1 := Lib.hid (show mvk xs v k s (xs.length : Int) j = 1 from (if_neg h1).trans ((if_pos h2).trans (if_neg h3)))
          have e2 := Lib.hid (show mvm xs v k s (xs.length : Int) j = 0 from (if_neg h1).trans ((if_pos h2).trans (if_neg h3)))
          unfold InSrc at h3
          by_cases h31 : 0 ≤ s + ((j : Int) - v)
          · have h32 : ¬ s + ((j : Int) - v) < (xs.length : Int) := fun q => h3 ⟨h31, q⟩
            clear h3
            go_wp2_with fail
            go_roundw
            case rel => exact ⟨j + 1, by omega, by go_num, HR.out.one e1.out e2.out⟩
            case measure => simp [intOf]; omega
          · clear h3
            go_wp2_with fail
            go_roundw
            case rel => exact ⟨j + 1, by omega, by go_num, HR.out.one e1.out e2.out⟩
            case measure => simp [intOf]; omega
      by_cases h3 : j < xs.length
      · have e1 := Lib.hid (show mvk xs v k s (xs.length : Int) j = 2 from (if_neg h1).trans ((if_neg h2).trans (if_pos h3)))
        have e2 := Lib.hid (show mvm xs v k s (xs.length : Int) j = xs.getD j 0 from (if_neg h1).trans ((if_neg h2).trans (if_pos h3)))
        obtain ⟨z, hz⟩ : ∃ z, xs[j]? = some z := ⟨xs[j]'h3, by simp⟩
        obtain ⟨a, rfl, hc⟩ := GV.out j (.int .i32 z) (by simp [hz])
        have e2 := Lib.hid (e2.out.trans (getD_of hz))
        obtain ⟨hab, d2⟩ := read_num (j := j) HR.out.upd hc rfl (.int .i64 2)
        clear hz hc
        go_wp2_with fail
        go_roundw
        case rel => exact ⟨j + 1, by omega, by go_num, HR.out.two e1.out e2.out⟩
        case measure => simp [intOf]; omega
      · have e1 := Lib.hid (show mvk xs v k s (xs.length : Int) j = 0 from (if_neg h1).trans ((if_neg h2).trans (if_neg h3)))
        have e2 := Lib.hid (show mvm xs v k s (xs.length : Int) j = 0 from (if_neg h1).trans ((if_neg h2).trans (if_neg h3)))
        go_wp2_with fail
        go_roundw
        case rel => exact ⟨j + 1, by omega, by go_num, HR.out.one e1.out e2.out⟩
        case measure => simp [intOf]; omega
    · obtain rfl : j = n := by omega
      have HR := Lib.hid hR
      have PU := Lib.hid (fun x => move_pure HX.out v k s (xs.length : Int) HLL.out x)
      clear hR
      go_wp2_with (first
        | (go_at_call 10; refine (build_any _ _ xs (HV.out.kept HR.out.upd) j (by omega) (by omega)).mono ?_; intro e w3 hB; obtain ⟨rfl, hO⟩ := One.make hB (Upd.refl _ _); have HO := Lib.hid hO; clear hB hO)
        | (go_at_call 12; refine (zcopy_any HO.out.at' (by omega) (fun i _ => (regOf_slot HX.out i).one) (by omega) v k s (-1) (by omega) (by omega) (.inr HD.out)).mono ?_; intro e w4 hs; obtain ⟨rfl, hO⟩ := HO.out.to hs; rw [HE.out] at hO; have HO := Lib.hid hO; clear hs hO)
        | (go_at_call 17; refine (matches_yes _ _ _ j _ _ HO.out.at' (by omega) _ _ _ _ (HR.out.full HO.out.upd).1 (HR.out.full HO.out.upd).2 (fun x _ => PU.out x)).mono ?_; rintro e w7 ⟨rfl, rfl⟩))
      go_ret
      exact ⟨rfl, none_below (none_trans HU.out (none_trans HR.out.upd HO.out.upd))⟩

set_option maxRecDepth 100000 in
set_option maxHeartbeats 4000000 in
theorem moveB_hi (w : World) (vv : Value) (xs : List Int) (h : IsInts .i32 w vv xs) (n v k : Nat) (s l : Int) (hl64 : -9223372036854775808 ≤ l ∧ l ≤ 9223372036854775807) (hg : Hid (xs.length ≤ 65536 ∧ xs.length ≤ n ∧ n ≤ 65536 ∧ v + k ≤ n ∧ -1073741824 ≤ s ∧ s ≤ 1073741824)) (hd0 : ¬ (v : Int) ≤ s) (hd : s + k ≤ v) (hl : l ≠ -1) (hl2 : (xs.length : Int) < l) :
    Calls Try.prog 7 #[vv, .int .i64 n, .int .i64 v, .int .i64 s, .int .i64 l, .int .i64 k] w (Fine w) := by
  have CB := Lib.hid (bytes_move w vv xs h n v s l k)
  have H0 := Lib.hid h
  obtain ⟨p, q, rfl, k', mx, -, -⟩ := IsSl.form h.1
  simp only [List.length_map] at *
  unfold maxLen at mx
  obtain ⟨g1, g2, g3, g4, g5, g6⟩ := hg.out
  obtain ⟨l1, l2⟩ := hl64
  have hm1 := kind_made n (by omega)
  have hm2 := clone32_made n (by omega)
  have hb2 : decide (n < xs.length) = false := decide_eq_false (by omega)
  have HE := Lib.hid (show eff l xs.length = (xs.length : Int) from if_pos (.inr hl2))
  have HD := Lib.hid hd
  have HLL := Lib.hid (show (xs.length : Int) ≤ (xs.length : Int) by omega)
  have hs1 : decide ((v : Int) > s) = true := decide_eq_true (by omega)
  have hs2 : decide ((v : Int) < s + k) = false := decide_eq_false (by omega)
  have hl3 : (l == -1) = false := by simpa using hl
  have hl4 : decide (l > (xs.length : Int)) = true := decide_eq_true (by omega)
  clear hl
  clear h hd
  go_enter Try.func7, Try.ntmps7
  go_wp2_with (first
    | (go_at_call 19; refine CB.out.mono ?_; rintro e w1 ⟨rfl, rfl | rfl⟩)
    | (go_at_call 9; refine (cloneI_any _ _ xs H0.out (by omega)).mono ?_; rintro e w2 ⟨p2, c2, rfl, hV, hU⟩; have HX := Lib.hid (isints_i32 hV); have HV := Lib.hid hV; have HU := Lib.hid hU; clear hV hU)
    | (simp only [hm1, hm2]))
  all_goals first | (go_ret; exact ⟨rfl, Below.refl _ _⟩) | skip
  have HM := Lib.hid (Rows2.start w2 n (mvk xs v k s (xs.length : Int)) (mvm xs v k s (xs.length : Int)))
  obtain ⟨pv, cv, hpv, -, -, -, GV⟩ := HV.out.1.form
  obtain ⟨rfl, -, rfl⟩ : p2 = pv ∧ True ∧ c2 = cv := by injection hpv with q1 q2 q3; exact ⟨q1, trivial, q3⟩
  clear hpv
  have GV := Lib.hid GV
  go_loopw [18] (MoveW w2 w2.heap.size (w2.heap.size + 1) n xs v k s (xs.length : Int)) (fun i _ => (n - (intOf i).toNat))
  case atStart => exact ⟨0, Nat.zero_le _, rfl, HM.out⟩
  case round =>
    clear HM hm1 hm2
    obtain ⟨j, hj, rfl, hR⟩ := hrel
    by_cases hlt : (j : Int) < n
    · obtain ⟨ck, fk1, cm, fm1⟩ := hR.cells (show j < n by omega)
      have hne : w2.heap.size ≠ w2.heap.size + 1 := hR.ne
      have HR := Lib.hid hR
      clear hR
      by_cases h1 : v + k ≤ j
      · have e1 := Lib.hid (show mvk xs v k s (xs.length : Int) j = 0 from if_pos h1)
        have e2 := Lib.hid (show mvm xs v k s (xs.length : Int) j = 0 from if_pos h1)
        go_wp2_with fail
        go_roundw
        case rel => exact ⟨j + 1, by omega, by go_num, HR.out.one e1.out e2.out⟩
        case measure => simp [intOf]; omega
      by_cases h2 : v ≤ j
      · by_cases h3 : InSrc s (xs.length : Int) v j
        · have e1 := Lib.hid (show mvk xs v k s (xs.length : Int) j = 2 from (if_neg h1).trans ((if_pos h2).trans (if_pos h3)))
          have e2 := Lib.hid (show mvm xs v k s (xs.length : Int) j = xs.getD (s + ((j : Int) - v)).toNat 0 from (if_neg h1).trans ((if_pos h2).trans (if_pos h3)))
          unfold InSrc at h3
          obtain ⟨h31, h32⟩ := h3
          have hll := HLL.out
          obtain ⟨i, hi⟩ : ∃ i : Nat, s + ((j : Int) - v) = i := ⟨(s + ((j : Int) - v)).toNat, by omega⟩
          have hii : i < xs.length := by omega
          obtain ⟨z, hz⟩ : ∃ z, xs[i]? = some z := ⟨xs[i]'hii, by simp⟩
          obtain ⟨a, rfl, hc⟩ := GV.out i (.int .i32 z) (by simp [hz])
          have e2 := Lib.hid (e2.out.trans (show xs.getD (s + ((j : Int) - v)).toNat 0 = z by rw [hi]; exact getD_of hz))
          obtain ⟨hab, d2⟩ := read_num (j := j) HR.out.upd hc rfl (.int .i64 2)
          clear hz hc
          go_wp2_with (simp only [hi])
          go_roundw
          case rel => exact ⟨j + 1, by omega, by go_num, HR.out.two e1.out e2.out⟩
          case measure => simp [intOf]; omega
        · have e1 := Lib.hid (show mvk xs v k s (xs.length : Int) j = 1 from (if_neg h1).trans ((if_pos h2).trans (if_neg h3)))
          have e2 := Lib.hid (show mvm xs v k s (xs.length : Int) j = 0 from (if_neg h1).trans ((if_pos h2).trans (if_neg h3)))
          unfold InSrc at h3
          by_cases h31 : 0 ≤ s + ((j : Int) - v)
          · have h32 : ¬ s + ((j : Int) - v) < (xs.length : Int) := fun q => h3 ⟨h31, q⟩
            clear h3
            go_wp2_with fail
            go_roundw
            case rel => exact ⟨j + 1, by omega, by go_num, HR.out.one e1.out e2.out⟩
            case measure => simp [intOf]; omega
          · clear h3
            go_wp2_with fail
            go_roundw
            case rel => exact ⟨j + 1, by omega, by go_num, HR.out.one e1.out e2.out⟩
            case measure => simp [intOf]; omega
      by_cases h3 : j < xs.length
      · have e1 := Lib.hid (show mvk xs v k s (xs.length : Int) j = 2 from (if_neg h1).trans ((if_neg h2).trans (if_pos h3)))
        have e2 := Lib.hid (show mvm xs v k s (xs.length : Int) j = xs.getD j 0 from (if_neg h1).trans ((if_neg h2).trans (if_pos h3)))
        obtain ⟨z, hz⟩ : ∃ z, xs[j]? = some z := ⟨xs[j]'h3, by simp⟩
        obtain ⟨a, rfl, hc⟩ := GV.out j (.int .i32 z) (by simp [hz])
        have e2 := Lib.hid (e2.out.trans (getD_of hz))
        obtain ⟨hab, d2⟩ := read_num (j := j) HR.out.upd hc rfl (.int .i64 2)
        clear hz hc
        go_wp2_with fail
        go_roundw
        case rel => exact ⟨j + 1, by omega, by go_num, HR.out.two e1.out e2.out⟩
        case measure => simp [intOf]; omega
      · have e1 := Lib.hid (show mvk xs v k s (xs.length : Int) j = 0 from (if_neg h1).trans ((if_neg h2).trans (if_neg h3)))
        have e2 := Lib.hid (show mvm xs v k s (xs.length : Int) j = 0 from (if_neg h1).trans ((if_neg h2).trans (if_neg h3)))
        go_wp2_with fail
        go_roundw
        case rel => exact ⟨j + 1, by omega, by go_num, HR.out.one e1.out e2.out⟩
        case measure => simp [intOf]; omega
    · obtain rfl : j = n := by omega
      have HR := Lib.hid hR
      have PU := Lib.hid (fun x => move_pure HX.out v k s (xs.length : Int) HLL.out x)
      clear hR
      go_wp2_with (first
        | (go_at_call 10; refine (build_any _ _ xs (HV.out.kept HR.out.upd) j (by omega) (by omega)).mono ?_; intro e w3 hB; obtain ⟨rfl, hO⟩ := One.make hB (Upd.refl _ _); have HO := Lib.hid hO; clear hB hO)
        | (go_at_call 12; refine (zcopy_any HO.out.at' (by omega) (fun i _ => (regOf_slot HX.out i).one) (by omega) v k s l (by omega) (by omega) (.inr HD.out)).mono ?_; intro e w4 hs; obtain ⟨rfl, hO⟩ := HO.out.to hs; rw [HE.out] at hO; have HO := Lib.hid hO; clear hs hO)
        | (go_at_call 17; refine (matches_yes _ _ _ j _ _ HO.out.at' (by omega) _ _ _ _ (HR.out.full HO.out.upd).1 (HR.out.full HO.out.upd).2 (fun x _ => PU.out x)).mono ?_; rintro e w7 ⟨rfl, rfl⟩))
      go_ret
      exact ⟨rfl, none_below (none_trans HU.out (none_trans HR.out.upd HO.out.upd))⟩

set_option maxRecDepth 100000 in
set_option maxHeartbeats 4000000 in
theorem moveC_hi (w : World) (vv : Value) (xs : List Int) (h : IsInts .i32 w vv xs) (n v k : Nat) (s l : Int) (hl64 : -9223372036854775808 ≤ l ∧ l ≤ 9223372036854775807) (hg : Hid (xs.length ≤ 65536 ∧ xs.length ≤ n ∧ n ≤ 65536 ∧ v + k ≤ n ∧ -1073741824 ≤ s ∧ s ≤ 1073741824)) (hd0 : ¬ (v : Int) ≤ s) (hd : s + k ≤ v) (hl : l ≠ -1) (hl2 : l ≤ (xs.length : Int)) :
    Calls Try.prog 7 #[vv, .int .i64 n, .int .i64 v, .int .i64 s, .int .i64 l, .int .i64 k] w (Fine w) := by
  have CB := Lib.hid (bytes_move w vv xs h n v s l k)
  have H0 := Lib.hid h
  obtain ⟨p, q, rfl, k', mx, -, -⟩ := IsSl.form h.1
  simp only [List.length_map] at *
  unfold maxLen at mx
  obtain ⟨g1, g2, g3, g4, g5, g6⟩ := hg.out
  obtain ⟨l1, l2⟩ := hl64
  have hm1 := kind_made n (by omega)
  have hm2 := clone32_made n (by omega)
  have hb2 : decide (n < xs.length) = false := decide_eq_false (by omega)
  have HE := Lib.hid (show eff l xs.length = l from if_neg (by omega))
  have HD := Lib.hid hd
  have HLL := Lib.hid (show l ≤ (xs.length : Int) by omega)
  have hs1 : decide ((v : Int) > s) = true := decide_eq_true (by omega)
  have hs2 : decide ((v : Int) < s + k) = false := decide_eq_false (by omega)
  have hl3 : (l == -1) = false := by simpa using hl
  have hl4 : decide (l > (xs.length : Int)) = false := decide_eq_false (by omega)
  clear hl
  clear h hd
  go_enter Try.func7, Try.ntmps7
  go_wp2_with (first
    | (go_at_call 19; refine CB.out.mono ?_; rintro e w1 ⟨rfl, rfl | rfl⟩)
    | (go_at_call 9; refine (cloneI_any _ _ xs H0.out (by omega)).mono ?_; rintro e w2 ⟨p2, c2, rfl, hV, hU⟩; have HX := Lib.hid (isints_i32 hV); have HV := Lib.hid hV; have HU := Lib.hid hU; clear hV hU)
    | (simp only [hm1, hm2]))
  all_goals first | (go_ret; exact ⟨rfl, Below.refl _ _⟩) | skip
  have HM := Lib.hid (Rows2.start w2 n (mvk xs v k s l) (mvm xs v k s l))
  obtain ⟨pv, cv, hpv, -, -, -, GV⟩ := HV.out.1.form
  obtain ⟨rfl, -, rfl⟩ : p2 = pv ∧ True ∧ c2 = cv := by injection hpv with q1 q2 q3; exact ⟨q1, trivial, q3⟩
  clear hpv
  have GV := Lib.hid GV
  go_loopw [18] (MoveW w2 w2.heap.size (w2.heap.size + 1) n xs v k s l) (fun i _ => (n - (intOf i).toNat))
  case atStart => exact ⟨0, Nat.zero_le _, rfl, HM.out⟩
  case round =>
    clear HM hm1 hm2
    obtain ⟨j, hj, rfl, hR⟩ := hrel
    by_cases hlt : (j : Int) < n
    · obtain ⟨ck, fk1, cm, fm1⟩ := hR.cells (show j < n by omega)
      have hne : w2.heap.size ≠ w2.heap.size + 1 := hR.ne
      have HR := Lib.hid hR
      clear hR
      by_cases h1 : v + k ≤ j
      · have e1 := Lib.hid (show mvk xs v k s l j = 0 from if_pos h1)
        have e2 := Lib.hid (show mvm xs v k s l j = 0 from if_pos h1)
        go_wp2_with fail
        go_roundw
        case rel => exact ⟨j + 1, by omega, by go_num, HR.out.one e1.out e2.out⟩
        case measure => simp [intOf]; omega
      by_cases h2 : v ≤ j
      · by_cases h3 : InSrc s l v j
        · have e1 := Lib.hid (show mvk xs v k s l j = 2 from (if_neg h1).trans ((if_pos h2).trans (if_pos h3)))
          have e2 := Lib.hid (show mvm xs v k s l j = xs.getD (s + ((j : Int) - v)).toNat 0 from (if_neg h1).trans ((if_pos h2).trans (if_pos h3)))
          unfold InSrc at h3
          obtain ⟨h31, h32⟩ := h3
          have hll := HLL.out
          obtain ⟨i, hi⟩ : ∃ i : Nat, s + ((j : Int) - v) = i := ⟨(s + ((j : Int) - v)).toNat, by omega⟩
          have hii : i < xs.length := by omega
          obtain ⟨z, hz⟩ : ∃ z, xs[i]? = some z := ⟨xs[i]'hii, by simp⟩
          obtain ⟨a, rfl, hc⟩ := GV.out i (.int .i32 z) (by simp [hz])
          have e2 := Lib.hid (e2.out.trans (show xs.getD (s + ((j : Int) - v)).toNat 0 = z by rw [hi]; exact getD_of hz))
          obtain ⟨hab, d2⟩ := read_num (j := j) HR.out.upd hc rfl (.int .i64 2)
          clear hz hc
          go_wp2_with (simp only [hi])
          go_roundw
          case rel => exact ⟨j + 1, by omega, by go_num, HR.out.two e1.out e2.out⟩
          case measure => simp [intOf]; omega
        · have e1 := Lib.hid (show mvk xs v k s l j = 1 from (if_neg h1).trans ((if_pos h2).trans (if_neg h3)))
          have e2 := Lib.hid (show mvm xs v k s l j = 0 from (if_neg h1).trans ((if_pos h2).trans (if_neg h3)))
          unfold InSrc at h3
          by_cases h31 : 0 ≤ s + ((j : Int) - v)
          · have h32 : ¬ s + ((j : Int) - v) < l := fun q => h3 ⟨h31, q⟩
            clear h3
            go_wp2_with fail
            go_roundw
            case rel => exact ⟨j + 1, by omega, by go_num, HR.out.one e1.out e2.out⟩
            case measure => simp [intOf]; omega
          · clear h3
            go_wp2_with fail
            go_roundw
            case rel => exact ⟨j + 1, by omega, by go_num, HR.out.one e1.out e2.out⟩
            case measure => simp [intOf]; omega
      by_cases h3 : j < xs.length
      · have e1 := Lib.hid (show mvk xs v k s l j = 2 from (if_neg h1).trans ((if_neg h2).trans (if_pos h3)))
        have e2 := Lib.hid (show mvm xs v k s l j = xs.getD j 0 from (if_neg h1).trans ((if_neg h2).trans (if_pos h3)))
        obtain ⟨z, hz⟩ : ∃ z, xs[j]? = some z := ⟨xs[j]'h3, by simp⟩
        obtain ⟨a, rfl, hc⟩ := GV.out j (.int .i32 z) (by simp [hz])
        have e2 := Lib.hid (e2.out.trans (getD_of hz))
        obtain ⟨hab, d2⟩ := read_num (j := j) HR.out.upd hc rfl (.int .i64 2)
        clear hz hc
        go_wp2_with fail
        go_roundw
        case rel => exact ⟨j + 1, by omega, by go_num, HR.out.two e1.out e2.out⟩
        case measure => simp [intOf]; omega
      · have e1 := Lib.hid (show mvk xs v k s l j = 0 from (if_neg h1).trans ((if_neg h2).trans (if_neg h3)))
        have e2 := Lib.hid (show mvm xs v k s l j = 0 from (if_neg h1).trans ((if_neg h2).trans (if_neg h3)))
        go_wp2_with fail
        go_roundw
        case rel => exact ⟨j + 1, by omega, by go_num, HR.out.one e1.out e2.out⟩
        case measure => simp [intOf]; omega
    · obtain rfl : j = n := by omega
      have HR := Lib.hid hR
      have PU := Lib.hid (fun x => move_pure HX.out v k s l HLL.out x)
      clear hR
      go_wp2_with (first
        | (go_at_call 10; refine (build_any _ _ xs (HV.out.kept HR.out.upd) j (by omega) (by omega)).mono ?_; intro e w3 hB; obtain ⟨rfl, hO⟩ := One.make hB (Upd.refl _ _); have HO := Lib.hid hO; clear hB hO)
        | (go_at_call 12; refine (zcopy_any HO.out.at' (by omega) (fun i _ => (regOf_slot HX.out i).one) (by omega) v k s l (by omega) (by omega) (.inr HD.out)).mono ?_; intro e w4 hs; obtain ⟨rfl, hO⟩ := HO.out.to hs; rw [HE.out] at hO; have HO := Lib.hid hO; clear hs hO)
        | (go_at_call 17; refine (matches_yes _ _ _ j _ _ HO.out.at' (by omega) _ _ _ _ (HR.out.full HO.out.upd).1 (HR.out.full HO.out.upd).2 (fun x _ => PU.out x)).mono ?_; rintro e w7 ⟨rfl, rfl⟩))
      go_ret
      exact ⟨rfl, none_below (none_trans HU.out (none_trans HR.out.upd HO.out.upd))⟩

set_option maxRecDepth 100000 in
set_option maxHeartbeats 1000000 in
theorem move_out (w : World) (vv : Value) (xs : List Int) (h : IsInts .i32 w vv xs) (n v s l k : Int) (hq : xs.length > 65536 ∨ n < xs.length ∨ 65536 < n ∨ k < 0 ∨ 65536 < k ∨ v < 0 ∨ 65536 < v ∨ (0 ≤ k ∧ k ≤ 65536 ∧ 0 ≤ v ∧ v ≤ 65536 ∧ n < v + k) ∨ s < -1073741824 ∨ 1073741824 < s ∨ (0 ≤ k ∧ k ≤ 65536 ∧ 0 ≤ v ∧ v ≤ 65536 ∧ -1073741824 ≤ s ∧ s ≤ 1073741824 ∧ s < v ∧ v < s + k)) :
    Calls Try.prog 7 #[vv, .int .i64 n, .int .i64 v, .int .i64 s, .int .i64 l, .int .i64 k] w (Fine w) := by
  have CB := Lib.hid (bytes_move w vv xs h n v s l k)
  obtain ⟨p, q, rfl, k', mx, -, -⟩ := IsSl.form h.1
  simp only [List.length_map] at *
  unfold maxLen at mx
  clear h
  rcases hq with hq | hq | hq | hq | hq | hq | hq | ⟨q1, q2, q3, q4, hq⟩ | hq | hq | ⟨q1, q2, q3, q4, q5, q6, q7, hq⟩
  all_goals
    go_enter Try.func7, Try.ntmps7
    go_wp2_with (go_at_call 19; refine CB.out.mono ?_; rintro e w1 ⟨rfl, rfl | rfl⟩)
    all_goals (go_ret; exact ⟨rfl, Below.refl _ _⟩)
theorem move_walk (w : World) (vv : Value) (xs : List Int) (h : IsInts .i32 w vv xs) (n : Int) (hn : (Lit.int .i64 n).wf = true) (v : Int) (hv : (Lit.int .i64 v).wf = true) (s : Int) (hs : (Lit.int .i64 s).wf = true) (l : Int) (hl : (Lit.int .i64 l).wf = true) (k : Int) (hk : (Lit.int .i64 k).wf = true) :
    Calls Try.prog 7 #[vv, .int .i64 n, .int .i64 v, .int .i64 s, .int .i64 l, .int .i64 k] w (Fine w) := by
  have hl64 : -9223372036854775808 ≤ l ∧ l ≤ 9223372036854775807 := by simpa [Lit.wf, IntKind.min, IntKind.max, IntKind.signed, IntKind.bits] using hl
  by_cases h1 : xs.length > 65536 ∨ n < xs.length ∨ 65536 < n ∨ k < 0 ∨ 65536 < k ∨ v < 0 ∨ 65536 < v ∨ (0 ≤ k ∧ k ≤ 65536 ∧ 0 ≤ v ∧ v ≤ 65536 ∧ n < v + k) ∨ s < -1073741824 ∨ 1073741824 < s ∨ (0 ≤ k ∧ k ≤ 65536 ∧ 0 ≤ v ∧ v ≤ 65536 ∧ -1073741824 ≤ s ∧ s ≤ 1073741824 ∧ s < v ∧ v < s + k)
  · exact move_out w vv xs h n v s l k h1
  · obtain ⟨n', rfl⟩ : ∃ n' : Nat, n = n' := ⟨n.toNat, by omega⟩
    obtain ⟨v', rfl⟩ : ∃ m' : Nat, v = m' := ⟨v.toNat, by omega⟩
    obtain ⟨k', rfl⟩ : ∃ m' : Nat, k = m' := ⟨k.toNat, by omega⟩
    have hg : Hid (xs.length ≤ 65536 ∧ xs.length ≤ n' ∧ n' ≤ 65536 ∧ v' + k' ≤ n' ∧ -1073741824 ≤ s ∧ s ≤ 1073741824) := Lib.hid (by omega)
    by_cases hd : (v' : Int) ≤ s
    · by_cases ha : l = -1
      · subst ha; exact moveA_lo w vv xs h n' v' k' s (-1) (by omega) hg hd
      · by_cases hb : (xs.length : Int) < l
        · exact moveB_lo w vv xs h n' v' k' s l hl64 hg hd ha hb
        · exact moveC_lo w vv xs h n' v' k' s l hl64 hg hd ha (by omega)
    · by_cases ha : l = -1
      · subst ha; exact moveA_hi w vv xs h n' v' k' s (-1) (by omega) hg hd (by omega)
      · by_cases hb : (xs.length : Int) < l
        · exact moveB_hi w vv xs h n' v' k' s l hl64 hg hd (by omega) ha hb
        · exact moveC_hi w vv xs h n' v' k' s l hl64 hg hd (by omega) ha (by omega)
end Go.Lua
