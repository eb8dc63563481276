/-
  n005_31: FnRegistryCopyRangeDeletesWindow.
-/
import Derived.Test.YtdpdpknkfolajaaFillM
import Derived.Test.YtdpdpknkfolajaaRest
import Derived.Test.YtdpdpknkfolajaaWant
namespace Go.Lua
open Go.Proofs Go.RowKit
set_option linter.unusedVariables false

/-- The window cut out. -/
def wantOf (xs : List Int) (a c : Nat) : List Int := xs.take a ++ xs.drop c
def dk (xs : List Int) (a c : Nat) (j : Nat) : Int := if j < (wantOf xs a c).length then 2 else 0
def dm (xs : List Int) (a c : Nat) (j : Nat) : Int := (wantOf xs a c).getD j 0
theorem want_len {xs : List Int} {a c : Nat} (h : a ≤ c) (hc : c ≤ xs.length) : (wantOf xs a c).length = a + (xs.length - c) := by
  unfold wantOf; simp; omega
theorem want_at {xs : List Int} {a c : Nat} (h : a ≤ c) (hc : c ≤ xs.length) (j : Nat) : (wantOf xs a c)[j]? = if j < a then xs[j]? else xs[c + (j - a)]? := by
  unfold wantOf
  rw [List.getElem?_append]
  have hl : (xs.take a).length = a := by simp; omega
  rw [hl]
  split
  · rw [List.getElem?_take]; simp [*]
  · rw [List.getElem?_drop]
theorem want_i32 {xs : List Int} (hx : ∀ z ∈ xs, I32 z) (a c : Nat) : ∀ z ∈ wantOf xs a c, I32 z := by
  intro z hz
  rcases List.mem_append.1 hz with h | h
  · exact hx z (List.mem_of_mem_take h)
  · exact hx z (List.mem_of_mem_drop h)
theorem want_step {xs : List Int} {a c j : Nat} {z : Int} (h : xs[j]? = some z) (hj : c ≤ j) : xs.take a ++ (xs.drop c).take (j - c) ++ [z] = xs.take a ++ (xs.drop c).take (j + 1 - c) := by
  rw [List.append_assoc]
  congr 1
  have e : j + 1 - c = (j - c) + 1 := by omega
  have h2 : (xs.drop c)[j - c]? = some z := by rw [List.getElem?_drop, show c + (j - c) = j by omega, h]
  obtain ⟨h3, rfl⟩ := List.getElem?_eq_some_iff.1 h2
  rw [e, List.take_succ_eq_append_getElem h3]
theorem take_step {xs : List Int} {j : Nat} {z : Int} (h : xs[j]? = some z) : xs.take j ++ [z] = xs.take (j + 1) := by
  obtain ⟨h3, rfl⟩ := List.getElem?_eq_some_iff.1 h
  rw [List.take_succ_eq_append_getElem h3]
theorem want_done {xs : List Int} {a c : Nat} : xs.take a ++ (xs.drop c).take (xs.length - c) = wantOf xs a c := by
  unfold wantOf
  congr 1
  exact List.take_of_length_le (by simp)
theorem del_pure {xs : List Int} (hx : ∀ z ∈ xs, I32 z) (a c : Nat) (h : a ≤ c) (hc : c ≤ xs.length) (j : Nat) :
    (dk xs a c j = 0 ∨ dk xs a c j = 1 ∨ dk xs a c j = 2) ∧ I32 (dm xs a c j) ∧
    cut (moved (regOf xs) a c (eff (-1) xs.length) (xs.length - c)) (a + (xs.length - c)) xs.length j = slotV (dk xs a c j) (dm xs a c j) := by
  have hL : eff (-1) (xs.length : Int) = xs.length := if_pos (.inl rfl)
  refine ⟨?_, getD_i32 (want_i32 hx a c) j, ?_⟩
  · unfold dk; split
    · exact .inr (.inr rfl)
    · exact .inl rfl
  · rw [hL]
    by_cases h1 : j < (wantOf xs a c).length
    · have h1' := h1
      rw [want_len h hc] at h1'
      rw [show dk xs a c j = 2 from if_pos h1, slotV2]
      have hw := want_at h hc j
      obtain ⟨z, hz⟩ : ∃ z, (wantOf xs a c)[j]? = some z := ⟨_, List.getElem?_eq_getElem h1⟩
      rw [show dm xs a c j = z by unfold dm; rw [List.getD_eq_getElem?_getD, hz]; rfl]
      rw [hz] at hw
      unfold cut
      rw [if_neg (by omega)]
      by_cases h2 : j < a
      · rw [if_pos h2] at hw
        rw [moved_off (by omega)]
        exact regOf_some hw.symm
      · rw [if_neg h2] at hw
        unfold moved
        rw [if_pos (by omega)]
        unfold src
        rw [if_neg (by omega), show ((c : Int) + ((j - a : Nat) : Int)).toNat = c + (j - a) by omega]
        exact regOf_some hw.symm
    · have h1' := h1
      rw [want_len h hc] at h1'
      rw [show dk xs a c j = 0 from if_neg h1, slotV0]
      unfold cut
      by_cases h2 : (j : Int) < xs.length
      · rw [if_pos (by omega)]
      · rw [if_neg (by omega), moved_off (by omega), regOf_none (by omega)]

theorem Rows2.rest {w2 wr : World} {bk bm n j : Nat} {kd nm : Nat → Int} (h : Rows2 w2 bk bm n kd nm j wr) (hz : ∀ x, j ≤ x → kd x = 0 ∧ nm x = 0) (hj : j ≤ n) : Rows2 w2 bk bm n kd nm n wr := by
  have e1 : rowN .i64 n kd j = rowN .i64 n kd n := rowF_congr fun x hx => by
    by_cases hlt : x < j
    · rw [if_pos hlt, if_pos hx]
    · rw [if_neg hlt, if_pos hx, (hz x (by omega)).1]
  have e2 : rowN .i32 n nm j = rowN .i32 n nm n := rowF_congr fun x hx => by
    by_cases hlt : x < j
    · rw [if_pos hlt, if_pos hx]
    · rw [if_neg hlt, if_pos hx, (hz x (by omega)).2]
  exact ⟨by have := h.kind; rwa [e1] at this, by have := h.num; rwa [e2] at this, h.upd, h.hk, h.hm, h.ne⟩
theorem One.other {w2 wc w' : World} {r b n : Nat} {f : Nat → Value} {top : Int} (h : One w2 r b n f top wc) (u : Upd (fun _ => False) wc w') : One w2 r b n f top w' :=
  ⟨h.at'.kept (u.block _ h.at'.lt fun h => h) (u.block _ h.at'.row.lt fun h => h), none_trans h.upd u, h.hr, h.hb⟩

set_option maxHeartbeats 400000 in
theorem bytes_del (w : World) (v : Value) (xs : List Int) (h : IsInts .i32 w v xs) (a b c : Int) :
    Calls Try.prog 16 #[v, .int .i64 a, .int .i64 b, .int .i64 c] w (Asks w) := by
  obtain ⟨p, q, rfl, k, m, -, -⟩ := IsSl.form h.1
  simp only [List.length_map] at *
  unfold maxLen at m
  clear h
  go_enter Try.func16, Try.ntmps16
  go_wp2
  all_goals (go_ret; first | exact ⟨rfl, .inl rfl⟩ | exact ⟨rfl, .inr rfl⟩)

theorem want_pad {w4 wr : World} {v : Value} {xs : List Int} {j : Nat} (c : Nat) (h : WantAt w4 v (xs.take j) wr) : WantAt w4 v (xs.take j ++ (xs.drop c).take (c - c)) wr := by
  rw [Nat.sub_self, List.take_zero, List.append_nil]; exact h
def DelW1 (w4 : World) (xs : List Int) (a : Nat) (v i : Value) (wr : World) : Prop := ∃ j : Nat, j ≤ a ∧ i = .int .i64 j ∧ WantAt w4 v (xs.take j) wr
def DelW2 (w4 : World) (xs : List Int) (a c : Nat) (v i : Value) (wr : World) : Prop := ∃ j : Nat, c ≤ j ∧ j ≤ xs.length ∧ i = .int .i64 j ∧ WantAt w4 v (xs.take a ++ (xs.drop c).take (j - c)) wr
def DelW3 (w6 : World) (bk bm n : Nat) (xs : List Int) (a c : Nat) (i : Value) (wr : World) : Prop := ∃ j : Nat, j ≤ (wantOf xs a c).length ∧ i = .int .i64 j ∧ Rows2 w6 bk bm n (dk xs a c) (dm xs a c) j wr

set_option maxHeartbeats 4000000 in
theorem del_in (w : World) (v : Value) (xs : List Int) (h : IsInts .i32 w v xs) (n a c : Nat) (hg : Hid (xs.length ≤ 65536 ∧ xs.length ≤ n ∧ n ≤ 65536 ∧ a ≤ c ∧ c ≤ xs.length)) :
    Calls Try.prog 5 #[v, .int .i64 n, .int .i64 a, .int .i64 c] w (Fine w) := by
  have CB := Lib.hid (bytes_del w v xs h n a c)
  have H0 := Lib.hid h
  obtain ⟨p, q, rfl, k', mx, -, -⟩ := IsSl.form h.1
  simp only [List.length_map] at *
  unfold maxLen at mx
  obtain ⟨g1, g2, g3, g4, g5⟩ := hg.out
  obtain ⟨K, hK⟩ : ∃ K : Nat, K = a + (xs.length - c) := ⟨_, rfl⟩
  have hnt : (xs.length : Int) - ((c : Int) - a) = (K : Int) := by omega
  have hm0 : ∀ W : World, (Instr.makeSlice 22 (.int .i64 0) (.int .i64 ((xs.length : Int) - ((c : Int) - a)))).run Try.prog W = .ok (.slice (some ⟨W.heap.size, 0, none⟩) 0 K) (W.alloc (.cells (madeCells #[.int .i32 0] K) 21)) := fun W => by
    rw [hnt]; exact made32_cap _ (by omega) W
  have hm1 := kind_made n (by omega)
  have hm2 := clone32_made n (by omega)
  have hKl : K ≤ 65536 := by omega
  clear hK
  have hb2 : decide (n < xs.length) = false := decide_eq_false (by omega)
  have hb3 : decide (c < a) = false := decide_eq_false (by omega)
  have hb4 : decide (xs.length < c) = false := decide_eq_false (by omega)
  have hb5 : decide ((a : Int) < 0) = false := decide_eq_false (by omega)
  clear h hnt
  go_enter Try.func5, Try.ntmps5
  go_wp2_with (first
    | (go_at_call 16; refine CB.out.mono ?_; rintro e w1 ⟨rfl, rfl | rfl⟩)
    | (go_at_call 9; refine (cloneI_any _ _ xs H0.out (by omega)).mono ?_; rintro e w2 ⟨p2, c2, rfl, hV, hU⟩; have HX := Lib.hid (isints_i32 hV); have HV := Lib.hid hV; have HU := Lib.hid hU; clear hV hU)
    | (go_at_call 10; refine (build_any _ _ xs HV.out n (by omega) (by omega)).mono ?_; intro e w3 hB; obtain ⟨rfl, hO⟩ := One.make hB (Upd.refl _ _); have HO := Lib.hid hO; clear hB hO)
    | (go_at_call 12; refine (zcopyI_any HO.out.at' (by omega) (fun i _ => (regOf_slot HX.out i).one) (by omega) a (xs.length - c) _ _ _ (by omega) (by omega) (by omega) (by omega)).mono ?_; intro e w4 hs; obtain ⟨rfl, hO⟩ := HO.out.to hs; have HO := Lib.hid (hO.retop (t := (xs.length : Int) - ((c : Int) - a)) (by omega)); clear hs hO)
    | (simp only [hm0]))
  all_goals first | (go_ret; exact ⟨rfl, Below.refl _ _⟩) | skip
  have HW := Lib.hid (want_start w4 K hKl)
  obtain ⟨pv, cv, hpv, -, -, -, GV⟩ := HV.out.1.form
  obtain ⟨rfl, -, rfl⟩ : p2 = pv ∧ True ∧ c2 = cv := by injection hpv with q1 q2 q3; exact ⟨q1, trivial, q3⟩
  clear hpv
  have GV := Lib.hid GV
  have HR4 := Lib.hid HO.out.upd
  go_loopw [12, 13] (DelW1 w4 xs a) (fun _ i _ => (a - (intOf i).toNat))
  case atStart => exact ⟨0, Nat.zero_le _, rfl, HW.out⟩
  case round =>
    clear HW hm0 hm1 hm2
    obtain ⟨j, hj, rfl, hW⟩ := hrel
    by_cases hlt : (j : Int) < a
    · obtain ⟨z, hz⟩ : ∃ z, xs[j]? = some z := ⟨xs[j]'(by omega), by simp⟩
      obtain ⟨ad, rfl, hc⟩ := GV.out j (.int .i32 z) (by simp [hz])
      have d := old_at (none_trans HR4.out hW.upd) hc
      have HZ := Lib.hid (take_step hz)
      have hl : (xs.take j).length ≤ 65536 := by simp; omega
      have HW := Lib.hid hW
      clear hz hc hW
      go_wp2_with (at_builtin; go_must (refine wpList_append_32 (w2 := w4) rfl _ _ rfl _ (xs.take j) rfl (HW.out.alloc _) _ _ z rfl (cell_new_of (by simp)) hl ?_); intro v' w7 hW2 hf; clear hf; rw [HZ.out] at hW2; have HW2 := Lib.hid hW2; clear hW2)
      go_roundw
      case rel => exact ⟨j + 1, by omega, by go_num, HW2.out⟩
      case measure => simp [intOf]; omega
    · obtain rfl : j = a := by omega
      have HW := Lib.hid (want_pad c hW)
      clear hW
      go_wp2_with fail
      go_loopw [12, 14] (DelW2 w4 xs j c) (fun _ i _ => (xs.length - (intOf i).toNat))
      case atStart => exact ⟨c, Nat.le_refl _, by omega, rfl, HW.out⟩
      case round =>
        clear HW
        obtain ⟨i, hi1, hi2, rfl, hW⟩ := hrel
        by_cases hlt2 : (i : Int) < xs.length
        · obtain ⟨z, hz⟩ : ∃ z, xs[i]? = some z := ⟨xs[i]'(by omega), by simp⟩
          obtain ⟨ad, rfl, hc⟩ := GV.out i (.int .i32 z) (by simp [hz])
          have d := old_at (none_trans HR4.out hW.upd) hc
          have HZ := Lib.hid (want_step (a := j) hz hi1)
          have hl : (xs.take j ++ (xs.drop c).take (i - c)).length ≤ 65536 := by simp; omega
          have HW := Lib.hid hW
          clear hz hc hW
          go_wp2_with (at_builtin; go_must (refine wpList_append_32 (w2 := w4) rfl _ _ rfl _ (xs.take j ++ (xs.drop c).take (i - c)) rfl (HW.out.alloc _) _ _ z rfl (cell_new_of (by simp)) hl ?_); intro v' w7 hW2 hf; clear hf; rw [HZ.out] at hW2; have HW2 := Lib.hid hW2; clear hW2)
          go_roundw
          case rel => exact ⟨i + 1, by omega, by omega, by go_num, HW2.out⟩
          case measure => simp [intOf]; omega
        · obtain rfl : i = xs.length := by omega
          rw [want_done] at hW
          have hwl := want_len g4 g5
          obtain ⟨pw, cw, rfl, GW⟩ := hW.isl
          obtain ⟨w5, rfl⟩ : ∃ w5, w5 = wr := ⟨_, rfl⟩
          have HW := Lib.hid hW
          have GW := Lib.hid GW
          have HM := Lib.hid (Rows2.start w5 n (dk xs j c) (dm xs j c))
          have hm1 := kind_made n (by omega)
          have hm2 := clone32_made n (by omega)
          have hwl2 : ((wantOf xs j c).length : Int) ≤ 65536 := by omega
          clear hW
          go_wp2_with (simp only [hm1, hm2])
          go_loopw [17] (DelW3 w5 w5.heap.size (w5.heap.size + 1) n xs j c) (fun i _ => ((wantOf xs j c).length - (intOf i).toNat))
          case atStart => exact ⟨0, Nat.zero_le _, rfl, HM.out⟩
          case round =>
            clear HM hm1 hm2
            obtain ⟨i, hi, rfl, hR⟩ := hrel
            by_cases hlt3 : i < (wantOf xs j c).length
            · obtain ⟨ck, fk1, cm, fm1⟩ := hR.cells (show i < n by omega)
              have hne : w5.heap.size ≠ w5.heap.size + 1 := hR.ne
              obtain ⟨z, hz⟩ : ∃ z, (wantOf xs j c)[i]? = some z := ⟨_, List.getElem?_eq_getElem hlt3⟩
              have e1 := Lib.hid (show dk xs j c i = 2 from if_pos hlt3)
              have e2 := Lib.hid (show dm xs j c i = z by unfold dm; rw [List.getD_eq_getElem?_getD, hz]; rfl)
              obtain ⟨ad, rfl, q1, q2, hc⟩ := GW.out i z hz
              have d := old_at hR.upd hc
              have hab : (ad.add i).block ≠ w5.heap.size := by
                have hb : (ad.add i).block = ad.block := by unfold Addr.add; split <;> rfl
                omega
              have hab2 : ad.block ≠ w5.heap.size := by omega
              have d2 : (wr.setCell ⟨w5.heap.size, i, none⟩ (.int .i64 2)).cell? (ad.add i) = some (.int .i32 z) := by
                rw [← d]
                unfold World.cell?
                rw [Below.heap_setCell wr ⟨w5.heap.size, i, none⟩ _ _ hab]
              have HR := Lib.hid hR
              clear hR hz hc d q1 q2
              go_wp2_with fail
              go_roundw
              case rel => exact ⟨i + 1, by omega, by go_num, HR.out.two e1.out e2.out⟩
              case measure => simp [intOf]; omega
            · obtain rfl : i = (wantOf xs j c).length := by omega
              have HR := Lib.hid (hR.rest (fun x hx => ⟨if_neg (by omega), by unfold dm; rw [List.getD_eq_getElem?_getD, List.getElem?_eq_none hx]; rfl⟩) (by omega))
              have HO2 := Lib.hid (HO.out.other (none_trans HW.out.upd HR.out.upd))
              have PU := Lib.hid (fun x => del_pure HX.out j c g4 g5 x)
              clear hR
              go_wp2_with (go_at_call 17; refine (matches_yes _ _ _ n _ _ HO2.out.at' (by omega) _ _ _ _ (HR.out.full (Upd.refl _ _)).1 (HR.out.full (Upd.refl _ _)).2 (fun x _ => PU.out x)).mono ?_; rintro e w8 ⟨rfl, rfl⟩)
              go_ret
              exact ⟨rfl, none_below (none_trans HU.out HO2.out.upd)⟩
set_option maxHeartbeats 2000000 in
theorem del_out (w : World) (v : Value) (xs : List Int) (h : IsInts .i32 w v xs) (n a c : Int) (hq : xs.length > 65536 ∨ n < xs.length ∨ 65536 < n ∨ a < 0 ∨ c < a ∨ (xs.length : Int) < c) :
    Calls Try.prog 5 #[v, .int .i64 n, .int .i64 a, .int .i64 c] w (Fine w) := by
  have CB := Lib.hid (bytes_del w v xs h n a c)
  obtain ⟨p, q, rfl, k', mx, -, -⟩ := IsSl.form h.1
  simp only [List.length_map] at *
  unfold maxLen at mx
  clear h
  rcases hq with hq | hq | hq | hq | hq | hq
  all_goals
    go_enter Try.func5, Try.ntmps5
    go_wp2_with (go_at_call 16; refine CB.out.mono ?_; rintro e w1 ⟨rfl, rfl | rfl⟩)
    all_goals (go_ret; exact ⟨rfl, Below.refl _ _⟩)
theorem del_walk (w : World) (v : Value) (xs : List Int) (h : IsInts .i32 w v xs) (n : Int) (hn : (Lit.int .i64 n).wf = true) (a : Int) (ha : (Lit.int .i64 a).wf = true) (c : Int) (hc : (Lit.int .i64 c).wf = true) :
    Calls Try.prog 5 #[v, .int .i64 n, .int .i64 a, .int .i64 c] w (Fine w) := by
  by_cases h1 : xs.length > 65536 ∨ n < xs.length ∨ 65536 < n ∨ a < 0 ∨ c < a ∨ (xs.length : Int) < c
  · exact del_out w v xs h n a c h1
  · obtain ⟨n', rfl⟩ : ∃ n' : Nat, n = n' := ⟨n.toNat, by omega⟩
    obtain ⟨a', rfl⟩ : ∃ m' : Nat, a = m' := ⟨a.toNat, by omega⟩
    obtain ⟨c', rfl⟩ : ∃ m' : Nat, c = m' := ⟨c.toNat, by omega⟩
    exact del_in w v xs h n' a' c' (Lib.hid (by omega))
end Go.Lua
