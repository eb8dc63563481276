/-
  n005_31: FnRegistryFillNilMatchesModel.
-/
import Derived.Test.YtdpdpknkfolajaaModel
namespace Go.Lua
open Go.Proofs Go.RowKit
set_option linter.unusedVariables false

theorem one_add {w : World} {a b : Nat} (h : a = b) : (⟨a, 0, none⟩ : Addr) = ⟨b, 0, none⟩ := by rw [h]
/-- The model's class and number of slot j. -/
def fk (xs : List Int) (m : Nat) (nt : Int) (j : Nat) : Int := if nt ≤ j then 0 else if m ≤ j then 1 else if j < xs.length then 2 else 0
def fm (xs : List Int) (m : Nat) (nt : Int) (j : Nat) : Int := if nt ≤ j then 0 else if m ≤ j then 0 else if j < xs.length then xs.getD j 0 else 0
theorem getD_i32 {xs : List Int} (hx : ∀ z ∈ xs, I32 z) (j : Nat) : I32 (xs.getD j 0) := by
  rw [List.getD_eq_getElem?_getD]
  cases h : xs[j]? with
  | none => show I32 0; unfold I32; omega
  | some z => exact hx z (List.mem_of_getElem? h)
theorem i32_zero : I32 0 := by unfold I32; omega
theorem regOf_in {xs : List Int} {j : Nat} (h : j < xs.length) : regOf xs j = lnum (fofInt (xs.getD j 0)) := by
  rw [regOf_some (List.getElem?_eq_getElem h), List.getD_eq_getElem?_getD, List.getElem?_eq_getElem h]
  rfl
theorem slotV0 (x : Int) : slotV 0 x = .nilIface := rfl
theorem slotV1 (x : Int) : slotV 1 x = lnil := rfl
theorem slotV2 (x : Int) : slotV 2 x = lnum (fofInt x) := rfl
theorem fill_pure {xs : List Int} (hx : ∀ z ∈ xs, I32 z) (m : Nat) (k : Int) (h : 0 ≤ (m : Int) + k) (j : Nat) :
    (fk xs m ((m : Int) + k) j = 0 ∨ fk xs m ((m : Int) + k) j = 1 ∨ fk xs m ((m : Int) + k) j = 2) ∧ I32 (fm xs m ((m : Int) + k) j) ∧
    cut (ovr (regOf xs) m k.toNat lnil) ((m : Int) + k).toNat (xs.length : Int) j = slotV (fk xs m ((m : Int) + k) j) (fm xs m ((m : Int) + k) j) := by
  have hi : I32 (fm xs m ((m : Int) + k) j) := by
    unfold fm
    split
    · exact i32_zero
    · split
      · exact i32_zero
      · split
        · exact getD_i32 hx j
        · exact i32_zero
  refine ⟨?_, hi, ?_⟩
  · unfold fk; split
    · exact .inl rfl
    · split
      · exact .inr (.inl rfl)
      · split
        · exact .inr (.inr rfl)
        · exact .inl rfl
  · by_cases h1 : (m : Int) + k ≤ j
    · rw [show fk xs m ((m : Int) + k) j = 0 from if_pos h1, slotV0]
      unfold cut ovr
      by_cases h2 : (j : Int) < xs.length
      · rw [if_pos (by omega)]
      · rw [if_neg (by omega), if_neg (by omega), regOf_none (by omega)]
    · unfold cut ovr
      rw [if_neg (by omega)]
      by_cases h2 : m ≤ j
      · rw [show fk xs m ((m : Int) + k) j = 1 from (if_neg h1).trans (if_pos h2), slotV1, if_pos (by omega)]
      · rw [if_neg (by omega)]
        by_cases h3 : j < xs.length
        · rw [show fk xs m ((m : Int) + k) j = 2 from (if_neg h1).trans ((if_neg h2).trans (if_pos h3)), slotV2, regOf_in h3, show fm xs m ((m : Int) + k) j = xs.getD j 0 from (if_neg h1).trans ((if_neg h2).trans (if_pos h3))]
        · rw [show fk xs m ((m : Int) + k) j = 0 from (if_neg h1).trans ((if_neg h2).trans (if_neg h3)), slotV0, regOf_none (by omega)]

set_option maxHeartbeats 400000 in
theorem bytes_fillM (w : World) (v : Value) (xs : List Int) (h : IsInts .i32 w v xs) (a b c : Int) :
    Calls Try.prog 18 #[v, .int .i64 a, .int .i64 b, .int .i64 c] w (Asks w) := by
  obtain ⟨p, q, rfl, k, m, -, -⟩ := IsSl.form h.1
  simp only [List.length_map] at *
  unfold maxLen at m
  clear h
  go_enter Try.func18, Try.ntmps18
  go_wp2
  all_goals (go_ret; first | exact ⟨rfl, .inl rfl⟩ | exact ⟨rfl, .inr rfl⟩)

def FillW (w2 : World) (bk bm n : Nat) (xs : List Int) (m : Nat) (nt : Int) (i : Value) (wr : World) : Prop := ∃ j : Nat, j ≤ n ∧ i = .int .i64 j ∧ Rows2 w2 bk bm n (fk xs m nt) (fm xs m nt) j wr

set_option maxHeartbeats 4000000 in
theorem fillM_in (w : World) (v : Value) (xs : List Int) (h : IsInts .i32 w v xs) (n m : Nat) (k : Int) (hg : Hid (xs.length ≤ 65536 ∧ xs.length ≤ n ∧ n ≤ 65536 ∧ m ≤ 536870912 ∧ -536870912 ≤ k ∧ k ≤ 536870912 ∧ 0 ≤ (m : Int) + k ∧ (m : Int) + k ≤ n)) :
    Calls Try.prog 6 #[v, .int .i64 n, .int .i64 m, .int .i64 k] w (Fine w) := by
  have CB := Lib.hid (bytes_fillM w v xs h n m k)
  have H0 := Lib.hid h
  obtain ⟨p, q, rfl, k', mx, -, -⟩ := IsSl.form h.1
  simp only [List.length_map] at *
  unfold maxLen at mx
  obtain ⟨g1, g2, g3, g4, g5, g6, g7, g8⟩ := hg.out
  have hm1 := kind_made n (by omega)
  have hm2 := clone32_made n (by omega)
  have hb2 : decide (n < xs.length) = false := decide_eq_false (by omega)
  clear h
  go_enter Try.func6, Try.ntmps6
  go_wp2_with (first
    | (go_at_call 18; refine CB.out.mono ?_; rintro e w1 ⟨rfl, rfl | rfl⟩)
    | (go_at_call 9; refine (cloneI_any _ _ xs H0.out (by omega)).mono ?_; rintro e w2 ⟨p2, c2, rfl, hV, hU⟩; have HX := Lib.hid (isints_i32 hV); have HV := Lib.hid hV; have HU := Lib.hid hU; clear hV hU)
    | (simp only [hm1, hm2]))
  all_goals first | (go_ret; exact ⟨rfl, Below.refl _ _⟩) | skip
  have HM := Lib.hid (Rows2.start w2 n (fk xs m ((m : Int) + k)) (fm xs m ((m : Int) + k)))
  obtain ⟨pv, cv, hpv, -, -, -, GV⟩ := HV.out.1.form
  obtain ⟨rfl, -, rfl⟩ : p2 = pv ∧ True ∧ c2 = cv := by injection hpv with q1 q2 q3; exact ⟨q1, trivial, q3⟩
  clear hpv
  have GV := Lib.hid GV
  go_loopw [13] (FillW w2 w2.heap.size (w2.heap.size + 1) n xs m ((m : Int) + k)) (fun i _ => (n - (intOf i).toNat))
  case atStart => exact ⟨0, Nat.zero_le _, rfl, HM.out⟩
  case round =>
    clear HM hm1 hm2
    obtain ⟨j, hj, rfl, hR⟩ := hrel
    by_cases hlt : (j : Int) < n
    · obtain ⟨ck, fk1, cm, fm1⟩ := hR.cells (show j < n by omega)
      have hne : w2.heap.size ≠ w2.heap.size + 1 := hR.ne
      have HR := Lib.hid hR
      clear hR
      by_cases h1 : (m : Int) + k ≤ j
      · have e1 := Lib.hid (show fk xs m ((m : Int) + k) j = 0 from if_pos h1)
        have e2 := Lib.hid (show fm xs m ((m : Int) + k) j = 0 from if_pos h1)
        go_wp2_with fail
        go_roundw
        case rel => exact ⟨j + 1, by omega, by go_num, HR.out.one e1.out e2.out⟩
        case measure => simp [intOf]; omega
      by_cases h2 : m ≤ j
      · have e1 := Lib.hid (show fk xs m ((m : Int) + k) j = 1 from (if_neg h1).trans (if_pos h2))
        have e2 := Lib.hid (show fm xs m ((m : Int) + k) j = 0 from (if_neg h1).trans (if_pos h2))
        go_wp2_with fail
        go_roundw
        case rel => exact ⟨j + 1, by omega, by go_num, HR.out.one e1.out e2.out⟩
        case measure => simp [intOf]; omega
      by_cases h3 : j < xs.length
      · have e1 := Lib.hid (show fk xs m ((m : Int) + k) j = 2 from (if_neg h1).trans ((if_neg h2).trans (if_pos h3)))
        have e2 := Lib.hid (show fm xs m ((m : Int) + k) j = xs.getD j 0 from (if_neg h1).trans ((if_neg h2).trans (if_pos h3)))
        obtain ⟨z, hz⟩ : ∃ z, xs[j]? = some z := ⟨xs[j]'h3, by simp⟩
        obtain ⟨a, rfl, hc⟩ := GV.out j (.int .i32 z) (by simp [hz])
        have hzd : xs.getD j 0 = z := by rw [List.getD_eq_getElem?_getD, hz]; rfl
        have e2 := Lib.hid (e2.out.trans hzd)
        have d := old_at HR.out.upd hc
        have hab : a.block ≠ w2.heap.size := by
          have := World.block_lt_of_cell? w2 _ hc
          have hb : (a.add j).block = a.block := by unfold Addr.add; split <;> rfl
          omega
        have hab' : (a.add j).block ≠ w2.heap.size := by
          have := World.block_lt_of_cell? w2 _ hc
          omega
        have d2 : (wr.setCell ⟨w2.heap.size, j, none⟩ (.int .i64 2)).cell? (a.add j) = some (.int .i32 z) := by
          rw [← d]
          unfold World.cell?
          rw [Below.heap_setCell wr ⟨w2.heap.size, j, none⟩ _ _ hab']
        clear hz hc hzd d
        go_wp2_with fail
        go_roundw
        case rel => exact ⟨j + 1, by omega, by go_num, HR.out.two e1.out e2.out⟩
        case measure => simp [intOf]; omega
      · have e1 := Lib.hid (show fk xs m ((m : Int) + k) j = 0 from (if_neg h1).trans ((if_neg h2).trans (if_neg h3)))
        have e2 := Lib.hid (show fm xs m ((m : Int) + k) j = 0 from (if_neg h1).trans ((if_neg h2).trans (if_neg h3)))
        go_wp2_with fail
        go_roundw
        case rel => exact ⟨j + 1, by omega, by go_num, HR.out.one e1.out e2.out⟩
        case measure => simp [intOf]; omega
    · obtain rfl : j = n := by omega
      have HR := Lib.hid hR
      clear hR
      go_wp2_with (first
        | (go_at_call 10; refine (build_any _ _ xs (HV.out.kept HR.out.upd) j (by omega) (by omega)).mono ?_; intro e w3 hB; obtain ⟨rfl, hO⟩ := One.make hB (Upd.refl _ _); have HO := Lib.hid hO; clear hB hO)
        | (go_at_call 15; refine (zfill_any HO.out.at' (by omega) (by omega) m k (by omega) (by omega) (by omega)).mono ?_; intro e w4 hs; obtain ⟨rfl, hO⟩ := HO.out.to hs; have HO := Lib.hid hO; clear hs hO)
        | (go_at_call 17; refine (matches_yes _ _ _ j _ _ HO.out.at' (by omega) _ _ _ _ (HR.out.full HO.out.upd).1 (HR.out.full HO.out.upd).2 (fun i _ => fill_pure HX.out m k (by omega) i)).mono ?_; rintro e w7 ⟨rfl, rfl⟩))
      go_ret
      exact ⟨rfl, none_below (none_trans HU.out (none_trans HR.out.upd HO.out.upd))⟩
set_option maxHeartbeats 2000000 in
theorem fillM_out (w : World) (v : Value) (xs : List Int) (h : IsInts .i32 w v xs) (n m k : Int) (hq : xs.length > 65536 ∨ n < xs.length ∨ 65536 < n ∨ m < 0 ∨ 536870912 < m ∨ k < -536870912 ∨ 536870912 < k ∨ (-536870912 ≤ k ∧ k ≤ 536870912 ∧ 0 ≤ m ∧ m ≤ 536870912 ∧ m + k < 0) ∨ (-536870912 ≤ k ∧ k ≤ 536870912 ∧ 0 ≤ m ∧ m ≤ 536870912 ∧ n < m + k)) :
    Calls Try.prog 6 #[v, .int .i64 n, .int .i64 m, .int .i64 k] w (Fine w) := by
  have CB := Lib.hid (bytes_fillM w v xs h n m k)
  obtain ⟨p, q, rfl, k', mx, -, -⟩ := IsSl.form h.1
  simp only [List.length_map] at *
  unfold maxLen at mx
  clear h
  rcases hq with hq | hq | hq | hq | hq | hq | hq | ⟨q1, q2, q3, q4, hq⟩ | ⟨q1, q2, q3, q4, hq⟩
  all_goals
    go_enter Try.func6, Try.ntmps6
    go_wp2_with (go_at_call 18; refine CB.out.mono ?_; rintro e w1 ⟨rfl, rfl | rfl⟩)
    all_goals (go_ret; exact ⟨rfl, Below.refl _ _⟩)
theorem fillM_walk (w : World) (v : Value) (xs : List Int) (h : IsInts .i32 w v xs) (n : Int) (hn : (Lit.int .i64 n).wf = true) (m : Int) (hm : (Lit.int .i64 m).wf = true) (k : Int) (hk : (Lit.int .i64 k).wf = true) :
    Calls Try.prog 6 #[v, .int .i64 n, .int .i64 m, .int .i64 k] w (Fine w) := by
  by_cases h1 : xs.length > 65536 ∨ n < xs.length ∨ 65536 < n ∨ m < 0 ∨ 536870912 < m ∨ k < -536870912 ∨ 536870912 < k ∨ (-536870912 ≤ k ∧ k ≤ 536870912 ∧ 0 ≤ m ∧ m ≤ 536870912 ∧ m + k < 0) ∨ (-536870912 ≤ k ∧ k ≤ 536870912 ∧ 0 ≤ m ∧ m ≤ 536870912 ∧ n < m + k)
  · exact fillM_out w v xs h n m k h1
  · obtain ⟨n', rfl⟩ : ∃ n' : Nat, n = n' := ⟨n.toNat, by omega⟩
    obtain ⟨m', rfl⟩ : ∃ m' : Nat, m = m' := ⟨m.toNat, by omega⟩
    exact fillM_in w v xs h n' m' k (Lib.hid (by omega))
end Go.Lua
