/-
  n005_31: CopyRange (printed by mkcopy.py).
-/
import Derived.Test.YtdpdpknkfolajaaFillNil
import Derived.StillTailTactics
import Derived.IntWalk
namespace Go.Lua
open Go.Proofs Go.RowKit
set_option linter.unusedVariables false

/-- The limit that counts. -/
def eff (l top : Int) : Int := if l = -1 ∨ top < l then top else l
/-- What is copied to place i. -/
def src (f : Nat → Value) (s L : Int) (i : Nat) : Value := if s + i ≥ L ∨ s + i < 0 then lnil else f (s + i).toNat
def moved (f : Nat → Value) (v : Nat) (s L : Int) (j x : Nat) : Value := if v ≤ x ∧ x < v + j then src f s L (x - v) else f x
theorem moved_zero (f : Nat → Value) (v : Nat) (s L : Int) : moved f v s L 0 = f := by
  funext x; exact if_neg (by omega)
theorem moved_set (f : Nat → Value) (v : Nat) (s L : Int) (j : Nat) {u : Value} (hu : src f s L j = u) : (fun k => if k = v + j then u else moved f v s L j k) = moved f v s L (j + 1) := by
  funext x
  unfold moved
  by_cases h : x = v + j
  · rw [if_pos h, if_pos (by omega), show x - v = j by omega, hu]
  · rw [if_neg h]
    by_cases h2 : v ≤ x ∧ x < v + j
    · rw [if_pos h2, if_pos (by omega)]
    · rw [if_neg h2, if_neg (by omega)]
theorem moved_off {f : Nat → Value} {v : Nat} {s L : Int} {j : Nat} {x : Nat} (h : ¬ (v ≤ x ∧ x < v + j)) : moved f v s L j x = f x := if_neg h
def CopyW (w : World) (r b n : Nat) (f : Nat → Value) (top : Int) (v : Nat) (s L : Int) (k : Nat) (i : Value) (wr : World) : Prop :=
  ∃ j : Nat, j ≤ k ∧ i = .int .i64 j ∧ RegAt wr r b n (moved f v s L j) top ∧ Upd (Rb r b) w wr
def CopyTo (r b n : Nat) (f : Nat → Value) (top : Int) (v : Nat) (s l : Int) (k : Nat) (w : World) (e : Ending) (w' : World) : Prop :=
  RegTo r b n (cut (moved f v s (eff l top) k) (v + k) top) ((v : Int) + k) w e w'
def OneCell (v : Value) : Prop := v = .nilIface ∨ ∃ t x, v = .iface t x
theorem Slot.one {v : Value} (h : Slot v) : OneCell v := by
  cases h with
  | none => exact .inl rfl
  | nil => exact .inr ⟨_, _, rfl⟩
  | num z h => exact .inr ⟨_, _, rfl⟩

set_option maxHeartbeats 2000000 in
theorem copyA (w : World) (r b n : Nat) (f : Nat → Value) (top : Int) (h : RegAt w r b n f top) (hn : n ≤ 65536) (hs : ∀ i, i < n → OneCell (f i)) (ht : 0 ≤ top ∧ top ≤ n) (v k : Nat) (s l : Int) (hv : v + k ≤ n) (hsb : -1073741824 ≤ s ∧ s ≤ 1073741824) (hd : (v : Int) ≤ s ∨ s + k ≤ v)  :
    Calls Try.prog 23 #[.pointer (some ⟨r, 0, none⟩), .int .i64 v, .int .i64 s, .int .i64 (-1), .int .i64 k] w (CopyTo r b n f top v s (-1) k w) := by
  have HE := Lib.hid (show eff (-1) top = top from if_pos (.inl rfl))
  obtain ⟨c0, c1⟩ := h.cells
  obtain ⟨t1, t2⟩ := ht
  obtain ⟨s1, s2⟩ := hsb
  have hne := h.ne
  have hne' : b ≠ r := fun e => hne e.symm
  have H := Lib.hid h
  have HS := Lib.hid hs
  have HD := Lib.hid hd
  clear h hs hd
  go_enter Try.func23, Try.ntmps23
  go_wp2_with fail
  go_loopw [12] (CopyW w r b n f top v s top k) (fun i _ => (k - (intOf i).toNat))
  case atStart => exact ⟨0, Nat.zero_le _, rfl, by rw [moved_zero]; exact H.out, Upd.refl _ _⟩
  case round =>
    clear c0 c1
    obtain ⟨j, hj, rfl, hR, hU⟩ := hrel
    have HR := Lib.hid hR
    have HU := Lib.hid hU
    clear hR hU
    obtain ⟨c0, c1⟩ := HR.out.cells
    have z1 := HR.out.thaw 1
    by_cases hlt : (j : Int) < k
    · have y := HR.out.row.thaw (v + j)
      have cu := HR.out.at (show v + j < n by omega)
      by_cases h1 : s + j ≥ top
      · have HQ := Lib.hid (show src f s top j = lnil from if_pos (.inl h1))
        have g1 : decide (s + j ≥ top) = true := by simpa using h1
        go_wp2_with fail
        go_roundw
        case rel => exact ⟨j + 1, by omega, by go_num, by rw [← moved_set _ _ _ _ _ HQ.out]; exact HR.out.setSlot _ _, HU.out.setCell (.inl (.inr rfl)) _⟩
        case measure => simp [intOf]; omega
      by_cases h2 : s + j < 0
      · have HQ := Lib.hid (show src f s top j = lnil from if_pos (.inr h2))
        go_wp2_with fail
        go_roundw
        case rel => exact ⟨j + 1, by omega, by go_num, by rw [← moved_set _ _ _ _ _ HQ.out]; exact HR.out.setSlot _ _, HU.out.setCell (.inl (.inr rfl)) _⟩
        case measure => simp [intOf]; omega
      have HQ := Lib.hid (show src f s top j = f (s + j).toNat from if_neg (by omega))
      have hz : (s + j).toNat < n := by omega
      have cv := HR.out.at hz
      rw [moved_off (by have := HD.out; omega)] at cv
      have h3 : top > s + j := by omega
      have h4 : 0 ≤ s + j := by omega
      rcases HS.out _ hz with hf | ⟨tv, xv, hf⟩
      all_goals
        rw [hf] at cv
        have HQ := Lib.hid (HQ.out.trans hf)
        clear hf hz h1 h2
        go_wp2_with fail
        have q1 : IntKind.i64.wrap ((v : Int) + j) = (v : Int) + j := IntWalk.i64_in _ (by omega)
        have q2 : (0 : Int) ≤ (v : Int) + j := by omega
        have q3 : ((v : Int) + j).toNat = v + j := by omega
        have q4 : 0 ≤ s + (j : Int) := by omega
        have q5 : (s + (j : Int)).toNat < n := by omega
        have q6 : v + j < n := by omega
        have q7 : s + (j : Int) < (n : Int) := by omega
        have q8 : ((v : Int) + j) < (n : Int) := by omega
        go_still_tail 15, (by kernel_rfl)
        change wpList _ _ _ _ _ wr.drew
        have y : wr.drew.frozen? ⟨b, v + j, none⟩ = false := y
        have cu : wr.drew.cell? ⟨b, v + j, none⟩ = some _ := cu
        clear q1 q2 q3 q4 q5 q6 q7 q8
        go_wp2_with fail
        go_roundw
        case rel => exact ⟨j + 1, by omega, by go_num, by rw [← moved_set _ _ _ _ _ HQ.out]; exact (HR.out.drewN 1).setSlot _ _, (HU.out.drewN 1).setCell (.inl (.inr rfl)) _⟩
        case measure => simp [intOf]; omega
    · obtain rfl : j = k := by omega
      have hT : ((v + j : Nat) : Int) = (v : Int) + j := by omega
      by_cases hcut : (v : Int) + j < top
      · clear hT
        go_wp2_with fail
        go_quiet (fail)
        go_wp2_with fail
        go_loopw [112] (OvrW w r b n (moved f v s top j) ((v : Int) + j) (v + j) .nilIface (top.toNat - (v + j))) (fun i _ => ((top.toNat - (v + j)) - (intOf i).toNat))
        case atStart => exact ⟨0, Nat.zero_le _, rfl, by rw [ovr_zero]; exact (HR.out.setTop _).drewN _, (HU.out.setCell (.inl (.inl rfl)) _).drewN _⟩
        case round =>
          clear c0 c1 z1
          clear HR HU
          obtain ⟨i, hi, rfl, hR, hU⟩ := hrel
          have HR := Lib.hid hR
          have HU := Lib.hid hU
          clear hR hU
          by_cases hlt2 : i < top.toNat - (v + j)
          · have y := HR.out.row.thaw (v + j + i)
            have cu := HR.out.at (show v + j + i < n by omega)
            go_wp2_with fail
            go_roundw
            case rel => exact ⟨i + 1, by omega, by go_num, by rw [← ovr_set]; exact HR.out.setSlot _ _, HU.out.setCell (.inl (.inr rfl)) _⟩
            case measure => simp [intOf]; omega
          · obtain rfl : i = top.toNat - (v + j) := by omega
            rw [cut_ovr (f := moved f v s top j) (c := v + j) (top := top) (by omega)] at HR
            go_wp2_with fail
            go_end0
            exact ⟨rfl, by rw [HE.out]; exact HR.out, HU.out⟩
      · clear hT
        go_wp2_with fail
        go_end0
        exact ⟨rfl, by rw [HE.out]; exact (HR.out.setTop _).congr (fun s hs => (cut_none (by omega)).symm) rfl, HU.out.setCell (.inl (.inl rfl)) _⟩

set_option maxHeartbeats 2000000 in
theorem copyB (w : World) (r b n : Nat) (f : Nat → Value) (top : Int) (h : RegAt w r b n f top) (hn : n ≤ 65536) (hs : ∀ i, i < n → OneCell (f i)) (ht : 0 ≤ top ∧ top ≤ n) (v k : Nat) (s l : Int) (hv : v + k ≤ n) (hsb : -1073741824 ≤ s ∧ s ≤ 1073741824) (hd : (v : Int) ≤ s ∨ s + k ≤ v) (hl : l ≠ -1) (hl2 : top < l) :
    Calls Try.prog 23 #[.pointer (some ⟨r, 0, none⟩), .int .i64 v, .int .i64 s, .int .i64 l, .int .i64 k] w (CopyTo r b n f top v s l k w) := by
  have HE := Lib.hid (show eff l top = top from if_pos (.inr hl2))
  obtain ⟨c0, c1⟩ := h.cells
  obtain ⟨t1, t2⟩ := ht
  obtain ⟨s1, s2⟩ := hsb
  have hne := h.ne
  have hne' : b ≠ r := fun e => hne e.symm
  have H := Lib.hid h
  have HS := Lib.hid hs
  have HD := Lib.hid hd
  clear h hs hd
  go_enter Try.func23, Try.ntmps23
  go_wp2_with fail
  go_loopw [12] (CopyW w r b n f top v s top k) (fun i _ => (k - (intOf i).toNat))
  case atStart => exact ⟨0, Nat.zero_le _, rfl, by rw [moved_zero]; exact H.out, Upd.refl _ _⟩
  case round =>
    clear c0 c1
    obtain ⟨j, hj, rfl, hR, hU⟩ := hrel
    have HR := Lib.hid hR
    have HU := Lib.hid hU
    clear hR hU
    obtain ⟨c0, c1⟩ := HR.out.cells
    have z1 := HR.out.thaw 1
    by_cases hlt : (j : Int) < k
    · have y := HR.out.row.thaw (v + j)
      have cu := HR.out.at (show v + j < n by omega)
      by_cases h1 : s + j ≥ top
      · have HQ := Lib.hid (show src f s top j = lnil from if_pos (.inl h1))
        have g1 : decide (s + j ≥ top) = true := by simpa using h1
        go_wp2_with fail
        go_roundw
        case rel => exact ⟨j + 1, by omega, by go_num, by rw [← moved_set _ _ _ _ _ HQ.out]; exact HR.out.setSlot _ _, HU.out.setCell (.inl (.inr rfl)) _⟩
        case measure => simp [intOf]; omega
      by_cases h2 : s + j < 0
      · have HQ := Lib.hid (show src f s top j = lnil from if_pos (.inr h2))
        go_wp2_with fail
        go_roundw
        case rel => exact ⟨j + 1, by omega, by go_num, by rw [← moved_set _ _ _ _ _ HQ.out]; exact HR.out.setSlot _ _, HU.out.setCell (.inl (.inr rfl)) _⟩
        case measure => simp [intOf]; omega
      have HQ := Lib.hid (show src f s top j = f (s + j).toNat from if_neg (by omega))
      have hz : (s + j).toNat < n := by omega
      have cv := HR.out.at hz
      rw [moved_off (by have := HD.out; omega)] at cv
      have h3 : top > s + j := by omega
      have h4 : 0 ≤ s + j := by omega
      rcases HS.out _ hz with hf | ⟨tv, xv, hf⟩
      all_goals
        rw [hf] at cv
        have HQ := Lib.hid (HQ.out.trans hf)
        clear hf hz h1 h2
        go_wp2_with fail
        have q1 : IntKind.i64.wrap ((v : Int) + j) = (v : Int) + j := IntWalk.i64_in _ (by omega)
        have q2 : (0 : Int) ≤ (v : Int) + j := by omega
        have q3 : ((v : Int) + j).toNat = v + j := by omega
        have q4 : 0 ≤ s + (j : Int) := by omega
        have q5 : (s + (j : Int)).toNat < n := by omega
        have q6 : v + j < n := by omega
        have q7 : s + (j : Int) < (n : Int) := by omega
        have q8 : ((v : Int) + j) < (n : Int) := by omega
        go_still_tail 15, (by kernel_rfl)
        change wpList _ _ _ _ _ wr.drew
        have y : wr.drew.frozen? ⟨b, v + j, none⟩ = false := y
        have cu : wr.drew.cell? ⟨b, v + j, none⟩ = some _ := cu
        clear q1 q2 q3 q4 q5 q6 q7 q8
        go_wp2_with fail
        go_roundw
        case rel => exact ⟨j + 1, by omega, by go_num, by rw [← moved_set _ _ _ _ _ HQ.out]; exact (HR.out.drewN 1).setSlot _ _, (HU.out.drewN 1).setCell (.inl (.inr rfl)) _⟩
        case measure => simp [intOf]; omega
    · obtain rfl : j = k := by omega
      have hT : ((v + j : Nat) : Int) = (v : Int) + j := by omega
      by_cases hcut : (v : Int) + j < top
      · clear hT
        go_wp2_with fail
        go_quiet (fail)
        go_wp2_with fail
        go_loopw [112] (OvrW w r b n (moved f v s top j) ((v : Int) + j) (v + j) .nilIface (top.toNat - (v + j))) (fun i _ => ((top.toNat - (v + j)) - (intOf i).toNat))
        case atStart => exact ⟨0, Nat.zero_le _, rfl, by rw [ovr_zero]; exact (HR.out.setTop _).drewN _, (HU.out.setCell (.inl (.inl rfl)) _).drewN _⟩
        case round =>
          clear c0 c1 z1
          clear HR HU
          obtain ⟨i, hi, rfl, hR, hU⟩ := hrel
          have HR := Lib.hid hR
          have HU := Lib.hid hU
          clear hR hU
          by_cases hlt2 : i < top.toNat - (v + j)
          · have y := HR.out.row.thaw (v + j + i)
            have cu := HR.out.at (show v + j + i < n by omega)
            go_wp2_with fail
            go_roundw
            case rel => exact ⟨i + 1, by omega, by go_num, by rw [← ovr_set]; exact HR.out.setSlot _ _, HU.out.setCell (.inl (.inr rfl)) _⟩
            case measure => simp [intOf]; omega
          · obtain rfl : i = top.toNat - (v + j) := by omega
            rw [cut_ovr (f := moved f v s top j) (c := v + j) (top := top) (by omega)] at HR
            go_wp2_with fail
            go_end0
            exact ⟨rfl, by rw [HE.out]; exact HR.out, HU.out⟩
      · clear hT
        go_wp2_with fail
        go_end0
        exact ⟨rfl, by rw [HE.out]; exact (HR.out.setTop _).congr (fun s hs => (cut_none (by omega)).symm) rfl, HU.out.setCell (.inl (.inl rfl)) _⟩

set_option maxHeartbeats 2000000 in
theorem copyC (w : World) (r b n : Nat) (f : Nat → Value) (top : Int) (h : RegAt w r b n f top) (hn : n ≤ 65536) (hs : ∀ i, i < n → OneCell (f i)) (ht : 0 ≤ top ∧ top ≤ n) (v k : Nat) (s l : Int) (hv : v + k ≤ n) (hsb : -1073741824 ≤ s ∧ s ≤ 1073741824) (hd : (v : Int) ≤ s ∨ s + k ≤ v) (hl : l ≠ -1) (hl2 : l ≤ top) :
    Calls Try.prog 23 #[.pointer (some ⟨r, 0, none⟩), .int .i64 v, .int .i64 s, .int .i64 l, .int .i64 k] w (CopyTo r b n f top v s l k w) := by
  have HE := Lib.hid (show eff l top = l from if_neg (by omega))
  obtain ⟨c0, c1⟩ := h.cells
  obtain ⟨t1, t2⟩ := ht
  obtain ⟨s1, s2⟩ := hsb
  have hne := h.ne
  have hne' : b ≠ r := fun e => hne e.symm
  have H := Lib.hid h
  have HS := Lib.hid hs
  have HD := Lib.hid hd
  clear h hs hd
  have hl3 : (l == -1) = false := by simpa using hl
  clear hl
  go_enter Try.func23, Try.ntmps23
  go_wp2_with fail
  go_loopw [12] (CopyW w r b n f top v s l k) (fun i _ => (k - (intOf i).toNat))
  case atStart => exact ⟨0, Nat.zero_le _, rfl, by rw [moved_zero]; exact H.out, Upd.refl _ _⟩
  case round =>
    clear c0 c1
    obtain ⟨j, hj, rfl, hR, hU⟩ := hrel
    have HR := Lib.hid hR
    have HU := Lib.hid hU
    clear hR hU
    obtain ⟨c0, c1⟩ := HR.out.cells
    have z1 := HR.out.thaw 1
    by_cases hlt : (j : Int) < k
    · have y := HR.out.row.thaw (v + j)
      have cu := HR.out.at (show v + j < n by omega)
      by_cases h1 : s + j ≥ l
      · have HQ := Lib.hid (show src f s l j = lnil from if_pos (.inl h1))
        have g1 : decide (s + j ≥ l) = true := by simpa using h1
        go_wp2_with fail
        go_roundw
        case rel => exact ⟨j + 1, by omega, by go_num, by rw [← moved_set _ _ _ _ _ HQ.out]; exact HR.out.setSlot _ _, HU.out.setCell (.inl (.inr rfl)) _⟩
        case measure => simp [intOf]; omega
      by_cases h2 : s + j < 0
      · have HQ := Lib.hid (show src f s l j = lnil from if_pos (.inr h2))
        go_wp2_with fail
        go_roundw
        case rel => exact ⟨j + 1, by omega, by go_num, by rw [← moved_set _ _ _ _ _ HQ.out]; exact HR.out.setSlot _ _, HU.out.setCell (.inl (.inr rfl)) _⟩
        case measure => simp [intOf]; omega
      have HQ := Lib.hid (show src f s l j = f (s + j).toNat from if_neg (by omega))
      have hz : (s + j).toNat < n := by omega
      have cv := HR.out.at hz
      rw [moved_off (by have := HD.out; omega)] at cv
      have h3 : l > s + j := by omega
      have h4 : 0 ≤ s + j := by omega
      rcases HS.out _ hz with hf | ⟨tv, xv, hf⟩
      all_goals
        rw [hf] at cv
        have HQ := Lib.hid (HQ.out.trans hf)
        clear hf hz h1 h2
        go_wp2_with fail
        have q1 : IntKind.i64.wrap ((v : Int) + j) = (v : Int) + j := IntWalk.i64_in _ (by omega)
        have q2 : (0 : Int) ≤ (v : Int) + j := by omega
        have q3 : ((v : Int) + j).toNat = v + j := by omega
        have q4 : 0 ≤ s + (j : Int) := by omega
        have q5 : (s + (j : Int)).toNat < n := by omega
        have q6 : v + j < n := by omega
        have q7 : s + (j : Int) < (n : Int) := by omega
        have q8 : ((v : Int) + j) < (n : Int) := by omega
        go_still_tail 15, (by kernel_rfl)
        change wpList _ _ _ _ _ wr.drew
        have y : wr.drew.frozen? ⟨b, v + j, none⟩ = false := y
        have cu : wr.drew.cell? ⟨b, v + j, none⟩ = some _ := cu
        clear q1 q2 q3 q4 q5 q6 q7 q8
        go_wp2_with fail
        go_roundw
        case rel => exact ⟨j + 1, by omega, by go_num, by rw [← moved_set _ _ _ _ _ HQ.out]; exact (HR.out.drewN 1).setSlot _ _, (HU.out.drewN 1).setCell (.inl (.inr rfl)) _⟩
        case measure => simp [intOf]; omega
    · obtain rfl : j = k := by omega
      have hT : ((v + j : Nat) : Int) = (v : Int) + j := by omega
      by_cases hcut : (v : Int) + j < top
      · clear hT
        go_wp2_with fail
        go_quiet (fail)
        go_wp2_with fail
        go_loopw [112] (OvrW w r b n (moved f v s l j) ((v : Int) + j) (v + j) .nilIface (top.toNat - (v + j))) (fun i _ => ((top.toNat - (v + j)) - (intOf i).toNat))
        case atStart => exact ⟨0, Nat.zero_le _, rfl, by rw [ovr_zero]; exact (HR.out.setTop _).drewN _, (HU.out.setCell (.inl (.inl rfl)) _).drewN _⟩
        case round =>
          clear c0 c1 z1
          clear HR HU
          obtain ⟨i, hi, rfl, hR, hU⟩ := hrel
          have HR := Lib.hid hR
          have HU := Lib.hid hU
          clear hR hU
          by_cases hlt2 : i < top.toNat - (v + j)
          · have y := HR.out.row.thaw (v + j + i)
            have cu := HR.out.at (show v + j + i < n by omega)
            go_wp2_with fail
            go_roundw
            case rel => exact ⟨i + 1, by omega, by go_num, by rw [← ovr_set]; exact HR.out.setSlot _ _, HU.out.setCell (.inl (.inr rfl)) _⟩
            case measure => simp [intOf]; omega
          · obtain rfl : i = top.toNat - (v + j) := by omega
            rw [cut_ovr (f := moved f v s l j) (c := v + j) (top := top) (by omega)] at HR
            go_wp2_with fail
            go_end0
            exact ⟨rfl, by rw [HE.out]; exact HR.out, HU.out⟩
      · clear hT
        go_wp2_with fail
        go_end0
        exact ⟨rfl, by rw [HE.out]; exact (HR.out.setTop _).congr (fun s hs => (cut_none (by omega)).symm) rfl, HU.out.setCell (.inl (.inl rfl)) _⟩

theorem copyRange_any (w : World) (r b n : Nat) (f : Nat → Value) (top : Int) (h : RegAt w r b n f top) (hn : n ≤ 65536) (hs : ∀ i, i < n → OneCell (f i)) (ht : 0 ≤ top ∧ top ≤ n) (v k : Nat) (s l : Int) (hv : v + k ≤ n) (hsb : -1073741824 ≤ s ∧ s ≤ 1073741824) (hd : (v : Int) ≤ s ∨ s + k ≤ v) :
    Calls Try.prog 23 #[.pointer (some ⟨r, 0, none⟩), .int .i64 v, .int .i64 s, .int .i64 l, .int .i64 k] w (CopyTo r b n f top v s l k w) := by
  by_cases h1 : l = -1
  · subst h1; exact copyA w r b n f top h hn hs ht v k s 0 hv hsb hd
  by_cases h2 : top < l
  · exact copyB w r b n f top h hn hs ht v k s l hv hsb hd h1 h2
  · exact copyC w r b n f top h hn hs ht v k s l hv hsb hd h1 (by omega)
end Go.Lua

