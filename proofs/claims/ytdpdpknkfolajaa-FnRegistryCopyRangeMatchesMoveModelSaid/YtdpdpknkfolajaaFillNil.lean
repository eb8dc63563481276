/-
  n005_31: FillNil.
-/
import Derived.Test.YtdpdpknkfolajaaBuild
namespace Go.Lua
open Go.Proofs Go.RowKit
set_option linter.unusedVariables false

/-- Slots from a on, j of them, hold v. -/
def ovr (f : Nat → Value) (a j : Nat) (v : Value) (s : Nat) : Value := if a ≤ s ∧ s < a + j then v else f s
theorem ovr_zero (f : Nat → Value) (a : Nat) (v : Value) : ovr f a 0 v = f := by
  funext s; exact if_neg (by omega)
theorem ovr_set (f : Nat → Value) (a j : Nat) (v : Value) : (fun k => if k = a + j then v else ovr f a j v k) = ovr f a (j + 1) v := by
  funext s
  unfold ovr
  by_cases h : s = a + j
  · rw [if_pos h, if_pos (by omega)]
  · rw [if_neg h]
    by_cases h2 : a ≤ s ∧ s < a + j
    · rw [if_pos h2, if_pos (by omega)]
    · rw [if_neg h2, if_neg (by omega)]
/-- A loop's word: j slots from a on are overwritten. -/
def OvrW (w : World) (r b n : Nat) (f : Nat → Value) (top : Int) (a : Nat) (v : Value) (m : Nat) (i : Value) (wr : World) : Prop :=
  ∃ j : Nat, j ≤ m ∧ i = .int .i64 j ∧ RegAt wr r b n (ovr f a j v) top ∧ Upd (Rb r b) w wr
theorem RegAt.upd_set {w0 w : World} {r b n : Nat} {f : Nat → Value} {top : Int} (h : Upd (Rb r b) w0 w) (i : Nat) (v : Value) : Upd (Rb r b) w0 (w.setCell ⟨b, i, none⟩ v) := h.setCell (.inl (.inr rfl)) _
theorem RegAt.upd_top {w0 w : World} {r b : Nat} (h : Upd (Rb r b) w0 w) (t : Int) : Upd (Rb r b) w0 (w.setCell ⟨r, 1, none⟩ (.int .i64 t)) := h.setCell (.inl (.inl rfl)) _

/-- Of a row of slots those at c and above are cut off. -/
def cut (f : Nat → Value) (c : Nat) (top : Int) (s : Nat) : Value := if c ≤ s ∧ (s : Int) < top then .nilIface else f s

theorem cut_none {f : Nat → Value} {c : Nat} {top : Int} (h : top ≤ c) {s : Nat} : cut f c top s = f s := if_neg (by omega)
theorem cut_ovr {f : Nat → Value} {c : Nat} {top : Int} {j : Nat} (h : (c : Int) + j = top) : ovr f c j .nilIface = cut f c top := by
  funext s
  unfold ovr cut
  by_cases h1 : c ≤ s ∧ s < c + j
  · rw [if_pos h1, if_pos (by omega)]
  · rw [if_neg h1, if_neg (by omega)]
def FillTo (r b n : Nat) (f : Nat → Value) (top : Int) (m : Nat) (k : Int) (w : World) (e : Ending) (w' : World) : Prop :=
  RegTo r b n (cut (ovr f m k.toNat lnil) (m + k).toNat top) (m + k) w e w'

set_option maxHeartbeats 2000000 in
theorem fillNil_any (w : World) (r b n : Nat) (f : Nat → Value) (top : Int) (h : RegAt w r b n f top) (hn : n ≤ 65536) (ht : 0 ≤ top ∧ top ≤ n) (m : Nat) (k : Int) (hm : m ≤ 536870912) (hk : -536870912 ≤ k ∧ k ≤ 536870912) (hc : 0 ≤ (m : Int) + k ∧ (m : Int) + k ≤ n) :
    Calls Try.prog 26 #[.pointer (some ⟨r, 0, none⟩), .int .i64 m, .int .i64 k] w (FillTo r b n f top m k w) := by
  obtain ⟨c0, c1⟩ := h.cells
  obtain ⟨t1, t2⟩ := ht
  obtain ⟨k1, k2⟩ := hk
  obtain ⟨m1, m2⟩ := hc
  have hne := h.ne
  have hne' : b ≠ r := fun e => hne e.symm
  have H := Lib.hid h
  clear h
  go_enter Try.func26, Try.ntmps26
  go_wp2_with fail
  go_loopw [8] (OvrW w r b n f top m lnil k.toNat) (fun i _ => (k.toNat - (intOf i).toNat))
  case atStart => exact ⟨0, Nat.zero_le _, rfl, by rw [ovr_zero]; exact H.out, Upd.refl _ _⟩
  case round =>
    clear c0 c1
    obtain ⟨j, hj, rfl, hR, hU⟩ := hrel
    have HR := Lib.hid hR
    have HU := Lib.hid hU
    clear hR hU
    obtain ⟨c0, c1⟩ := HR.out.cells
    have z1 := HR.out.thaw 1
    by_cases hlt : (j : Int) < k
    · have y := HR.out.row.thaw (m + j)
      have cu := HR.out.at (show m + j < n by omega)
      go_wp2_with fail
      go_roundw
      case rel => exact ⟨j + 1, by omega, by go_num, by rw [← ovr_set]; exact HR.out.setSlot _ _, HU.out.setCell (.inl (.inr rfl)) _⟩
      case measure => simp [intOf]; omega
    · obtain rfl : j = k.toNat := by omega
      by_cases hcut : (m : Int) + k < top
      · go_wp2_with fail
        go_quiet (fail)
        go_wp2_with fail
        go_loopw [68] (OvrW w r b n (ovr f m k.toNat lnil) (m + k) (m + k).toNat .nilIface (top.toNat - (m + k).toNat)) (fun i _ => ((top.toNat - (m + k).toNat) - (intOf i).toNat))
        case atStart => exact ⟨0, Nat.zero_le _, rfl, by rw [ovr_zero]; exact (HR.out.setTop _).drewN _, (HU.out.setCell (.inl (.inl rfl)) _).drewN _⟩
        case round =>
          clear c0 c1 z1
          clear HR HU
          obtain ⟨i, hi, rfl, hR, hU⟩ := hrel
          have HR := Lib.hid hR
          have HU := Lib.hid hU
          clear hR hU
          by_cases hlt2 : i < top.toNat - (m + k).toNat
          · have y := HR.out.row.thaw ((m + k).toNat + i)
            have cu := HR.out.at (show (m + k).toNat + i < n by omega)
            go_wp2_with fail
            go_roundw
            case rel => exact ⟨i + 1, by omega, by go_num, by rw [← ovr_set]; exact HR.out.setSlot _ _, HU.out.setCell (.inl (.inr rfl)) _⟩
            case measure => simp [intOf]; omega
          · obtain rfl : i = top.toNat - (m + k).toNat := by omega
            rw [cut_ovr (f := ovr f m k.toNat lnil) (c := ((m : Int) + k).toNat) (top := top) (by omega)] at HR
            go_wp2_with fail
            go_end0
            exact ⟨rfl, HR.out, HU.out⟩
      · go_wp2_with fail
        go_end0
        exact ⟨rfl, (HR.out.setTop _).congr (fun s hs => (cut_none (by omega)).symm) rfl, HU.out.setCell (.inl (.inl rfl)) _⟩
end Go.Lua
