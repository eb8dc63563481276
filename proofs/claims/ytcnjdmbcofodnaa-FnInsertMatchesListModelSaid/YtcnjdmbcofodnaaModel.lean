/-
  n005_73: the statements' own list model: what its functions hand back.
-/
import Derived.Test.YtcnjdmbcofodnaaSnap
namespace Go.Lua
open Go.Proofs Go.RowKit
set_option linter.unusedVariables false

/-- v is a slice that holds ms; its block, if it has one, is new behind w0. -/
structure Mod (w0 w : World) (v : Value) (ms : List Int) : Prop where
  is : IsInts .i32 w v ms
  new : ∀ a n c, v = .slice (some a) n c → w0.heap.size ≤ a.block

def BordW (w : World) (ms : List Int) (b k : Value) (wr : World) : Prop :=
  ∃ j l : Nat, j ≤ ms.length ∧ k = .int .i64 ((j : Int) + 1) ∧ b = .int .i64 l ∧ l ≤ j ∧ (∀ q : Nat, l ≤ q → q < j → (ms[q]?).getD 0 = 0) ∧ (l = 0 ∨ (ms[l - 1]?).getD 0 ≠ 0) ∧ wr = w

theorem atM_nat' (ms : List Int) (q : Nat) : atM ms ((q : Int) + 1) = (ms[q]?).getD 0 := by
  unfold atM
  rw [if_pos (by omega), show ((q : Int) + 1).toNat - 1 = q by omega]

set_option maxHeartbeats 1000000 in
theorem border_any (w : World) (v : Value) (ms : List Int) (hs : IsInts .i32 w v ms) (hl : ms.length ≤ 1000000) :
    Calls Try.prog 23 #[v] w fun e w' => e = .returned (.int .i64 (bord ms)) ∧ w = w' := by
  obtain ⟨p, c, rfl, k, m, hn, g⟩ := hs.1.form
  simp only [List.length_map] at *
  unfold maxLen at m
  have G := Lib.hid g
  clear g hs hn
  go_enter Try.func23, Try.ntmps23
  go_wp2_with fail
  go_loopw [3, 4] (BordW w ms) (fun _ k _ => ((ms.length : Int) + 1 - intOf k).toNat)
  case atStart => exact ⟨0, 0, Nat.zero_le _, rfl, rfl, Nat.le_refl _, fun q h1 h2 => by omega, .inl rfl, rfl⟩
  case round =>
    obtain ⟨j, l, hj, rfl, rfl, hlj, hq, hl0, rfl⟩ := hrel
    have HQ := Lib.hid hq
    have HL := Lib.hid hl0
    clear hq hl0
    by_cases hlt : (j : Int) + 1 ≤ ms.length
    · obtain ⟨z, hz⟩ : ∃ z, ms[j]? = some z := ⟨ms[j]'(by omega), by simp⟩
      obtain ⟨a, rfl, hc⟩ := G.out j (.int .i32 z) (by simp [hz])
      have Hz := Lib.hid hz
      have hj2 : (j : Int) < ms.length := by omega
      clear hz
      by_cases h0 : z = 0
      · have h00 : (z != 0) = false := by simp [h0]
        have H0 := Lib.hid h0
        clear h0
        go_wp2_with fail
        go_roundw
        case rel =>
          refine ⟨j + 1, l, by omega, by go_num, rfl, by omega, fun q h1 h2 => ?_, HL.out, rfl⟩
          by_cases he : q = j
          · rw [he, Hz.out]; exact H0.out
          · exact HQ.out q h1 (by omega)
        case measure => exact meas (by omega)
      · have h00 : (z != 0) = true := by simp [h0]
        have H0 := Lib.hid h0
        clear h0
        go_wp2_with fail
        go_roundw
        case rel =>
          refine ⟨j + 1, j + 1, by omega, by go_num, by go_num, by omega, fun q h1 h2 => by omega, .inr ?_, rfl⟩
          rw [Nat.add_sub_cancel, Hz.out]; exact H0.out
        case measure => exact meas (by omega)
    · go_wp2_with fail
      go_ret
      have hb : bord ms = l := bord_is (fun k hk => by
          obtain ⟨q, rfl⟩ : ∃ q : Nat, k = (q : Int) + 1 := ⟨(k - 1).toNat, by omega⟩
          rw [atM_nat']
          by_cases hqj : q < j
          · exact HQ.out q (by omega) hqj
          · rw [List.getElem?_eq_none (by omega)]; rfl) (by
          by_cases h0 : l = 0
          · exact .inl h0
          · right
            have e : (l : Int) = ((l - 1 : Nat) : Int) + 1 := by omega
            rw [e, atM_nat']
            exact HL.out.resolve_left h0)
      rw [hb]
      exact ⟨rfl, rfl⟩

set_option maxHeartbeats 1000000 in
theorem modelAt_any (w : World) (v : Value) (ms : List Int) (hs : IsInts .i32 w v ms) (k : Int) (hk : Is64 k) :
    Calls Try.prog 26 #[v, .int .i64 k] w fun e w' => e = .returned (.int .i32 (atM ms k)) ∧ w = w' := by
  obtain ⟨p, c, rfl, hc, m, hn, g⟩ := hs.1.form
  simp only [List.length_map] at *
  unfold maxLen at m
  obtain ⟨hk1, hk2⟩ := hk
  by_cases h1 : k < 1
  · rw [atM_low _ h1]
    clear g hs hn
    go_enter Try.func26, Try.ntmps26
    go_wp2
    go_ret
    exact ⟨rfl, rfl⟩
  by_cases h2 : (ms.length : Int) < k
  · rw [atM_far h2]
    clear g hs hn
    go_enter Try.func26, Try.ntmps26
    go_wp2
    go_ret
    exact ⟨rfl, rfl⟩
  obtain ⟨j, hj⟩ : ∃ j : Nat, k - 1 = j := ⟨(k - 1).toNat, by omega⟩
  obtain ⟨z, hz⟩ : ∃ z, ms[j]? = some z := ⟨ms[j]'(by omega), by simp⟩
  obtain ⟨a, rfl, hcell⟩ := g j (.int .i32 z) (by simp [hz])
  have hat : atM ms k = z := by
    have e : k = (j : Int) + 1 := by omega
    rw [e, atM_nat', hz]; rfl
  rw [hat]
  have hjl : (j : Int) < ms.length := by omega
  clear g hs hn hz hat
  go_enter Try.func26, Try.ntmps26
  go_wp2
  go_ret
  exact ⟨rfl, rfl⟩
end Go.Lua
