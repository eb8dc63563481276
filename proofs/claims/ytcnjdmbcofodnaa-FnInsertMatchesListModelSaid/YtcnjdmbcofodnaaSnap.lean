/-
  n005_73: a snapshot of the slots, the test of it, and a removal.
-/
import Derived.Test.YtcnjdmbcofodnaaPlain
namespace Go.Lua
open Go.Proofs Go.RowKit
set_option linter.unusedVariables false

theorem Tbl.later {F : Nat → Prop} {t : Nat} {ms : List Int} {n : Nat} {w w' : World} (h : Tbl F t ms n w) (u : Upd (fun _ => False) w w') : Tbl F t ms n w' := by
  obtain ⟨T, hS, va, vd, vs, vk, vi, hT⟩ := h
  exact ⟨T, hS, (hT.kept fun k hk _ => u.block k hk (fun h => h)).at⟩
theorem Tbl.drew {F : Nat → Prop} {t : Nat} {ms : List Int} {n : Nat} {w : World} (h : Tbl F t ms n w) : Tbl F t ms n w.drew := by
  obtain ⟨T, hS, hT⟩ := h
  exact ⟨T, hS, hT.drewN 1⟩

/-- The first N slots. -/
def snap (ms : List Int) (N : Nat) : List Int := (List.range N).map fun (q : Nat) => atM ms ((q : Int) + 1)
theorem snap_at {ms : List Int} {N q : Nat} {z : Int} (h : (snap ms N)[q]? = some z) : q < N ∧ z = atM ms ((q : Int) + 1) := by
  unfold snap at h
  rw [List.getElem?_map] at h
  by_cases hq : q < N
  · rw [List.getElem?_range hq] at h
    exact ⟨hq, (Option.some.inj h).symm⟩
  · rw [List.getElem?_eq_none (by simp; omega)] at h
    cases h
theorem snap_length (ms : List Int) (N : Nat) : (snap ms N).length = N := by simp [snap]

/-- The slice lies in a block that w does not have. -/
def NewSl (w : World) (v : Value) : Prop := ∀ a n c, v = .slice (some a) n c → w.heap.size ≤ a.block
/-- A slice made behind the table's blocks stands while the table turns. -/
theorem snap_kept {F : Nat → Prop} {w4 w5 w6 : World} {v : Value} {xs : List Value} (h : IsSl w5 v xs) (u : Upd F w5 w6) (hv : NewSl w4 v) (hF : ∀ k, F k → k < w4.heap.size) : IsSl w6 v xs := by
  rcases h with h | ⟨a, cap, h1, h2, h3, h4⟩
  · exact .inl h
  · refine .inr ⟨a, cap, h1, h2, h3, fun i z hz => ?_⟩
    have hc := h4 i z hz
    have hb : (a.add i).block = a.block := by unfold Addr.add; split <;> rfl
    have hlt := World.block_lt_of_cell? w5 _ hc
    have hge := hv _ _ _ h1
    rw [← hc]
    unfold World.cell?
    rw [u.block _ hlt (fun hf => by have := hF _ hf; omega)]

def SnapW (w : World) (b : Nat) (xs : List Value) (N : Nat) (k : Value) (wr : World) : Prop :=
  ∃ j : Nat, j ≤ N ∧ k = .int .i64 ((j : Int) + 1) ∧ RowAt wr b 21 (partly xs (.int .i32 0) j) ∧ Upd (fun _ => False) w wr

set_option maxHeartbeats 1000000 in
theorem Tbl.snapshot {F : Nat → Prop} {t : Nat} {ms : List Int} {n : Nat} {w : World} (h : Tbl F t ms n w) (hf : ∀ v ∈ ms, -2147483648 ≤ v ∧ v ≤ 2147483647) (N : Nat) (hN : N ≤ 1000000) :
    Calls Try.prog 30 #[.pointer (some ⟨t, 0, none⟩), .int .i64 N] w fun e w' => ∃ v', e = .returned v' ∧ IsInts .i32 w' v' (snap ms N) ∧ Upd (fun _ => False) w w' ∧ NewSl w v' := by
  have hm := clone32_made N (by omega)
  have hwf : ∀ z ∈ snap ms N, (Lit.int .i32 z).wf = true := by
    intro z hz
    obtain ⟨q, hq⟩ := List.getElem?_of_mem hz
    obtain ⟨-, rfl⟩ := snap_at hq
    have := atM_fit hf ((q : Int) + 1)
    simpa [Lit.wf, IntKind.min, IntKind.max, IntKind.signed, IntKind.bits] using this
  have hx3 : N ≤ maxLen := by unfold maxLen; omega
  have hl : ((snap ms N).map (Value.int .i32)).length = N := by rw [List.length_map, snap_length]
  have HW := Lib.hid hwf
  have HL := Lib.hid hl
  have HF := Lib.hid hf
  clear hwf hl hf
  go_enter Try.func30, Try.ntmps30
  go_wp2_with (simp only [hm])
  go_loopw [6] (SnapW w w.heap.size ((snap ms N).map (Value.int .i32)) N) (fun k _ => ((N : Int) + 1 - intOf k).toNat)
  case atStart => exact ⟨0, Nat.zero_le _, rfl, by rw [partly_zero, HL.out]; exact RowAt.new w _ _ _, (Upd.refl _ w).alloc _⟩
  case round =>
    clear hm
    obtain ⟨j, hj, rfl, hr, hu⟩ := hrel
    by_cases hlt : (j : Int) + 1 ≤ N
    · have hjl : j < ((snap ms N).map (Value.int .i32)).length := by rw [HL.out]; omega
      have hxj : ((snap ms N).map (Value.int .i32))[j]? = some (.int .i32 (atM ms ((j : Int) + 1))) := by
        have : j < N := by omega
        simp [snap, this]
      have hr1 := hr.cell (partly_at (.int .i32 0) hjl)
      have hr2 := hr.thaw j
      have C := Lib.hid ((h.later hu).slot HF.out ((j : Int) + 1) (by unfold Is64; omega))
      have HU := Lib.hid hxj
      have HR := Lib.hid hr
      have Hu := Lib.hid hu
      have hj2 : (j : Int) < N := by omega
      generalize atM ms ((j : Int) + 1) = y at *
      clear hxj hr hu hjl
      go_wp2_with (first | (go_at_call 57; refine C.out.mono ?_; rintro e w5 ⟨rfl, rfl⟩))
      go_roundw
      case rel => exact ⟨j + 1, by omega, by go_num, by rw [← partly_set _ HU.out]; exact HR.out.set j _, Hu.out.setCell (.inr (Nat.le_refl _)) _⟩
      case measure => exact meas (by omega)
    · have hje : j = N := by omega
      subst hje
      have hp := partly_full ((snap ms j).map (Value.int .i32)) (.int .i32 0)
      rw [HL.out] at hp
      have hq := hr
      rw [hp] at hq
      have HR : Hid _ := Lib.hid (hq.isSl HL.out hx3)
      have Hu := Lib.hid hu
      clear hr hu hq hp
      go_wp2
      go_ret
      exact ⟨_, rfl, ⟨HR.out, HW.out⟩, Hu.out, fun a n c e => by cases e; exact Nat.le_refl _⟩

def SameW (w : World) (N : Nat) (k : Value) (wr : World) : Prop := ∃ j : Nat, j ≤ N ∧ k = .int .i64 ((j : Int) + 1) ∧ wr = w

set_option maxHeartbeats 1000000 in
theorem Tbl.same {F : Nat → Prop} {t : Nat} {ms : List Int} {n : Nat} {w : World} (h : Tbl F t ms n w) (hf : ∀ v ∈ ms, -2147483648 ≤ v ∧ v ≤ 2147483647) (v : Value) (ss : List Int) (hs : IsInts .i32 w v ss) (hl : ss.length ≤ 1000000) (heq : ∀ (q : Nat) z, ss[q]? = some z → atM ms ((q : Int) + 1) = z) :
    Calls Try.prog 32 #[.pointer (some ⟨t, 0, none⟩), v] w fun e w' => e = .returned (.bool true) ∧ w = w' := by
  obtain ⟨p, c, rfl, k, m, hn, g⟩ := hs.1.form
  simp only [List.length_map] at *
  unfold maxLen at m
  have HF := Lib.hid hf
  have G := Lib.hid g
  have HE := Lib.hid heq
  have HV := Lib.hid hs.2
  clear hf g heq hs hn
  go_enter Try.func32, Try.ntmps32
  go_wp2_with fail
  go_loopw [5] (SameW w ss.length) (fun k _ => ((ss.length : Int) + 1 - intOf k).toNat)
  case atStart => exact ⟨0, Nat.zero_le _, rfl, rfl⟩
  case round =>
    obtain ⟨j, hj, rfl, rfl⟩ := hrel
    by_cases hlt : (j : Int) + 1 ≤ ss.length
    · obtain ⟨z, hz⟩ : ∃ z, ss[j]? = some z := ⟨ss[j]'(by omega), by simp⟩
      obtain ⟨a, rfl, hc⟩ := G.out j (.int .i32 z) (by simp [hz])
      have hzb : -2147483648 ≤ z ∧ z ≤ 2147483647 := by
        have := HV.out z (List.mem_of_getElem? hz)
        simpa [Lit.wf, IntKind.min, IntKind.max, IntKind.signed, IntKind.bits] using this
      have C := Lib.hid (h.slotIs HF.out ((j : Int) + 1) (by unfold Is64; omega) z hzb)
      rw [HE.out j z hz, beq_self_eq_true] at C
      have hj2 : (j : Int) < ss.length := by omega
      clear hz
      go_wp2_with (first | (go_at_call 25; refine C.out.mono ?_; rintro e w5 ⟨rfl, rfl⟩))
      go_roundw
      case rel => exact ⟨j + 1, by omega, by go_num, rfl⟩
      case measure => exact meas (by omega)
    · go_wp2
      go_ret
      exact ⟨rfl, rfl⟩
end Go.Lua
