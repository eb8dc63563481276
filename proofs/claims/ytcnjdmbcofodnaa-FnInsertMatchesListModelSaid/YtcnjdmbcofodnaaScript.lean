/-
  n005_73: the helpers that read slices: zzScriptOK, the clones.
-/
import Derived.Test.YtcnjdmbcofodnaaInsert
import Derived.Test.YtcnjdmbcofodnaaRow
namespace Go.Lua
open Go.Proofs Go.RowKit
set_option linter.unusedVariables false

/-- A script in its bounds. -/
def ScriptOk (ks : List Bool) (is vs : List Int) : Prop := ks.length ≤ 1024 ∧ is.length = ks.length ∧ vs.length = ks.length ∧ ∀ i ∈ is, -65536 ≤ i ∧ i ≤ 65536

/-- What zzScriptOK answers. -/
def ScriptPost (w : World) (ks : List Bool) (is vs : List Int) (e : Ending) (w' : World) : Prop := w = w' ∧ (e = .returned (.bool false) ∨ (e = .returned (.bool true) ∧ ScriptOk ks is vs))

/-- The loop's word: the places before j lie in their bounds. -/
def OkUpto (w : World) (is : List Int) (i : Value) (wr : World) : Prop := ∃ j : Nat, j ≤ is.length ∧ i = .int .i64 j ∧ (∀ k z, k < j → is[k]? = some z → -65536 ≤ z ∧ z ≤ 65536) ∧ wr = w

set_option maxHeartbeats 1000000 in
theorem scriptOK_any (w : World) (v0 v1 v2 : Value) (ks : List Bool) (is vs : List Int) (h0 : IsBools w v0 ks) (h1 : IsInts .i64 w v1 is) (h2 : IsInts .i32 w v2 vs) :
    Calls Try.prog 14 #[v0, v1, v2] w (ScriptPost w ks is vs) := by
  obtain ⟨p0, c0, rfl, k0, m0, -, g0⟩ := IsSl.form h0
  obtain ⟨p1, c1, rfl, k1, m1, -, g1⟩ := IsSl.form h1.1
  obtain ⟨p2, c2, rfl, k2, m2, -, g2⟩ := IsSl.form h2.1
  have hwf := h1.2
  simp only [List.length_map] at *
  unfold maxLen at m0 m1 m2
  by_cases q1 : 1024 < ks.length
  · have q1' : (1024 : Int) < ks.length := by omega
    go_enter Try.func14, Try.ntmps14
    go_wp2
    go_ret
    exact ⟨rfl, .inl rfl⟩
  by_cases q2 : is.length = ks.length
  · by_cases q3 : vs.length = ks.length
    · have Q2 := Lib.hid q2
      have Q3 := Lib.hid q3
      have q4 : ((is.length : Int) != (ks.length : Int)) = false := by simp [q2]
      have q5 : ((vs.length : Int) != (ks.length : Int)) = false := by simp [q3]
      have q6 : ¬ (1024 : Int) < ks.length := by omega
      have G1 := Lib.hid g1
      have W1 := Lib.hid hwf
      clear g0 g1 g2 h0 h1 h2 hwf q1 q2 q3
      go_enter Try.func14, Try.ntmps14
      go_wp2_with fail
      go_loopw [7] (OkUpto w is) (fun i _ => (is.length - intOf i).toNat)
      case atStart => exact ⟨0, Nat.zero_le _, rfl, fun k z hk => by omega, rfl⟩
      case round =>
        obtain ⟨j, hj, rfl, hb, rfl⟩ := hrel
        have Hb := Lib.hid hb
        clear hb
        by_cases hlt : (j : Int) < is.length
        · obtain ⟨z, hz⟩ : ∃ z, is[j]? = some z := ⟨is[j]'(by omega), by simp⟩
          obtain ⟨a, rfl, hc⟩ := G1.out j (.int .i64 z) (by simp [hz])
          have hzb := W1.out z (List.mem_of_getElem? hz)
          have Hz := Lib.hid hz
          clear hz
          by_cases hz1 : z < -65536
          · go_wp2
            go_ret
            exact ⟨rfl, .inl rfl⟩
          by_cases hz2 : 65536 < z
          · go_wp2
            go_ret
            exact ⟨rfl, .inl rfl⟩
          go_wp2_with fail
          go_roundw
          case rel =>
            refine ⟨j + 1, by omega, by go_num, fun k y hk hy => ?_, rfl⟩
            by_cases hkj : k = j
            · subst hkj
              rw [Hz.out] at hy
              obtain rfl := Option.some.inj hy
              exact ⟨by omega, by omega⟩
            · exact Hb.out k y (by omega) hy
          case measure => simp [intOf]; omega
        · go_wp2
          go_ret
          refine ⟨rfl, .inr ⟨rfl, by omega, Q2.out, Q3.out, fun i hi => ?_⟩⟩
          obtain ⟨k, hk, rfl⟩ := List.mem_iff_getElem.1 hi
          exact Hb.out k _ (by omega) (List.getElem?_eq_getElem hk)
    · have q4 : ((is.length : Int) != (ks.length : Int)) = false := by simp [q2]
      have q5 : ((vs.length : Int) != (ks.length : Int)) = true := by simp; omega
      have q6 : ¬ (1024 : Int) < ks.length := by omega
      clear g0 g1 g2 h0 h1 h2 hwf q1 q2 q3
      go_enter Try.func14, Try.ntmps14
      go_wp2
      go_ret
      exact ⟨rfl, .inl rfl⟩
  · have q4 : ((is.length : Int) != (ks.length : Int)) = true := by simp; omega
    have q6 : ¬ (1024 : Int) < ks.length := by omega
    clear g0 g1 g2 h0 h1 h2 hwf q1 q2
    go_enter Try.func14, Try.ntmps14
    go_wp2
    go_ret
    exact ⟨rfl, .inl rfl⟩

theorem cloneB_info : (Try.prog.info? 4).map (fun i => (i.zero, i.size, decide (i.bytes ≤ 64))) = some (some (.bool false), 1, true) := by kernel_rfl
theorem cloneB_made (n : Nat) (h1 : n ≤ 4398046511104) (w : World) : (Instr.makeSlice 22 (.int .i64 n) (.int .i64 n)).run Try.prog w = .ok (.slice (some ⟨w.heap.size, 0, none⟩) n n) (w.alloc (.cells (madeCells #[.bool false] n) 4)) := by
  obtain ⟨i, hi, hz, hs, hby⟩ : ∃ i, Try.prog.info? 4 = some i ∧ i.zero = some (.bool false) ∧ i.size = 1 ∧ i.bytes ≤ 64 := by simpa using cloneB_info
  have hb : (i.bytes : Int) * n ≤ 281474976710656 := by
    have : (i.bytes : Int) * n ≤ 64 * n := Int.mul_le_mul_of_nonneg_right (by omega) (by omega)
    omega
  have := run_make (P := Try.prog) w 22 4 i (.bool false) Try.underlying22 hi hz .i64 .i64 n n (by omega) (Int.le_refl _) hb (by omega)
  rw [hs, Nat.mul_one] at this
  exact this

@[go_sem] theorem cloneB_eqnil (a : Option Addr) (n c : Nat) (w : World) : (binOp .eql 22 (.slice a n c) (.slice none 0 0)).run Try.prog w = .ok (.bool a.isNone) w := Lib.run_eql_slice_nil w _ _ _ _ _ _ _ Try.underlying22

set_option maxHeartbeats 400000 in
theorem cloneB_any (w : World) (v : Value) (xs : List Value) (h : IsSl w v xs) (hl : xs.length ≤ 1048576) (hone : ∀ u ∈ xs, ∃ y, u = .bool y) :
    Calls Try.prog 15 #[v] w (Cloned w xs) := by
  obtain ⟨p, c, rfl, k, m, hn, g⟩ := h.form
  unfold maxLen at m
  cases p with
  | none =>
    obtain ⟨rfl, rfl⟩ := hn rfl
    go_enter Try.func15, Try.ntmps15
    go_wp2
    go_ret
    exact ⟨_, rfl, .inl ⟨rfl, rfl⟩, Upd.refl _ _⟩
  | some a =>
    have hm := cloneB_made xs.length (by omega)
    have G := Lib.hid g
    have O := Lib.hid hone
    have hlt : ∀ j u, xs[j]? = some u → a.block < w.heap.size := fun j u hu => by
      obtain ⟨a', e, hc⟩ := g j u hu
      cases e
      have hb : (a.add j).block = a.block := by unfold Addr.add; split <;> rfl
      rw [← hb]
      exact World.block_lt_of_cell? w _ hc
    have L := Lib.hid hlt
    have hx3 : xs.length ≤ maxLen := by unfold maxLen; omega
    clear h hn g hone hlt
    go_enter Try.func15, Try.ntmps15
    go_wp2_with (simp only [hm])
    go_loopw [4] (CloneW w w.heap.size 4 xs (.bool false)) (fun i _ => (xs.length - intOf i).toNat)
    case atStart => exact ⟨0, Nat.zero_le _, rfl, by rw [partly_zero]; exact RowAt.new w _ _ _, (Upd.refl _ w).alloc _⟩
    case round =>
      clear hm
      obtain ⟨j, hj, rfl, hr, hu⟩ := hrel
      by_cases hlt : (j : Int) < xs.length
      · obtain ⟨u, hu1⟩ : ∃ u, xs[j]? = some u := ⟨xs[j]'(by omega), by simp⟩
        obtain ⟨a', ea, hc⟩ := G.out j u hu1
        cases ea
        have hab := L.out j u hu1
        have hc2 : wr.cell? (a.add j) = some u := by
          have hb : (a.add j).block = a.block := by unfold Addr.add; split <;> rfl
          rw [← hc]
          unfold World.cell?
          rw [hb, hu.block a.block hab (fun h => h)]
        have hr1 := hr.cell (partly_at (.bool false) (show j < xs.length by omega))
        have hr2 := hr.thaw j
        obtain ⟨y, rfl⟩ := O.out u (List.mem_of_getElem? hu1)
        have HU := Lib.hid hu1
        have HR := Lib.hid hr
        have Hu := Lib.hid hu
        have hne : a.block ≠ w.heap.size := by omega
        clear hu1 hr hu hc
        go_wp2_with fail
        go_roundw
        case rel => exact ⟨j + 1, by omega, by go_num, by rw [← partly_set _ HU.out]; exact HR.out.set j _, Hu.out.setCell (.inr (Nat.le_refl _)) _⟩
        case measure => simp [intOf]; omega
      · have hje : j = xs.length := by omega
        subst hje
        rw [partly_full] at hr
        have HR := Lib.hid (hr.isSl rfl hx3)
        have Hu := Lib.hid hu
        clear hr hu
        go_wp2
        go_ret
        exact ⟨_, rfl, HR.out, Hu.out⟩


theorem cloneI_info : (Try.prog.info? 3).map (fun i => (i.zero, i.size, decide (i.bytes ≤ 64))) = some (some (.int .i64 0), 1, true) := by kernel_rfl
theorem cloneI_made (n : Nat) (h1 : n ≤ 4398046511104) (w : World) : (Instr.makeSlice 23 (.int .i64 n) (.int .i64 n)).run Try.prog w = .ok (.slice (some ⟨w.heap.size, 0, none⟩) n n) (w.alloc (.cells (madeCells #[.int .i64 0] n) 3)) := by
  obtain ⟨i, hi, hz, hs, hby⟩ : ∃ i, Try.prog.info? 3 = some i ∧ i.zero = some (.int .i64 0) ∧ i.size = 1 ∧ i.bytes ≤ 64 := by simpa using cloneI_info
  have hb : (i.bytes : Int) * n ≤ 281474976710656 := by
    have : (i.bytes : Int) * n ≤ 64 * n := Int.mul_le_mul_of_nonneg_right (by omega) (by omega)
    omega
  have := run_make (P := Try.prog) w 23 3 i (.int .i64 0) Try.underlying23 hi hz .i64 .i64 n n (by omega) (Int.le_refl _) hb (by omega)
  rw [hs, Nat.mul_one] at this
  exact this

@[go_sem] theorem cloneI_eqnil (a : Option Addr) (n c : Nat) (w : World) : (binOp .eql 23 (.slice a n c) (.slice none 0 0)).run Try.prog w = .ok (.bool a.isNone) w := Lib.run_eql_slice_nil w _ _ _ _ _ _ _ Try.underlying23

set_option maxHeartbeats 400000 in
theorem cloneI_any (w : World) (v : Value) (xs : List Value) (h : IsSl w v xs) (hl : xs.length ≤ 1048576) (hone : ∀ u ∈ xs, ∃ y, u = .int .i64 y) :
    Calls Try.prog 16 #[v] w (Cloned w xs) := by
  obtain ⟨p, c, rfl, k, m, hn, g⟩ := h.form
  unfold maxLen at m
  cases p with
  | none =>
    obtain ⟨rfl, rfl⟩ := hn rfl
    go_enter Try.func16, Try.ntmps16
    go_wp2
    go_ret
    exact ⟨_, rfl, .inl ⟨rfl, rfl⟩, Upd.refl _ _⟩
  | some a =>
    have hm := cloneI_made xs.length (by omega)
    have G := Lib.hid g
    have O := Lib.hid hone
    have hlt : ∀ j u, xs[j]? = some u → a.block < w.heap.size := fun j u hu => by
      obtain ⟨a', e, hc⟩ := g j u hu
      cases e
      have hb : (a.add j).block = a.block := by unfold Addr.add; split <;> rfl
      rw [← hb]
      exact World.block_lt_of_cell? w _ hc
    have L := Lib.hid hlt
    have hx3 : xs.length ≤ maxLen := by unfold maxLen; omega
    clear h hn g hone hlt
    go_enter Try.func16, Try.ntmps16
    go_wp2_with (simp only [hm])
    go_loopw [4] (CloneW w w.heap.size 3 xs (.int .i64 0)) (fun i _ => (xs.length - intOf i).toNat)
    case atStart => exact ⟨0, Nat.zero_le _, rfl, by rw [partly_zero]; exact RowAt.new w _ _ _, (Upd.refl _ w).alloc _⟩
    case round =>
      clear hm
      obtain ⟨j, hj, rfl, hr, hu⟩ := hrel
      by_cases hlt : (j : Int) < xs.length
      · obtain ⟨u, hu1⟩ : ∃ u, xs[j]? = some u := ⟨xs[j]'(by omega), by simp⟩
        obtain ⟨a', ea, hc⟩ := G.out j u hu1
        cases ea
        have hab := L.out j u hu1
        have hc2 : wr.cell? (a.add j) = some u := by
          have hb : (a.add j).block = a.block := by unfold Addr.add; split <;> rfl
          rw [← hc]
          unfold World.cell?
          rw [hb, hu.block a.block hab (fun h => h)]
        have hr1 := hr.cell (partly_at (.int .i64 0) (show j < xs.length by omega))
        have hr2 := hr.thaw j
        obtain ⟨y, rfl⟩ := O.out u (List.mem_of_getElem? hu1)
        have HU := Lib.hid hu1
        have HR := Lib.hid hr
        have Hu := Lib.hid hu
        have hne : a.block ≠ w.heap.size := by omega
        clear hu1 hr hu hc
        go_wp2_with fail
        go_roundw
        case rel => exact ⟨j + 1, by omega, by go_num, by rw [← partly_set _ HU.out]; exact HR.out.set j _, Hu.out.setCell (.inr (Nat.le_refl _)) _⟩
        case measure => simp [intOf]; omega
      · have hje : j = xs.length := by omega
        subst hje
        rw [partly_full] at hr
        have HR := Lib.hid (hr.isSl rfl hx3)
        have Hu := Lib.hid hu
        clear hr hu
        go_wp2
        go_ret
        exact ⟨_, rfl, HR.out, Hu.out⟩


theorem clone32_info : (Try.prog.info? 21).map (fun i => (i.zero, i.size, decide (i.bytes ≤ 64))) = some (some (.int .i32 0), 1, true) := by kernel_rfl
theorem clone32_made (n : Nat) (h1 : n ≤ 4398046511104) (w : World) : (Instr.makeSlice 24 (.int .i64 n) (.int .i64 n)).run Try.prog w = .ok (.slice (some ⟨w.heap.size, 0, none⟩) n n) (w.alloc (.cells (madeCells #[.int .i32 0] n) 21)) := by
  obtain ⟨i, hi, hz, hs, hby⟩ : ∃ i, Try.prog.info? 21 = some i ∧ i.zero = some (.int .i32 0) ∧ i.size = 1 ∧ i.bytes ≤ 64 := by simpa using clone32_info
  have hb : (i.bytes : Int) * n ≤ 281474976710656 := by
    have : (i.bytes : Int) * n ≤ 64 * n := Int.mul_le_mul_of_nonneg_right (by omega) (by omega)
    omega
  have := run_make (P := Try.prog) w 24 21 i (.int .i32 0) Try.underlying24 hi hz .i64 .i64 n n (by omega) (Int.le_refl _) hb (by omega)
  rw [hs, Nat.mul_one] at this
  exact this

@[go_sem] theorem clone32_eqnil (a : Option Addr) (n c : Nat) (w : World) : (binOp .eql 24 (.slice a n c) (.slice none 0 0)).run Try.prog w = .ok (.bool a.isNone) w := Lib.run_eql_slice_nil w _ _ _ _ _ _ _ Try.underlying24

set_option maxHeartbeats 400000 in
theorem clone32_any (w : World) (v : Value) (xs : List Value) (h : IsSl w v xs) (hl : xs.length ≤ 1048576) (hone : ∀ u ∈ xs, ∃ y, u = .int .i32 y) :
    Calls Try.prog 17 #[v] w (Cloned w xs) := by
  obtain ⟨p, c, rfl, k, m, hn, g⟩ := h.form
  unfold maxLen at m
  cases p with
  | none =>
    obtain ⟨rfl, rfl⟩ := hn rfl
    go_enter Try.func17, Try.ntmps17
    go_wp2
    go_ret
    exact ⟨_, rfl, .inl ⟨rfl, rfl⟩, Upd.refl _ _⟩
  | some a =>
    have hm := clone32_made xs.length (by omega)
    have G := Lib.hid g
    have O := Lib.hid hone
    have hlt : ∀ j u, xs[j]? = some u → a.block < w.heap.size := fun j u hu => by
      obtain ⟨a', e, hc⟩ := g j u hu
      cases e
      have hb : (a.add j).block = a.block := by unfold Addr.add; split <;> rfl
      rw [← hb]
      exact World.block_lt_of_cell? w _ hc
    have L := Lib.hid hlt
    have hx3 : xs.length ≤ maxLen := by unfold maxLen; omega
    clear h hn g hone hlt
    go_enter Try.func17, Try.ntmps17
    go_wp2_with (simp only [hm])
    go_loopw [4] (CloneW w w.heap.size 21 xs (.int .i32 0)) (fun i _ => (xs.length - intOf i).toNat)
    case atStart => exact ⟨0, Nat.zero_le _, rfl, by rw [partly_zero]; exact RowAt.new w _ _ _, (Upd.refl _ w).alloc _⟩
    case round =>
      clear hm
      obtain ⟨j, hj, rfl, hr, hu⟩ := hrel
      by_cases hlt : (j : Int) < xs.length
      · obtain ⟨u, hu1⟩ : ∃ u, xs[j]? = some u := ⟨xs[j]'(by omega), by simp⟩
        obtain ⟨a', ea, hc⟩ := G.out j u hu1
        cases ea
        have hab := L.out j u hu1
        have hc2 : wr.cell? (a.add j) = some u := by
          have hb : (a.add j).block = a.block := by unfold Addr.add; split <;> rfl
          rw [← hc]
          unfold World.cell?
          rw [hb, hu.block a.block hab (fun h => h)]
        have hr1 := hr.cell (partly_at (.int .i32 0) (show j < xs.length by omega))
        have hr2 := hr.thaw j
        obtain ⟨y, rfl⟩ := O.out u (List.mem_of_getElem? hu1)
        have HU := Lib.hid hu1
        have HR := Lib.hid hr
        have Hu := Lib.hid hu
        have hne : a.block ≠ w.heap.size := by omega
        clear hu1 hr hu hc
        go_wp2_with fail
        go_roundw
        case rel => exact ⟨j + 1, by omega, by go_num, by rw [← partly_set _ HU.out]; exact HR.out.set j _, Hu.out.setCell (.inr (Nat.le_refl _)) _⟩
        case measure => simp [intOf]; omega
      · have hje : j = xs.length := by omega
        subst hje
        rw [partly_full] at hr
        have HR := Lib.hid (hr.isSl rfl hx3)
        have Hu := Lib.hid hu
        clear hr hu
        go_wp2
        go_ret
        exact ⟨_, rfl, HR.out, Hu.out⟩

end Go.Lua
