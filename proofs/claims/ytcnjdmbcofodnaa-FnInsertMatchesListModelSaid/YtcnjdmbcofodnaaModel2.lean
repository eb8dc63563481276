/-
  n005_73: the statements' own list model: zzSetAt, zzModelAppend, zzModelInsert.
-/
import Derived.Test.YtcnjdmbcofodnaaModel
namespace Go.Lua
open Go.Proofs Go.RowKit
set_option linter.unusedVariables false

/-- It hands back a slice with these values; nothing that lay there has turned. -/
def ModTo (w : World) (ms : List Int) (e : Ending) (w' : World) : Prop := ∃ v', e = .returned v' ∧ IsInts .i32 w' v' ms ∧ Upd (fun _ => False) w w'

def vals32 (ms : List Int) : List Value := ms.map (Value.int .i32)
theorem wf32 {ms : List Int} (h : ∀ v ∈ ms, -2147483648 ≤ v ∧ v ≤ 2147483647) : ∀ v ∈ ms, (Lit.int .i32 v).wf = true := by
  intro v hv
  have := h v hv
  simpa [Lit.wf, IntKind.min, IntKind.max, IntKind.signed, IntKind.bits] using this
theorem fit32 {ms : List Int} (h : ∀ v ∈ ms, (Lit.int .i32 v).wf = true) : ∀ v ∈ ms, -2147483648 ≤ v ∧ v ≤ 2147483647 := by
  intro v hv
  have := h v hv
  simpa [Lit.wf, IntKind.min, IntKind.max, IntKind.signed, IntKind.bits] using this

/-- ms with zeros behind it, n long. -/
def padM (ms : List Int) (n : Nat) : List Int := ms ++ List.replicate (n - ms.length) 0
theorem padM_length {ms : List Int} {n : Nat} (h : ms.length ≤ n) : (padM ms n).length = n := by simp [padM]; omega
theorem padM_at {ms : List Int} {n j : Nat} {z : Int} (h : ms[j]? = some z) : (padM ms n)[j]? = some z := by
  obtain ⟨hj, -⟩ := List.getElem?_eq_some_iff.1 h
  unfold padM
  rw [List.getElem?_append_left hj, h]
theorem padM_partly {ms : List Int} {n : Nat} (h : ms.length ≤ n) : partly (vals32 (padM ms n)) (.int .i32 0) ms.length = vals32 (padM ms n) := by
  have hl : (vals32 (padM ms n)).length = n := by unfold vals32; rw [List.length_map, padM_length h]
  unfold partly
  rw [hl]
  unfold vals32 padM
  rw [List.map_append, List.take_left' (by simp)]
  simp
theorem padM_set {ms : List Int} {i : Nat} {v : Int} : (padM ms (max ms.length (i + 1))).set i v = setM ms i v := by
  unfold padM setM
  by_cases h : i < ms.length
  · rw [if_pos h, show max ms.length (i + 1) - ms.length = 0 by omega]
    simp
  · rw [if_neg h, List.set_append_right _ _ (by omega), show max ms.length (i + 1) - ms.length = (i - ms.length) + 1 by omega, List.replicate_succ', List.set_append_right _ _ (by simp)]
    simp

def SetW (w : World) (b : Nat) (xs : List Value) (N : Nat) (k : Value) (wr : World) : Prop :=
  ∃ j : Nat, j ≤ N ∧ k = .int .i64 j ∧ RowAt wr b 21 (partly xs (.int .i32 0) j) ∧ Upd (fun _ => False) w wr

set_option maxHeartbeats 1000000 in
theorem setAt_model (w : World) (v : Value) (ms : List Int) (hs : IsInts .i32 w v ms) (hl : ms.length ≤ 1000000) (pos : Int) (hp : 1 ≤ pos ∧ pos ≤ 1000000) (x : Int) (hx : -2147483648 ≤ x ∧ x ≤ 2147483647) :
    Calls Try.prog 67 #[v, .int .i64 pos, .int .i32 x] w (ModTo w (setM ms (pos.toNat - 1) x)) := by
  obtain ⟨p, c, rfl, hc, m, hn, g⟩ := hs.1.form
  simp only [List.length_map] at *
  unfold maxLen at m
  obtain ⟨i, hi⟩ : ∃ i : Nat, pos - 1 = i := ⟨(pos - 1).toNat, by omega⟩
  obtain ⟨n, hnn⟩ : ∃ n, n = max ms.length (i + 1) := ⟨_, rfl⟩
  have hm := clone32_made n (by omega)
  have hpi : pos.toNat - 1 = i := by omega
  rw [hpi]
  have hwf : ∀ z ∈ setM ms i x, (Lit.int .i32 z).wf = true := wf32 (setM_fit (fit32 hs.2) i x hx)
  have HW := Lib.hid hwf
  have G := Lib.hid g
  have hin : i < n := by omega
  have hmn : ms.length ≤ n := by omega
  have hnm : n ≤ maxLen := by unfold maxLen; omega
  have hpl := Lib.hid (padM_length hmn)
  have hset : Hid ((padM ms n).set i x = setM ms i x) := by subst hnn; exact Lib.hid padM_set
  have hsl : (vals32 (setM ms i x)).length = n := by unfold vals32; rw [List.length_map, setM_length]; omega
  have HSL := Lib.hid hsl
  have hcase : (pos > ms.length ∧ (n : Int) = pos) ∨ (pos ≤ ms.length ∧ n = ms.length) := by omega
  clear hnn hwf g hs hn hsl
  have hstart : Hid (∀ W, W = w → RowAt (W.alloc (.cells (madeCells #[.int .i32 0] n) 21)) w.heap.size 21 (partly (vals32 (padM ms n)) (.int .i32 0) 0)) := by
    refine Lib.hid ?_
    rintro W rfl
    rw [partly_zero, show (vals32 (padM ms n)).length = n by unfold vals32; rw [List.length_map, hpl.out]]
    exact RowAt.new W _ _ _
  have hle : (vals32 (padM ms n)).length = n := by unfold vals32; rw [List.length_map, hpl.out]
  have HLE := Lib.hid hle
  clear hle
  rcases hcase with ⟨h1, h2⟩ | ⟨h1, h2⟩
  case' inl => rw [h2] at hm
  case' inr => rw [show (n : Int) = (ms.length : Int) by omega] at hm
  all_goals
    go_enter Try.func67, Try.ntmps67
    go_wp2_with (simp only [hm])
    go_loopw [9] (SetW w w.heap.size (vals32 (padM ms n)) ms.length) (fun k _ => ((ms.length : Int) - intOf k).toNat)
    case atStart => exact ⟨0, Nat.zero_le _, rfl, by first | exact hstart.out w rfl | (have q := hstart.out w rfl; simp only [h2] at q ⊢; exact q), (Upd.refl _ w).alloc _⟩
    case round =>
      clear hm hstart
      obtain ⟨j, hj, rfl, hr, hu⟩ := hrel
      by_cases hlt : (j : Int) < ms.length
      · obtain ⟨z, hz⟩ : ∃ z, ms[j]? = some z := ⟨ms[j]'(by omega), by simp⟩
        obtain ⟨a, rfl, hcell⟩ := G.out j (.int .i32 z) (by simp [hz])
        have hc2 := old_cell hu hcell
        have hab : a.block < w.heap.size := by
          have hb : (a.add j).block = a.block := by unfold Addr.add; split <;> rfl
          rw [← hb]
          exact World.block_lt_of_cell? w _ hcell
        have hxj : (vals32 (padM ms n))[j]? = some (.int .i32 z) := by unfold vals32; rw [List.getElem?_map, padM_at hz]; rfl
        have hr1 := hr.cell (partly_at (.int .i32 0) (show j < (vals32 (padM ms n)).length by rw [HLE.out]; omega))
        have hr2 := hr.thaw j
        have hjn : (j : Int) < n := by omega
        have HU := Lib.hid hxj
        have HR := Lib.hid hr
        have Hu := Lib.hid hu
        have hne : a.block ≠ w.heap.size := by omega
        clear hxj hr hu hcell hz
        go_wp2_with fail
        go_roundw
        case rel => exact ⟨j + 1, by omega, by go_num, by rw [← partly_set _ HU.out]; exact HR.out.set j _, Hu.out.setCell (.inr (Nat.le_refl _)) _⟩
        case measure => exact meas (by omega)
      · have hje : j = ms.length := by omega
        subst hje
        rw [padM_partly hmn] at hr
        obtain ⟨y, hy⟩ : ∃ y, (vals32 (padM ms n))[i]? = some y := ⟨(vals32 (padM ms n))[i]'(by rw [HLE.out]; exact hin), by simp⟩
        have hr1 := hr.cell hy
        have hr2 := hr.thaw i
        have hin2 : (i : Int) < n := by omega
        have hfin := hr.set i (.int .i32 x)
        rw [show (vals32 (padM ms n)).set i (.int .i32 x) = vals32 (setM ms i x) by unfold vals32; rw [← List.map_set, hset.out]] at hfin
        have HF := Lib.hid (hfin.isSl HSL.out hnm)
        have Hu : Hid (Upd (fun _ => False) w _) := hu.setCell (p := ⟨w.heap.size, i, none⟩) (.inr (Nat.le_refl _)) (.int .i32 x)
        clear hr hu hy hfin
        go_wp2_with fail
        go_ret
        exact ⟨_, rfl, ⟨by first | exact HF.out | (have q := HF.out; simp only [h2] at q ⊢; exact q), HW.out⟩, Hu.out⟩
end Go.Lua
