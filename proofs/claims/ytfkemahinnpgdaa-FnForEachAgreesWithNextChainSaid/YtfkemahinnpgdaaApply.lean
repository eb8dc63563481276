/-
  n005_23: zzApply_b2: a whole script over a table.
-/
import Derived.Test.YtfkemahinnpgdaaBase
namespace Go.Lua
open Go.Proofs Go.RowKit Go.Deep
set_option linter.unusedVariables false

/-- It returns nothing; the table, made behind w0, holds T. -/
def ApTo (w0 : World) (t : Nat) (T : Tab) (e : Ending) (w' : World) : Prop := e = .returned (.tuple #[]) ∧ Has w0 t T w'

set_option maxRecDepth 100000 in
set_option maxHeartbeats 4000000 in
theorem apply_any (w w0 : World) (t : Nat) (T0 : Tab) (h : Has w0 t T0 w) (n0 : Nat) (hok0 : Ok T0 n0) (hn0 : n0 ≤ 100000) (v : Value) (ops : List ZOp) (hs : IsZOps w0 v ops) (hl : ops.length ≤ 4096) (hN : Hid (ZNears ops ops.length)) :
    Calls Try.prog 13 #[.pointer (some ⟨t, 0, none⟩), v] w (ApTo w0 t (opsT T0 ops ops.length)) := by
  obtain ⟨p, c, rfl, k, m, hn, g⟩ := hs.1.form
  have hok := hs.2
  simp only [List.length_map] at *
  unfold maxLen at m
  have hxl : (ops.length : Int) ≤ 9223372036854775807 := by omega
  have G := Lib.hid g
  have K := Lib.hid hok
  clear hs g hn k m hok
  go_enter Try.func13, Try.ntmps13
  go_wp2_with fail
  go_loopw [4] (fun i wr => ∃ j : Nat, j ≤ ops.length ∧ i = .int .i64 j ∧ Has w0 t (opsT T0 ops j) wr) (fun i _ => (ops.length - intOf i).toNat)
  case atStart => exact ⟨0, Nat.zero_le _, rfl, h⟩
  case round =>
    clear h
    obtain ⟨j, hj, rfl, hH⟩ := hrel
    by_cases hlt : (j : Int) < ops.length
    · obtain ⟨o, ho⟩ : ∃ o, ops[j]? = some o := ⟨ops[j]'(by omega), by simp⟩
      obtain ⟨a, rfl, d0, d1, d2, d3⟩ := zop_cells G.out hH.2 ho
      obtain ⟨f1, f2⟩ := (K.out o (List.mem_of_getElem? ho)).kind
      have HXX : Hid (feq (fofInt o.n) (fofInt o.n) = true) := Lib.hid (feq_fof_self (by have := is64_of_wf (K.out o (List.mem_of_getElem? ho)).2.1; unfold Is64 at this; omega))
      have hokj := opsT_ok hok0 hN.out j
      have HT := Lib.hid (opsT_step (T0 := T0) ho)
      have HB : Hid (∀ ob : Obj, Has w0 t (opsT T0 ops j) (wr.alloc ob)) := Lib.hid fun ob => hH.other ((Upd.refl _ wr).alloc ob)
      have HOK := Lib.hid hokj
      clear ho hH hokj
      rcases (by omega : o.kind % 4 = 0 ∨ o.kind % 4 = 1 ∨ o.kind % 4 = 2 ∨ o.kind % 4 = 3) with q | q | q | q
      · have HS : Hid (opsT T0 ops (j + 1) = (opsT T0 ops j).setStr o.s (val o.v)) := Lib.hid (HT.out.trans (if_neg (show ¬ o.kind % 4 = 3 by omega)))
        have q0 : (o.kind % 4 == 0) = true := by simp [q]
        clear q
        go_wp2_with fail
        have b1 : (wr.alloc (.cells #[.int .u8 o.kind, .int .i64 o.n, .string o.s, .int .i64 o.v] 55)).cell? ⟨wr.heap.size, 1, none⟩ = some (.int .i64 o.n) := by simp
        have b2 : (wr.alloc (.cells #[.int .u8 o.kind, .int .i64 o.n, .string o.s, .int .i64 o.v] 55)).cell? ⟨wr.heap.size, 2, none⟩ = some (.string o.s) := by simp
        have b3 : (wr.alloc (.cells #[.int .u8 o.kind, .int .i64 o.n, .string o.s, .int .i64 o.v] 55)).cell? ⟨wr.heap.size, 3, none⟩ = some (.int .i64 o.v) := by simp
        have HW := HB.out (.cells #[.int .u8 o.kind, .int .i64 o.n, .string o.s, .int .i64 o.v] 55)
        generalize wr.alloc (.cells #[.int .u8 o.kind, .int .i64 o.n, .string o.s, .int .i64 o.v] 55) = W at b1 b2 b3 HW ⊢
        have HW := Lib.hid HW
        have CV := Lib.hid (still_of (val_any W.drew o.v))
        have D := Lib.hid (rawSetString_any _ _ _ _ HW.out.drew.1 (HOK.out.wf (by omega)) o.s (val o.v) (lvOk_val _))
        refine wp_region_still_tail 6 (by kernel_rfl) (by kernel_rfl) ?_
        simp only [List.take_succ_cons, List.take_zero, List.drop_succ_cons, List.drop_zero]
        repeat still_step
        still_call CV.out
        refine wpStill_nil ?_
        change wpList _ _ _ _ _ W.drew
        go_wp2_with (first
          | (go_at_call 29; refine D.out.mono ?_; intro e w2 hu; obtain ⟨rfl, hR⟩ := HW.out.drew.step hu; clear hu))
        go_roundw
        case rel => exact ⟨j + 1, by omega, by go_num, HS.out ▸ hR⟩
        case measure => exact meas (by omega)
      · have HS : Hid (opsT T0 ops (j + 1) = (opsT T0 ops j).setStr o.s (val o.v)) := Lib.hid (HT.out.trans (if_neg (show ¬ o.kind % 4 = 3 by omega)))
        have q0 : (o.kind % 4 == 0) = false := by simp [q]
        have q1 : (o.kind % 4 == 1) = true := by simp [q]
        clear q
        go_wp2_with fail
        have b1 : (wr.alloc (.cells #[.int .u8 o.kind, .int .i64 o.n, .string o.s, .int .i64 o.v] 55)).cell? ⟨wr.heap.size, 1, none⟩ = some (.int .i64 o.n) := by simp
        have b2 : (wr.alloc (.cells #[.int .u8 o.kind, .int .i64 o.n, .string o.s, .int .i64 o.v] 55)).cell? ⟨wr.heap.size, 2, none⟩ = some (.string o.s) := by simp
        have b3 : (wr.alloc (.cells #[.int .u8 o.kind, .int .i64 o.n, .string o.s, .int .i64 o.v] 55)).cell? ⟨wr.heap.size, 3, none⟩ = some (.int .i64 o.v) := by simp
        have HW := HB.out (.cells #[.int .u8 o.kind, .int .i64 o.n, .string o.s, .int .i64 o.v] 55)
        generalize wr.alloc (.cells #[.int .u8 o.kind, .int .i64 o.n, .string o.s, .int .i64 o.v] 55) = W at b1 b2 b3 HW ⊢
        have HW := Lib.hid HW
        have CV := Lib.hid (still_of (val_any W.drew o.v))
        have D := Lib.hid (rawSet_str _ _ _ _ HW.out.drew.1 (HOK.out.wf (by omega)) o.s (val o.v) (lvOk_val _))
        refine wp_region_still_tail 7 (by kernel_rfl) (by kernel_rfl) ?_
        simp only [List.take_succ_cons, List.take_zero, List.drop_succ_cons, List.drop_zero]
        repeat still_step
        still_call CV.out
        refine wpStill_nil ?_
        change wpList _ _ _ _ _ W.drew
        go_wp2_with (first
          | (go_at_call 37; refine D.out.mono ?_; intro e w2 hu; obtain ⟨rfl, hR⟩ := HW.out.drew.step hu; clear hu))
        go_roundw
        case rel => exact ⟨j + 1, by omega, by go_num, HS.out ▸ hR⟩
        case measure => exact meas (by omega)
      · have HS : Hid (opsT T0 ops (j + 1) = (opsT T0 ops j).setStr o.s (val o.v)) := Lib.hid (HT.out.trans (if_neg (show ¬ o.kind % 4 = 3 by omega)))
        have q0 : (o.kind % 4 == 0) = false := by simp [q]
        have q1 : (o.kind % 4 == 1) = false := by simp [q]
        have q2 : (o.kind % 4 == 2) = true := by simp [q]
        clear q
        go_wp2_with fail
        have b1 : (wr.alloc (.cells #[.int .u8 o.kind, .int .i64 o.n, .string o.s, .int .i64 o.v] 55)).cell? ⟨wr.heap.size, 1, none⟩ = some (.int .i64 o.n) := by simp
        have b2 : (wr.alloc (.cells #[.int .u8 o.kind, .int .i64 o.n, .string o.s, .int .i64 o.v] 55)).cell? ⟨wr.heap.size, 2, none⟩ = some (.string o.s) := by simp
        have b3 : (wr.alloc (.cells #[.int .u8 o.kind, .int .i64 o.n, .string o.s, .int .i64 o.v] 55)).cell? ⟨wr.heap.size, 3, none⟩ = some (.int .i64 o.v) := by simp
        have HW := HB.out (.cells #[.int .u8 o.kind, .int .i64 o.n, .string o.s, .int .i64 o.v] 55)
        generalize wr.alloc (.cells #[.int .u8 o.kind, .int .i64 o.n, .string o.s, .int .i64 o.v] 55) = W at b1 b2 b3 HW ⊢
        have HW := Lib.hid HW
        have CV := Lib.hid (still_of (val_any W.drew o.v))
        have D := Lib.hid (rawSetH_str _ _ _ _ HW.out.drew.1 (HOK.out.wf (by omega)) o.s (val o.v) (lvOk_val _))
        refine wp_region_still_tail 7 (by kernel_rfl) (by kernel_rfl) ?_
        simp only [List.take_succ_cons, List.take_zero, List.drop_succ_cons, List.drop_zero]
        repeat still_step
        still_call CV.out
        refine wpStill_nil ?_
        change wpList _ _ _ _ _ W.drew
        go_wp2_with (first
          | (go_at_call 38; refine D.out.mono ?_; intro e w2 hu; obtain ⟨rfl, hR⟩ := HW.out.drew.step hu; clear hu))
        go_roundw
        case rel => exact ⟨j + 1, by omega, by go_num, HS.out ▸ hR⟩
        case measure => exact meas (by omega)
      · have HS : Hid (opsT T0 ops (j + 1) = (opsT T0 ops j).setKey o.n (val o.v)) := Lib.hid (HT.out.trans (if_pos q))
        have q0 : (o.kind % 4 == 0) = false := by simp [q]
        have q1 : (o.kind % 4 == 1) = false := by simp [q]
        have q2 : (o.kind % 4 == 2) = false := by simp [q]
        clear q
        go_wp2_with fail
        have b1 : (wr.alloc (.cells #[.int .u8 o.kind, .int .i64 o.n, .string o.s, .int .i64 o.v] 55)).cell? ⟨wr.heap.size, 1, none⟩ = some (.int .i64 o.n) := by simp
        have b2 : (wr.alloc (.cells #[.int .u8 o.kind, .int .i64 o.n, .string o.s, .int .i64 o.v] 55)).cell? ⟨wr.heap.size, 2, none⟩ = some (.string o.s) := by simp
        have b3 : (wr.alloc (.cells #[.int .u8 o.kind, .int .i64 o.n, .string o.s, .int .i64 o.v] 55)).cell? ⟨wr.heap.size, 3, none⟩ = some (.int .i64 o.v) := by simp
        have HW := HB.out (.cells #[.int .u8 o.kind, .int .i64 o.n, .string o.s, .int .i64 o.v] 55)
        generalize wr.alloc (.cells #[.int .u8 o.kind, .int .i64 o.n, .string o.s, .int .i64 o.v] 55) = W at b1 b2 b3 HW ⊢
        have HW := Lib.hid HW
        have CV := Lib.hid (still_of (val_any W.drew o.v))
        have D := Lib.hid (rawSetInt_key _ _ _ _ HW.out.drew.1 HOK.out (by omega) o.n HXX (val o.v) (lvOk_val _))
        refine wp_region_still_tail 6 (by kernel_rfl) (by kernel_rfl) ?_
        simp only [List.take_succ_cons, List.take_zero, List.drop_succ_cons, List.drop_zero]
        repeat still_step
        still_call CV.out
        refine wpStill_nil ?_
        change wpList _ _ _ _ _ W.drew
        go_wp2_with (first
          | (go_at_call 28; refine D.out.mono ?_; intro e w2 hu; obtain ⟨rfl, hR⟩ := HW.out.drew.step hu; clear hu))
        go_roundw
        case rel => exact ⟨j + 1, by omega, by go_num, HS.out ▸ hR⟩
        case measure => exact meas (by omega)
    · have hje : j = ops.length := by omega
      subst hje
      have HH := Lib.hid hH
      clear hH
      go_wp2
      go_end0
      exact ⟨rfl, HH.out⟩
end Go.Lua
