/-
  RawSetInt at an array key: the array part is set, filled up with LNil where the key lies beyond its end.
-/
import Derived.Test.YtfkemahinnpgdaaOps
import Derived.BigQuiet
import Derived.Lib.Hide
namespace Go.Lua
open Go.Proofs Go.RowKit
set_option linter.unusedVariables false

/-- Slot i set to v, LNil in between. -/
def setAt (xs : List Value) (i : Nat) (v : Value) : List Value := if i < xs.length then xs.set i v else xs ++ List.replicate (i - xs.length) lnil ++ [v]

/-- It returns nothing; the table holds T'; nothing else has turned. -/
def UpdTo (F : Nat → Prop) (w : World) (t : Nat) (T' : Tab) (e : Ending) (w' : World) : Prop := e = .returned (.tuple #[]) ∧ TabAt w' t T' (Fw F w) ∧ Upd F w w'

theorem Upd.under {F G : Nat → Prop} {a b c : World} (h : Upd F a b) (k : Upd G b c) (hg : ∀ k, G k → Fw F a k) : Upd F a c := h.trans (k.mono fun i _ hi => hg i hi)
theorem Fw_Fw {F : Nat → Prop} {a b : World} (h : a.heap.size ≤ b.heap.size) {k : Nat} (hk : Fw (Fw F a) b k) : Fw F a k := hk.elim id fun hk => .inr (by omega)

/-- The end of an append: the table's array field holds the new header. -/
theorem end_append {w W W1 : World} {t : Nat} {T0 T : Tab} {F : Nat → Prop} {va vd vs vk vi v' : Value} {l l2 : List Value} (hT : TabV W t T (Fw F w) va vd vs vk vi) (hu : Upd F w W) (o : Obj)
    (hs1 : SlAt W1 v' (some l)) (hg1 : (W.alloc o).grownBy W1 (blk va)) (hb1 : blk v' = blk va ∨ blk v' = some (W.alloc o).heap.size) (hso1 : SlAt W1 va T.arr) (hl : l = l2) (hT0 : { T with arr := some l2 } = T0) :
    TabAt (W1.setCell ⟨t, 1, none⟩ v') t T0 (Fw F w) ∧ Upd F w (W1.setCell ⟨t, 1, none⟩ v') := by
  subst hl
  obtain ⟨h1, h2⟩ := (hT.alloc o).append_arr hs1 hg1 hb1 hso1
  have hsz : w.heap.size ≤ (W.alloc o).heap.size := by have := hu.size; simp; omega
  subst hT0
  exact ⟨(h1.mono fun k _ hk => Fw_Fw hsz hk).at, (hu.alloc o).under h2 fun k hk => hk⟩

theorem cell_new_of {w : World} {b : Nat} {u : Value} {e : TypeId} (h : b = w.heap.size) : (w.alloc (.cells #[u] e)).cell? ⟨b, 0, none⟩ = some u := by
  subst h; simp

theorem setAt_end {xs : List Value} {i : Nat} (v : Value) (h : i = xs.length) : setAt xs i v = xs ++ [v] := by
  subst h; simp [setAt]
theorem setAt_in {xs : List Value} {i : Nat} (v : Value) (h : i < xs.length) : setAt xs i v = xs.set i v := by simp [setAt, h]
theorem setAt_past {xs : List Value} {i : Nat} (v : Value) (h : xs.length ≤ i) : setAt xs i v = (xs ++ List.replicate (i - xs.length) lnil) ++ [v] := by
  simp [setAt, Nat.not_lt.2 h]

/-- The loop's word: j times LNil has been appended. -/
def Filled (F : Nat → Prop) (w : World) (t : Nat) (T : Tab) (xs : List Value) (m : Nat) (i : Value) (wr : World) : Prop :=
  ∃ j : Nat, j ≤ m ∧ i = .int .i64 j ∧ TabAt wr t { T with arr := some (xs ++ List.replicate j lnil) } (Fw F w) ∧ Upd F w wr

theorem Filled.next {F : Nat → Prop} {w : World} {t : Nat} {T : Tab} {xs : List Value} {m j : Nat} {wr W1 : World} {va vd vs vk vi : Value} {g' cap' : Nat} (hT : TabV wr t { T with arr := some (xs ++ List.replicate j lnil) } (Fw F w) va vd vs vk vi) (hu : Upd F w wr) (o : Obj) (hj : j < m)
    (hs1 : SlAt W1 (.slice (some ⟨g', 0, none⟩) ((xs ++ List.replicate j lnil).length + 1) cap') (some ((xs ++ List.replicate j lnil) ++ [lnil]))) (hg1 : (wr.alloc o).grownBy W1 (blk va))
    (hb1 : blk (.slice (some ⟨g', 0, none⟩) ((xs ++ List.replicate j lnil).length + 1) cap') = blk va ∨ blk (.slice (some ⟨g', 0, none⟩) ((xs ++ List.replicate j lnil).length + 1) cap') = some (wr.alloc o).heap.size) (hso1 : SlAt W1 va (some (xs ++ List.replicate j lnil))) {i : Value} (hi : i = .int .i64 ((j + 1 : Nat) : Int)) :
    Filled F w t T xs m i (W1.setCell ⟨t, 1, none⟩ (.slice (some ⟨g', 0, none⟩) ((xs ++ List.replicate j lnil).length + 1) cap')) := by
  have hl : (xs ++ List.replicate j lnil) ++ [lnil] = xs ++ List.replicate (j + 1) lnil := by simp [List.replicate_succ']
  obtain ⟨h1, h2⟩ := end_append (l2 := xs ++ List.replicate (j + 1) lnil) (T0 := { T with arr := some (xs ++ List.replicate (j + 1) lnil) }) hT hu o hs1 hg1 hb1 hso1 hl rfl
  exact ⟨j + 1, hj, hi, h1, h2⟩

set_option maxHeartbeats 400000 in
theorem rawSetInt_some (w : World) (t : Nat) (T : Tab) (F : Nat → Prop) (xs : List Value) (h : TabAt w t T F) (hx : T.arr = some xs) (k : Int) (hk1 : 1 ≤ k) (hk2 : k < 67108864) (hl : xs.length < 1073741824) (tv : TypeId) (xv : Value) :
    Calls Try.prog 28 #[.pointer (some ⟨t, 0, none⟩), .int .i64 k, .iface tv xv] w (UpdTo F w t { T with arr := some (setAt xs (k.toNat - 1) (.iface tv xv)) }) := by
  obtain ⟨va, vd, vs, vk, vi, hT⟩ := h
  obtain ⟨mt, arr, dict, sdict, keys, k2i⟩ := T
  obtain rfl : arr = some xs := hx
  have hlt := hT.lt
  obtain ⟨c0, c1, c2, c3, c4, c5⟩ := hT.cells
  have f1 := hT.thaw 1
  clear c0 c2 c3 c4 c5
  have hsl := hT.arr
  obtain ⟨g, cap, rfl, hcap, hcm, hcell, hfr⟩ := hsl.cell
  by_cases h1 : k - 1 = xs.length
  · go_enter Try.func28, Try.ntmps28
    go_wp2_with (at_builtin; go_must (refine wpList_append_lv rfl _ _ rfl (.slice (some ⟨g, 0, none⟩) xs.length cap) (some xs) xs rfl rfl (hT.alloc _).arr _ _ (.iface tv xv) rfl (by simp) rfl (by omega) ?_); intro g1 cap1 w1 hs1 hg1 hb1 hso1; obtain ⟨e1, e2⟩ := (hT.alloc _).grown_arr hg1)
    go_end0
    refine ⟨rfl, end_append (hT.mono fun k _ hk => .inl hk) (Upd.refl F w) _ hs1 hg1 hb1 hso1 ?_ rfl⟩
    rw [setAt_end _ (by omega)]
  · by_cases h2 : k - 1 < xs.length
    · obtain ⟨i, hi⟩ : ∃ i : Nat, k - 1 = i := ⟨(k - 1).toNat, by omega⟩
      have hic := hcell i (xs[i]'(by omega)) (by simp)
      have hif := hfr i
      go_enter Try.func28, Try.ntmps28
      go_wp2
      go_end0
      obtain ⟨q1, q2⟩ := (hT.mono fun k _ hk => (.inl hk : Fw F w k)).setElem rfl i (.iface tv xv) (by omega)
      obtain ⟨q3, q4⟩ := hT.setElem rfl i (.iface tv xv) (by omega)
      refine ⟨rfl, ?_, q4⟩
      rw [setAt_in _ (by omega)]
      have e : k.toNat - 1 = i := by omega
      rw [e]
      exact q1.at
    · have h3 : xs.length < k - 1 := by omega
      have Hc := Lib.hid hcell
      have Hf := Lib.hid hfr
      clear hcell hfr h1 h2
      have h1 : (k - 1 == (xs.length : Int)) = false := by simp; omega
      go_enter Try.func28, Try.ntmps28
      go_wp2_with fail
      go_loopw [8] (Filled F w t { mt := mt, arr := none, dict := dict, sdict := sdict, keys := keys, k2i := k2i } xs (k - 1 - xs.length).toNat) (fun i _ => ((k - 1 - xs.length) - intOf i).toNat)
      case atStart => exact ⟨0, Nat.zero_le _, rfl, by simpa using (hT.mono fun k _ hk => .inl hk).at, Upd.refl F w⟩
      case round =>
        clear c1 f1 hsl hT
        obtain ⟨j, hj, rfl, ⟨va2, vd2, vs2, vk2, vi2, hR⟩, hu⟩ := hrel
        obtain ⟨ys, hys⟩ : ∃ ys, ys = xs ++ List.replicate j lnil := ⟨_, rfl⟩
        have hlj : ys.length = xs.length + j := by rw [hys]; simp
        rw [← hys] at hR
        have hR3 := hR.cells.2.1
        have hR4 := hR.thaw 1
        have hRs := hR.arr
        obtain ⟨g2, cap2, rfl, -, -, -, -⟩ := hRs.cell
        have Hl := Lib.hid hlj
        have Hy := Lib.hid hys
        clear hlj hys
        by_cases hlt2 : (j : Int) < k - 1 - xs.length
        · go_wp2_with (at_builtin; go_must (refine wpList_append_lv rfl _ _ rfl (.slice (some ⟨g2, 0, none⟩) _ cap2) (some ys) ys rfl rfl (hR.alloc _).arr _ _ lnil rfl (by simp) rfl (by rw [Hl.out]; omega) ?_); intro g1 cap1 w1 hs1 hg1 hb1 hso1; obtain ⟨e1, e2⟩ := (hR.alloc _).grown_arr hg1)
          go_roundw
          case rel =>
            have hys := Hy.out
            subst hys
            exact Filled.next hR hu _ (by omega) hs1 hg1 hb1 hso1 (by go_num)
          case measure => simp [intOf]; omega
        · go_wp2_with (at_builtin; go_must (refine wpList_append_lv rfl _ _ rfl (.slice (some ⟨g2, 0, none⟩) _ cap2) (some ys) ys rfl rfl (hR.alloc _).arr _ _ (.iface tv xv) rfl (by simp) rfl (by rw [Hl.out]; omega) ?_); intro g1 cap1 w1 hs1 hg1 hb1 hso1; obtain ⟨e1, e2⟩ := (hR.alloc _).grown_arr hg1)
          go_end0
          refine ⟨rfl, end_append hR hu _ hs1 hg1 hb1 hso1 ?_ rfl⟩
          rw [Hy.out, setAt_past _ (by omega)]
          have e : k.toNat - 1 - xs.length = j := by omega
          rw [e]
set_option maxHeartbeats 400000 in
theorem rawSetInt_none (w : World) (t : Nat) (T : Tab) (F : Nat → Prop) (h : TabAt w t T F) (hx : T.arr = none) (k : Int) (hk1 : 1 ≤ k) (hk2 : k < 67108864) (tv : TypeId) (xv : Value) :
    Calls Try.prog 28 #[.pointer (some ⟨t, 0, none⟩), .int .i64 k, .iface tv xv] w (UpdTo F w t { T with arr := some (setAt [] (k.toNat - 1) (.iface tv xv)) }) := by
  obtain ⟨va, vd, vs, vk, vi, hT⟩ := h
  obtain ⟨mt, arr, dict, sdict, keys, k2i⟩ := T
  obtain rfl : arr = none := hx
  have hlt := hT.lt
  obtain rfl : va = .slice none 0 0 := hT.arr
  have c1 := hT.cells.2.1
  have f1 := hT.thaw 1
  obtain ⟨hT0, hU0⟩ := hT.make_arr2 32 (by decide)
  by_cases h1 : k - 1 = 0
  · go_enter Try.func28, Try.ntmps28
    go_wp2_with (at_builtin; go_must (refine wpList_append_lv rfl _ _ rfl (.slice (some ⟨w.heap.size, 0, none⟩) 0 32) (some []) [] rfl rfl (hT0.alloc _).arr _ _ (.iface tv xv) rfl (cell_new_of (by simp)) rfl (by decide) ?_); intro g1 cap1 w1 hs1 hg1 hb1 hso1; obtain ⟨e1, e2⟩ := (hT0.alloc _).grown_arr hg1)
    go_end0
    refine ⟨rfl, end_append hT0 hU0 _ hs1 hg1 hb1 hso1 ?_ rfl⟩
    rw [setAt_end _ (by simp; omega)]
  · have h3 : 0 < k - 1 := by omega
    clear h1
    have h1 : (k - 1 == 0) = false := by simp; omega
    go_enter Try.func28, Try.ntmps28
    go_wp2_with fail
    go_loopw [8] (Filled F w t { mt := mt, arr := none, dict := dict, sdict := sdict, keys := keys, k2i := k2i } [] (k - 1).toNat) (fun i _ => ((k - 1) - intOf i).toNat)
    case atStart => exact ⟨0, Nat.zero_le _, rfl, by simpa using hT0.at, hU0⟩
    case round =>
      clear c1 f1 hT hT0 hU0
      obtain ⟨j, hj, rfl, ⟨va2, vd2, vs2, vk2, vi2, hR⟩, hu⟩ := hrel
      obtain ⟨ys, hys⟩ : ∃ ys, ys = [] ++ List.replicate j lnil := ⟨_, rfl⟩
      have hlj : ys.length = j := by rw [hys]; simp
      rw [← hys] at hR
      have hR3 := hR.cells.2.1
      have hR4 := hR.thaw 1
      have hRs := hR.arr
      obtain ⟨g2, cap2, rfl, -, -, -, -⟩ := hRs.cell
      have Hl := Lib.hid hlj
      have Hy := Lib.hid hys
      clear hlj hys
      by_cases hlt2 : (j : Int) < k - 1
      · go_wp2_with (at_builtin; go_must (refine wpList_append_lv rfl _ _ rfl (.slice (some ⟨g2, 0, none⟩) _ cap2) (some ys) ys rfl rfl (hR.alloc _).arr _ _ lnil rfl (by simp) rfl (by rw [Hl.out]; omega) ?_); intro g1 cap1 w1 hs1 hg1 hb1 hso1; obtain ⟨e1, e2⟩ := (hR.alloc _).grown_arr hg1)
        go_roundw
        case rel =>
          have hys := Hy.out
          subst hys
          exact Filled.next hR hu _ (by omega) hs1 hg1 hb1 hso1 (by go_num)
        case measure => simp [intOf]; omega
      · go_wp2_with (at_builtin; go_must (refine wpList_append_lv rfl _ _ rfl (.slice (some ⟨g2, 0, none⟩) _ cap2) (some ys) ys rfl rfl (hR.alloc _).arr _ _ (.iface tv xv) rfl (by simp) rfl (by rw [Hl.out]; omega) ?_); intro g1 cap1 w1 hs1 hg1 hb1 hso1; obtain ⟨e1, e2⟩ := (hR.alloc _).grown_arr hg1)
        go_end0
        refine ⟨rfl, end_append hR hu _ hs1 hg1 hb1 hso1 ?_ rfl⟩
        rw [Hy.out, setAt_past _ (by simp)]
        have e : k.toNat - 1 - ([] : List Value).length = j := by simp; omega
        rw [e]

theorem rawSetInt_arr (w : World) (t : Nat) (T : Tab) (F : Nat → Prop) (h : TabAt w t T F) (k : Int) (hk1 : 1 ≤ k) (hk2 : k < 67108864) (hl : (T.arr.getD []).length < 1073741824) (tv : TypeId) (xv : Value) :
    Calls Try.prog 28 #[.pointer (some ⟨t, 0, none⟩), .int .i64 k, .iface tv xv] w (UpdTo F w t { T with arr := some (setAt (T.arr.getD []) (k.toNat - 1) (.iface tv xv)) }) := by
  cases hx : T.arr with
  | none => exact rawSetInt_none w t T F h hx k hk1 hk2 tv xv
  | some xs => exact rawSetInt_some w t T F xs h hx k hk1 hk2 (by rw [hx] at hl; exact hl) tv xv
end Go.Lua
