/-
  Append: LNil is left out; any other value goes behind the last slot that is not LNil.
-/
import Derived.Test.YtcnjdmbcofodnaaRead
import Derived.Deep.QuietTactic
import Derived.BigQuiet
namespace Go.Lua
open Go.Proofs Go.RowKit
set_option linter.unusedVariables false

set_option maxHeartbeats 400000 in
theorem append_nil (w : World) (t : Nat) : Calls Try.prog 64 #[.pointer (some ⟨t, 0, none⟩), lnil] w fun e w' => e = .returned (.tuple #[]) ∧ w = w' := by
  go_enter Try.func64, Try.ntmps64
  go_wp2
  exact bodyPost_ret (v := .tuple #[]) (results_none rfl _ _ _) rfl ⟨rfl, rfl⟩

set_option maxHeartbeats 400000 in
theorem append_none (w : World) (t : Nat) (T : Tab) (F : Nat → Prop) (h : TabAt w t T F) (hx : T.arr = none) (tv : TypeId) (xv : Value) (htv : tv ≠ 62) :
    Calls Try.prog 64 #[.pointer (some ⟨t, 0, none⟩), .iface tv xv] w (UpdTo F w t { T with arr := some [.iface tv xv] }) := by
  obtain ⟨va, vd, vs, vk, vi, hT⟩ := h
  obtain ⟨mt, arr, dict, sdict, keys, k2i⟩ := T
  obtain rfl : arr = none := hx
  have hlt := hT.lt
  obtain rfl : va = .slice none 0 0 := hT.arr
  have c1 := hT.cells.2.1
  have f1 := hT.thaw 1
  obtain ⟨hT0, hU0⟩ := hT.make_arr2 32 (by decide)
  go_enter Try.func64, Try.ntmps64
  go_wp2_with fail
  go_quiet (fail)
  go_wp2_with (at_builtin; go_must (refine wpList_append_lv rfl _ _ rfl (.slice (some ⟨w.heap.size, 0, none⟩) 0 32) (some []) [] rfl rfl ((hT0.drewN _).alloc _).arr _ _ (.iface tv xv) rfl (cell_new_of (by simp)) rfl (by decide) ?_); intro g1 cap1 w1 hs1 hg1 hb1 hso1; obtain ⟨e1, e2⟩ := ((hT0.drewN _).alloc _).grown_arr hg1)
  go_end0
  exact ⟨rfl, end_append (hT0.drewN _) (hU0.drewN _) _ hs1 hg1 hb1 hso1 rfl rfl⟩

/-- Behind the last slot that is not LNil v is put. -/
def appendTo (xs : List Value) (v : Value) : List Value := setAt xs (border xs) v

theorem border_le (xs : List Value) : border xs ≤ xs.length := by unfold border; omega
theorem appendTo_end {xs : List Value} (v : Value) (h : border xs = xs.length) : appendTo xs v = xs ++ [v] := setAt_end v h
theorem border_nil : border [] = 0 := rfl


/-- The end of a store into the array. -/
theorem end_store {w W : World} {t : Nat} {T0 T : Tab} {F : Nat → Prop} {g n cap : Nat} {xs l2 : List Value} {vd vs vk vi : Value} (hT : TabV W t T F (.slice (some ⟨g, 0, none⟩) n cap) vd vs vk vi) (hW : W.heap = w.heap) (hos : W.os = w.os) (ht : W.tape = w.tape) (ho : W.output = w.output)
    (hx : T.arr = some xs) (i : Nat) (u : Value) (hi : i < xs.length) (hl : xs.set i u = l2) (hT0 : { T with arr := some l2 } = T0) :
    TabAt (W.setCell ⟨g, i, none⟩ u) t T0 (Fw F w) ∧ Upd F w (W.setCell ⟨g, i, none⟩ u) := by
  subst hl
  subst hT0
  obtain ⟨h1, h2⟩ := hT.setElem hx i u hi
  refine ⟨(h1.mono fun k _ hk => .inl hk).at, ⟨h2.os.trans hos, h2.tape.trans ht, h2.output.trans ho, by have := h2.size; rw [hW] at this; exact this, fun k hk hf => ?_⟩⟩
  rw [h2.block k (by rw [hW]; exact hk) hf, hW]

set_option maxHeartbeats 1000000 in
theorem append_some (w : World) (t : Nat) (T : Tab) (F : Nat → Prop) (xs : List Value) (h : TabAt w t T F) (hx : T.arr = some xs) (hok : ∀ u ∈ xs, LvOk u) (hl : xs.length < 1073741824) (tv : TypeId) (xv : Value) (htv : tv ≠ 62) :
    Calls Try.prog 64 #[.pointer (some ⟨t, 0, none⟩), .iface tv xv] w (UpdTo F w t { T with arr := some (appendTo xs (.iface tv xv)) }) := by
  obtain ⟨va, vd, vs, vk, vi, hT⟩ := h
  obtain ⟨mt, arr, dict, sdict, keys, k2i⟩ := T
  obtain rfl : arr = some xs := hx
  have hlt := hT.lt
  have c1 := hT.cells.2.1
  have f1 := hT.thaw 1
  have hsl := hT.arr
  obtain ⟨g, cap, rfl, hcap, hcm, hcell, hfr⟩ := hsl.cell
  have Hc := Lib.hid hcell
  have Ho := Lib.hid hok
  have Hf := Lib.hid hfr
  have Hl := Lib.hid hl
  clear hcell hok hfr hsl hcm
  by_cases h0 : xs.length = 0
  · obtain rfl : xs = [] := List.eq_nil_of_length_eq_zero h0
    clear h0
    go_enter Try.func64, Try.ntmps64
    go_wp2_with fail
    go_quiet (fail)
    go_wp2_with (at_builtin; go_must (refine wpList_append_lv rfl _ _ rfl (.slice (some ⟨g, 0, none⟩) _ cap) (some []) [] rfl rfl ((hT.drewN _).alloc _).arr _ _ (.iface tv xv) rfl (cell_new_of (by simp)) rfl (by decide) ?_); intro g1 cap1 w1 hs1 hg1 hb1 hso1; obtain ⟨e1, e2⟩ := ((hT.drewN _).alloc _).grown_arr hg1)
    go_end0
    exact ⟨rfl, end_append ((hT.mono fun k _ hk => Fw.of hk).drewN _) ((Upd.refl F w).drewN _) _ hs1 hg1 hb1 hso1 (appendTo_end _ rfl).symm rfl⟩
  · obtain ⟨n, hn⟩ : ∃ n, xs.length = n + 1 := ⟨xs.length - 1, by omega⟩
    obtain ⟨u, hu⟩ : ∃ u, xs[n]? = some u := ⟨xs[n]'(by rw [hn]; exact Nat.lt_succ_self n), by simp⟩
    have hic := Hc.out n u hu
    have Hu := Lib.hid hu
    have hok := Ho.out u (List.mem_of_getElem? hu)
    have hp : (0 : Int) < (xs.length : Int) := by omega
    have hq : (xs.length : Int) - 1 = n := by omega
    have hne0 : ((xs.length : Int) == 0) = false := beq_false_of_ne (by omega)
    have Hn := Lib.hid hn
    clear hu h0 hn
    rcases hok with rfl | ⟨tu, xu, rfl, hne⟩
    · go_enter Try.func64, Try.ntmps64
      go_wp2_with fail
      go_quiet (fail)
      go_wp2_with fail
      go_loop [4] (fun i => ∃ j : Nat, j ≤ n ∧ i = .int .i64 ((j : Int) - 1) ∧ Hid (∀ u ∈ xs.drop j, isNil u = true)) (fun i => (intOf i + 1).toNat)
      case atStart =>
        have hnn := Hn.out
        exact ⟨n, Nat.le_refl _, by simp; omega, isNil_drop (by unfold Hid; rw [List.drop_eq_nil_of_le (by omega)]; simp) Hu.out rfl⟩
      case round =>
        obtain ⟨j, hj, rfl, hd⟩ := hrel
        have hjl : j < xs.length := by have := Hn.out; omega
        obtain ⟨y, hy⟩ : ∃ y, xs[j]? = some y := ⟨xs[j], by simp⟩
        have hjc := Hc.out j y hy
        have hjf := Hf.out j
        clear hy
        have fin : border xs = j → TabAt ((w.drewN nq).setCell ⟨g, j, none⟩ (.iface tv xv)) t { mt := mt, arr := some (appendTo xs (.iface tv xv)), dict := dict, sdict := sdict, keys := keys, k2i := k2i } (Fw F w) ∧ Upd F w ((w.drewN nq).setCell ⟨g, j, none⟩ (.iface tv xv)) := fun hb =>
          have he : xs.set j (.iface tv xv) = appendTo xs (.iface tv xv) := by
            show _ = setAt xs (border xs) (.iface tv xv)
            rw [hb, setAt_in _ hjl]
          end_store (w := w) (hT.drewN nq) rfl rfl rfl rfl rfl j (.iface tv xv) hjl he rfl
        have Fin := Lib.hid fin
        clear fin
        cases j with
        | zero =>
          go_wp2
          go_end0
          exact ⟨rfl, Fin.out (border_zero (by simpa using hd.out))⟩
        | succ m =>
          obtain ⟨u, hu⟩ : ∃ u, xs[m]? = some u := ⟨xs[m]'(by omega), by simp⟩
          have hmc := Hc.out m u hu
          have Hm := Lib.hid hu
          have hmok := Ho.out u (List.mem_of_getElem? hu)
          clear hu
          rcases hmok with rfl | ⟨tu, xu, rfl, hne⟩
          · go_wp2
            go_round
            case rel => exact ⟨m, by omega, rfl, isNil_drop hd Hm.out rfl⟩
            case measure => simp [intOf]
          · go_wp2
            go_end0
            exact ⟨rfl, Fin.out (border_at hd Hm.out (LvOk.not_nil hne))⟩
    · go_enter Try.func64, Try.ntmps64
      go_wp2_with fail
      go_quiet (fail)
      go_wp2_with (at_builtin; go_must (refine wpList_append_lv rfl _ _ rfl (.slice (some ⟨g, 0, none⟩) _ cap) (some xs) xs rfl rfl ((hT.drewN _).alloc _).arr _ _ (.iface tv xv) rfl (cell_new_of (by simp)) rfl (by have := Hl.out; omega) ?_); intro g1 cap1 w1 hs1 hg1 hb1 hso1; obtain ⟨e1, e2⟩ := ((hT.drewN _).alloc _).grown_arr hg1)
      go_end0
      have hb := border_at (xs := xs) (m := n) (by unfold Hid; rw [List.drop_eq_nil_of_le (by have := Hn.out; omega)]; simp) Hu.out (LvOk.not_nil hne)
      exact ⟨rfl, end_append ((hT.mono fun k _ hk => Fw.of hk).drewN _) ((Upd.refl F w).drewN _) _ hs1 hg1 hb1 hso1 (appendTo_end _ (by have := Hn.out; omega)).symm rfl⟩

theorem append_any (w : World) (t : Nat) (T : Tab) (F : Nat → Prop) (h : TabAt w t T F) (hok : ∀ u ∈ T.arr.getD [], LvOk u) (hl : (T.arr.getD []).length < 1073741824) (tv : TypeId) (xv : Value) (htv : tv ≠ 62) :
    Calls Try.prog 64 #[.pointer (some ⟨t, 0, none⟩), .iface tv xv] w (UpdTo F w t { T with arr := some (appendTo (T.arr.getD []) (.iface tv xv)) }) := by
  cases hx : T.arr with
  | none => exact append_none w t T F h hx tv xv htv
  | some xs =>
    rw [hx] at hl hok
    exact append_some w t T F xs h hx hok hl tv xv htv
end Go.Lua
