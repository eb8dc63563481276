/-
  n005_23: the statements' own small functions, by contract.
-/
import Derived.Test.YtfkemahinnpgdaaOps23
import Derived.Test.YtfkemahinnpgdaaRawGet
import Derived.Test.YtfkemahinnpgdaaGetStr
namespace Go.Lua
open Go.Proofs Go.RowKit Go.Deep
set_option linter.unusedVariables false

theorem still_of {f : FuncId} {args : Array Value} {w : World} {v : Value} (h : Calls Try.prog f args w fun e w' => e = .returned v ∧ w = w') : Calls Try.prog f args w fun e w' => e = .returned v ∧ w' = w :=
  h.mono fun _ _ q => ⟨q.1, q.2.symm⟩

theorem new_any (w : World) : Calls Try.prog 12 #[] w (Fresh w 0 0) := by
  have C := Lib.hid (newLTable_any w 0 0 (by decide) (by decide))
  go_enter Try.func12, Try.ntmps12
  go_wp2_with (first
    | (go_at_call 35; refine C.out.mono ?_; intro e w1 hf; obtain ⟨he, hq⟩ := hf; subst he; have HQ := Lib.hid hq; clear hq))
  go_ret
  exact ⟨rfl, HQ.out⟩

theorem val_any (w : World) (v : Int) : Calls Try.prog 36 #[.int .i64 v] w fun e w' => e = .returned (val v) ∧ w = w' := by
  by_cases h0 : v = 0
  · subst h0
    rw [val_zero]
    go_enter Try.func36, Try.ntmps36
    go_wp2
    go_ret
    exact ⟨rfl, rfl⟩
  · rw [val_num h0]
    have hv0 : (v == 0) = false := beq_false_of_ne h0
    clear h0
    go_enter Try.func36, Try.ntmps36
    go_wp2
    go_ret
    exact ⟨rfl, rfl⟩
theorem isNil_yes (w : World) : Calls Try.prog 23 #[lnil] w fun e w' => e = .returned (.bool true) ∧ w = w' := by
  go_enter Try.func23, Try.ntmps23
  go_wp2
  go_ret
  exact ⟨rfl, rfl⟩
theorem numIs_any (w : World) (x y : Nat) : Calls Try.prog 15 #[lnum x, .float .f64 y] w fun e w' => e = .returned (.bool (feq x y)) ∧ w = w' := by
  go_enter Try.func15, Try.ntmps15
  go_wp2
  go_ret
  exact ⟨rfl, rfl⟩
theorem holds_yes (w : World) (v : Int) (hv : Is64 v) : Calls Try.prog 19 #[val v, .int .i64 v] w fun e w' => e = .returned (.bool true) ∧ w = w' := by
  by_cases h0 : v = 0
  · subst h0
    rw [val_zero]
    go_enter Try.func19, Try.ntmps19
    go_wp2_with (first | (go_at_call 23; refine (isNil_yes _).mono ?_; rintro e w1 ⟨rfl, rfl⟩))
    go_ret
    exact ⟨rfl, rfl⟩
  · have hq := feq_fof_self (v := v) (by unfold Is64 at hv; omega)
    have C : Calls Try.prog 15 #[lnum (fofInt v), .float .f64 (floatOfInt .f64 v)] w fun e w' => e = .returned (.bool (feq (fofInt v) (fofInt v))) ∧ w = w' := numIs_any w (fofInt v) (fofInt v)
    rw [hq] at C
    have C := Lib.hid C
    clear hv hq
    rw [val_num h0]
    have hv0 : (v == 0) = false := beq_false_of_ne h0
    clear h0
    go_enter Try.func19, Try.ntmps19
    go_wp2_with (first | (go_at_call 15; refine C.out.mono ?_; rintro e w1 ⟨rfl, rfl⟩))
    go_ret
    exact ⟨rfl, rfl⟩

set_option maxHeartbeats 1000000 in
theorem tooBig_any (w : World) (v : Value) (ops : List ZOp) (h : IsZOps w v ops) (hS : Hid (ZShort ops ops.length)) (ex : Int) (he0 : 0 ≤ ex) (he1 : ex ≤ 9223372036854775807) :
    Calls Try.prog 10 #[v, .int .i64 ex] w (NoIf (ops.length ≤ 4096 ∧ Hid (ZNears ops ops.length)) w) := by
  obtain ⟨p, c, rfl, k, m, hn, g⟩ := h.1.form
  have hok := h.2
  simp only [List.length_map] at *
  unfold maxLen at m
  have hxl : (ops.length : Int) ≤ 9223372036854775807 := by omega
  have G := Lib.hid g
  have K := Lib.hid hok
  clear h g hn k m hok
  by_cases z1 : (4096 : Int) < ops.length
  · go_enter Try.func10, Try.ntmps10
    go_wp2
    go_ret
    exact ⟨rfl, .inl rfl⟩
  by_cases z2 : (1048576 : Int) < ex
  · have y1 : decide ((4096 : Int) < ops.length) = false := by simpa using z1
    go_enter Try.func10, Try.ntmps10
    go_wp2
    go_ret
    exact ⟨rfl, .inl rfl⟩
  have y1 : decide ((4096 : Int) < ops.length) = false := by simpa using z1
  have y2 : decide ((1048576 : Int) < ex) = false := by simpa using z2
  go_enter Try.func10, Try.ntmps10
  go_wp2
  all_goals first | (go_ret; exact ⟨rfl, .inl rfl⟩) | skip
  go_loop [5, 6] (fun z i => ∃ (j : Nat) (n : Int), j ≤ ops.length ∧ i = .int .i64 j ∧ z = .int .i64 n ∧ 0 ≤ n ∧ n ≤ 1048576 ∧ Hid (ZNears ops j)) (fun _ i => (ops.length - intOf i).toNat)
  case atStart =>
    refine ⟨0, _, Nat.zero_le _, rfl, rfl, ?_, ?_, Lib.hid (ZNears.zero _)⟩ <;> omega
  case round =>
    obtain ⟨j, n, hj, rfl, rfl, hn0, hn1, hN⟩ := hrel
    by_cases hlt : (j : Int) < ops.length
    · obtain ⟨o, ho⟩ : ∃ o, ops[j]? = some o := ⟨ops[j]'(by omega), by simp⟩
      obtain ⟨a, rfl, d0, d1, d2, -⟩ := zop_cells G.out (Upd.refl _ w) ho
      have hs := hS.out.at ho
      obtain ⟨f1, f2⟩ := (K.out o (List.mem_of_getElem? ho)).kind
      have HO := Lib.hid ho
      clear ho
      by_cases k3 : o.kind % 4 = 3
      · have e3 : (o.kind % 4 == 3) = true := by simpa using k3
        by_cases n1 : 65536 < o.n
        · by_cases n2 : o.n < 67108864
          · clear k3
            go_wp2
            all_goals (go_ret; exact ⟨rfl, .inl rfl⟩)
          · have n3 : decide (o.n < 67108864) = false := by simpa using n2
            have HN := Lib.hid (hN.out.next HO.out (fun _ => by omega))
            clear k3
            go_wp2
            all_goals first | (go_ret; exact ⟨rfl, .inl rfl⟩) | skip
            go_round
            case rel => exact ⟨j + 1, _, by omega, by go_num, rfl, by omega, by omega, HN⟩
            case measure => exact meas (by omega)
        · have n3 : decide (65536 < o.n) = false := by simpa using n1
          have HN := Lib.hid (hN.out.next HO.out (fun _ => by omega))
          clear k3
          go_wp2
          all_goals first | (go_ret; exact ⟨rfl, .inl rfl⟩) | skip
          go_round
          case rel => exact ⟨j + 1, _, by omega, by go_num, rfl, by omega, by omega, HN⟩
          case measure => exact meas (by omega)
      · have e3 : (o.kind % 4 == 3) = false := by simpa using k3
        have HN := Lib.hid (hN.out.next HO.out (fun h => absurd h k3))
        clear k3
        go_wp2
        all_goals first | (go_ret; exact ⟨rfl, .inl rfl⟩) | skip
        go_round
        case rel => exact ⟨j + 1, _, by omega, by go_num, rfl, by omega, by omega, HN⟩
        case measure => exact meas (by omega)
    · have hje : j = ops.length := by omega
      subst hje
      go_wp2
      go_ret
      first | exact ⟨rfl, .inr ⟨rfl, by omega⟩⟩ | exact ⟨rfl, .inr ⟨rfl, by omega, hN⟩⟩

set_option maxHeartbeats 1000000 in
theorem lastW_any (w : World) (v : Value) (ops : List ZOp) (h : IsZOps w v ops) (s : ByteArray) :
    Calls Try.prog 20 #[v, .string s] w fun e w' => e = .returned (.int .i64 (lastZ ops s ops.length)) ∧ w = w' := by
  obtain ⟨p, c, rfl, k, m, hn, g⟩ := h.1.form
  have hok := h.2
  simp only [List.length_map] at *
  unfold maxLen at m
  have hxl : (ops.length : Int) ≤ 9223372036854775807 := by omega
  have G := Lib.hid g
  have K := Lib.hid hok
  clear h g hn k m hok
  go_enter Try.func20, Try.ntmps20
  go_wp2_with fail
  go_loop [5] (fun i => ∃ j : Nat, j ≤ ops.length ∧ i = .int .i64 ((j : Int) - 1) ∧ Hid (lastZ ops s ops.length = lastZ ops s j)) (fun i => (intOf i + 1).toNat)
  case atStart => exact ⟨ops.length, Nat.le_refl _, rfl, Lib.hid rfl⟩
  case round =>
    obtain ⟨j, hj, rfl, hd⟩ := hrel
    cases j with
    | zero =>
      go_wp2
      go_ret
      exact ⟨by rw [hd.out]; rfl, rfl⟩
    | succ m =>
      obtain ⟨o, ho⟩ : ∃ o, ops[m]? = some o := ⟨ops[m]'(by omega), by simp⟩
      obtain ⟨a, rfl, d0, -, d2, d3⟩ := zop_cells G.out (Upd.refl _ w) ho
      obtain ⟨f1, f2⟩ := (K.out o (List.mem_of_getElem? ho)).kind
      have hst := lastZ_step (s := s) ho
      clear ho
      by_cases k3 : o.kind % 4 = 3
      · have e3 : (o.kind % 4 != 3) = false := by simpa using k3
        rw [if_neg (fun h => h.1 k3)] at hst
        have HS := Lib.hid hst
        clear hst k3
        go_wp2
        go_round
        case rel => exact ⟨m, by omega, rfl, Lib.hid (hd.out.trans HS.out)⟩
        case measure => simp [intOf]
      · have e3 : (o.kind % 4 != 3) = true := by simpa using k3
        by_cases hs : (o.s == s) = true
        · rw [if_pos ⟨k3, hs⟩] at hst
          rw [bytes_list] at hs
          have HS := Lib.hid hst
          clear hst k3
          go_wp2
          go_ret
          exact ⟨by rw [hd.out, HS.out]; rfl, rfl⟩
        · rw [if_neg (fun h => hs h.2)] at hst
          rw [Bool.not_eq_true, bytes_list] at hs
          have HS := Lib.hid hst
          clear hst k3
          go_wp2
          go_round
          case rel => exact ⟨m, by omega, rfl, Lib.hid (hd.out.trans HS.out)⟩
          case measure => simp [intOf]
end Go.Lua
