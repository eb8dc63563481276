/-
  n005_23: the bounds of the laws over a script alone (printed by mkbytes23.py).
-/
import Derived.Test.YtfkemahinnpgdaaChain
import Derived.Test.YtfkemahinnpgdaaBuild
namespace Go.Lua
open Go.Proofs Go.RowKit Go.Deep
set_option linter.unusedVariables false

set_option maxHeartbeats 1000000 in
theorem bytes_next (w : World) (v : Value) (ops : List ZOp) (h : IsZOps w v ops) :
    Calls Try.prog 21 #[v] w (YnIf (Hid (ZShort ops ops.length)) w) := by
  obtain ⟨p, c, rfl, k, m, hn, g⟩ := h.1.form
  have hok := h.2
  simp only [List.length_map] at *
  unfold maxLen at m
  have hxl : (ops.length : Int) ≤ 9223372036854775807 := by omega
  have G := Lib.hid g
  have K := Lib.hid hok
  clear h g hn k m hok
  go_enter Try.func21, Try.ntmps21
  go_wp2
  all_goals first | (go_ret; exact ⟨rfl, .inl rfl⟩) | skip
  go_loop [3, 4] (fun z i => ∃ (j : Nat) (n : Int), j ≤ ops.length ∧ i = .int .i64 j ∧ z = .int .i64 n ∧ 0 ≤ n ∧ n ≤ 1048576 ∧ Hid (ZShort ops j)) (fun _ i => (ops.length - intOf i).toNat)
  case atStart =>
    refine ⟨0, _, Nat.zero_le _, rfl, rfl, ?_, ?_, Lib.hid (ZShort.zero _)⟩ <;> omega
  case round =>
    obtain ⟨j, n, hj, rfl, rfl, hn0, hn1, hS⟩ := hrel
    by_cases hlt : (j : Int) < ops.length
    · obtain ⟨o, ho⟩ : ∃ o, ops[j]? = some o := ⟨ops[j]'(by omega), by simp⟩
      obtain ⟨a, rfl, -, -, d2, -⟩ := zop_cells G.out (Upd.refl _ w) ho
      have hz := (K.out o (List.mem_of_getElem? ho)).2.2.1
      unfold maxLen at hz
      have HO := Lib.hid ho
      clear ho
      go_wp2
      all_goals first | (go_ret; exact ⟨rfl, .inl rfl⟩) | skip
      go_round
      case rel => exact ⟨j + 1, _, by omega, by go_num, rfl, by omega, by omega, Lib.hid (hS.out.next HO.out (by omega))⟩
      case measure => exact meas (by omega)
    · have hje : j = ops.length := by omega
      subst hje
      go_wp2
      all_goals first | (go_ret; exact ⟨rfl, .inl rfl⟩) | (go_ret; exact ⟨rfl, .inr ⟨rfl, trivial⟩⟩)

set_option maxHeartbeats 1000000 in
theorem bytes_clear (w : World) (v : Value) (ops : List ZOp) (h : IsZOps w v ops) :
    Calls Try.prog 27 #[v] w (YnIf (Hid (ZShort ops ops.length)) w) := by
  obtain ⟨p, c, rfl, k, m, hn, g⟩ := h.1.form
  have hok := h.2
  simp only [List.length_map] at *
  unfold maxLen at m
  have hxl : (ops.length : Int) ≤ 9223372036854775807 := by omega
  have G := Lib.hid g
  have K := Lib.hid hok
  clear h g hn k m hok
  go_enter Try.func27, Try.ntmps27
  go_wp2
  all_goals first | (go_ret; exact ⟨rfl, .inl rfl⟩) | skip
  go_loop [3, 4] (fun z i => ∃ (j : Nat) (n : Int), j ≤ ops.length ∧ i = .int .i64 j ∧ z = .int .i64 n ∧ 0 ≤ n ∧ n ≤ 1048576 ∧ Hid (ZShort ops j)) (fun _ i => (ops.length - intOf i).toNat)
  case atStart =>
    refine ⟨0, _, Nat.zero_le _, rfl, rfl, ?_, ?_, Lib.hid (ZShort.zero _)⟩ <;> omega
  case round =>
    obtain ⟨j, n, hj, rfl, rfl, hn0, hn1, hS⟩ := hrel
    by_cases hlt : (j : Int) < ops.length
    · obtain ⟨o, ho⟩ : ∃ o, ops[j]? = some o := ⟨ops[j]'(by omega), by simp⟩
      obtain ⟨a, rfl, -, -, d2, -⟩ := zop_cells G.out (Upd.refl _ w) ho
      have hz := (K.out o (List.mem_of_getElem? ho)).2.2.1
      unfold maxLen at hz
      have HO := Lib.hid ho
      clear ho
      go_wp2
      all_goals first | (go_ret; exact ⟨rfl, .inl rfl⟩) | skip
      go_round
      case rel => exact ⟨j + 1, _, by omega, by go_num, rfl, by omega, by omega, Lib.hid (hS.out.next HO.out (by omega))⟩
      case measure => exact meas (by omega)
    · have hje : j = ops.length := by omega
      subst hje
      go_wp2
      all_goals first | (go_ret; exact ⟨rfl, .inl rfl⟩) | (go_ret; exact ⟨rfl, .inr ⟨rfl, trivial⟩⟩)

set_option maxHeartbeats 1000000 in
theorem bytes_each (w : World) (v : Value) (ops : List ZOp) (h : IsZOps w v ops) :
    Calls Try.prog 9 #[v] w (YnIf (Hid (ZShort ops ops.length)) w) := by
  obtain ⟨p, c, rfl, k, m, hn, g⟩ := h.1.form
  have hok := h.2
  simp only [List.length_map] at *
  unfold maxLen at m
  have hxl : (ops.length : Int) ≤ 9223372036854775807 := by omega
  have G := Lib.hid g
  have K := Lib.hid hok
  clear h g hn k m hok
  go_enter Try.func9, Try.ntmps9
  go_wp2
  all_goals first | (go_ret; exact ⟨rfl, .inl rfl⟩) | skip
  go_loop [3, 4] (fun z i => ∃ (j : Nat) (n : Int), j ≤ ops.length ∧ i = .int .i64 j ∧ z = .int .i64 n ∧ 0 ≤ n ∧ n ≤ 1048576 ∧ Hid (ZShort ops j)) (fun _ i => (ops.length - intOf i).toNat)
  case atStart =>
    refine ⟨0, _, Nat.zero_le _, rfl, rfl, ?_, ?_, Lib.hid (ZShort.zero _)⟩ <;> omega
  case round =>
    obtain ⟨j, n, hj, rfl, rfl, hn0, hn1, hS⟩ := hrel
    by_cases hlt : (j : Int) < ops.length
    · obtain ⟨o, ho⟩ : ∃ o, ops[j]? = some o := ⟨ops[j]'(by omega), by simp⟩
      obtain ⟨a, rfl, -, -, d2, -⟩ := zop_cells G.out (Upd.refl _ w) ho
      have hz := (K.out o (List.mem_of_getElem? ho)).2.2.1
      unfold maxLen at hz
      have HO := Lib.hid ho
      clear ho
      go_wp2
      all_goals first | (go_ret; exact ⟨rfl, .inl rfl⟩) | skip
      go_round
      case rel => exact ⟨j + 1, _, by omega, by go_num, rfl, by omega, by omega, Lib.hid (hS.out.next HO.out (by omega))⟩
      case measure => exact meas (by omega)
    · have hje : j = ops.length := by omega
      subst hje
      go_wp2
      all_goals first | (go_ret; exact ⟨rfl, .inl rfl⟩) | (go_ret; exact ⟨rfl, .inr ⟨rfl, trivial⟩⟩)

set_option maxHeartbeats 1000000 in
theorem bytes_agree (w : World) (v : Value) (ops : List ZOp) (h : IsZOps w v ops) :
    Calls Try.prog 30 #[v] w (YnIf (Hid (ZShort ops ops.length)) w) := by
  obtain ⟨p, c, rfl, k, m, hn, g⟩ := h.1.form
  have hok := h.2
  simp only [List.length_map] at *
  unfold maxLen at m
  have hxl : (ops.length : Int) ≤ 9223372036854775807 := by omega
  have G := Lib.hid g
  have K := Lib.hid hok
  clear h g hn k m hok
  go_enter Try.func30, Try.ntmps30
  go_wp2
  all_goals first | (go_ret; exact ⟨rfl, .inl rfl⟩) | skip
  go_loop [3, 4] (fun z i => ∃ (j : Nat) (n : Int), j ≤ ops.length ∧ i = .int .i64 j ∧ z = .int .i64 n ∧ 0 ≤ n ∧ n ≤ 1048576 ∧ Hid (ZShort ops j)) (fun _ i => (ops.length - intOf i).toNat)
  case atStart =>
    refine ⟨0, _, Nat.zero_le _, rfl, rfl, ?_, ?_, Lib.hid (ZShort.zero _)⟩ <;> omega
  case round =>
    obtain ⟨j, n, hj, rfl, rfl, hn0, hn1, hS⟩ := hrel
    by_cases hlt : (j : Int) < ops.length
    · obtain ⟨o, ho⟩ : ∃ o, ops[j]? = some o := ⟨ops[j]'(by omega), by simp⟩
      obtain ⟨a, rfl, -, -, d2, -⟩ := zop_cells G.out (Upd.refl _ w) ho
      have hz := (K.out o (List.mem_of_getElem? ho)).2.2.1
      unfold maxLen at hz
      have HO := Lib.hid ho
      clear ho
      go_wp2
      all_goals first | (go_ret; exact ⟨rfl, .inl rfl⟩) | skip
      go_round
      case rel => exact ⟨j + 1, _, by omega, by go_num, rfl, by omega, by omega, Lib.hid (hS.out.next HO.out (by omega))⟩
      case measure => exact meas (by omega)
    · have hje : j = ops.length := by omega
      subst hje
      go_wp2
      all_goals first | (go_ret; exact ⟨rfl, .inl rfl⟩) | (go_ret; exact ⟨rfl, .inr ⟨rfl, trivial⟩⟩)

/-- The table behind the whole script, and the model. -/
theorem full_ops {ops : List ZOp} (hk : ∀ o ∈ ops, ZOp.ok o) (hl : ops.length ≤ 4096) (hN : ZNears ops ops.length) {M : Nat} (hM : MaxTo ops M ops.length) :
    Full (modAt ⟨List.replicate M 0, []⟩ ops ops.length) (opsT (newTab 0 0) ops ops.length) := by
  have hlen : ∀ j, (modAt ⟨List.replicate M 0, []⟩ ops j).arr.length = M := fun j => by rw [(modAt_len j).2]; simp
  have h0 : HOk (Mod.mk (List.replicate M 0) []).hs := fun e he => nomatch he
  have h1 : AOk (Mod.mk (List.replicate M 0) []).arr := fun a ha => by rw [List.eq_of_mem_replicate ha]; exact is64_zero
  refine ⟨rel_ops (Rel.new M) hk (fun o ho hi => ?_) (fun j => by rw [hlen j]; simp) _, (modAt_ok h0 h1 hk _).1, (modAt_ok h0 h1 hk _).2, ⟨_, ?_, opsT_ok (Ok.new 0 0) hN _⟩⟩
  · have := hM o (by rw [List.take_length]; exact ho) hi
    simpa using this
  · omega
end Go.Lua
