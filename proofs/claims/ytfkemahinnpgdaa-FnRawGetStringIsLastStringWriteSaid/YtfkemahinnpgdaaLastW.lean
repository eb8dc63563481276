/-
  n005_23: FnRawGetStringIsLastStringWrite.
-/
import Derived.Test.YtfkemahinnpgdaaApply
namespace Go.Lua
open Go.Proofs Go.RowKit Go.Deep
set_option linter.unusedVariables false

set_option maxHeartbeats 1000000 in
theorem bytes_lastW (w : World) (v : Value) (ops : List ZOp) (h : IsZOps w v ops) (s : ByteArray) (hs : s.size ≤ maxLen) :
    Calls Try.prog 17 #[v, .string s] w (YnIf (Hid (ZShort ops ops.length)) w) := by
  obtain ⟨p, c, rfl, k, m, hn, g⟩ := h.1.form
  have hok := h.2
  simp only [List.length_map] at *
  unfold maxLen at m hs
  have hxl : (ops.length : Int) ≤ 9223372036854775807 := by omega
  have G := Lib.hid g
  have K := Lib.hid hok
  clear h g hn k m hok
  go_enter Try.func17, Try.ntmps17
  go_wp2
  all_goals first | (go_ret; exact ⟨rfl, .inl rfl⟩) | skip
  go_loop [5, 6] (fun z i => ∃ (j : Nat) (n : Int), j ≤ ops.length ∧ i = .int .i64 j ∧ z = .int .i64 n ∧ 0 ≤ n ∧ n ≤ 1048576 ∧ Hid (ZShort ops j)) (fun _ i => (ops.length - intOf i).toNat)
  case atStart =>
    refine ⟨0, _, Nat.zero_le _, rfl, rfl, ?_, ?_, Lib.hid (ZShort.zero _)⟩ <;> omega
  case round =>
    obtain ⟨j, n, hj, rfl, rfl, hn0, hn1, hS⟩ := hrel
    by_cases hlt : (j : Int) < ops.length
    · obtain ⟨o, ho⟩ : ∃ o, ops[j]? = some o := ⟨ops[j]'(by omega), by simp⟩
      obtain ⟨a, rfl, -, -, d2, -⟩ := zop_cells G.out (Upd.refl _ w) ho
      have hz := (K.out o (List.mem_of_getElem? ho)).2.2.1
      unfold maxLen at hz
      have HO := Lib.hid ho
      clear ho
      go_wp2
      all_goals first | (go_ret; exact ⟨rfl, .inl rfl⟩) | skip
      go_round
      case rel => exact ⟨j + 1, _, by omega, by go_num, rfl, by omega, by omega, Lib.hid (hS.out.next HO.out (by omega))⟩
      case measure => exact meas (by omega)
    · have hje : j = ops.length := by omega
      subst hje
      go_wp2
      all_goals first | (go_ret; exact ⟨rfl, .inl rfl⟩) | (go_ret; exact ⟨rfl, .inr ⟨rfl, trivial⟩⟩)

set_option maxHeartbeats 2000000 in
theorem lastW_walk (w : World) (v : Value) (ops : List ZOp) (h : IsZOps w v ops) (s : ByteArray) (hs : s.size ≤ maxLen) : Calls Try.prog 4 #[v, .string s] w (Fine w) := by
  have CB := Lib.hid (bytes_lastW w v ops h s hs)
  have H0 := Lib.hid h
  unfold maxLen at hs
  have hs0 : (0 : Int) ≤ s.size := by omega
  go_enter Try.func4, Try.ntmps4
  go_wp2_with (first
    | (go_at_call 17; refine CB.out.mono ?_; rintro e w1 ⟨rfl, rfl | ⟨rfl, HS⟩⟩)
    | (go_at_call 10; refine (tooBig_any _ _ ops H0.out HS _ (by omega) (by omega)).mono ?_; rintro e w1 ⟨rfl, rfl | ⟨rfl, hl, HN⟩⟩)
    | (go_at_call 12; refine (new_any _).mono ?_; intro e w1 hf; obtain ⟨rfl, hR⟩ := Has.fresh hf; clear hf)
    | (go_at_call 13; refine (apply_any w1 w _ _ hR 0 (Ok.new 0 0) (by omega) _ ops H0.out hl HN).mono ?_; rintro e w2 ⟨rfl, hR2⟩; have hsv := opsT_sv (T0 := newTab 0 0) (ops := ops) (s := s) (sv_new 0 0 s) ops.length; have C1 := rawGetString_any w2 _ _ _ hR2.1 s; have C1 : Calls Try.prog 18 #[.pointer (some ⟨w.heap.size, 0, none⟩), .string s] w2 fun e w' => e = .returned (val (lastZ ops s ops.length)) ∧ w2 = w' := hsv ▸ C1; have C1 := Lib.hid C1; have C2 := Lib.hid (lastW_any w2 _ ops ⟨H0.out.1.below (none_below hR2.2) (Nat.le_refl _), H0.out.2⟩ s); have C3 := Lib.hid (holds_yes w2 (lastZ ops s ops.length) (lastZ_fit H0.out.2 s _)); have HB := Lib.hid (none_below hR2.2); clear hR hR2 hsv)
    | (go_at_call 18; refine C1.out.mono ?_; rintro e w3 ⟨rfl, rfl⟩)
    | (go_at_call 20; refine C2.out.mono ?_; rintro e w3 ⟨rfl, rfl⟩)
    | (go_at_call 19; refine C3.out.mono ?_; rintro e w3 ⟨rfl, rfl⟩))
  all_goals first | (go_ret; exact ⟨rfl, Below.refl _ _⟩) | (go_ret; exact ⟨rfl, HB.out⟩)
end Go.Lua
