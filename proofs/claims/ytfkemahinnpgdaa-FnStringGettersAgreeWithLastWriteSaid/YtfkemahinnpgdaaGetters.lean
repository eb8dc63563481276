/-
  n005_23: FnStringGettersAgreeWithLastWrite.
-/
import Derived.Test.YtfkemahinnpgdaaApply
namespace Go.Lua
open Go.Proofs Go.RowKit Go.Deep
set_option linter.unusedVariables false

def PShort (ss : List ByteArray) (j : Nat) : Prop := ∀ s ∈ ss.take j, s.size ≤ 1048576
theorem PShort.zero (ss : List ByteArray) : PShort ss 0 := by unfold PShort; simp
theorem PShort.next {ss : List ByteArray} {j : Nat} {s : ByteArray} (h : PShort ss j) (ho : ss[j]? = some s) (hs : s.size ≤ 1048576) : PShort ss (j + 1) := by
  intro x hx
  obtain ⟨hj, rfl⟩ := List.getElem?_eq_some_iff.1 ho
  rw [List.take_succ_eq_append_getElem hj] at hx
  rcases List.mem_append.1 hx with hx | hx
  · exact h x hx
  · rw [List.mem_singleton.1 hx]; exact hs
theorem PShort.at {ss : List ByteArray} (h : PShort ss ss.length) {j : Nat} {s : ByteArray} (ho : ss[j]? = some s) : s.size ≤ 1048576 :=
  h s (by rw [List.take_length]; exact List.mem_of_getElem? ho)

set_option maxHeartbeats 2000000 in
theorem bytes_getters (w : World) (v : Value) (ops : List ZOp) (h : IsZOps w v ops) (v1 : Value) (ss : List ByteArray) (h1 : IsStrs w v1 ss) :
    Calls Try.prog 24 #[v, v1] w (YnIf (Hid (ZShort ops ops.length ∧ PShort ss ss.length)) w) := by
  obtain ⟨p, c, rfl, k, m, hn, g⟩ := h.1.form
  obtain ⟨p1, c1, rfl, k1, m1, hn1, g1⟩ := h1.1.form
  have hok := h.2
  have hok1 := h1.2
  simp only [List.length_map] at *
  unfold maxLen at m m1
  have hxl : (ops.length : Int) ≤ 9223372036854775807 := by omega
  have hxl1 : (ss.length : Int) ≤ 9223372036854775807 := by omega
  have G := Lib.hid g
  have K := Lib.hid hok
  have G1 := Lib.hid g1
  have K1 := Lib.hid hok1
  clear h g hn k m hok h1 g1 hn1 k1 m1 hok1
  go_enter Try.func24, Try.ntmps24
  go_wp2
  all_goals first | (go_ret; exact ⟨rfl, .inl rfl⟩) | skip
  go_loop [5, 6] (fun z i => ∃ (j : Nat) (n : Int), j ≤ ops.length ∧ i = .int .i64 j ∧ z = .int .i64 n ∧ 0 ≤ n ∧ n ≤ 1048576 ∧ Hid (ZShort ops j)) (fun _ i => (ops.length - intOf i).toNat)
  case atStart =>
    refine ⟨0, _, Nat.zero_le _, rfl, rfl, ?_, ?_, Lib.hid (ZShort.zero _)⟩ <;> omega
  case round =>
    obtain ⟨j, n, hj, rfl, rfl, hn0, hn1, hS⟩ := hrel
    by_cases hlt : (j : Int) < ops.length
    · obtain ⟨o, ho⟩ : ∃ o, ops[j]? = some o := ⟨ops[j]'(by omega), by simp⟩
      obtain ⟨a, rfl, -, -, d2, -⟩ := zop_cells G.out (Upd.refl _ w) ho
      have hz := (K.out o (List.mem_of_getElem? ho)).2.2.1
      unfold maxLen at hz
      have HO := Lib.hid ho
      clear ho
      go_wp2
      all_goals first | (go_ret; exact ⟨rfl, .inl rfl⟩) | skip
      go_round
      case rel => exact ⟨j + 1, _, by omega, by go_num, rfl, by omega, by omega, Lib.hid (hS.out.next HO.out (by omega))⟩
      case measure => exact meas (by omega)
    · have hje : j = ops.length := by omega
      subst hje
      go_wp2
      all_goals first | (go_ret; exact ⟨rfl, .inl rfl⟩) | skip
      go_loop [5, 7] (fun z i => ∃ (j : Nat) (n : Int), j ≤ ss.length ∧ i = .int .i64 j ∧ z = .int .i64 n ∧ 0 ≤ n ∧ n ≤ 1048576 ∧ Hid (PShort ss j)) (fun _ i => (ss.length - intOf i).toNat)
      case atStart =>
        refine ⟨0, _, Nat.zero_le _, rfl, rfl, ?_, ?_, Lib.hid (PShort.zero _)⟩ <;> omega
      case round =>
        obtain ⟨j, n1, hj, rfl, rfl, hn0, hn1, hS1⟩ := hrel
        by_cases hlt : (j : Int) < ss.length
        · obtain ⟨s, ho⟩ : ∃ s, ss[j]? = some s := ⟨ss[j]'(by omega), by simp⟩
          obtain ⟨a, rfl, d0⟩ := G1.out j (.string s) (by simp [ho])
          have hz := (K1.out s (List.mem_of_getElem? ho))
          unfold maxLen at hz
          have HO := Lib.hid ho
          clear ho
          go_wp2
          all_goals first | (go_ret; exact ⟨rfl, .inl rfl⟩) | skip
          go_round
          case rel => exact ⟨j + 1, _, by omega, by go_num, rfl, by omega, by omega, Lib.hid (hS1.out.next HO.out (by omega))⟩
          case measure => exact meas (by omega)
        · have hje : j = ss.length := by omega
          subst hje
          go_wp2
          go_ret
          exact ⟨rfl, .inr ⟨rfl, Lib.hid ⟨hS.out, hS1.out⟩⟩⟩

def GtW (w : World) (t : Nat) (T : Tab) (n : Nat) (i : Value) (wr : World) : Prop := ∃ j : Nat, j ≤ n ∧ i = .int .i64 j ∧ Has w t T wr

set_option maxRecDepth 100000 in
set_option maxHeartbeats 8000000 in
theorem getters_walk (w : World) (v : Value) (ops : List ZOp) (h : IsZOps w v ops) (v1 : Value) (ss : List ByteArray) (h1 : IsStrs w v1 ss) : Calls Try.prog 6 #[v, v1] w (Fine w) := by
  have CB := Lib.hid (bytes_getters w v ops h v1 ss h1)
  have H0 := Lib.hid h
  have H1 := Lib.hid h1
  obtain ⟨p, c, rfl, k, m, hn, g⟩ := h.1.form
  obtain ⟨p1, c1, rfl, k1, m1, hn1, g1⟩ := h1.1.form
  simp only [List.length_map] at *
  unfold maxLen at m m1
  have hxl : (ops.length : Int) ≤ 9223372036854775807 := by omega
  have hxl1 : (ss.length : Int) ≤ 9223372036854775807 := by omega
  have G := Lib.hid g
  have G1 := Lib.hid g1
  clear h g hn k m h1 g1 hn1 k1 m1
  go_enter Try.func6, Try.ntmps6
  go_wp2_with (first
    | (go_at_call 24; refine CB.out.mono ?_; rintro e w1 ⟨rfl, rfl | ⟨rfl, HS⟩⟩))
  all_goals first | (go_ret; exact ⟨rfl, Below.refl _ _⟩) | skip
  have HS1 := Lib.hid HS.out.1
  have HS2 := Lib.hid HS.out.2
  clear HS
  go_loop [5, 6] (fun z i => ∃ (j : Nat) (n : Int), j ≤ ss.length ∧ i = .int .i64 j ∧ z = .int .i64 n ∧ 0 ≤ n ∧ n ≤ 1048576) (fun _ i => (ss.length - intOf i).toNat)
  case atStart =>
    refine ⟨0, _, Nat.zero_le _, rfl, rfl, ?_, ?_⟩ <;> omega
  case round =>
    obtain ⟨j, n, hj, rfl, rfl, hn0, hn1⟩ := hrel
    by_cases hlt : (j : Int) < ss.length
    · obtain ⟨s, ho⟩ : ∃ s, ss[j]? = some s := ⟨ss[j]'(by omega), by simp⟩
      obtain ⟨a, rfl, d0⟩ := G1.out j (.string s) (by simp [ho])
      have hz := HS2.out.at ho
      clear ho
      go_wp2
      all_goals first | (go_ret; exact ⟨rfl, Below.refl _ _⟩) | skip
      go_round
      case rel => exact ⟨j + 1, _, by omega, by go_num, rfl, by omega, by omega⟩
      case measure => exact meas (by omega)
    · go_wp2_with (first
        | (go_at_call 10; refine (tooBig_any _ _ ops H0.out HS1 _ (by omega) (by omega)).mono ?_; rintro e w1 ⟨rfl, rfl | ⟨rfl, hl, HN⟩⟩)
        | (go_at_call 12; refine (new_any _).mono ?_; intro e w1 hf; obtain ⟨rfl, hR⟩ := Has.fresh hf; clear hf)
        | (go_at_call 13; refine (apply_any w1 w _ _ hR 0 (Ok.new 0 0) (by omega) _ ops H0.out hl HN).mono ?_; rintro e w2 ⟨rfl, hR2⟩; clear hR))
      all_goals first | (go_ret; exact ⟨rfl, Below.refl _ _⟩) | skip
      have HSV := Lib.hid (fun s => opsT_sv (T0 := newTab 0 0) (ops := ops) (s := s) (sv_new 0 0 s) ops.length)
      generalize opsT (newTab 0 0) ops ops.length = T at hR2 HSV
      have CG := Lib.hid (fun (wq : World) (hq : Has w w.heap.size T wq) (s : ByteArray) => show Calls Try.prog 18 #[.pointer (some ⟨w.heap.size, 0, none⟩), .string s] wq fun e w' => e = .returned (val (lastZ ops s ops.length)) ∧ wq = w' from HSV.out s ▸ rawGetString_any wq _ _ _ hq.1 s)
      have CR := Lib.hid (fun (wq : World) (hq : Has w w.heap.size T wq) (s : ByteArray) => show Calls Try.prog 25 #[.pointer (some ⟨w.heap.size, 0, none⟩), lstr s] wq fun e w' => e = .returned (val (lastZ ops s ops.length)) ∧ wq = w' from HSV.out s ▸ rawGet_str wq _ _ _ hq.1 s)
      have CH := Lib.hid (fun (wq : World) (hq : Has w w.heap.size T wq) (s : ByteArray) => show Calls Try.prog 26 #[.pointer (some ⟨w.heap.size, 0, none⟩), lstr s] wq fun e w' => e = .returned (val (lastZ ops s ops.length)) ∧ wq = w' from HSV.out s ▸ rawGetH_str wq _ _ _ hq.1 s)
      go_loopw [8] (GtW w w.heap.size T ss.length) (fun i _ => (ss.length - intOf i).toNat)
      case atStart => exact ⟨0, Nat.zero_le _, rfl, hR2⟩
      case round =>
        clear hR2
        obtain ⟨j, hj, rfl, hH⟩ := hrel
        by_cases hlt : (j : Int) < ss.length
        · obtain ⟨s, ho⟩ : ∃ s, ss[j]? = some s := ⟨ss[j]'(by omega), by simp⟩
          obtain ⟨a, rfl, hc0⟩ := G1.out j (.string s) (by simp [ho])
          have d0 := old_at hH.2 hc0
          have C1 := Lib.hid (CG.out wr hH s)
          have C2 := Lib.hid (CR.out wr hH s)
          have C3 := Lib.hid (CH.out wr hH s)
          have C4 := Lib.hid (lastW_any wr _ ops ⟨H0.out.1.below (none_below hH.2) (Nat.le_refl _), H0.out.2⟩ s)
          have C5 := Lib.hid (holds_yes wr (lastZ ops s ops.length) (lastZ_fit H0.out.2 s _))
          have HH := Lib.hid hH
          clear ho hH hc0
          go_wp2_with (first
            | (go_at_call 20; refine C4.out.mono ?_; rintro e w3 ⟨rfl, rfl⟩)
            | (go_at_call 18; refine C1.out.mono ?_; rintro e w3 ⟨rfl, rfl⟩)
            | (go_at_call 25; refine C2.out.mono ?_; rintro e w3 ⟨rfl, rfl⟩)
            | (go_at_call 26; refine C3.out.mono ?_; rintro e w3 ⟨rfl, rfl⟩)
            | (go_at_call 19; refine C5.out.mono ?_; rintro e w3 ⟨rfl, rfl⟩))
          go_roundw
          case rel => exact ⟨j + 1, by omega, by go_num, HH.out⟩
          case measure => exact meas (by omega)
        · go_wp2_with fail
          go_loopw [10] (GtW w w.heap.size T ops.length) (fun i _ => (ops.length - intOf i).toNat)
          case atStart => exact ⟨0, Nat.zero_le _, rfl, hH⟩
          case round =>
            clear hH
            obtain ⟨j, hj, rfl, hH⟩ := hrel
            by_cases hlt : (j : Int) < ops.length
            · obtain ⟨o, ho⟩ : ∃ o, ops[j]? = some o := ⟨ops[j]'(by omega), by simp⟩
              obtain ⟨a, rfl, -, -, d0, -⟩ := zop_cells G.out hH.2 ho
              have C1 := Lib.hid (CG.out wr hH o.s)
              have C2 := Lib.hid (CR.out wr hH o.s)
              have C3 := Lib.hid (CH.out wr hH o.s)
              have C4 := Lib.hid (lastW_any wr _ ops ⟨H0.out.1.below (none_below hH.2) (Nat.le_refl _), H0.out.2⟩ o.s)
              have C5 := Lib.hid (holds_yes wr (lastZ ops o.s ops.length) (lastZ_fit H0.out.2 o.s _))
              have HH := Lib.hid hH
              clear ho hH
              go_wp2_with (first
                | (go_at_call 20; refine C4.out.mono ?_; rintro e w3 ⟨rfl, rfl⟩)
                | (go_at_call 18; refine C1.out.mono ?_; rintro e w3 ⟨rfl, rfl⟩)
                | (go_at_call 25; refine C2.out.mono ?_; rintro e w3 ⟨rfl, rfl⟩)
                | (go_at_call 26; refine C3.out.mono ?_; rintro e w3 ⟨rfl, rfl⟩)
                | (go_at_call 19; refine C5.out.mono ?_; rintro e w3 ⟨rfl, rfl⟩))
              go_roundw
              case rel => exact ⟨j + 1, by omega, by go_num, HH.out⟩
              case measure => exact meas (by omega)
            · have HB := Lib.hid (none_below hH.2)
              clear hH
              go_wp2
              go_ret
              exact ⟨rfl, HB.out⟩
end Go.Lua
