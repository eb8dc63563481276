/-
  n005_156: FnRawSetStringScriptMatchesMapModel.
-/
import Derived.Test.YtpbeecbijlhocaaStrOps
namespace Go.Lua
open Go.Proofs Go.RowKit Go.Deep
set_option linter.unusedVariables false

set_option maxHeartbeats 1000000 in
theorem bytes_str (w : World) (v : Value) (ops : List SOp) (h : IsSOps w v ops) :
    Calls Try.prog 29 #[v] w (YnIf (Hid (Short ops ops.length)) w) := by
  obtain ⟨p, c, rfl, k, m, hn, g⟩ := h.1.form
  have hok := h.2
  simp only [List.length_map] at *
  unfold maxLen at m
  have hxl : (ops.length : Int) ≤ 9223372036854775807 := by omega
  have G := Lib.hid g
  have K := Lib.hid hok
  clear h g hn k m hok
  go_enter Try.func29, Try.ntmps29
  go_wp2
  all_goals first | (go_ret; exact ⟨rfl, .inl rfl⟩) | skip
  go_loop [3, 4] (fun z i => ∃ (j : Nat) (n : Int), j ≤ ops.length ∧ i = .int .i64 j ∧ z = .int .i64 n ∧ 0 ≤ n ∧ n ≤ 1048576 ∧ Hid (Short ops j)) (fun _ i => (ops.length - intOf i).toNat)
  case atStart => exact ⟨0, ops.length, Nat.zero_le _, rfl, rfl, by omega, by omega, Lib.hid (by unfold Short; simp)⟩
  case round =>
    obtain ⟨j, n, hj, rfl, rfl, hn0, hn1, hS⟩ := hrel
    by_cases hlt : (j : Int) < ops.length
    · obtain ⟨o, ho⟩ : ∃ o, ops[j]? = some o := ⟨ops[j]'(by omega), by simp⟩
      obtain ⟨a, rfl, d0, -⟩ := sop_cells G.out (Upd.refl _ w) ho
      have hs := (K.out o (List.mem_of_getElem? ho)).1
      unfold maxLen at hs
      have HO := Lib.hid ho
      clear ho
      go_wp2
      all_goals first | (go_ret; exact ⟨rfl, .inl rfl⟩) | skip
      go_round
      case rel => exact ⟨j + 1, _, by omega, by go_num, rfl, by omega, by omega, Lib.hid (hS.out.next HO.out (by omega))⟩
      case measure => exact meas (by omega)
    · have hje : j = ops.length := by omega
      subst hje
      go_wp2
      go_ret
      exact ⟨rfl, .inr ⟨rfl, trivial⟩⟩

/-- The loops' words. -/
def StrW (w : World) (t : Nat) (ops : List SOp) (i : Value) (wr : World) : Prop := ∃ j : Nat, j ≤ ops.length ∧ i = .int .i64 j ∧ Has w t (strT (newTab 0 0) ops j) wr
def StrW2 (w : World) (t : Nat) (ops : List SOp) (j : Value) (wr : World) : Prop := ∃ q : Nat, q ≤ ops.length ∧ j = .int .i64 q ∧ Has w t (strT (newTab 0 0) ops ops.length) wr
def StrW3 (w : World) (t : Nat) (ops : List SOp) (s : ByteArray) (q : Nat) (want i : Value) (wr : World) : Prop := ∃ j : Nat, q + 1 ≤ j ∧ j ≤ ops.length ∧ i = .int .i64 j ∧ want = .int .i64 (lastS ops s j) ∧ Has w t (strT (newTab 0 0) ops ops.length) wr

set_option maxRecDepth 100000 in
set_option maxHeartbeats 4000000 in
theorem str_walk (w : World) (v : Value) (ops : List SOp) (h : IsSOps w v ops) : Calls Try.prog 6 #[v] w (Fine w) := by
  have CB := Lib.hid (bytes_str w v ops h)
  obtain ⟨p, c, rfl, k, m, hn, g⟩ := h.1.form
  have hok := h.2
  simp only [List.length_map] at *
  unfold maxLen at m
  have hxl : (ops.length : Int) ≤ 9223372036854775807 := by omega
  have G := Lib.hid g
  have K := Lib.hid hok
  clear h g hn k m hok
  go_enter Try.func6, Try.ntmps6
  go_wp2_with (first
    | (go_at_call 29; refine CB.out.mono ?_; rintro e w1 ⟨rfl, rfl | ⟨rfl, HS⟩⟩))
  all_goals first | (go_ret; exact ⟨rfl, Below.refl _ _⟩) | skip
  go_loop [3, 4] (fun z i => ∃ (j : Nat) (n : Int), j ≤ ops.length ∧ i = .int .i64 j ∧ z = .int .i64 n ∧ 0 ≤ n ∧ n ≤ 1048576) (fun _ i => (ops.length - intOf i).toNat)
  case atStart => exact ⟨0, 0, Nat.zero_le _, rfl, rfl, by omega, by omega⟩
  case round =>
    obtain ⟨j, n, hj, rfl, rfl, hn0, hn1⟩ := hrel
    by_cases hlt : (j : Int) < ops.length
    · obtain ⟨o, ho⟩ : ∃ o, ops[j]? = some o := ⟨ops[j]'(by omega), by simp⟩
      obtain ⟨a, rfl, d0, -⟩ := sop_cells G.out (Upd.refl _ w) ho
      have hs := HS.out.at (by omega) ho
      clear ho
      go_wp2
      all_goals first | (go_ret; exact ⟨rfl, Below.refl _ _⟩) | skip
      go_round
      case rel => exact ⟨j + 1, _, by omega, by go_num, rfl, by omega, by omega⟩
      case measure => exact meas (by omega)
    · clear hn0 hn1
      go_wp2_with (first
        | (go_at_call 11; refine (new_any _).mono ?_; intro e w1 hf; obtain ⟨rfl, hR⟩ := Has.fresh hf; clear hf))
      go_loopw [6] (StrW w w.heap.size ops) (fun i _ => (ops.length - intOf i).toNat)
      case atStart => exact ⟨0, Nat.zero_le _, rfl, hR⟩
      case round =>
        clear hR
        obtain ⟨j, hj, rfl, hH⟩ := hrel
        by_cases hlt : (j : Int) < ops.length
        · obtain ⟨o, ho⟩ : ∃ o, ops[j]? = some o := ⟨ops[j]'(by omega), by simp⟩
          obtain ⟨a, rfl, d0, d1⟩ := sop_cells G.out hH.2 ho
          have hs := (K.out o (List.mem_of_getElem? ho)).1
          unfold maxLen at hs
          have D := Lib.hid (setStr_via wr.drew w.heap.size o.1 o.2 _ (rawSetString_any wr.drew _ _ _ hH.drew.1 ((strT_ok (Ok.new 0 0) ops j).wf (by omega)) o.1 (val o.2) (lvOk_val _)))
          have HT := Lib.hid (strT_step (T0 := newTab 0 0) ho)
          have HH := Lib.hid hH
          clear ho hH
          go_wp2_with fail
          go_still_tail 11, (by kernel_rfl)
          have e0 : wr.drew.cell? (a.add (j * 2)) = some (.string o.1) := d0
          have e1 : wr.drew.cell? ⟨(a.add (j * 2)).block, (a.add (j * 2)).off + 1, none⟩ = some (.int .i64 o.2) := d1
          change wpList _ _ _ _ _ wr.drew
          go_wp2_with (first
            | (go_at_call 30; refine D.out.mono ?_; rintro e w2 ⟨rfl, hq⟩; obtain ⟨-, hR⟩ := HH.out.drew.step ⟨rfl, hq⟩; clear hq))
          go_roundw
          case rel => exact ⟨j + 1, by omega, by go_num, HT.out ▸ hR⟩
          case measure => exact meas (by omega)
        · have hje : j = ops.length := by omega
          subst hje
          have HH := Lib.hid hH
          clear hH hj hlt
          go_wp2_with fail
          go_loopw [7] (StrW2 w w.heap.size ops) (fun i _ => (ops.length - intOf i).toNat)
          case atStart => exact ⟨0, Nat.zero_le _, rfl, HH.out⟩
          case round =>
            clear HH
            obtain ⟨q, hq, rfl, hH⟩ := hrel
            by_cases hlt : (q : Int) < ops.length
            · obtain ⟨o, ho⟩ : ∃ o, ops[q]? = some o := ⟨ops[q]'(by omega), by simp⟩
              obtain ⟨a, rfl, d0, d1⟩ := sop_cells G.out hH.2 ho
              have HO := Lib.hid ho
              have HH := Lib.hid hH
              have hs1 := lastS_here ho
              have hs : Hid (Value.int .i64 (lastS ops o.1 (q + 1)) = .int .i64 o.2) := Lib.hid (by rw [hs1])
              clear ho hH hs1
              go_wp2_with fail
              go_loopw [8, 9] (StrW3 w w.heap.size ops o.1 q) (fun _ i _ => (ops.length - intOf i).toNat)
              case atStart => exact ⟨q + 1, Nat.le_refl _, by omega, by go_num, hs.out.symm, HH.out⟩
              case round =>
                clear d0 d1 HH
                obtain ⟨j, hj1, hj2, rfl, rfl, hH⟩ := hrel
                by_cases hlt2 : (j : Int) < ops.length
                · obtain ⟨o2, ho2⟩ : ∃ o2, ops[j]? = some o2 := ⟨ops[j]'(by omega), by simp⟩
                  obtain ⟨a', ha', d0, d1⟩ := sop_cells G.out hH.2 ho2
                  obtain rfl : a = a' := Option.some.inj ha'
                  obtain ⟨a', ha', d2, d3⟩ := sop_cells G.out hH.2 HO.out
                  obtain rfl : a = a' := Option.some.inj ha'
                  have hst := lastS_step (s := o.1) ho2
                  have HH := Lib.hid hH
                  clear ho2 hH ha' d3
                  by_cases he : (o2.1 == o.1) = true
                  · rw [if_pos he] at hst
                    rw [bytes_list] at he
                    have HS2 := Lib.hid hst
                    clear hst
                    go_wp2_with fail
                    go_quiet (fail)
                    go_wp2_with fail
                    go_roundw
                    case rel => exact ⟨j + 1, by omega, by omega, by go_num, by rw [HS2.out], HH.out.drewN _⟩
                    case measure => exact meas (by omega)
                  · rw [if_neg he] at hst
                    have HS2 := Lib.hid hst
                    rw [Bool.not_eq_true, bytes_list] at he
                    clear hst
                    go_wp2_with fail
                    go_quiet (fail)
                    go_wp2_with fail
                    go_roundw
                    case rel => exact ⟨j + 1, by omega, by omega, by go_num, by rw [HS2.out], HH.out.drewN _⟩
                    case measure => exact meas (by omega)
                · have hje : j = ops.length := by omega
                  subst hje
                  obtain ⟨a', ha', d0, d1⟩ := sop_cells G.out hH.2 HO.out
                  obtain rfl : a = a' := Option.some.inj ha'
                  have hsv := strT_sv (newTab 0 0) ops o.1 (sv_new 0 0 _) ops.length
                  have C1 := Lib.hid (hH.1.getStr o.1 hsv)
                  have C2 := Lib.hid (hH.1.getHStr o.1 hsv)
                  have C3 := Lib.hid (same_yes wr (lastS ops o.1 ops.length) (lastS_fit K.out _ _))
                  have HH := Lib.hid hH
                  clear hH hsv ha'
                  go_wp2_with (first
                    | (go_at_call 16; refine C1.out.mono ?_; rintro e w2 ⟨rfl, rfl⟩)
                    | (go_at_call 17; refine C2.out.mono ?_; rintro e w2 ⟨rfl, rfl⟩)
                    | (go_at_call 15; refine C3.out.mono ?_; rintro e w2 ⟨rfl, rfl⟩))
                  go_roundw
                  case rel => exact ⟨q + 1, by omega, by go_num, HH.out⟩
                  case measure => exact meas (by omega)
            · have hok := strT_ok (Ok.new 0 0) ops ops.length
              have ha := strT_arr (newTab 0 0) ops ops.length
              have hb : border ((strT (newTab 0 0) ops ops.length).arr.getD []) = 0 := by rw [ha]; rfl
              have C1 := Lib.hid (hH.1.getInt 1 (by unfold Is64; omega) (u := val 0) (by unfold Tab.av; rw [ha]; rfl))
              have C2 := Lib.hid (hH.1.maxN hok hb)
              have C4 := Lib.hid (hH.1.len hok hb)
              have C3 := Lib.hid (same_yes wr 0 (by unfold Is64; omega))
              have HB := Lib.hid (none_below hH.2)
              clear hH hok ha hb
              go_wp2_with (first
                | (go_at_call 19; refine C1.out.mono ?_; rintro e w2 ⟨rfl, rfl⟩)
                | (go_at_call 24; refine C2.out.mono ?_; rintro e w2 ⟨rfl, rfl⟩)
                | (go_at_call 28; refine C4.out.mono ?_; rintro e w2 ⟨rfl, rfl⟩)
                | (go_at_call 15; refine C3.out.mono ?_; rintro e w2 ⟨rfl, rfl⟩))
              go_ret
              exact ⟨rfl, HB.out⟩
end Go.Lua
