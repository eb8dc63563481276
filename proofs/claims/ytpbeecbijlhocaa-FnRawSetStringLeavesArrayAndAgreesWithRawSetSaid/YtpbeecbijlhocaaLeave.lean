/-
  n005_156: FnRawSetStringLeavesArrayAndAgreesWithRawSet.
-/
import Derived.Test.YtpbeecbijlhocaaFill
import Derived.Test.YtpbeecbijlhocaaStrOps
namespace Go.Lua
open Go.Proofs Go.RowKit Go.Deep
set_option linter.unusedVariables false

set_option maxHeartbeats 1000000 in
theorem bytes_leave (w : World) (p : Option Addr) (n c : Nat) (hn : n ≤ maxLen) (v : Value) (ops : List SOp) (h : IsSOps w v ops) :
    Calls Try.prog 33 #[.slice p n c, v] w (YnIf (Hid (Short ops ops.length)) w) := by
  obtain ⟨p, c, rfl, k, m, hn, g⟩ := h.1.form
  have hok := h.2
  simp only [List.length_map] at *
  unfold maxLen at *
  have hxl : (ops.length : Int) ≤ 9223372036854775807 := by omega
  have G := Lib.hid g
  have K := Lib.hid hok
  clear h g hn k m hok
  go_enter Try.func33, Try.ntmps33
  go_wp2
  all_goals first | (go_ret; exact ⟨rfl, .inl rfl⟩) | skip
  go_loop [5, 6] (fun z i => ∃ (j : Nat) (n : Int), j ≤ ops.length ∧ i = .int .i64 j ∧ z = .int .i64 n ∧ 0 ≤ n ∧ n ≤ 1048576 ∧ Hid (Short ops j)) (fun _ i => (ops.length - intOf i).toNat)
  case atStart =>
    refine ⟨0, _, Nat.zero_le _, rfl, rfl, ?_, ?_, Lib.hid (by unfold Short; simp)⟩ <;> omega
  case round =>
    obtain ⟨j, n, hj, rfl, rfl, hn0, hn1, hS⟩ := hrel
    by_cases hlt : (j : Int) < ops.length
    · obtain ⟨o, ho⟩ : ∃ o, ops[j]? = some o := ⟨ops[j]'(by omega), by simp⟩
      obtain ⟨a, rfl, d0, -⟩ := sop_cells G.out (Upd.refl _ w) ho
      have hs := (K.out o (List.mem_of_getElem? ho)).1
      unfold maxLen at hs
      have HO := Lib.hid ho
      clear ho
      go_wp2
      all_goals first | (go_ret; exact ⟨rfl, .inl rfl⟩) | skip
      go_round
      case rel => exact ⟨j + 1, _, by omega, by go_num, rfl, by omega, by omega, Lib.hid (hS.out.next HO.out (by omega))⟩
      case measure => exact meas (by omega)
    · have hje : j = ops.length := by omega
      subst hje
      go_wp2
      go_ret
      exact ⟨rfl, .inr ⟨rfl, trivial⟩⟩

/-- The loops' words: both tables hold the same. -/
def LvW (w : World) (t1 t2 : Nat) (xs : List Int) (i : Value) (wr : World) : Prop := ∃ j : Nat, j ≤ xs.length ∧ i = .int .i64 j ∧ ∃ T, Fl xs j T ∧ Two w t1 T t2 T wr
def LvW2 (w : World) (t1 t2 : Nat) (T : Tab) (ops : List SOp) (i : Value) (wr : World) : Prop := ∃ j : Nat, j ≤ ops.length ∧ i = .int .i64 j ∧ Two w t1 (strT T ops j) t2 (strT T ops j) wr
def LvW3 (w : World) (t1 t2 : Nat) (T : Tab) (n : Nat) (i : Value) (wr : World) : Prop := ∃ j : Nat, j ≤ n ∧ i = .int .i64 j ∧ Two w t1 T t2 T wr
def LvW4 (w : World) (t1 t2 : Nat) (T : Tab) (ops : List SOp) (s : ByteArray) (q : Nat) (want i : Value) (wr : World) : Prop := ∃ j : Nat, q + 1 ≤ j ∧ j ≤ ops.length ∧ i = .int .i64 j ∧ want = .int .i64 (lastS ops s j) ∧ Two w t1 T t2 T wr

set_option maxRecDepth 100000 in
set_option maxHeartbeats 8000000 in
theorem leave_walk (w : World) (v0 : Value) (xs : List Int) (h0 : IsInts .i64 w v0 xs) (v : Value) (ops : List SOp) (h : IsSOps w v ops) : Calls Try.prog 9 #[v0, v] w (Fine w) := by
  have CL := Lib.hid h0
  obtain ⟨p0, c0, rfl, k0, m0, hn0, g0⟩ := h0.1.form
  have hwf := h0.2
  simp only [List.length_map] at *
  have CB := Lib.hid (bytes_leave w p0 xs.length c0 (Nat.le_trans k0 m0) v ops h)
  obtain ⟨p, c, rfl, k, m, hn, g⟩ := h.1.form
  have hok := h.2
  simp only [List.length_map] at *
  unfold maxLen at m m0
  have hxl : (ops.length : Int) ≤ 9223372036854775807 := by omega
  have hxl0 : (xs.length : Int) ≤ 9223372036854775807 := by omega
  have G := Lib.hid g
  have K := Lib.hid hok
  have G0 := Lib.hid g0
  have K0 := Lib.hid hwf
  clear h g hn k m hok h0 g0 hn0 hwf k0 m0
  by_cases hc1 : xs.length ≤ 4096 ∧ ops.length ≤ 4096
  case neg =>
    by_cases hc2 : (4096 : Int) < xs.length
    · go_enter Try.func9, Try.ntmps9
      go_wp2_with (first
        | (go_at_call 33; refine CB.out.mono ?_; rintro e w1 ⟨rfl, rfl | ⟨rfl, HS⟩⟩))
      all_goals (go_ret; exact ⟨rfl, Below.refl _ _⟩)
    · have hc3 : (4096 : Int) < ops.length := by omega
      clear hc1
      go_enter Try.func9, Try.ntmps9
      go_wp2_with (first
        | (go_at_call 33; refine CB.out.mono ?_; rintro e w1 ⟨rfl, rfl | ⟨rfl, HS⟩⟩))
      all_goals (go_ret; exact ⟨rfl, Below.refl _ _⟩)
  case pos =>
    obtain ⟨hc2, hc3⟩ := hc1
    have hc4 : ¬ (4096 : Int) < xs.length := by omega
    have hc5 : ¬ (4096 : Int) < ops.length := by omega
    go_enter Try.func9, Try.ntmps9
    go_wp2_with (first
      | (go_at_call 33; refine CB.out.mono ?_; rintro e w1 ⟨rfl, rfl | ⟨rfl, HS⟩⟩))
    all_goals first | (go_ret; exact ⟨rfl, Below.refl _ _⟩) | skip
    go_loop [5, 6] (fun z i => ∃ (j : Nat) (n : Int), j ≤ ops.length ∧ i = .int .i64 j ∧ z = .int .i64 n ∧ 0 ≤ n ∧ n ≤ 1048576) (fun _ i => (ops.length - intOf i).toNat)
    case atStart =>
      refine ⟨0, _, Nat.zero_le _, rfl, rfl, ?_, ?_⟩ <;> omega
    case round =>
      obtain ⟨j, n, hj, rfl, rfl, hn0, hn1⟩ := hrel
      by_cases hlt : (j : Int) < ops.length
      · obtain ⟨o, ho⟩ : ∃ o, ops[j]? = some o := ⟨ops[j]'(by omega), by simp⟩
        obtain ⟨a, rfl, d0, -⟩ := sop_cells G.out (Upd.refl _ w) ho
        have hs := HS.out.at (by omega) ho
        clear ho
        go_wp2
        all_goals first | (go_ret; exact ⟨rfl, Below.refl _ _⟩) | skip
        go_round
        case rel => exact ⟨j + 1, _, by omega, by go_num, rfl, by omega, by omega⟩
        case measure => exact meas (by omega)
      · clear hn0 hn1
        go_wp2_with (first
          | (go_at_call 11; refine (new_any w).mono ?_; intro e w1 hf; obtain ⟨rfl, hR⟩ := Has.fresh hf; clear hf)
          | (go_at_call 11; refine (new_any w1).mono ?_; intro e w2 hf; obtain ⟨rfl, hR2⟩ := Two.make hR hf; clear hf hR))
        go_loopw [10] (LvW w w.heap.size w1.heap.size xs) (fun i _ => (xs.length - intOf i).toNat)
        case atStart => exact ⟨0, Nat.zero_le _, rfl, _, Fl.start xs, hR2⟩
        case round =>
          clear hR2
          obtain ⟨j, hj, rfl, T, hF, hH⟩ := hrel
          by_cases hlt : (j : Int) < xs.length
          · obtain ⟨x, hx⟩ : ∃ x, xs[j]? = some x := ⟨xs[j]'(by omega), by simp⟩
            obtain ⟨a, rfl, hc⟩ := G0.out j (.int .i64 x) (by simp [hx])
            have d0 := old_at hH.upd hc
            obtain ⟨F1, hT1, hst⟩ := hH.step1
            have D := Lib.hid (set_slot wr _ _ _ hT1 ((j : Int) + 1) (by omega) (by omega) (hF.alen (by omega)) x)
            have HF := Lib.hid (hF.next hx (by omega))
            have HA := Lib.hid (hF.alen (by omega))
            have HS1 := Lib.hid hst
            clear hx hH hF hT1 hst
            go_wp2_with (first
              | (go_at_call 21; (with_reducible refine D.out.mono ?_); intro e w3 hu; obtain ⟨rfl, hR⟩ := HS1.out _ _ _ hu; have d1 := old_at hR.upd hc; obtain ⟨F2, hT2, hst⟩ := hR.step2; have HS2 := Lib.hid hst; have D2 := Lib.hid (set_slot w3 _ _ _ hT2 ((j : Int) + 1) (by omega) (by omega) HA.out x); clear hu hst hT2 hR)
              | (go_at_call 21; (with_reducible refine D2.out.mono ?_); intro e w4 hu; obtain ⟨rfl, hR⟩ := HS2.out _ _ _ hu; clear hu))
            go_roundw
            case rel => exact ⟨j + 1, by omega, by go_num, _, HF.out, hR⟩
            case measure => exact meas (by omega)
          · have hje : j = xs.length := by omega
            subst hje
            have HF := Lib.hid hF
            clear hF
            go_wp2_with fail
            go_loopw [11] (LvW2 w w.heap.size w1.heap.size T ops) (fun i _ => (ops.length - intOf i).toNat)
            case atStart => exact ⟨0, Nat.zero_le _, rfl, hH⟩
            case round =>
              clear hH
              obtain ⟨j, hj, rfl, hH⟩ := hrel
              by_cases hlt : (j : Int) < ops.length
              · obtain ⟨o, ho⟩ : ∃ o, ops[j]? = some o := ⟨ops[j]'(by omega), by simp⟩
                obtain ⟨a, rfl, -⟩ := sop_cells G.out hH.upd ho
                have HC := Lib.hid (fun (wq : World) (hq : Upd (fun _ => False) w wq) => sop_cells G.out hq ho)
                obtain ⟨a', ha', d0, d1⟩ := HC.out wr hH.upd
                obtain rfl : a = a' := Option.some.inj ha'
                obtain ⟨F1, hT1, hst⟩ := hH.drew.step1
                have hokj := strT_ok HF.out.ok ops j
                have hwfj := hokj.wf (by omega)
                have D := Lib.hid (setStr_via wr.drew w.heap.size o.1 o.2 _ (rawSetString_any wr.drew _ _ _ hT1 hwfj o.1 (val o.2) (lvOk_val _)))
                have HW := Lib.hid hwfj
                have HT := Lib.hid (strT_step (T0 := T) ho)
                have HS1 := Lib.hid hst
                clear ho hH hT1 hst hokj hwfj ha'
                go_wp2_with fail
                go_still_tail 11, (by kernel_rfl)
                have e0 : wr.drew.cell? (a.add (j * 2)) = some (.string o.1) := d0
                have e1 : wr.drew.cell? ⟨(a.add (j * 2)).block, (a.add (j * 2)).off + 1, none⟩ = some (.int .i64 o.2) := d1
                change wpList _ _ _ _ _ wr.drew
                go_wp2_with (first
                  | (go_at_call 30; (with_reducible refine D.out.mono ?_); rintro e w3 ⟨rfl, hq⟩; obtain ⟨-, hR⟩ := HS1.out _ _ _ ⟨rfl, hq⟩; clear hq))
                obtain ⟨a', ha', d0, d1⟩ := HC.out w3 hR.upd
                obtain rfl : a = a' := Option.some.inj ha'
                obtain ⟨F2, hT2, hst⟩ := hR.drew.step2
                have D2 := Lib.hid (setStrRaw_via w3.drew w1.heap.size o.1 o.2 _ (rawSet_str w3.drew _ _ _ hT2 HW.out o.1 (val o.2) (lvOk_val _)))
                have HS2 := Lib.hid hst
                clear hT2 hst hR ha'
                go_still_tail 11, (by kernel_rfl)
                have e0 : w3.drew.cell? (a.add (j * 2)) = some (.string o.1) := d0
                have e1 : w3.drew.cell? ⟨(a.add (j * 2)).block, (a.add (j * 2)).off + 1, none⟩ = some (.int .i64 o.2) := d1
                change wpList _ _ _ _ _ w3.drew
                go_wp2_with (first
                  | (go_at_call 12; (with_reducible refine D2.out.mono ?_); rintro e w4 ⟨rfl, hq⟩; obtain ⟨-, hR⟩ := HS2.out _ _ _ ⟨rfl, hq⟩; clear hq))
                go_roundw
                case rel => exact ⟨j + 1, by omega, by go_num, HT.out ▸ hR⟩
                case measure => exact meas (by omega)
              · have hje : j = ops.length := by omega
                subst hje
                have har : (strT T ops ops.length).arr.getD [] = xs.map val := by rw [strT_arr]; exact HF.out.full
                have hok2 := strT_ok HF.out.ok ops ops.length
                have hsv := fun s => strT_sv T ops s (HF.out.str s) ops.length
                generalize strT T ops ops.length = T2 at hH har hok2 hsv
                have CN := Lib.hid (fun (wq : World) (t : Nat) (Fq : Nat → Prop) (h : TabAt wq t T2 Fq) => h.maxN hok2 (border_ofList har))
                have CG := Lib.hid (fun (wq : World) (t : Nat) (Fq : Nat → Prop) (h : TabAt wq t T2 Fq) (k : Int) (hk : Is64 k) => h.getInt k hk (av_ofList har k))
                have CS := Lib.hid (fun (wq : World) (t : Nat) (Fq : Nat → Prop) (h : TabAt wq t T2 Fq) (s : ByteArray) => h.getStr s (hsv s))
                clear har hok2 hsv
                go_wp2_with fail
                go_loopw [12] (LvW3 w w.heap.size w1.heap.size T2 xs.length) (fun i _ => (xs.length - intOf i).toNat)
                case atStart => exact ⟨0, Nat.zero_le _, rfl, hH⟩
                case round =>
                  clear hH
                  obtain ⟨j, hj, rfl, hH⟩ := hrel
                  by_cases hlt : (j : Int) < xs.length
                  · obtain ⟨y, hy⟩ : ∃ y, xs[j]? = some y := ⟨xs[j]'(by omega), by simp⟩
                    obtain ⟨a, rfl, hc⟩ := G0.out j (.int .i64 y) (by simp [hy])
                    have d0 := old_at hH.upd hc
                    have C1 := Lib.hid (fun q => atM_succ hy ▸ CG.out _ _ _ (hH.drewN q).fst.choose_spec ((j : Int) + 1) (by unfold Is64; omega))
                    have C2 := Lib.hid (fun q => atM_succ hy ▸ CG.out _ _ _ (hH.drewN q).snd.choose_spec ((j : Int) + 1) (by unfold Is64; omega))
                    have C3 := Lib.hid (same_yes · y (is64_of_wf (K0.out y (List.mem_of_getElem? hy))))
                    have HH := Lib.hid hH
                    clear hy hH hc
                    go_wp2_with fail
                    go_quiet ((first
                      | (go_at_call 19; with_reducible exact quiet_left (C1.out _))
                      | (go_at_call 19; with_reducible exact quiet_left (C2.out _))
                      | (go_at_call 15; with_reducible exact quiet_left (C3.out _))))
                    go_wp2_with fail
                    go_roundw
                    case rel => exact ⟨j + 1, by omega, by go_num, HH.out.drewN _⟩
                    case measure => exact meas (by omega)
                  · have C1 := CG.out _ _ _ hH.fst.choose_spec ((xs.length : Int) + 1) (by unfold Is64; omega)
                    rw [atM_far (by omega)] at C1
                    have C1 := Lib.hid C1
                    have C2 := CG.out _ _ _ hH.snd.choose_spec ((xs.length : Int) + 1) (by unfold Is64; omega)
                    rw [atM_far (by omega)] at C2
                    have C2 := Lib.hid C2
                    have C3 := Lib.hid (same_yes wr 0 (by unfold Is64; omega))
                    have C4 := Lib.hid (CN.out _ _ _ hH.fst.choose_spec)
                    have C5 := Lib.hid (CN.out _ _ _ hH.snd.choose_spec)
                    have C6 := Lib.hid (lastNZ_any wr _ xs ⟨CL.out.1.below (none_below hH.upd) (Nat.le_refl _), K0.out⟩)
                    have HH := Lib.hid hH
                    clear hH
                    go_wp2_with (first
                      | (go_at_call 19; (with_reducible refine C1.out.mono ?_); rintro e w2 ⟨rfl, rfl⟩)
                      | (go_at_call 19; (with_reducible refine C2.out.mono ?_); rintro e w2 ⟨rfl, rfl⟩)
                      | (go_at_call 15; (with_reducible refine C3.out.mono ?_); rintro e w2 ⟨rfl, rfl⟩)
                      | (go_at_call 24; (with_reducible refine C4.out.mono ?_); rintro e w2 ⟨rfl, rfl⟩)
                      | (go_at_call 24; (with_reducible refine C5.out.mono ?_); rintro e w2 ⟨rfl, rfl⟩)
                      | (go_at_call 25; (with_reducible refine C6.out.mono ?_); rintro e w2 ⟨rfl, rfl⟩))
                    go_loopw [14] (LvW3 w w.heap.size w1.heap.size T2 ops.length) (fun i _ => (ops.length - intOf i).toNat)
                    case atStart => exact ⟨0, Nat.zero_le _, rfl, HH.out⟩
                    case round =>
                      clear C1 C2 C4 C5 C6 HH
                      obtain ⟨q, hq, rfl, hH⟩ := hrel
                      by_cases hlt : (q : Int) < ops.length
                      · obtain ⟨o, ho⟩ : ∃ o, ops[q]? = some o := ⟨ops[q]'(by omega), by simp⟩
                        obtain ⟨a, rfl, d0, d1⟩ := sop_cells G.out hH.upd ho
                        have HO := Lib.hid ho
                        have HH := Lib.hid hH
                        have hs1 := lastS_here ho
                        have hs : Hid (Value.int .i64 (lastS ops o.1 (q + 1)) = .int .i64 o.2) := Lib.hid (by rw [hs1])
                        clear ho hH hs1
                        go_wp2_with fail
                        go_loopw [15, 16] (LvW4 w w.heap.size w1.heap.size T2 ops o.1 q) (fun _ i _ => (ops.length - intOf i).toNat)
                        case atStart => exact ⟨q + 1, Nat.le_refl _, by omega, by go_num, hs.out.symm, HH.out⟩
                        case round =>
                          clear d0 d1 HH
                          obtain ⟨j, hj1, hj2, rfl, rfl, hH⟩ := hrel
                          by_cases hlt2 : (j : Int) < ops.length
                          · obtain ⟨o2, ho2⟩ : ∃ o2, ops[j]? = some o2 := ⟨ops[j]'(by omega), by simp⟩
                            obtain ⟨a', ha', d0, d1⟩ := sop_cells G.out hH.upd ho2
                            obtain rfl : a = a' := Option.some.inj ha'
                            obtain ⟨a', ha', d2, d3⟩ := sop_cells G.out hH.upd HO.out
                            obtain rfl : a = a' := Option.some.inj ha'
                            have hst := lastS_step (s := o.1) ho2
                            have HH := Lib.hid hH
                            clear ho2 hH ha' d3
                            by_cases he : (o2.1 == o.1) = true
                            · rw [if_pos he] at hst
                              rw [bytes_list] at he
                              have HS2 := Lib.hid hst
                              clear hst
                              go_wp2_with fail
                              go_quiet (fail)
                              go_wp2_with fail
                              go_roundw
                              case rel => exact ⟨j + 1, by omega, by omega, by go_num, by rw [HS2.out], HH.out.drewN _⟩
                              case measure => exact meas (by omega)
                            · rw [if_neg he] at hst
                              have HS2 := Lib.hid hst
                              rw [Bool.not_eq_true, bytes_list] at he
                              clear hst
                              go_wp2_with fail
                              go_quiet (fail)
                              go_wp2_with fail
                              go_roundw
                              case rel => exact ⟨j + 1, by omega, by omega, by go_num, by rw [HS2.out], HH.out.drewN _⟩
                              case measure => exact meas (by omega)
                          · have hje : j = ops.length := by omega
                            subst hje
                            obtain ⟨a', ha', d0, d1⟩ := sop_cells G.out hH.upd HO.out
                            obtain rfl : a = a' := Option.some.inj ha'
                            have C1 := Lib.hid (CS.out _ _ _ hH.fst.choose_spec o.1)
                            have C2 := Lib.hid (CS.out _ _ _ hH.snd.choose_spec o.1)
                            have C3 := Lib.hid (same_yes wr (lastS ops o.1 ops.length) (lastS_fit K.out _ _))
                            have HH := Lib.hid hH
                            clear hH ha'
                            go_wp2_with (first
                              | (go_at_call 16; (with_reducible refine C1.out.mono ?_); rintro e w2 ⟨rfl, rfl⟩)
                              | (go_at_call 16; (with_reducible refine C2.out.mono ?_); rintro e w2 ⟨rfl, rfl⟩)
                              | (go_at_call 15; (with_reducible refine C3.out.mono ?_); rintro e w2 ⟨rfl, rfl⟩))
                            go_roundw
                            case rel => exact ⟨q + 1, by omega, by go_num, HH.out⟩
                            case measure => exact meas (by omega)
                      · have HB := Lib.hid (none_below hH.upd)
                        clear hH
                        go_wp2
                        go_ret
                        exact ⟨rfl, HB.out⟩
end Go.Lua
