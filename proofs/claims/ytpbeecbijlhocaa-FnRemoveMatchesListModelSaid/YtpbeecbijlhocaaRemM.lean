/-
  n005_156: FnRemoveMatchesListModel.
-/
import Derived.Test.YtpbeecbijlhocaaFill
import Derived.OwnWalk
import Derived.Deep.DeepAppendRoom
namespace Go.Lua
open Go.Proofs Go.RowKit
set_option linter.unusedVariables false

set_option maxHeartbeats 1000000 in
theorem bytes_remM (w : World) (p : Option Addr) (n c : Nat) (pos : Int) (h : n ≤ maxLen) : Calls Try.prog 31 #[.slice p n c, .int .i64 pos] w (Yn w) := by
  unfold maxLen at h
  go_enter Try.func31, Try.ntmps31
  go_wp2
  all_goals (go_ret; first | exact ⟨rfl, .inl rfl⟩ | exact ⟨rfl, .inr rfl⟩)

/-- The collecting loop's word. -/
def RestW (wm : World) (xs : List Int) (k : Int) (want rest i : Value) (wr : World) : Prop :=
  ∃ j : Nat, j ≤ xs.length ∧ i = .int .i64 j ∧ want = .int .i64 (wantU xs k j) ∧
    (∃ n, rest = .slice (some ⟨wm.heap.size, 0, none⟩) n xs.length ∧ n ≤ j ∧ wr.ownsRow wm.heap.size 2 1 (.slice (some ⟨wm.heap.size, 0, none⟩) n xs.length) n ((restU xs k j).map (Value.int .i64))) ∧ Upd (fun _ => False) wm wr
def RestW2 (wm : World) (n : Nat) (i : Value) (wr : World) : Prop := ∃ j : Nat, j ≤ n ∧ i = .int .i64 j ∧ Upd (fun _ => False) wm wr

set_option maxRecDepth 100000 in
set_option maxHeartbeats 4000000 in
theorem remM_walk (w : World) (v : Value) (xs : List Int) (h : IsInts .i64 w v xs) (pos : Int) (hp : (Lit.int .i64 pos).wf = true) : Calls Try.prog 7 #[v, .int .i64 pos] w (Fine w) := by
  have CL := Lib.hid h
  obtain ⟨p, c, rfl, k, m, hn, g⟩ := h.1.form
  have hwf := h.2
  simp only [List.length_map] at *
  have CB := Lib.hid (bytes_remM w p xs.length c pos (Nat.le_trans k m))
  unfold maxLen at m
  have hp2 := is64_of_wf hp
  unfold Is64 at hp2
  obtain ⟨hp3, hp4⟩ := hp2
  have G := Lib.hid g
  have K := Lib.hid hwf
  clear h g hn hwf hp
  go_enter Try.func7, Try.ntmps7
  go_wp2_with (first
    | (go_at_call 31; refine CB.out.mono ?_; rintro e w1 ⟨rfl, rfl | rfl⟩)
    | (go_at_call 11; refine (new_any _).mono ?_; intro e w1 hf; obtain ⟨rfl, hR⟩ := Has.fresh hf; clear hf))
  all_goals first | (go_ret; exact ⟨rfl, Below.refl _ _⟩) | skip
  go_loopw [7] (FillW w w.heap.size xs) (fun i _ => (xs.length - intOf i).toNat)
  case atStart => exact ⟨0, Nat.zero_le _, rfl, _, Fl.start xs, hR⟩
  case round =>
    clear hR
    obtain ⟨j, hj, rfl, T, hF, hH⟩ := hrel
    by_cases hlt : (j : Int) < xs.length
    · obtain ⟨x, hx⟩ : ∃ x, xs[j]? = some x := ⟨xs[j]'(by omega), by simp⟩
      obtain ⟨a, rfl, hc⟩ := G.out j (.int .i64 x) (by simp [hx])
      have d0 := old_at hH.2 hc
      have D := Lib.hid (set_slot wr _ _ _ hH.1 ((j : Int) + 1) (by omega) (by omega) (hF.alen (by omega)) x)
      have HF := Lib.hid (hF.next hx (by omega))
      have HH := Lib.hid hH
      clear hx hH hF hc
      go_wp2_with (first
        | (go_at_call 21; refine D.out.mono ?_; intro e w2 hu; obtain ⟨rfl, hR⟩ := HH.out.step hu; clear hu))
      go_roundw
      case rel => exact ⟨j + 1, by omega, by go_num, _, HF.out, hR⟩
      case measure => exact meas (by omega)
    · have hje : j = xs.length := by omega
      subst hje
      have hok := hF.ok
      have hrem := removeAt_vals xs pos
      have D := remove_any wr _ T _ hH.1 hok.lv pos ⟨hp3, hp4⟩
      rw [hF.full, hrem] at D
      have D := Lib.hid D
      have HO := Lib.hid hok
      have HH := Lib.hid hH
      clear hH hF hok hrem
      obtain ⟨kk, hkk⟩ : ∃ kk, kk = kM xs pos := ⟨_, rfl⟩
      have hkr := kM_range xs pos
      rw [← hkk] at D hkr
      have hk2 := hkk
      unfold kM at hk2
      have HK := Lib.hid hk2
      clear hk2 hkk
      go_upto_if 41 with (first
        | (go_at_call 22; refine D.out.mono ?_; rintro e w2 ⟨o, ho, hg⟩; obtain ⟨rfl, hR⟩ := HH.out.gives hg; clear hg; have HO2 := Lib.hid ho; clear ho))
      go_cut [9] (fun q wx => q = .int .i64 kk ∧ wx = w2)
      case first =>
        have hk := HK.out
        clear HK HO2 hR D HO HH
        by_cases e1 : 0 < (xs.length : Int)
        · by_cases e2 : 1 ≤ pos
          · by_cases e3 : pos ≤ xs.length
            · have HQ : Hid (Value.int .i64 (pos - 1) = .int .i64 kk) := Lib.hid (by rw [hk, if_neg (by omega), if_neg (by omega)])
              clear hk
              go_wp2_with fail
              go_meet
              case rel => exact ⟨HQ.out, rfl⟩
            · have HQ : Hid (Value.int .i64 (-1) = .int .i64 kk) := Lib.hid (by rw [hk, if_pos (.inr (.inr (by omega)))])
              clear hk
              have e4 : decide (pos ≤ (xs.length : Int)) = false := by simpa using e3
              have e5 : ¬ pos ≤ 0 := by omega
              go_wp2_with fail
              go_meet
              case rel => exact ⟨HQ.out, rfl⟩
          · by_cases e3 : pos = -9223372036854775808
            · have HQ : Hid (Value.int .i64 (-1) = .int .i64 kk) := Lib.hid (by rw [hk, if_pos (.inr (.inl e3))])
              have e4 : pos ≤ 0 := by omega
              have e5 : (pos != -9223372036854775808) = false := by simpa using e3
              clear hk e3
              go_wp2_with fail
              go_meet
              case rel => exact ⟨HQ.out, rfl⟩
            · have HQ : Hid (Value.int .i64 ((xs.length : Int) - 1) = .int .i64 kk) := Lib.hid (by rw [hk, if_neg (by omega), if_pos (by omega)])
              have e4 : pos ≤ 0 := by omega
              have e5 : (pos != -9223372036854775808) = true := by simpa using e3
              clear hk e3
              go_wp2_with fail
              go_meet
              case rel => exact ⟨HQ.out, rfl⟩
        · have HQ : Hid (Value.int .i64 (-1) = .int .i64 kk) := Lib.hid (by rw [hk, if_pos (.inl (by omega))])
          clear hk
          go_wp2_with fail
          go_meet
          case rel => exact ⟨HQ.out, rfl⟩
      case rest =>
        obtain ⟨rfl, rfl⟩ := hcut
        obtain ⟨i0, hi, hz0, hz1, hz2⟩ := info_parts int_info
        have q2 : Ok { T with arr := o } 0 := HO.out.ofList rfl rfl HO2.out (Nat.le_trans (leftM_length _ _) (by omega))
        have q3 : ({ T with arr := o } : Tab).arr.getD [] = (leftM xs kk).map val := HO2.out
        generalize ({ T with arr := o } : Tab) = T3 at hR q2 q3
        have CN := Lib.hid (fun (wq : World) (Fq : Nat → Prop) (h : TabAt wq w.heap.size T3 Fq) => h.maxN q2 (border_ofList q3))
        have CG := Lib.hid (fun (wq : World) (Fq : Nat → Prop) (h : TabAt wq w.heap.size T3 Fq) (k : Int) (hk : Is64 k) => h.getInt k hk (av_ofList q3 k))
        have HR := Lib.hid hR
        have hU := hR.2
        clear HO HO2 D HH HK hR q2 q3
        go_wp2_with (first
          | (at_make; refine wpList_make_own _ rfl _ _ 41 rfl wc.heap.size 2 i0 (.int .i64 0) 1 Try.underlying41 hi hz0 hz1 .i64 .i64 _ xs.length rfl rfl rfl (by rw [hz2]; omega) (by unfold maxLen; omega) (Nat.le_refl _) ?_; intro w3 hown0 hgrow0))
        go_loopw [10, 11, 12] (RestW wc xs kk) (fun _ _ i _ => (xs.length - intOf i).toNat)
        case atStart => exact ⟨0, Nat.zero_le _, rfl, by rw [wantU_zero], ⟨0, rfl, Nat.le_refl _, by rw [restU_zero]; exact hown0⟩, none_grown (Upd.refl _ _) hgrow0 (fun k e => by cases e)⟩
        case round =>
          clear hown0 hgrow0
          obtain ⟨j, hj, rfl, rfl, ⟨n, rfl, hnj, hown⟩, hu⟩ := hrel
          by_cases hlt2 : (j : Int) < xs.length
          · obtain ⟨x, hx⟩ : ∃ x, xs[j]? = some x := ⟨xs[j]'(by omega), by simp⟩
            obtain ⟨a, rfl, hc⟩ := G.out j (.int .i64 x) (by simp [hx])
            have d0 := old_at (none_trans hU hu) hc
            by_cases he : (j : Int) = kk
            · have HE := Lib.hid he
              have e1 : ((j : Int) == kk) = true := by simpa using he
              have HX := Lib.hid hx
              have HU := Lib.hid hu
              have HW := Lib.hid hown
              clear hx he hc hu hown
              go_wp2_with fail
              go_roundw
              case rel => exact ⟨j + 1, by omega, by go_num, by rw [wantU_same HX.out HE.out], ⟨n, rfl, by omega, by rw [restU_same HX.out HE.out]; exact HW.out⟩, HU.out⟩
              case measure => exact meas (by omega)
            · have HE := Lib.hid he
              have e1 : ((j : Int) == kk) = false := by simpa using he
              have HX := Lib.hid hx
              have HU := Lib.hid hu
              clear hx he hc hu
              go_wp2_with (first
                | (at_builtin; refine wpList_append_own_spare _ rfl (.tmp 73) (.tmp 78) 41 rfl wc.heap.size 2 i0 1 Try.underlying41 hi hz1 wc.heap.size n xs.length _ rfl (hown.alloc _) ⟨wr.heap.size, 0, none⟩ 1 1 [.int .i64 x] rfl rfl (news1 wr _ _) (by simp [Value.oneCell']) (by omega) ?_; intro w4 hown1 hgrow1))
              go_roundw
              case rel =>
                refine ⟨j + 1, by omega, by go_num, by rw [wantU_next HE.out], ⟨n + 1, by rfl, by omega, ?_⟩, ?_⟩
                · rw [restU_next HX.out HE.out, List.map_append]; exact hown1
                · exact none_grown (HU.out.alloc _) hgrow1 (fun k e => by cases e; exact Nat.le_refl _)
              case measure => exact meas (by omega)
          · have hje : j = xs.length := by omega
            subst hje
            rw [restU_end hkr] at hown
            have hn2 := hown.1
            rw [List.length_map, Nat.mul_one] at hn2
            have hsl := owned_isSl hown
            have hw1 := wantU_end hkr
            have C2 := same_yes wr (wantU xs kk xs.length) (by rw [hw1]; exact wf_fit K.out _)
            rw [show val (wantU xs kk xs.length) = val (atM xs (kk + 1)) by rw [hw1]] at C2
            have C2 := Lib.hid C2
            have hlf := leftM_fit K.out kk
            generalize leftM xs kk = ys at hown hsl hn2 CG CN hlf
            have HW := Lib.hid hown
            have HS := Lib.hid hsl
            have HU := Lib.hid hu
            have HF := Lib.hid hlf
            clear hw1 hown hsl hu hlf
            go_wp2_with (first
              | (go_at_call 15; with_reducible refine C2.out.mono ?_; rintro e w3 ⟨rfl, rfl⟩))
            obtain ⟨wq, rfl⟩ : ∃ wq : World, wq = wr := ⟨_, rfl⟩
            go_loopw [13] (RestW2 wq n) (fun i _ => (n - intOf i).toNat)
            case atStart => exact ⟨0, Nat.zero_le _, rfl, Upd.refl _ _⟩
            case round =>
              obtain ⟨j, hj2, rfl, hu2⟩ := hrel
              have hH := HR.out.other (none_trans HU.out hu2)
              by_cases hlt3 : (j : Int) < n
              · obtain ⟨y, hy⟩ : ∃ y, ys[j]? = some y := ⟨ys[j]'(by omega), by simp⟩
                have hc := HW.out.cellAt j (by omega)
                rw [List.getElem?_map, hy] at hc
                have d0 := old_at hu2 hc
                have C1 := Lib.hid (fun q => atM_succ hy ▸ CG.out _ _ (hH.drewN q).1 ((j : Int) + 1) (by unfold Is64; omega))
                have C3 := Lib.hid (same_yes · y (is64_of_wf (HF.out y (List.mem_of_getElem? hy))))
                have HU2 := Lib.hid hu2
                clear hy hH hc hu2
                go_wp2_with fail
                go_quiet ((first
                  | (go_at_call 19; exact quiet_left (C1.out _))
                  | (go_at_call 15; exact quiet_left (C3.out _))))
                go_wp2_with fail
                go_roundw
                case rel => exact ⟨j + 1, by omega, by go_num, HU2.out.drewN _⟩
                case measure => exact meas (by omega)
              · have C1 := CG.out _ _ hH.1 ((n : Int) + 1) (by unfold Is64; omega)
                rw [atM_far (by omega)] at C1
                have C1 := Lib.hid C1
                have C4 := Lib.hid (same_yes wr 0 (by unfold Is64; omega))
                have C3 := Lib.hid (CN.out _ _ hH.1)
                have C5 := Lib.hid (lastNZ_any wr _ ys ⟨HS.out.below (none_below hu2) (Nat.le_refl _), HF.out⟩)
                have HB := Lib.hid (none_below hH.2)
                clear hH hu2
                go_wp2_with (first
                  | (go_at_call 19; refine C1.out.mono ?_; rintro e w2 ⟨rfl, rfl⟩)
                  | (go_at_call 15; with_reducible refine C4.out.mono ?_; rintro e w2 ⟨rfl, rfl⟩)
                  | (go_at_call 24; refine C3.out.mono ?_; rintro e w2 ⟨rfl, rfl⟩)
                  | (go_at_call 25; refine C5.out.mono ?_; rintro e w2 ⟨rfl, rfl⟩))
                go_ret
                exact ⟨rfl, HB.out⟩
end Go.Lua
