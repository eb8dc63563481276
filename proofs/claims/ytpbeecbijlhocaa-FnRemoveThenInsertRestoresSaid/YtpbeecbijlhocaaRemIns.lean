/-
  n005_156: FnRemoveThenInsertRestores.
-/
import Derived.Test.YtpbeecbijlhocaaFill
namespace Go.Lua
open Go.Proofs Go.RowKit
set_option linter.unusedVariables false

set_option maxHeartbeats 1000000 in
theorem bytes_remIns (w : World) (p : Option Addr) (n c : Nat) (pos : Int) (h : n ≤ maxLen) : Calls Try.prog 20 #[.slice p n c, .int .i64 pos] w (Yn w) := by
  unfold maxLen at h
  go_enter Try.func20, Try.ntmps20
  go_wp2
  all_goals (go_ret; first | exact ⟨rfl, .inl rfl⟩ | exact ⟨rfl, .inr rfl⟩)

set_option maxRecDepth 100000 in
set_option maxHeartbeats 4000000 in
theorem remIns_walk (w : World) (v : Value) (xs : List Int) (h : IsInts .i64 w v xs) (pos : Int) (hp : (Lit.int .i64 pos).wf = true) : Calls Try.prog 4 #[v, .int .i64 pos] w (Fine w) := by
  have CL := Lib.hid h
  obtain ⟨p, c, rfl, k, m, hn, g⟩ := h.1.form
  have hwf := h.2
  simp only [List.length_map] at *
  have CB := Lib.hid (bytes_remIns w p xs.length c pos (Nat.le_trans k m))
  unfold maxLen at m
  have hp2 := is64_of_wf hp
  unfold Is64 at hp2
  have G := Lib.hid g
  have K := Lib.hid hwf
  clear h g hn hwf hp
  by_cases h1 : pos < 1
  · go_enter Try.func4, Try.ntmps4
    go_wp2_with (first
      | (go_at_call 20; refine CB.out.mono ?_; rintro e w1 ⟨rfl, rfl | rfl⟩))
    all_goals (go_ret; exact ⟨rfl, Below.refl _ _⟩)
  · by_cases h2 : pos > xs.length
    · go_enter Try.func4, Try.ntmps4
      go_wp2_with (first
        | (go_at_call 20; refine CB.out.mono ?_; rintro e w1 ⟨rfl, rfl | rfl⟩))
      all_goals (go_ret; exact ⟨rfl, Below.refl _ _⟩)
    · go_enter Try.func4, Try.ntmps4
      go_wp2_with (first
        | (go_at_call 20; refine CB.out.mono ?_; rintro e w1 ⟨rfl, rfl | rfl⟩)
        | (go_at_call 11; refine (new_any _).mono ?_; intro e w1 hf; obtain ⟨rfl, hR⟩ := Has.fresh hf; clear hf))
      all_goals first | (go_ret; exact ⟨rfl, Below.refl _ _⟩) | skip
      go_loopw [7] (FillW w w.heap.size xs) (fun i _ => (xs.length - intOf i).toNat)
      case atStart => exact ⟨0, Nat.zero_le _, rfl, _, Fl.start xs, hR⟩
      case round =>
        clear hR
        obtain ⟨j, hj, rfl, T, hF, hH⟩ := hrel
        by_cases hlt : (j : Int) < xs.length
        · obtain ⟨x, hx⟩ : ∃ x, xs[j]? = some x := ⟨xs[j]'(by omega), by simp⟩
          obtain ⟨a, rfl, hc⟩ := G.out j (.int .i64 x) (by simp [hx])
          have d0 := old_at hH.2 hc
          have D := Lib.hid (set_slot wr _ _ _ hH.1 ((j : Int) + 1) (by omega) (by omega) (hF.alen (by omega)) x)
          have HF := Lib.hid (hF.next hx (by omega))
          have HH := Lib.hid hH
          clear hx hH hF hc
          go_wp2_with (first
            | (go_at_call 21; refine D.out.mono ?_; intro e w2 hu; obtain ⟨rfl, hR⟩ := HH.out.step hu; clear hu))
          go_roundw
          case rel => exact ⟨j + 1, by omega, by go_num, _, HF.out, hR⟩
          case measure => exact meas (by omega)
        · have hje : j = xs.length := by omega
          subst hje
          have hok := hF.ok
          have har := hF.full
          have hk : kM xs pos = pos - 1 := by unfold kM; rw [if_neg (by omega), if_neg (by omega)]
          have hrem := removeAt_vals xs pos
          rw [hk, show pos - 1 + 1 = pos by omega] at hrem
          have D := remove_any wr _ T _ hH.1 hok.lv pos (by unfold Is64; omega)
          rw [har, hrem] at D
          obtain ⟨i, hi⟩ : ∃ i : Nat, pos - 1 = i := ⟨(pos - 1).toNat, by omega⟩
          obtain ⟨x, hx⟩ : ∃ x, xs[i]? = some x := ⟨xs[i]'(by omega), by simp⟩
          obtain ⟨a, rfl, hc⟩ := G.out i (.int .i64 x) (by simp [hx])
          have hax : atM xs pos = x := by rw [show pos = (i : Int) + 1 by omega]; exact atM_succ hx
          rw [hax] at D
          have D := Lib.hid D
          have B := Lib.hid (fun (o : Option (List Value)) (ho : o.getD [] = (leftM xs (pos - 1)).map val) => back hok (by omega) (by omega) (by omega) ho)
          rw [hax] at B
          have S := Lib.hid (same_yes · x (is64_of_wf (K.out x (List.mem_of_getElem? hx))))
          have HA := Lib.hid har
          have HX := Lib.hid hax
          have HH := Lib.hid hH
          have HO := Lib.hid hok
          clear hH hF hok har hk hrem hx hax
          go_wp2_with (first
            | (go_at_call 22; refine D.out.mono ?_; rintro e w2 ⟨o, ho, hg⟩; obtain ⟨rfl, hR⟩ := HH.out.gives hg; clear hg; have d2 := old_at hR.2 hc; obtain ⟨q1, q2, q3⟩ := B.out o ho; have E := Lib.hid (insert_any w2 _ _ _ hR.1 (q1.wf (by omega)) q1.lv (by have := q1.alen; omega) pos (by omega) (by omega) (val x) (lvOk_val _)); have HR := Lib.hid hR; have Q2 := Lib.hid q2; have Q3 := Lib.hid q3; clear hR ho q1 q2 q3)
            | (go_at_call 15; with_reducible refine (S.out _).mono ?_; rintro e w3 ⟨rfl, rfl⟩)
            | (go_at_call 23; refine E.out.mono ?_; intro e w4 hu; obtain ⟨rfl, hR⟩ := HR.out.step hu; clear hu))
          have q2 := Q2.out
          have q3 := Q3.out
          generalize Tab.insert _ pos (val x) = T3 at hR q2 q3
          have CN := Lib.hid (fun (wq : World) (Fq : Nat → Prop) (h : TabAt wq w.heap.size T3 Fq) => h.maxN q2 (border_ofList q3))
          have CG := Lib.hid (fun (wq : World) (Fq : Nat → Prop) (h : TabAt wq w.heap.size T3 Fq) (k : Int) (hk : Is64 k) => h.getInt k hk (av_ofList q3 k))
          clear Q2 Q3 E HR S B D HA HX HH HO q2 q3 hc
          go_loopw [9] (ReadW w w.heap.size T3 xs.length) (fun i _ => (xs.length - intOf i).toNat)
          case atStart => exact ⟨0, Nat.zero_le _, rfl, hR⟩
          case round =>
            clear hR
            obtain ⟨j, hj, rfl, hH⟩ := hrel
            by_cases hlt2 : (j : Int) < xs.length
            · obtain ⟨y, hy⟩ : ∃ y, xs[j]? = some y := ⟨xs[j]'(by omega), by simp⟩
              obtain ⟨a', ha', hc⟩ := G.out j (.int .i64 y) (by simp [hy])
              obtain rfl : a = a' := Option.some.inj ha'
              have d0 := old_at hH.2 hc
              have C1 := Lib.hid (fun n => atM_succ hy ▸ CG.out _ _ (hH.drewN n).1 ((j : Int) + 1) (by unfold Is64; omega))
              have C2 := Lib.hid (same_yes · y (is64_of_wf (K.out y (List.mem_of_getElem? hy))))
              have HH := Lib.hid hH
              clear hy hH hc ha'
              go_wp2_with fail
              go_quiet ((first
                | (go_at_call 19; exact quiet_left (C1.out _))
                | (go_at_call 15; exact quiet_left (C2.out _))))
              go_wp2_with fail
              go_roundw
              case rel => exact ⟨j + 1, by omega, by go_num, HH.out.drewN _⟩
              case measure => exact meas (by omega)
            · have C1 := Lib.hid (CG.out _ _ hH.1 ((xs.length : Int) + 1) (by unfold Is64; omega))
              rw [atM_far (by omega)] at C1
              have C2 := Lib.hid (same_yes wr 0 (by unfold Is64; omega))
              have C3 := Lib.hid (CN.out _ _ hH.1)
              have C4 := Lib.hid (lastNZ_any wr _ xs ⟨CL.out.1.below (none_below hH.2) (Nat.le_refl _), K.out⟩)
              have HB := Lib.hid (none_below hH.2)
              clear hH
              go_wp2_with (first
                | (go_at_call 19; refine C1.out.mono ?_; rintro e w2 ⟨rfl, rfl⟩)
                | (go_at_call 15; refine C2.out.mono ?_; rintro e w2 ⟨rfl, rfl⟩)
                | (go_at_call 24; refine C3.out.mono ?_; rintro e w2 ⟨rfl, rfl⟩)
                | (go_at_call 25; refine C4.out.mono ?_; rintro e w2 ⟨rfl, rfl⟩))
              go_ret
              exact ⟨rfl, HB.out⟩
end Go.Lua
