/-
  n005_156: FnRawSetScriptMatchesMapModel.
-/
import Derived.Test.YtpbeecbijlhocaaScrOps
namespace Go.Lua
open Go.Proofs Go.RowKit Go.Deep
set_option linter.unusedVariables false

set_option maxHeartbeats 1000000 in
theorem bytes_scr (w : World) (v : Value) (ops : List KOp) (h : IsKOps w v ops) :
    Calls Try.prog 10 #[v] w (YnIf (Hid (KShort ops ops.length)) w) := by
  obtain ⟨p, c, rfl, k, m, hn, g⟩ := h.1.form
  have hok := h.2
  simp only [List.length_map] at *
  unfold maxLen at m
  have hxl : (ops.length : Int) ≤ 9223372036854775807 := by omega
  have G := Lib.hid g
  have K := Lib.hid hok
  clear h g hn k m hok
  go_enter Try.func10, Try.ntmps10
  go_wp2
  all_goals first | (go_ret; exact ⟨rfl, .inl rfl⟩) | skip
  go_loop [3, 4] (fun z i => ∃ (j : Nat) (n : Int), j ≤ ops.length ∧ i = .int .i64 j ∧ z = .int .i64 n ∧ 0 ≤ n ∧ n ≤ 1048576 ∧ Hid (KShort ops j)) (fun _ i => (ops.length - intOf i).toNat)
  case atStart => exact ⟨0, ops.length, Nat.zero_le _, rfl, rfl, by omega, by omega, Lib.hid (by unfold KShort; simp)⟩
  case round =>
    obtain ⟨j, n, hj, rfl, rfl, hn0, hn1, hS⟩ := hrel
    by_cases hlt : (j : Int) < ops.length
    · obtain ⟨o, ho⟩ : ∃ o, ops[j]? = some o := ⟨ops[j]'(by omega), by simp⟩
      obtain ⟨a, rfl, -, -, d2, -⟩ := kop_cells G.out (Upd.refl _ w) ho
      have hs := (K.out o (List.mem_of_getElem? ho)).2.1
      unfold maxLen at hs
      have HO := Lib.hid ho
      clear ho
      go_wp2
      all_goals first | (go_ret; exact ⟨rfl, .inl rfl⟩) | skip
      go_round
      case rel => exact ⟨j + 1, _, by omega, by go_num, rfl, by omega, by omega, Lib.hid (hS.out.next HO.out (by omega))⟩
      case measure => exact meas (by omega)
    · have hje : j = ops.length := by omega
      subst hje
      go_wp2
      go_ret
      exact ⟨rfl, .inr ⟨rfl, trivial⟩⟩

def ScW (w : World) (t : Nat) (ops : List KOp) (i : Value) (wr : World) : Prop := ∃ j : Nat, j ≤ ops.length ∧ i = .int .i64 j ∧ Has w t (keyT ops j) wr
def ScW2 (w : World) (t : Nat) (T : Tab) (n : Nat) (i : Value) (wr : World) : Prop := ∃ j : Nat, j ≤ n ∧ i = .int .i64 j ∧ Has w t T wr
def ScW3 (w : World) (t : Nat) (T : Tab) (ops : List KOp) (o : KOp) (q : Nat) (want i : Value) (wr : World) : Prop := ∃ j : Nat, q + 1 ≤ j ∧ j ≤ ops.length ∧ i = .int .i64 j ∧ want = .int .i64 (lastK ops o j) ∧ Has w t T wr

set_option maxRecDepth 100000 in
set_option maxHeartbeats 8000000 in
theorem scr_walk (w : World) (v : Value) (ops : List KOp) (h : IsKOps w v ops) : Calls Try.prog 3 #[v] w (Fine w) := by
  have CB := Lib.hid (bytes_scr w v ops h)
  obtain ⟨p, c, rfl, k, m, hn, g⟩ := h.1.form
  have hok := h.2
  simp only [List.length_map] at *
  unfold maxLen at m
  have hxl : (ops.length : Int) ≤ 9223372036854775807 := by omega
  have G := Lib.hid g
  have K := Lib.hid hok
  clear h g hn k m hok
  go_enter Try.func3, Try.ntmps3
  go_wp2_with (first
    | (go_at_call 10; refine CB.out.mono ?_; rintro e w1 ⟨rfl, rfl | ⟨rfl, HS⟩⟩))
  all_goals first | (go_ret; exact ⟨rfl, Below.refl _ _⟩) | skip
  go_loop [3, 4] (fun z i => ∃ (j : Nat) (n : Int), j ≤ ops.length ∧ i = .int .i64 j ∧ z = .int .i64 n ∧ 0 ≤ n ∧ n ≤ 1048576) (fun _ i => (ops.length - intOf i).toNat)
  case atStart => exact ⟨0, 0, Nat.zero_le _, rfl, rfl, by omega, by omega⟩
  case round =>
    obtain ⟨j, n, hj, rfl, rfl, hn0, hn1⟩ := hrel
    by_cases hlt : (j : Int) < ops.length
    · obtain ⟨o, ho⟩ : ∃ o, ops[j]? = some o := ⟨ops[j]'(by omega), by simp⟩
      obtain ⟨a, rfl, -, -, d2, -⟩ := kop_cells G.out (Upd.refl _ w) ho
      have hs := HS.out.at (by omega) ho
      clear ho
      go_wp2
      all_goals first | (go_ret; exact ⟨rfl, Below.refl _ _⟩) | skip
      go_round
      case rel => exact ⟨j + 1, _, by omega, by go_num, rfl, by omega, by omega⟩
      case measure => exact meas (by omega)
    · clear hn0 hn1
      go_wp2_with fail
      go_loop [5] (fun i => ∃ (j : Nat), j ≤ ops.length ∧ i = .int .i64 j ∧ Hid (Nears ops j)) (fun i => (ops.length - intOf i).toNat)
      case atStart => exact ⟨0, Nat.zero_le _, rfl, Lib.hid (by unfold Nears; simp)⟩
      case round =>
        obtain ⟨j, hj, rfl, hN⟩ := hrel
        by_cases hlt : (j : Int) < ops.length
        · obtain ⟨o, ho⟩ : ∃ o, ops[j]? = some o := ⟨ops[j]'(by omega), by simp⟩
          obtain ⟨a, rfl, d0, d1, d2, d3⟩ := kop_cells G.out (Upd.refl _ w) ho
          obtain ⟨f1, f2⟩ := (K.out o (List.mem_of_getElem? ho)).fit
          have HO := Lib.hid ho
          clear ho d2 d3
          by_cases hst : o.str = true
          · have HKN : Hid (KNear o) := Lib.hid fun h => by rw [hst] at h; cases h
            rw [hst] at d0
            clear hst
            go_wp2
            go_round
            case rel => exact ⟨j + 1, by omega, by go_num, Lib.hid (hN.out.next HO.out HKN.out)⟩
            case measure => exact meas (by omega)
          · rw [Bool.not_eq_true] at hst
            rw [hst] at d0
            by_cases hev : o.half % 2 = 0
            · obtain ⟨e1, e2⟩ := half_even_words ⟨f1, f2⟩ hev
              obtain ⟨kk, hkk⟩ : ∃ kk, o.half / 2 = kk := ⟨_, rfl⟩
              rw [hkk] at e2
              by_cases hn1 : 65536 < kk
              · by_cases hn2 : kk < 67108864
                · clear hst hev hkk f1 f2
                  go_wp2
                  go_ret
                  exact ⟨rfl, Below.refl _ _⟩
                · have HKN : Hid (KNear o) := Lib.hid fun _ _ => by omega
                  have hn3 : decide (kk < 67108864) = false := by simpa using hn2
                  clear hst hev hkk f1 f2
                  go_wp2
                  go_round
                  case rel => exact ⟨j + 1, by omega, by go_num, Lib.hid (hN.out.next HO.out HKN.out)⟩
                  case measure => exact meas (by omega)
              · have HKN : Hid (KNear o) := Lib.hid fun _ _ => by omega
                have hn3 : decide (65536 < kk) = false := by simpa using hn1
                clear hst hev hkk f1 f2
                go_wp2
                go_round
                case rel => exact ⟨j + 1, by omega, by go_num, Lib.hid (hN.out.next HO.out HKN.out)⟩
                case measure => exact meas (by omega)
            · have HKN : Hid (KNear o) := Lib.hid fun _ h => absurd h hev
              have e1 := half_odd_words hev
              clear hst hev f1 f2
              go_wp2
              go_round
              case rel => exact ⟨j + 1, by omega, by go_num, Lib.hid (hN.out.next HO.out HKN.out)⟩
              case measure => exact meas (by omega)
        · have hje : j = ops.length := by omega
          subst hje
          have HN := hN
          clear hN
          go_wp2_with (first
            | (go_at_call 11; refine (new_any _).mono ?_; intro e w1 hf; obtain ⟨rfl, hR⟩ := Has.fresh hf; clear hf))
          go_loopw [8] (ScW w w.heap.size ops) (fun i _ => (ops.length - intOf i).toNat)
          case atStart => exact ⟨0, Nat.zero_le _, rfl, hR⟩
          case round =>
            clear hR
            obtain ⟨j, hj, rfl, hH⟩ := hrel
            by_cases hlt : (j : Int) < ops.length
            · obtain ⟨o, ho⟩ : ∃ o, ops[j]? = some o := ⟨ops[j]'(by omega), by simp⟩
              obtain ⟨a, rfl, d0, d1, d2, d3⟩ := kop_cells G.out hH.2 ho
              have hko := K.out o (List.mem_of_getElem? ho)
              have hokj := keyT_ok HN.out j
              have HT := Lib.hid (keyT_step ho)
              have HH := Lib.hid hH
              by_cases hst : o.str = true
              · have D := Lib.hid (setStrRaw_via wr.drew w.heap.size o.s o.v _ (rawSet_kstr wr.drew _ _ _ hH.drew.1 hokj (by omega) hst))
                rw [hst] at d0
                clear ho hH hokj hst hko d1
                go_wp2_with fail
                go_still_tail 11, (by kernel_rfl)
                have e0 : wr.drew.cell? (a.add (j * 4)) = some (.bool true) := d0
                have e2 : wr.drew.cell? ⟨(a.add (j * 4)).block, (a.add (j * 4)).off + 2, none⟩ = some (.string o.s) := d2
                have e3 : wr.drew.cell? ⟨(a.add (j * 4)).block, (a.add (j * 4)).off + 3, none⟩ = some (.int .i64 o.v) := d3
                change wpList _ _ _ _ _ wr.drew
                go_wp2_with (first
                  | (go_at_call 12; refine D.out.mono ?_; rintro e w2 ⟨rfl, hq⟩; obtain ⟨-, hR⟩ := HH.out.drew.step ⟨rfl, hq⟩; clear hq))
                go_roundw
                case rel => exact ⟨j + 1, by omega, by go_num, HT.out ▸ hR⟩
                case measure => exact meas (by omega)
              · rw [Bool.not_eq_true] at hst
                have D := Lib.hid (setNumRaw_via wr.drew w.heap.size (halfW o.half) o.v _ (rawSet_half wr.drew _ _ _ hH.drew.1 hokj (by omega) hko hst))
                have hq2 : ∀ t (w : World), (binOp .quo t (.float .f64 (floatOfInt .f64 o.half)) (.float .f64 4611686018427387904)).run Try.prog w = .ok (.float .f64 (halfW o.half)) w := fun t w => run_half hko.fit t w
                obtain ⟨f1, f2⟩ := hko.fit
                rw [hst] at d0
                clear ho hH hokj hst hko d2
                go_wp2_with fail
                go_still_tail 13, (by kernel_rfl)
                have e0 : wr.drew.cell? (a.add (j * 4)) = some (.bool false) := d0
                have e1 : wr.drew.cell? ⟨(a.add (j * 4)).block, (a.add (j * 4)).off + 1, none⟩ = some (.int .i32 o.half) := d1
                have e3 : wr.drew.cell? ⟨(a.add (j * 4)).block, (a.add (j * 4)).off + 3, none⟩ = some (.int .i64 o.v) := d3
                change wpList _ _ _ _ _ wr.drew
                go_wp2_with (first
                  | (go_at_call 13; refine D.out.mono ?_; rintro e w2 ⟨rfl, hq⟩; obtain ⟨-, hR⟩ := HH.out.drew.step ⟨rfl, hq⟩; clear hq)
                  | (simp only [hq2]))
                go_roundw
                case rel => exact ⟨j + 1, by omega, by go_num, HT.out ▸ hR⟩
                case measure => exact meas (by omega)
            · have hje : j = ops.length := by omega
              subst hje
              have HOK := Lib.hid (keyT_ok HN.out ops.length)
              have HG := Lib.hid (fun (q : KOp) (hq : KOp.ok q) => keyT_get K.out hq ops.length)
              go_wp2_with fail
              generalize keyT ops ops.length = T at hH HOK HG
              go_loopw [9] (ScW2 w w.heap.size T ops.length) (fun i _ => (ops.length - intOf i).toNat)
              case atStart => exact ⟨0, Nat.zero_le _, rfl, hH⟩
              case round =>
                clear hH
                obtain ⟨q, hq, rfl, hH⟩ := hrel
                by_cases hlt : (q : Int) < ops.length
                · obtain ⟨o, ho⟩ : ∃ o, ops[q]? = some o := ⟨ops[q]'(by omega), by simp⟩
                  obtain ⟨a, rfl, d0, d1, d2, d3⟩ := kop_cells G.out hH.2 ho
                  have HO := Lib.hid ho
                  have HH := Lib.hid hH
                  have hs1 := lastK_here ho
                  have hs : Hid (Value.int .i64 (lastK ops o (q + 1)) = .int .i64 o.v) := Lib.hid (by rw [hs1])
                  clear ho hH hs1
                  go_wp2_with fail
                  go_loopw [10, 11] (ScW3 w w.heap.size T ops o q) (fun _ i _ => (ops.length - intOf i).toNat)
                  case atStart => exact ⟨q + 1, Nat.le_refl _, by omega, by go_num, hs.out.symm, HH.out⟩
                  case round =>
                    clear d0 d1 d2 d3 HH
                    obtain ⟨j, hj1, hj2, rfl, rfl, hH⟩ := hrel
                    by_cases hlt2 : (j : Int) < ops.length
                    · obtain ⟨o2, ho2⟩ : ∃ o2, ops[j]? = some o2 := ⟨ops[j]'(by omega), by simp⟩
                      obtain ⟨a', ha', b0, b1, b2, b3⟩ := kop_cells G.out hH.2 ho2
                      obtain rfl : a = a' := Option.some.inj ha'
                      obtain ⟨a', ha', d0, d1, d2, d3⟩ := kop_cells G.out hH.2 HO.out
                      obtain rfl : a = a' := Option.some.inj ha'
                      have hst := lastK_step (q := o) ho2
                      have HH := Lib.hid hH
                      have C := Lib.hid (sameSetKey_any wr.drew o2 o)
                      clear ho2 hH ha'
                      go_wp2_with fail
                      go_still_tail 8, (by kernel_rfl)
                      have c3 : wr.drew.cell? ⟨(a.add (j * 4)).block, (a.add (j * 4)).off + 3, none⟩ = some (.int .i64 o2.v) := b3
                      change wpList _ _ _ _ _ wr.drew
                      by_cases he : sameK o2 o = true
                      · rw [if_pos he] at hst
                        rw [he] at C
                        have HS2 := Lib.hid hst
                        have HC3 := Lib.hid c3
                        clear hst he c3 b0 b1 b2 b3 d0 d1 d2 d3
                        go_wp2_with (first
                          | (go_at_call 14; refine C.out.mono ?_; rintro e w2 ⟨rfl, hu⟩; have hR := HH.out.drew.other hu; have c4 := old_at hu HC3.out; clear hu))
                        go_roundw
                        case rel => exact ⟨j + 1, by omega, by omega, by go_num, by rw [HS2.out], hR⟩
                        case measure => exact meas (by omega)
                      · rw [if_neg he] at hst
                        rw [Bool.not_eq_true] at he
                        rw [he] at C
                        have HS2 := Lib.hid hst
                        clear hst he c3 b0 b1 b2 b3 d0 d1 d2 d3
                        go_wp2_with (first
                          | (go_at_call 14; refine C.out.mono ?_; rintro e w2 ⟨rfl, hu⟩; have hR := HH.out.drew.other hu; clear hu))
                        go_roundw
                        case rel => exact ⟨j + 1, by omega, by omega, by go_num, by rw [HS2.out], hR⟩
                        case measure => exact meas (by omega)
                    · have hje : j = ops.length := by omega
                      subst hje
                      obtain ⟨a', ha', d0, d1, d2, d3⟩ := kop_cells G.out hH.2 HO.out
                      obtain rfl : a = a' := Option.some.inj ha'
                      have hko := K.out o (List.mem_of_getElem? HO.out)
                      have hg := HG.out o hko
                      have hfit := lastK_fit K.out o ops.length
                      have C3 := same_yes wr (lastK ops o ops.length) hfit
                      generalize lastK ops o ops.length = wv at hg C3 ⊢
                      have C3 := Lib.hid C3
                      have HH := Lib.hid hH
                      unfold Tab.getK at hg
                      by_cases hst : o.str = true
                      · rw [if_pos hst] at hg
                        rw [hst] at d0
                        have C1 := Lib.hid (hH.1.getStr o.s hg)
                        have C2 := Lib.hid (hH.1.getHStr o.s hg)
                        clear hH ha' hst hg hko hfit d1 d3
                        go_wp2_with (first
                          | (go_at_call 16; refine C1.out.mono ?_; rintro e w2 ⟨rfl, rfl⟩)
                          | (go_at_call 17; refine C2.out.mono ?_; rintro e w2 ⟨rfl, rfl⟩)
                          | (go_at_call 15; (with_reducible refine C3.out.mono ?_); rintro e w2 ⟨rfl, rfl⟩))
                        go_roundw
                        case rel => exact ⟨q + 1, by omega, by go_num, HH.out⟩
                        case measure => exact meas (by omega)
                      · rw [if_neg hst] at hg
                        rw [Bool.not_eq_true] at hst
                        rw [hst] at d0
                        obtain ⟨f1, f2⟩ := hko.fit
                        have hq2 : ∀ t (w : World), (binOp .quo t (.float .f64 (floatOfInt .f64 o.half)) (.float .f64 4611686018427387904)).run Try.prog w = .ok (.float .f64 (halfW o.half)) w := fun t w => run_half hko.fit t w
                        by_cases hev : o.half % 2 = 0
                        · obtain ⟨e1, e2⟩ := half_even_words ⟨f1, f2⟩ hev
                          by_cases hin : InArr (o.half / 2)
                          · rw [if_pos ⟨hev, hin⟩] at hg
                            have hk64 : Is64 (o.half / 2) := by unfold Is64; omega
                            have C0 := inArr_yes wr hin
                            have C1 := hH.1.getInt (o.half / 2) hk64 hg
                            obtain ⟨kk, hkk⟩ : ∃ kk, o.half / 2 = kk := ⟨_, rfl⟩
                            rw [hkk] at e2 C0 C1
                            have C0 := Lib.hid C0
                            have C1 := Lib.hid C1
                            clear hH ha' hst hev hin hg hko hfit d2 d3 hkk hk64 hq2 f1 f2
                            go_wp2_with (first
                              | (go_at_call 18; refine C0.out.mono ?_; rintro e w2 ⟨rfl, rfl⟩)
                              | (go_at_call 19; (with_reducible refine C1.out.mono ?_); rintro e w2 ⟨rfl, rfl⟩)
                              | (go_at_call 15; (with_reducible refine C3.out.mono ?_); rintro e w2 ⟨rfl, rfl⟩))
                            go_roundw
                            case rel => exact ⟨q + 1, by omega, by go_num, HH.out⟩
                            case measure => exact meas (by omega)
                          · rw [if_neg (fun h => hin h.2)] at hg
                            have hk64 : Is64 (o.half / 2) := by unfold Is64; omega
                            have C0 := inArr_no wr hin
                            have hz : T.av (o.half / 2) = val 0 := HOK.out.av_out hin
                            have C1 := hH.1.getInt (o.half / 2) hk64 hz
                            have C2 := Lib.hid (hH.1.getHNum (halfW o.half) hg)
                            have C4 := Lib.hid (same_yes wr 0 (by unfold Is64; omega))
                            obtain ⟨kk, hkk⟩ : ∃ kk, o.half / 2 = kk := ⟨_, rfl⟩
                            rw [hkk] at e2 C0 C1
                            have C0 := Lib.hid C0
                            have C1 := Lib.hid C1
                            clear hH ha' hst hev hin hg hko hfit d2 d3 hkk hk64 hz f1 f2
                            go_wp2_with (first
                              | (simp only [hq2])
                              | (go_at_call 18; refine C0.out.mono ?_; rintro e w2 ⟨rfl, rfl⟩)
                              | (go_at_call 19; (with_reducible refine C1.out.mono ?_); rintro e w2 ⟨rfl, rfl⟩)
                              | (go_at_call 17; (with_reducible refine C2.out.mono ?_); rintro e w2 ⟨rfl, rfl⟩)
                              | (go_at_call 15; (with_reducible refine C3.out.mono ?_); rintro e w2 ⟨rfl, rfl⟩)
                              | (go_at_call 15; (with_reducible refine C4.out.mono ?_); rintro e w2 ⟨rfl, rfl⟩))
                            go_roundw
                            case rel => exact ⟨q + 1, by omega, by go_num, HH.out⟩
                            case measure => exact meas (by omega)
                        · rw [if_neg (fun h => hev h.1)] at hg
                          have e1 := half_odd_words hev
                          have C2 := Lib.hid (hH.1.getHNum (halfW o.half) hg)
                          clear hH ha' hst hev hg hko hfit d2 d3 f1 f2
                          go_wp2_with (first
                            | (simp only [hq2])
                            | (go_at_call 17; (with_reducible refine C2.out.mono ?_); rintro e w2 ⟨rfl, rfl⟩)
                            | (go_at_call 15; (with_reducible refine C3.out.mono ?_); rintro e w2 ⟨rfl, rfl⟩))
                          go_roundw
                          case rel => exact ⟨q + 1, by omega, by go_num, HH.out⟩
                          case measure => exact meas (by omega)
                · have HB := Lib.hid (none_below hH.2)
                  clear hH
                  go_wp2
                  go_ret
                  exact ⟨rfl, HB.out⟩
end Go.Lua
