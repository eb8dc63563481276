/-
  n005_156: FnRawSetNumberAgreesWithRawSetInt.
-/
import Derived.Test.YtpbeecbijlhocaaIntOps
namespace Go.Lua
open Go.Proofs Go.RowKit Go.Deep
set_option linter.unusedVariables false

set_option maxHeartbeats 1000000 in
theorem bytes_numI (w : World) (p : Option Addr) (n c : Nat) (h : n ≤ maxLen) : Calls Try.prog 32 #[.slice p n c] w (Yn w) := by
  unfold maxLen at h
  go_enter Try.func32, Try.ntmps32
  go_wp2
  all_goals (go_ret; first | exact ⟨rfl, .inl rfl⟩ | exact ⟨rfl, .inr rfl⟩)

theorem inArr_yes (w : World) {k : Int} (h : InArr k) : Calls Try.prog 18 #[.int .i64 k] w fun e w' => e = .returned (.bool true) ∧ w = w' := by
  obtain ⟨h1, h2⟩ := h
  go_enter Try.func18, Try.ntmps18
  go_wp2
  go_ret
  exact ⟨rfl, rfl⟩
theorem inArr_no (w : World) {k : Int} (h : ¬ InArr k) : Calls Try.prog 18 #[.int .i64 k] w fun e w' => e = .returned (.bool false) ∧ w = w' := by
  unfold InArr at h
  by_cases h1 : 1 ≤ k
  · have h2 : ¬ k < 67108864 := by omega
    have h3 : decide (k < 67108864) = false := by simpa using h2
    clear h h2
    go_enter Try.func18, Try.ntmps18
    go_wp2
    go_ret
    exact ⟨rfl, rfl⟩
  · clear h
    have h3 : decide (1 ≤ k) = false := by simpa using h1
    go_enter Try.func18, Try.ntmps18
    go_wp2
    go_ret
    exact ⟨rfl, rfl⟩

/-- RawSet under an integer's double. -/
theorem rawSet_key (w : World) (t : Nat) (T : Tab) (F : Nat → Prop) (h : TabAt w t T F) {n : Nat} (ho : Ok T n) (hn : n ≤ 1000000) (k : Int) (hk : Is64 k) (v : Value) (hv : LvOk v) :
    Calls Try.prog 35 #[.pointer (some ⟨t, 0, none⟩), lnum (fofInt k), v] w (UpdTo F w t (T.setKey k v)) := by
  have hl := ho.alen
  obtain ⟨tv, xv, rfl⟩ : ∃ tv xv, v = .iface tv xv := by
    rcases hv with rfl | ⟨tv, xv, rfl, -⟩
    · exact ⟨_, _, rfl⟩
    · exact ⟨_, _, rfl⟩
  unfold Tab.setKey
  by_cases hi : InArr k
  · rw [if_pos hi]
    exact rawSet_arr w t T F h (by omega) (fofInt k) k hi.1 hi.2 (fkey_in hi) tv xv
  · rw [if_neg hi]
    exact rawSet_hash w t T F h (ho.wf hn) (fofInt k) (arrKey_out hk hi) _ hv

/-- The loops' words. -/
def NiW (w : World) (t1 t2 : Nat) (ops : List IOp) (i : Value) (wr : World) : Prop := ∃ j : Nat, j ≤ ops.length ∧ i = .int .i64 j ∧ Two w t1 (intT ops j) t2 (intT ops j) wr
def NiW2 (w : World) (t1 t2 : Nat) (ops : List IOp) (mx i : Value) (wr : World) : Prop := ∃ (j : Nat) (m : Int), j ≤ ops.length ∧ i = .int .i64 j ∧ mx = .int .i64 m ∧ MaxOf ops (intT ops ops.length) j m ∧ Two w t1 (intT ops ops.length) t2 (intT ops ops.length) wr
def NiW3 (w : World) (t1 t2 : Nat) (T : Tab) (ops : List IOp) (s : Int) (q : Nat) (want i : Value) (wr : World) : Prop := ∃ j : Nat, q + 1 ≤ j ∧ j ≤ ops.length ∧ i = .int .i64 j ∧ want = .int .i64 (lastI ops s j) ∧ Two w t1 T t2 T wr

set_option maxRecDepth 100000 in
set_option maxHeartbeats 8000000 in
theorem numI_walk (w : World) (v : Value) (ops : List IOp) (h : IsIOps w v ops) : Calls Try.prog 8 #[v] w (Fine w) := by
  obtain ⟨p, c, rfl, k, m, hn, g⟩ := h.1.form
  have hok := h.2
  simp only [List.length_map] at *
  have CB := Lib.hid (bytes_numI w p ops.length c (Nat.le_trans k m))
  unfold maxLen at m
  have hxl : (ops.length : Int) ≤ 9223372036854775807 := by omega
  have G := Lib.hid g
  have K := Lib.hid hok
  clear h g hn k m hok
  go_enter Try.func8, Try.ntmps8
  go_wp2_with (first
    | (go_at_call 32; refine CB.out.mono ?_; rintro e w1 ⟨rfl, rfl | rfl⟩))
  all_goals first | (go_ret; exact ⟨rfl, Below.refl _ _⟩) | skip
  go_loop [3] (fun i => ∃ (j : Nat), j ≤ ops.length ∧ i = .int .i64 j ∧ Hid (Near ops j)) (fun i => (ops.length - intOf i).toNat)
  case atStart => exact ⟨0, Nat.zero_le _, rfl, Lib.hid (by unfold Near; simp)⟩
  case round =>
    obtain ⟨j, hj, rfl, hN⟩ := hrel
    by_cases hlt : (j : Int) < ops.length
    · obtain ⟨o, ho⟩ : ∃ o, ops[j]? = some o := ⟨ops[j]'(by omega), by simp⟩
      obtain ⟨a, rfl, d0, -⟩ := iop_cells G.out (Upd.refl _ w) ho
      have HO := Lib.hid ho
      clear ho
      by_cases hn1 : (65536 : Int) < o.1
      · by_cases hn2 : o.1 < 67108864
        · go_wp2
          go_ret
          exact ⟨rfl, Below.refl _ _⟩
        · have hn3 : decide (o.1 < 67108864) = false := by simpa using hn2
          have HN : Hid (¬ (65536 < o.1 ∧ o.1 < 67108864)) := Lib.hid (by omega)
          go_wp2
          go_round
          case rel => exact ⟨j + 1, by omega, by go_num, Lib.hid (hN.out.next HO.out HN.out)⟩
          case measure => exact meas (by omega)
      · have hn3 : decide ((65536 : Int) < o.1) = false := by simpa using hn1
        have HN : Hid (¬ (65536 < o.1 ∧ o.1 < 67108864)) := Lib.hid (by omega)
        go_wp2
        go_round
        case rel => exact ⟨j + 1, by omega, by go_num, Lib.hid (hN.out.next HO.out HN.out)⟩
        case measure => exact meas (by omega)
    · have hje : j = ops.length := by omega
      subst hje
      have HN := hN
      clear hN
      go_wp2_with (first
        | (go_at_call 11; refine (new_any w).mono ?_; intro e w1 hf; obtain ⟨rfl, hR⟩ := Has.fresh hf; clear hf)
        | (go_at_call 11; refine (new_any w1).mono ?_; intro e w2 hf; obtain ⟨rfl, hR2⟩ := Two.make hR hf; clear hf hR))
      go_loopw [7] (NiW w w.heap.size w1.heap.size ops) (fun i _ => (ops.length - intOf i).toNat)
      case atStart => exact ⟨0, Nat.zero_le _, rfl, hR2⟩
      case round =>
        clear hR2
        obtain ⟨j, hj, rfl, hH⟩ := hrel
        by_cases hlt : (j : Int) < ops.length
        · obtain ⟨o, ho⟩ : ∃ o, ops[j]? = some o := ⟨ops[j]'(by omega), by simp⟩
          obtain ⟨a, rfl, -⟩ := iop_cells G.out hH.upd ho
          have HC := Lib.hid (fun (wq : World) (hq : Upd (fun _ => False) w wq) => iop_cells G.out hq ho)
          obtain ⟨a', ha', d0, d1⟩ := HC.out wr hH.upd
          obtain rfl : a = a' := Option.some.inj ha'
          obtain ⟨F1, hT1, hst⟩ := hH.drew.step1
          have hokj := intT_ok HN.out j
          have ho1 := (K.out o (List.mem_of_getElem? ho)).1
          have D := Lib.hid (setNumRaw_via wr.drew w.heap.size (fofInt o.1) o.2 _ (rawSet_key wr.drew _ _ _ hT1 hokj (by omega) o.1 (is64_of_wf ho1) (val o.2) (lvOk_val _)))
          have HK2 := Lib.hid hokj
          have HT := Lib.hid (intT_step ho)
          have HS1 := Lib.hid hst
          clear ho hH hT1 hst hokj ha' ho1
          go_wp2_with fail
          go_still_tail 12, (by kernel_rfl)
          have e0 : wr.drew.cell? (a.add (j * 2)) = some (.int .i64 o.1) := d0
          have e1 : wr.drew.cell? ⟨(a.add (j * 2)).block, (a.add (j * 2)).off + 1, none⟩ = some (.int .i64 o.2) := d1
          change wpList _ _ _ _ _ wr.drew
          go_wp2_with (first
            | (go_at_call 13; refine D.out.mono ?_; rintro e w3 ⟨rfl, hq⟩; obtain ⟨-, hR⟩ := HS1.out _ _ _ ⟨rfl, hq⟩; clear hq))
          obtain ⟨a', ha', d0, d1⟩ := HC.out w3 hR.upd
          obtain rfl : a = a' := Option.some.inj ha'
          obtain ⟨F2, hT2, hst⟩ := hR.drew.step2
          have D2 := Lib.hid (setInt_via w3.drew w1.heap.size o.1 o.2 _ (rawSetInt_key w3.drew _ _ _ hT2 HK2.out (by omega) o.1 (val o.2) (lvOk_val _)))
          have HS2 := Lib.hid hst
          clear hT2 hst hR ha'
          go_still_tail 11, (by kernel_rfl)
          have e0 : w3.drew.cell? (a.add (j * 2)) = some (.int .i64 o.1) := d0
          have e1 : w3.drew.cell? ⟨(a.add (j * 2)).block, (a.add (j * 2)).off + 1, none⟩ = some (.int .i64 o.2) := d1
          change wpList _ _ _ _ _ w3.drew
          go_wp2_with (first
            | (go_at_call 21; refine D2.out.mono ?_; rintro e w4 ⟨rfl, hq⟩; obtain ⟨-, hR⟩ := HS2.out _ _ _ ⟨rfl, hq⟩; clear hq))
          go_roundw
          case rel => exact ⟨j + 1, by omega, by go_num, HT.out ▸ hR⟩
          case measure => exact meas (by omega)
        · have hje : j = ops.length := by omega
          subst hje
          have HIV := Lib.hid (fun (q : Int) (hq : Is64 q) => intT_iv K.out hq ops.length)
          have HOK := Lib.hid (intT_ok HN.out ops.length)
          go_wp2_with fail
          go_loopw [8, 9] (NiW2 w w.heap.size w1.heap.size ops) (fun _ i _ => (ops.length - intOf i).toNat)
          case atStart => exact ⟨0, 0, Nat.zero_le _, rfl, rfl, MaxOf.zero _ _, hH⟩
          case round =>
            clear hH
            obtain ⟨q, mx, hq, rfl, rfl, hM, hH⟩ := hrel
            by_cases hlt : (q : Int) < ops.length
            · obtain ⟨o, ho⟩ : ∃ o, ops[q]? = some o := ⟨ops[q]'(by omega), by simp⟩
              obtain ⟨a, rfl, d0, d1⟩ := iop_cells G.out hH.upd ho
              have HO := Lib.hid ho
              have HH := Lib.hid hH
              have HM := Lib.hid hM
              have hs1 := lastI_here ho (K.out o (List.mem_of_getElem? ho))
              have hs : Hid (Value.int .i64 (lastI ops o.1 (q + 1)) = .int .i64 o.2) := Lib.hid (by rw [hs1])
              clear ho hH hs1 hM
              go_wp2_with fail
              go_loopw [11, 12] (NiW3 w w.heap.size w1.heap.size (intT ops ops.length) ops o.1 q) (fun _ i _ => (ops.length - intOf i).toNat)
              case atStart => exact ⟨q + 1, Nat.le_refl _, by omega, by go_num, hs.out.symm, HH.out⟩
              case round =>
                clear d0 d1 HH
                obtain ⟨j, hj1, hj2, rfl, rfl, hH⟩ := hrel
                by_cases hlt2 : (j : Int) < ops.length
                · obtain ⟨o2, ho2⟩ : ∃ o2, ops[j]? = some o2 := ⟨ops[j]'(by omega), by simp⟩
                  obtain ⟨a', ha', d0, d1⟩ := iop_cells G.out hH.upd ho2
                  obtain rfl : a = a' := Option.some.inj ha'
                  have hst := lastI_step (q := o.1) ho2
                  have HH := Lib.hid hH
                  clear ho2 hH ha'
                  by_cases he : feq (fofInt o2.1) (fofInt o.1) = true
                  · rw [if_pos he] at hst
                    rw [show feq (fofInt o2.1) (fofInt o.1) = (FloatKind.f64.format.order (floatOfInt .f64 o2.1) (floatOfInt .f64 o.1) == some .eq) from (order_eq _ _).symm] at he
                    have HS2 := Lib.hid hst
                    clear hst
                    go_wp2_with fail
                    go_roundw
                    case rel => exact ⟨j + 1, by omega, by omega, by go_num, by rw [HS2.out], HH.out⟩
                    case measure => exact meas (by omega)
                  · rw [if_neg he] at hst
                    rw [Bool.not_eq_true, show feq (fofInt o2.1) (fofInt o.1) = (FloatKind.f64.format.order (floatOfInt .f64 o2.1) (floatOfInt .f64 o.1) == some .eq) from (order_eq _ _).symm] at he
                    have HS2 := Lib.hid hst
                    clear hst
                    go_wp2_with fail
                    go_roundw
                    case rel => exact ⟨j + 1, by omega, by omega, by go_num, by rw [HS2.out], HH.out⟩
                    case measure => exact meas (by omega)
                · have hje : j = ops.length := by omega
                  subst hje
                  obtain ⟨a', ha', d0, d1⟩ := iop_cells G.out hH.upd HO.out
                  obtain rfl : a = a' := Option.some.inj ha'
                  have hko := is64_of_wf (K.out o (List.mem_of_getElem? HO.out)).1
                  have hiv := HIV.out o.1 hko
                  have hfit := lastI_fit K.out o.1 ops.length
                  have C3 := same_yes wr (lastI ops o.1 ops.length) hfit
                  have hnear := HN.out.at HO.out
                  generalize lastI ops o.1 ops.length = wv at hiv C3 ⊢
                  have C3 := Lib.hid C3
                  have HH := Lib.hid hH
                  by_cases hin : InArr o.1
                  · unfold Tab.iv at hiv
                    rw [if_pos hin] at hiv
                    have C0 := Lib.hid (inArr_yes wr hin)
                    have C1 := Lib.hid (hH.fst.choose_spec.getInt o.1 hko hiv)
                    have C2 := Lib.hid (hH.snd.choose_spec.getInt o.1 hko hiv)
                    have HIN := Lib.hid hin
                    have HI := Lib.hid hiv
                    clear hH ha' hin hiv hfit hko
                    by_cases hw0 : wv = 0
                    · have hw1 : (wv != 0) = false := by simpa using hw0
                      have HM2 := Lib.hid (HM.out.keep HO.out (fun _ hne => absurd (HI.out.trans (by rw [hw0]; rfl)) hne))
                      clear hw0
                      go_wp2_with (first
                        | (go_at_call 18; refine C0.out.mono ?_; rintro e w2 ⟨rfl, rfl⟩)
                        | (go_at_call 19; (with_reducible refine C1.out.mono ?_); rintro e w2 ⟨rfl, rfl⟩)
                        | (go_at_call 19; (with_reducible refine C2.out.mono ?_); rintro e w2 ⟨rfl, rfl⟩)
                        | (go_at_call 15; (with_reducible refine C3.out.mono ?_); rintro e w2 ⟨rfl, rfl⟩))
                      go_roundw
                      case rel => exact ⟨q + 1, mx, by omega, by go_num, rfl, HM2.out, HH.out⟩
                      case measure => exact meas (by omega)
                    · have hw1 : (wv != 0) = true := by simpa using hw0
                      have hne : (intT ops ops.length).av o.1 ≠ lnil := by
                        rw [HI.out, val_num hw0]
                        intro e
                        injection e with e1 e2
                        revert e1
                        decide
                      have HNE := Lib.hid hne
                      clear hw0 hne
                      by_cases hmx : mx < o.1
                      · have HM2 := Lib.hid (HM.out.take HO.out HIN.out hnear HNE.out hmx)
                        clear hnear
                        go_wp2_with (first
                          | (go_at_call 18; refine C0.out.mono ?_; rintro e w2 ⟨rfl, rfl⟩)
                          | (go_at_call 19; (with_reducible refine C1.out.mono ?_); rintro e w2 ⟨rfl, rfl⟩)
                          | (go_at_call 19; (with_reducible refine C2.out.mono ?_); rintro e w2 ⟨rfl, rfl⟩)
                          | (go_at_call 15; (with_reducible refine C3.out.mono ?_); rintro e w2 ⟨rfl, rfl⟩))
                        go_roundw
                        case rel => exact ⟨q + 1, o.1, by omega, by go_num, rfl, HM2.out, HH.out⟩
                        case measure => exact meas (by omega)
                      · have HM2 := Lib.hid (HM.out.keep HO.out (fun _ _ => by omega))
                        have hm2 : decide (mx < o.1) = false := by simpa using hmx
                        clear hnear
                        go_wp2_with (first
                          | (go_at_call 18; refine C0.out.mono ?_; rintro e w2 ⟨rfl, rfl⟩)
                          | (go_at_call 19; (with_reducible refine C1.out.mono ?_); rintro e w2 ⟨rfl, rfl⟩)
                          | (go_at_call 19; (with_reducible refine C2.out.mono ?_); rintro e w2 ⟨rfl, rfl⟩)
                          | (go_at_call 15; (with_reducible refine C3.out.mono ?_); rintro e w2 ⟨rfl, rfl⟩))
                        go_roundw
                        case rel => exact ⟨q + 1, mx, by omega, by go_num, rfl, HM2.out, HH.out⟩
                        case measure => exact meas (by omega)
                  · unfold Tab.iv at hiv
                    rw [if_neg hin] at hiv
                    have C0 := Lib.hid (inArr_no wr hin)
                    have hz : (intT ops ops.length).av o.1 = val 0 := HOK.out.av_out hin
                    have C1 := Lib.hid (hH.fst.choose_spec.getInt o.1 hko hz)
                    have C2 := Lib.hid (hH.snd.choose_spec.getInt o.1 hko hz)
                    have C4 : Calls Try.prog 17 #[.pointer (some ⟨w.heap.size, 0, none⟩), .iface 31 (.float .f64 (floatOfInt .f64 o.1))] wr fun e w' => e = .returned (val wv) ∧ wr = w' := hH.fst.choose_spec.getHNum (fofInt o.1) hiv
                    have C5 : Calls Try.prog 17 #[.pointer (some ⟨w1.heap.size, 0, none⟩), .iface 31 (.float .f64 (floatOfInt .f64 o.1))] wr fun e w' => e = .returned (val wv) ∧ wr = w' := hH.snd.choose_spec.getHNum (fofInt o.1) hiv
                    have C4 := Lib.hid C4
                    have C5 := Lib.hid C5
                    have C6 := Lib.hid (same_yes wr 0 (by unfold Is64; omega))
                    have HM2 := Lib.hid (HM.out.keep HO.out (fun h _ => absurd h hin))
                    clear hH ha' hin hiv hfit hko hz hnear
                    go_wp2_with (first
                      | (go_at_call 18; refine C0.out.mono ?_; rintro e w2 ⟨rfl, rfl⟩)
                      | (go_at_call 19; (with_reducible refine C1.out.mono ?_); rintro e w2 ⟨rfl, rfl⟩)
                      | (go_at_call 19; (with_reducible refine C2.out.mono ?_); rintro e w2 ⟨rfl, rfl⟩)
                      | (go_at_call 17; (with_reducible refine C4.out.mono ?_); rintro e w2 ⟨rfl, rfl⟩)
                      | (go_at_call 17; (with_reducible refine C5.out.mono ?_); rintro e w2 ⟨rfl, rfl⟩)
                      | (go_at_call 15; (with_reducible refine C3.out.mono ?_); rintro e w2 ⟨rfl, rfl⟩)
                      | (go_at_call 15; (with_reducible refine C6.out.mono ?_); rintro e w2 ⟨rfl, rfl⟩))
                    go_roundw
                    case rel => exact ⟨q + 1, mx, by omega, by go_num, rfl, HM2.out, HH.out⟩
                    case measure => exact meas (by omega)
            · have hqe : q = ops.length := by omega
              have hb := (show MaxOf ops (intT ops ops.length) ops.length mx by rw [hqe] at hM; exact hM).border HOK.out
              have hmx : ((mx.toNat : Nat) : Int) = mx := by have := hM.lo; omega
              have C1 := hH.fst.choose_spec.maxN HOK.out hb
              have C2 := hH.snd.choose_spec.maxN HOK.out hb
              have C3 := hH.fst.choose_spec.len HOK.out hb
              have C4 := hH.snd.choose_spec.len HOK.out hb
              rw [hmx] at C1 C2 C3 C4
              have C1 := Lib.hid C1
              have C2 := Lib.hid C2
              have C3 := Lib.hid C3
              have C4 := Lib.hid C4
              have HB := Lib.hid (none_below hH.upd)
              clear hH hM hqe hb hmx
              go_wp2_with (first
                | (go_at_call 24; (with_reducible refine C1.out.mono ?_); rintro e w2 ⟨rfl, rfl⟩)
                | (go_at_call 24; (with_reducible refine C2.out.mono ?_); rintro e w2 ⟨rfl, rfl⟩)
                | (go_at_call 28; (with_reducible refine C3.out.mono ?_); rintro e w2 ⟨rfl, rfl⟩)
                | (go_at_call 28; (with_reducible refine C4.out.mono ?_); rintro e w2 ⟨rfl, rfl⟩))
              go_ret
              exact ⟨rfl, HB.out⟩
end Go.Lua
