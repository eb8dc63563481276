/-
  n005_73: zzModel: the list model of a whole script.
-/
import Derived.Test.YtcnjdmbcofodnaaModel3
namespace Go.Lua
open Go.Proofs Go.RowKit
set_option linter.unusedVariables false

theorem runM_len {ks : List Bool} {is vs : List Int} (h : ∀ i ∈ is, -65536 ≤ i ∧ i ≤ 65536) : ∀ j, (runM ks is vs j).length ≤ 65536 + j := by
  intro j
  induction j with
  | zero => exact Nat.zero_le _
  | succ j ih =>
    show (stepM _ _ _ _).length ≤ _
    unfold stepM
    split
    · unfold appM
      split
      · omega
      · rw [setM_length]; have := bord_le (runM ks is vs j); omega
    · refine insM_length ih ?_
      cases hi : is[j]? with
      | none => rw [List.getD_eq_getElem?_getD, hi]; show (0 : Int) ≤ _; omega
      | some i => rw [List.getD_eq_getElem?_getD, hi]; have := h i (List.mem_of_getElem? hi); show i ≤ _; omega

def ModW (w : World) (ks : List Bool) (is vs : List Int) (out k : Value) (wr : World) : Prop :=
  ∃ j : Nat, j ≤ ks.length ∧ k = .int .i64 j ∧ IsInts .i32 wr out (runM ks is vs j) ∧ Upd (fun _ => False) w wr

theorem IsInts.later {k : IntKind} {w w' : World} {v : Value} {ms : List Int} (h : IsInts k w v ms) (u : Upd (fun _ => False) w w') : IsInts k w' v ms := by
  rcases h with ⟨h1, h2⟩
  refine ⟨?_, h2⟩
  rcases h1 with h1 | ⟨a, cap, e1, e2, e3, e4⟩
  · exact .inl h1
  · exact .inr ⟨a, cap, e1, e2, e3, fun i z hz => old_cell u (e4 i z hz)⟩

set_option maxHeartbeats 2000000 in
theorem model_any (w : World) (v0 v1 v2 : Value) (ks : List Bool) (is vs : List Int) (h0 : IsBools w v0 ks) (h1 : IsInts .i64 w v1 is) (h2 : IsInts .i32 w v2 vs) (hok : ScriptOk ks is vs) :
    Calls Try.prog 22 #[v0, v1, v2] w (ModTo w (runM ks is vs ks.length)) := by
  obtain ⟨p0, c0, rfl, k0, m0, -, g0⟩ := IsSl.form h0
  obtain ⟨p1, c1, rfl, k1, m1, -, g1⟩ := IsSl.form h1.1
  obtain ⟨p2, c2, rfl, k2, m2, -, g2⟩ := IsSl.form h2.1
  have hwf := h2.2
  simp only [List.length_map] at *
  unfold maxLen at m0 m1 m2
  obtain ⟨q1, q2, q3, q4⟩ := hok
  have HR := Lib.hid (runM_len (ks := ks) (vs := vs) q4)
  have G0 := Lib.hid g0
  have G1 := Lib.hid g1
  have G2 := Lib.hid g2
  have Q2 := Lib.hid q2
  have Q3 := Lib.hid q3
  have Q4 := Lib.hid q4
  have W2 := Lib.hid hwf
  clear g0 g1 g2 h0 h1 h2 hwf q2 q3 q4
  go_enter Try.func22, Try.ntmps22
  go_wp2_with fail
  go_loopw [7, 8] (ModW w ks is vs) (fun _ i _ => ((ks.length : Int) - intOf i).toNat)
  case atStart => exact ⟨0, Nat.zero_le _, rfl, ⟨.inl ⟨rfl, rfl⟩, by intro n hn; cases hn⟩, Upd.refl _ _⟩
  case round =>
    obtain ⟨j, hj, rfl, hM, hU⟩ := hrel
    by_cases hlt : (j : Int) < ks.length
    · have z2 := Q2.out
      have z3 := Q3.out
      obtain ⟨b, hb⟩ : ∃ b, ks[j]? = some b := ⟨ks[j]'(by omega), by simp⟩
      obtain ⟨i, hi⟩ : ∃ i, is[j]? = some i := ⟨is[j]'(by omega), by simp⟩
      obtain ⟨v, hv⟩ : ∃ v, vs[j]? = some v := ⟨vs[j]'(by omega), by simp⟩
      obtain ⟨a0, rfl, hc0⟩ := G0.out j (.bool b) (by simp [hb])
      obtain ⟨a1, rfl, hc1⟩ := G1.out j (.int .i64 i) (by simp [hi])
      obtain ⟨a2, rfl, hc2⟩ := G2.out j (.int .i32 v) (by simp [hv])
      have d0 := old_cell hU hc0
      have d1 := old_cell hU hc1
      have d2 := old_cell hU hc2
      have hvb : -2147483648 ≤ v ∧ v ≤ 2147483647 := by
        have := W2.out v (List.mem_of_getElem? hv)
        simpa [Lit.wf, IntKind.min, IntKind.max, IntKind.signed, IntKind.bits] using this
      have hib := Q4.out i (List.mem_of_getElem? hi)
      have hln := HR.out j
      have DA := Lib.hid (modelAppend_any wr _ (runM ks is vs j) hM (by omega) v hvb)
      have DI := Lib.hid (modelInsert_any wr.drew _ (runM ks is vs j) (hM.later ((Upd.refl _ wr).drew)) (by omega) i (by omega) v hvb)
      have hstep : stepM (runM ks is vs j) b i v = runM ks is vs (j + 1) := by
        show _ = stepM _ _ _ _
        rw [List.getD_eq_getElem?_getD, List.getD_eq_getElem?_getD, List.getD_eq_getElem?_getD, hb, hi, hv]
        rfl
      have HS := Lib.hid hstep
      have HU := Lib.hid hU
      have j1 : (j : Int) < is.length := by omega
      have j2 : (j : Int) < vs.length := by omega
      clear hstep hb hi hv hc0 hc1 hc2 hU hM z2 z3 hln
      cases b with
      | true =>
        go_wp2_with (first | (go_at_call 54; refine DA.out.mono ?_; rintro e w2 ⟨v', rfl, g3, g4⟩))
        go_roundw
        case rel => exact ⟨j + 1, by omega, by go_num, HS.out ▸ g3, none_trans HU.out g4⟩
        case measure => exact meas (by omega)
      | false =>
        go_wp2_with fail
        go_still_tail 9, (by kernel_rfl)
        have e1 : wr.drew.cell? (a1.add j) = some (.int .i64 i) := d1
        have e2 : wr.drew.cell? (a2.add j) = some (.int .i32 v) := d2
        change wpList _ _ _ _ _ wr.drew
        go_wp2_with (first | (go_at_call 55; refine DI.out.mono ?_; rintro e w2 ⟨v', rfl, g3, g4⟩))
        go_roundw
        case rel => exact ⟨j + 1, by omega, by go_num, HS.out ▸ g3, none_trans HU.out.drew g4⟩
        case measure => exact meas (by omega)
    · have hje : j = ks.length := by omega
      subst hje
      have HM := Lib.hid hM
      have HU := Lib.hid hU
      clear hM hU
      go_wp2
      go_ret
      exact ⟨_, rfl, HM.out, HU.out⟩
end Go.Lua
