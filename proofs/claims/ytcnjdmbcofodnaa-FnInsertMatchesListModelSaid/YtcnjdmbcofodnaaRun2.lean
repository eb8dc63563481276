/-
  n005_73: zzRun: a whole script over a fresh table.
-/
import Derived.Test.YtcnjdmbcofodnaaRun
namespace Go.Lua
open Go.Proofs Go.RowKit
set_option linter.unusedVariables false

theorem Upd.own {w wr w' : World} (h : Upd (fun _ => False) w wr) (k : Upd (fun k => w.heap.size ≤ k) wr w') : Upd (fun _ => False) w w' := h.under k fun k hk => .inr hk
theorem TabAt.own {w wr w' : World} {t : Nat} {T : Tab} (h : TabAt w' t T (Fw (fun k => w.heap.size ≤ k) wr)) (hs : w.heap.size ≤ wr.heap.size) : TabAt w' t T (fun k => w.heap.size ≤ k) := by
  obtain ⟨va, vd, vs, vk, vi, hT⟩ := h
  exact (hT.mono fun k _ hk => hk.elim id fun hk => Nat.le_trans hs hk).at

/-- A cell of a slice that came in stays readable. -/
theorem old_cell {w wr : World} (h : Upd (fun _ => False) w wr) {a : Addr} {j : Nat} {u : Value} (hc : w.cell? (a.add j) = some u) : wr.cell? (a.add j) = some u := by
  have hlt := World.block_lt_of_cell? w _ hc
  rw [← hc]
  unfold World.cell?
  rw [h.block _ hlt (fun h => h)]

/-- The table at t holds ms; all else that lay there before w stands. -/
def Run (w : World) (t : Nat) (ms : List Int) (n : Nat) (wr : World) : Prop := ∃ T, St T ms n ∧ TabAt wr t T (fun k => w.heap.size ≤ k) ∧ Upd (fun _ => False) w wr

theorem Run.step {w wr w' : World} {t : Nat} {ms2 : List Int} {n2 : Nat} {e : Ending} (h : Upd (fun _ => False) w wr) (hs : StepTo (fun k => w.heap.size ≤ k) wr t ms2 n2 e w') : e = .returned (.tuple #[]) ∧ Run w t ms2 n2 w' := by
  obtain ⟨he, T, h1, h2, h3⟩ := hs
  exact ⟨he, T, h1, h2.own h.size, h.own h3⟩

def RunW (w : World) (t : Nat) (ks : List Bool) (is vs : List Int) (i : Value) (wr : World) : Prop :=
  ∃ j : Nat, j ≤ ks.length ∧ i = .int .i64 j ∧ Run w t (runM ks is vs j) j wr

def RunTo (w : World) (ks : List Bool) (is vs : List Int) (e : Ending) (w' : World) : Prop := e = .returned (.pointer (some ⟨w.heap.size, 0, none⟩)) ∧ Run w w.heap.size (runM ks is vs ks.length) ks.length w'

theorem fresh_run {w w1 : World} {e : Ending} (hf : Fresh w 0 0 e w1) : e = .returned (.pointer (some ⟨w.heap.size, 0, none⟩)) ∧ Run w w.heap.size [] 0 w1 := by
  obtain ⟨he, va, vs, hT, hU, -, -⟩ := hf
  exact ⟨he, newTab 0 0, ⟨rfl, fun h => absurd rfl h, Nat.le_refl _, Nat.zero_le _, by simp⟩, hT.at, hU⟩

theorem new73_any (w : World) : Calls Try.prog 53 #[.int .i64 0, .int .i64 0] w fun e w' => e = .returned (.pointer (some ⟨w.heap.size, 0, none⟩)) ∧ Run w w.heap.size [] 0 w' := by
  have C := Lib.hid (newLTable_any w 0 0 (by decide) (by decide))
  go_enter Try.func53, Try.ntmps53
  go_wp2_with (first
    | (go_at_call 63; refine C.out.mono ?_; intro e w1 hf; obtain ⟨rfl, hR⟩ := fresh_run hf))
  go_ret
  exact ⟨rfl, hR⟩

set_option maxHeartbeats 1000000 in
theorem run_any (w : World) (v0 v1 v2 : Value) (ks : List Bool) (is vs : List Int) (h0 : IsBools w v0 ks) (h1 : IsInts .i64 w v1 is) (h2 : IsInts .i32 w v2 vs) (hok : ScriptOk ks is vs) :
    Calls Try.prog 18 #[v0, v1, v2] w (RunTo w ks is vs) := by
  obtain ⟨p0, c0, rfl, k0, m0, -, g0⟩ := IsSl.form h0
  obtain ⟨p1, c1, rfl, k1, m1, -, g1⟩ := IsSl.form h1.1
  obtain ⟨p2, c2, rfl, k2, m2, -, g2⟩ := IsSl.form h2.1
  have hwf := h2.2
  simp only [List.length_map] at *
  unfold maxLen at m0 m1 m2
  obtain ⟨q1, q2, q3, q4⟩ := hok
  have G0 := Lib.hid g0
  have G1 := Lib.hid g1
  have G2 := Lib.hid g2
  have Q2 := Lib.hid q2
  have Q3 := Lib.hid q3
  have Q4 := Lib.hid q4
  have W2 := Lib.hid hwf
  clear g0 g1 g2 h0 h1 h2 hwf q2 q3 q4
  go_enter Try.func18, Try.ntmps18
  go_wp2_with (first
    | (go_at_call 53; refine (new73_any w).mono ?_; rintro e w1 ⟨rfl, hR⟩))
  go_loopw [8] (RunW w w.heap.size ks is vs) (fun i _ => (ks.length - intOf i).toNat)
  case atStart => exact ⟨0, Nat.zero_le _, rfl, hR⟩
  case round =>
    clear hR
    obtain ⟨j, hj, rfl, T, hS, hT, hU⟩ := hrel
    by_cases hlt : (j : Int) < ks.length
    · have z2 := Q2.out
      have z3 := Q3.out
      obtain ⟨b, hb⟩ : ∃ b, ks[j]? = some b := ⟨ks[j]'(by omega), by simp⟩
      obtain ⟨i, hi⟩ : ∃ i, is[j]? = some i := ⟨is[j]'(by omega), by simp⟩
      obtain ⟨v, hv⟩ : ∃ v, vs[j]? = some v := ⟨vs[j]'(by omega), by simp⟩
      obtain ⟨a0, rfl, hc0⟩ := G0.out j (.bool b) (by simp [hb])
      obtain ⟨a1, rfl, hc1⟩ := G1.out j (.int .i64 i) (by simp [hi])
      obtain ⟨a2, rfl, hc2⟩ := G2.out j (.int .i32 v) (by simp [hv])
      have d0 := old_cell hU hc0
      have d1 := old_cell hU hc1
      have d2 := old_cell hU hc2
      have hvb : -2147483648 ≤ v ∧ v ≤ 2147483647 := by
        have := W2.out v (List.mem_of_getElem? hv)
        simpa [Lit.wf, IntKind.min, IntKind.max, IntKind.signed, IntKind.bits] using this
      have D := Lib.hid (do_any wr.drew w.heap.size T _ (hT.drewN 1) (runM ks is vs j) j hS (by omega) b i v (by have := Q4.out i (List.mem_of_getElem? hi); omega) hvb)
      have hstep : stepM (runM ks is vs j) b i v = runM ks is vs (j + 1) := by
        show _ = stepM _ _ _ _
        rw [List.getD_eq_getElem?_getD, List.getD_eq_getElem?_getD, List.getD_eq_getElem?_getD, hb, hi, hv]
        rfl
      rw [hstep] at D
      have HU := Lib.hid hU
      have j1 : (j : Int) < is.length := by omega
      have j2 : (j : Int) < vs.length := by omega
      clear hstep hb hi hv hc0 hc1 hc2 hU hS hT z2 z3
      go_wp2_with fail
      go_still_tail 13, (by kernel_rfl)
      have e0 : wr.drew.cell? (a0.add j) = some (.bool b) := d0
      have e1 : wr.drew.cell? (a1.add j) = some (.int .i64 i) := d1
      have e2 : wr.drew.cell? (a2.add j) = some (.int .i32 v) := d2
      change wpList _ _ _ _ _ wr.drew
      go_wp2_with (first
        | (go_at_call 31; refine D.out.mono ?_; intro e w2 hx; obtain ⟨rfl, hR⟩ := Run.step HU.out.drew hx))
      go_roundw
      case rel => exact ⟨j + 1, by omega, by go_num, hR⟩
      case measure => simp [intOf]; omega
    · have hje : j = ks.length := by omega
      subst hje
      have HR : Hid (Run w w.heap.size (runM ks is vs ks.length) ks.length wr) := Lib.hid ⟨T, hS, hT, hU⟩
      clear hS hT hU
      go_wp2
      go_ret
      exact ⟨rfl, HR.out⟩
end Go.Lua
