/-
  A table of a walk's own: what the walk's loops are told of it, and of two such tables.
-/
import Derived.Test.YtfkemahinnpgdaaKeep
import Derived.Test.YtfkemahinnpgdaaRow
namespace Go.Lua
open Go.Proofs Go.RowKit
set_option linter.unusedVariables false

theorem Upd.own {w wr w' : World} (h : Upd (fun _ => False) w wr) (k : Upd (fun k => w.heap.size ≤ k) wr w') : Upd (fun _ => False) w w' := h.under k fun k hk => .inr hk
theorem TabAt.own {w wr w' : World} {t : Nat} {T : Tab} (h : TabAt w' t T (Fw (fun k => w.heap.size ≤ k) wr)) (hs : w.heap.size ≤ wr.heap.size) : TabAt w' t T (fun k => w.heap.size ≤ k) := by
  obtain ⟨va, vd, vs, vk, vi, hT⟩ := h
  exact (hT.mono fun k _ hk => hk.elim id fun hk => Nat.le_trans hs hk).at
theorem none_trans {a b c : World} (h : Upd (fun _ => False) a b) (k : Upd (fun _ => False) b c) : Upd (fun _ => False) a c := h.under k fun k hk => hk.elim
theorem none_below {a b : World} (h : Upd (fun _ => False) a b) : Below a.heap.size a b := h.below (fun k hk => hk.elim) (Nat.le_refl _)
theorem none_of_below {a b : World} (h : Below a.heap.size a b) : Upd (fun _ => False) a b := ⟨h.os, h.tape, h.output, h.size, fun k hk _ => h.block k hk⟩
theorem none_grown {a b c : World} (h : Upd (fun _ => False) a b) {row : Option Nat} (g : b.grownBy c row) (hr : ∀ k, row = some k → a.heap.size ≤ k) : Upd (fun _ => False) a c :=
  h.under (Upd.of_grownBy (F := fun k => a.heap.size ≤ k) g hr) fun k hk => .inr hk
/-- A cell that lay there stays readable. -/
theorem old_at {w wr : World} (h : Upd (fun _ => False) w wr) {a : Addr} {u : Value} (hc : w.cell? a = some u) : wr.cell? a = some u := by
  have hlt := World.block_lt_of_cell? w _ hc
  rw [← hc]
  unfold World.cell?
  rw [h.block _ hlt (fun h => h)]

theorem quiet_left {P : Program} {f : FuncId} {args : Array Value} {w : World} {n : Nat} {v : Value}
    (h : Calls P f args (w.drewN n) fun e w' => e = .returned v ∧ w.drewN n = w') : Calls P f args (w.drewN n) fun e w'' => e = .returned v ∧ ∃ m, w'' = w.drewN m :=
  h.mono fun _ _ ⟨he, hm⟩ => ⟨he, n, hm.symm⟩

/-- The table at t, made behind w0, holds T; all else that lay there before w0 stands. -/
def Has (w0 : World) (t : Nat) (T : Tab) (w : World) : Prop := TabAt w t T (fun k => w0.heap.size ≤ k) ∧ Upd (fun _ => False) w0 w

theorem Has.step {w0 w w' : World} {t : Nat} {T T' : Tab} {e : Ending} (h : Has w0 t T w) (u : UpdTo (fun k => w0.heap.size ≤ k) w t T' e w') : e = .returned (.tuple #[]) ∧ Has w0 t T' w' :=
  ⟨u.1, u.2.1.own h.2.size, h.2.own u.2.2⟩
theorem Has.drewN {w0 w : World} {t : Nat} {T : Tab} (h : Has w0 t T w) (n : Nat) : Has w0 t T (w.drewN n) := ⟨h.1.drewN n, h.2.drewN n⟩
theorem Has.drew {w0 w : World} {t : Nat} {T : Tab} (h : Has w0 t T w) : Has w0 t T w.drew := h.drewN 1
/-- What turns only blocks of others leaves the table. -/
theorem Has.other {w0 w w' : World} {t : Nat} {T : Tab} (h : Has w0 t T w) (u : Upd (fun _ => False) w w') : Has w0 t T w' := by
  obtain ⟨⟨va, vd, vs, vk, vi, hT⟩, hU⟩ := h
  exact ⟨(hT.kept fun k hk _ => u.block k hk (fun h => h)).at, none_trans hU u⟩
theorem Has.fresh {w w1 : World} {a b : Int} {e : Ending} (hf : Fresh w a b e w1) : e = .returned (.pointer (some ⟨w.heap.size, 0, none⟩)) ∧ Has w w.heap.size (newTab a b) w1 := by
  obtain ⟨he, va, vs, hT, hU, -, -⟩ := hf
  exact ⟨he, hT.at, hU⟩
/-- Seen from an earlier world. -/
theorem Has.since {w0 w1 w : World} {t : Nat} {T : Tab} (h : Has w1 t T w) (u : Upd (fun _ => False) w0 w1) : Has w0 t T w := by
  obtain ⟨⟨va, vd, vs, vk, vi, hT⟩, hU⟩ := h
  exact ⟨(hT.mono fun k _ hk => Nat.le_trans u.size hk).at, none_trans u hU⟩

/-- Two tables of a walk's own, in blocks apart. -/
def Two (w0 : World) (t1 : Nat) (T1 : Tab) (t2 : Nat) (T2 : Tab) (w : World) : Prop :=
  ∃ F1 F2 : Nat → Prop, TabAt w t1 T1 F1 ∧ TabAt w t2 T2 F2 ∧ (∀ k, F1 k → F2 k → False) ∧ (∀ k, F1 k → w0.heap.size ≤ k ∧ k < w.heap.size) ∧ (∀ k, F2 k → w0.heap.size ≤ k ∧ k < w.heap.size) ∧ Upd (fun _ => False) w0 w

theorem Two.swap {w0 w : World} {t1 t2 : Nat} {T1 T2 : Tab} (h : Two w0 t1 T1 t2 T2 w) : Two w0 t2 T2 t1 T1 w := by
  obtain ⟨F1, F2, a, b, c, d, e, f⟩ := h
  exact ⟨F2, F1, b, a, fun k x y => c k y x, e, d, f⟩
theorem Two.drewN {w0 w : World} {t1 t2 : Nat} {T1 T2 : Tab} (h : Two w0 t1 T1 t2 T2 w) (n : Nat) : Two w0 t1 T1 t2 T2 (w.drewN n) := by
  obtain ⟨F1, F2, a, b, c, d, e, f⟩ := h
  exact ⟨F1, F2, a.drewN n, b.drewN n, c, d, e, f.drewN n⟩
theorem Two.drew {w0 w : World} {t1 t2 : Nat} {T1 T2 : Tab} (h : Two w0 t1 T1 t2 T2 w) : Two w0 t1 T1 t2 T2 w.drew := h.drewN 1
theorem TabAt.capped {w : World} {t : Nat} {T : Tab} {F : Nat → Prop} (h : TabAt w t T F) : TabAt w t T (fun k => F k ∧ k < w.heap.size) := by
  obtain ⟨va, vd, vs, vk, vi, hT⟩ := h
  exact (hT.mono fun k hk hf => ⟨hf, hk⟩).at
theorem Two.step1 {w0 w : World} {t1 t2 : Nat} {T1 T2 : Tab} (h : Two w0 t1 T1 t2 T2 w) : ∃ F1, TabAt w t1 T1 F1 ∧ ∀ (T' : Tab) (e : Ending) (w' : World), UpdTo F1 w t1 T' e w' → e = .returned (.tuple #[]) ∧ Two w0 t1 T' t2 T2 w' := by
  obtain ⟨F1, F2, a, ⟨va, vd, vs, vk, vi, hT⟩, c, d, e, f⟩ := h
  refine ⟨F1, a, fun T' en w' u => ⟨u.1, _, F2, u.2.1.capped, (hT.kept fun k hk hf => u.2.2.block k hk fun h1 => c k h1 hf).at, ?_, ?_, ?_, ?_⟩⟩
  · rintro k ⟨h1 | h1, -⟩ h2
    · exact c k h1 h2
    · have := (e k h2).2; omega
  · rintro k ⟨h1 | h1, h2⟩
    · exact ⟨(d k h1).1, h2⟩
    · exact ⟨Nat.le_trans f.size h1, h2⟩
  · intro k hk
    exact ⟨(e k hk).1, Nat.lt_of_lt_of_le (e k hk).2 u.2.2.size⟩
  · exact f.under u.2.2 fun k hk => .inr (d k hk).1
theorem Two.step2 {w0 w : World} {t1 t2 : Nat} {T1 T2 : Tab} (h : Two w0 t1 T1 t2 T2 w) : ∃ F2, TabAt w t2 T2 F2 ∧ ∀ (T' : Tab) (e : Ending) (w' : World), UpdTo F2 w t2 T' e w' → e = .returned (.tuple #[]) ∧ Two w0 t1 T1 t2 T' w' := by
  obtain ⟨F, hT, hs⟩ := h.swap.step1
  exact ⟨F, hT, fun T' e w' u => ⟨(hs T' e w' u).1, (hs T' e w' u).2.swap⟩⟩
theorem Two.fst {w0 w : World} {t1 t2 : Nat} {T1 T2 : Tab} (h : Two w0 t1 T1 t2 T2 w) : ∃ F, TabAt w t1 T1 F := ⟨_, h.choose_spec.choose_spec.1⟩
theorem Two.snd {w0 w : World} {t1 t2 : Nat} {T1 T2 : Tab} (h : Two w0 t1 T1 t2 T2 w) : ∃ F, TabAt w t2 T2 F := h.swap.fst
theorem Two.upd {w0 w : World} {t1 t2 : Nat} {T1 T2 : Tab} (h : Two w0 t1 T1 t2 T2 w) : Upd (fun _ => False) w0 w := by
  obtain ⟨F1, F2, a, b, c, d, e, f⟩ := h
  exact f
theorem Two.other {w0 w w' : World} {t1 t2 : Nat} {T1 T2 : Tab} (h : Two w0 t1 T1 t2 T2 w) (u : Upd (fun _ => False) w w') : Two w0 t1 T1 t2 T2 w' := by
  obtain ⟨F1, F2, ⟨va, vd, vs, vk, vi, hT⟩, ⟨va2, vd2, vs2, vk2, vi2, hT2⟩, c, d, e, f⟩ := h
  exact ⟨F1, F2, (hT.kept fun k hk _ => u.block k hk (fun h => h)).at, (hT2.kept fun k hk _ => u.block k hk (fun h => h)).at, c, fun k hk => ⟨(d k hk).1, Nat.lt_of_lt_of_le (d k hk).2 u.size⟩, fun k hk => ⟨(e k hk).1, Nat.lt_of_lt_of_le (e k hk).2 u.size⟩, none_trans f u⟩
/-- A second fresh table beside a first. -/
theorem Two.make {w0 w1 w2 : World} {t1 : Nat} {T1 : Tab} {a b : Int} {e : Ending} (h : Has w0 t1 T1 w1) (hf : Fresh w1 a b e w2) : e = .returned (.pointer (some ⟨w1.heap.size, 0, none⟩)) ∧ Two w0 t1 T1 w1.heap.size (newTab a b) w2 := by
  obtain ⟨he, hT, hU⟩ := Has.fresh hf
  have h1 : TabAt w1 t1 T1 (fun k => w0.heap.size ≤ k ∧ k < w1.heap.size) := h.1.capped
  obtain ⟨va, vd, vs, vk, vi, hT1⟩ := h1
  refine ⟨he, _, _, (hT1.kept fun k hk _ => hU.block k hk (fun h => h)).at, hT.capped, ?_, ?_, ?_, none_trans h.2 hU⟩
  · rintro k ⟨-, h1⟩ ⟨h2, -⟩
    omega
  · rintro k ⟨h1, h2⟩
    exact ⟨h1, Nat.lt_of_lt_of_le h2 hU.size⟩
  · rintro k ⟨h1, h2⟩
    exact ⟨Nat.le_trans h.2.size h1, h2⟩
end Go.Lua
