/-
  n005_73: what the laws share: the clones, and what a table behind a script answers.
-/
import Derived.Test.YtcnjdmbcofodnaaRun2
namespace Go.Lua
open Go.Proofs Go.RowKit
set_option linter.unusedVariables false

/-- It answers some truth value and changes nothing. -/
def Some (w : World) (e : Ending) (w' : World) : Prop := w = w' ∧ (e = .returned (.bool false) ∨ e = .returned (.bool true))

theorem mk_all {α : Type} (f : α → Value) (xs : List α) : ∀ u ∈ xs.map f, ∃ y, u = f y := fun u hu => by
  obtain ⟨y, -, rfl⟩ := List.mem_map.1 hu
  exact ⟨y, rfl⟩
theorem clonedB {w w1 : World} {ks : List Bool} {e : Ending} (h : Cloned w (ks.map Value.bool) e w1) : ∃ v, e = .returned v ∧ IsBools w1 v ks ∧ Upd (fun _ => False) w w1 := h
theorem clonedI {k : IntKind} {w w1 : World} {is : List Int} (hw : ∀ n ∈ is, (Lit.int k n).wf = true) {e : Ending} (h : Cloned w (is.map (Value.int k)) e w1) : ∃ v, e = .returned v ∧ IsInts k w1 v is ∧ Upd (fun _ => False) w w1 := by
  obtain ⟨v, h1, h2, h3⟩ := h
  exact ⟨v, h1, ⟨h2, hw⟩, h3⟩

theorem IsSl.later {w w' : World} {v : Value} {vs : List Value} (h : IsSl w v vs) (u : Upd (fun _ => False) w w') : IsSl w' v vs := h.below (u.below (B := w.heap.size) (fun k hk => hk.elim) (Nat.le_refl _)) (Nat.le_refl _)
theorem none_trans {a b c : World} (h : Upd (fun _ => False) a b) (k : Upd (fun _ => False) b c) : Upd (fun _ => False) a c := h.under k fun k hk => hk.elim
theorem none_below {a b : World} (h : Upd (fun _ => False) a b) : Below a.heap.size a b := h.below (fun k hk => hk.elim) (Nat.le_refl _)
theorem len_map_le {α : Type} (f : α → Value) {xs : List α} {n : Nat} (h : xs.length ≤ n) : (xs.map f).length ≤ n := by rw [List.length_map]; exact h

/-- Slot k (from 1) of the list; 0 outside. -/
def atM (ms : List Int) (k : Int) : Int := if 1 ≤ k then (ms[k.toNat - 1]?).getD 0 else 0
theorem getAt_vals (ms : List Int) (k : Int) : getAt (ms.map val) k = val (atM ms k) := by
  unfold getAt atM
  split
  · rw [List.getElem?_map]
    cases ms[k.toNat - 1]? <;> rfl
  · rfl

/-- The table at t holds ms. -/
def Tbl (F : Nat → Prop) (t : Nat) (ms : List Int) (n : Nat) (w : World) : Prop := ∃ T, St T ms n ∧ TabAt w t T F
theorem Tbl.len {F : Nat → Prop} {t : Nat} {ms : List Int} {n : Nat} {w : World} (h : Tbl F t ms n w) : Calls Try.prog 19 #[.pointer (some ⟨t, 0, none⟩)] w fun e w' => e = .returned (.int .i64 (bord ms)) ∧ w = w' := by
  obtain ⟨T, hS, hT⟩ := h
  have := len_any w t T _ hT (by rw [hS.arr]; exact lvOk_vals ms)
  rw [hS.arr, border_vals] at this
  exact this
theorem Tbl.maxN {F : Nat → Prop} {t : Nat} {ms : List Int} {n : Nat} {w : World} (h : Tbl F t ms n w) : Calls Try.prog 20 #[.pointer (some ⟨t, 0, none⟩)] w fun e w' => e = .returned (.int .i64 (bord ms)) ∧ w = w' := by
  obtain ⟨T, hS, hT⟩ := h
  have := maxN_any w t T _ hT (by rw [hS.arr]; exact lvOk_vals ms)
  rw [hS.arr, border_vals] at this
  exact this
theorem Tbl.get {F : Nat → Prop} {t : Nat} {ms : List Int} {n : Nat} {w : World} (h : Tbl F t ms n w) (k : Int) (hk : Is64 k) : Calls Try.prog 56 #[.pointer (some ⟨t, 0, none⟩), .int .i64 k] w fun e w' => e = .returned (val (atM ms k)) ∧ w = w' := by
  obtain ⟨T, hS, hT⟩ := h
  have := rawGetInt_any w t T _ hT k hk
  rw [hS.arr, getAt_vals] at this
  exact this
theorem Tbl.fit {F : Nat → Prop} {t : Nat} {ms : List Int} {n : Nat} {w : World} (h : Tbl F t ms n w) : ∀ v ∈ ms, -2147483648 ≤ v ∧ v ≤ 2147483647 := by
  obtain ⟨T, hS, -⟩ := h
  exact hS.fit
theorem Tbl.len_le {F : Nat → Prop} {t : Nat} {ms : List Int} {n : Nat} {w : World} (h : Tbl F t ms n w) : ms.length ≤ 65536 + n := by
  obtain ⟨T, hS, -⟩ := h
  exact hS.len
theorem Tbl.mono {F G : Nat → Prop} {t : Nat} {ms : List Int} {n : Nat} {w : World} (h : Tbl F t ms n w) (hg : ∀ k, k < w.heap.size → F k → G k) : Tbl G t ms n w := by
  obtain ⟨T, hS, va, vd, vs, vk, vi, hT⟩ := h
  exact ⟨T, hS, (hT.mono hg).at⟩
theorem Tbl.doF {F : Nat → Prop} {t : Nat} {ms : List Int} {n : Nat} {w : World} (h : Tbl F t ms n w) (hn : n ≤ 1000000) (b : Bool) (i v : Int) (hi : -65536 ≤ i ∧ i ≤ 65536 + n) (hv : -2147483648 ≤ v ∧ v ≤ 2147483647) :
    Calls Try.prog 31 #[.pointer (some ⟨t, 0, none⟩), .bool b, .int .i64 i, .int .i32 v] w fun e w' => e = .returned (.tuple #[]) ∧ Tbl (Fw F w) t (stepM ms b i v) (n + 1) w' ∧ Upd F w w' := by
  obtain ⟨T, hS, hT⟩ := h
  refine (do_any w t T _ hT ms n hS hn b i v hi hv).mono ?_
  rintro e w' ⟨he, T', h1, h2, h3⟩
  exact ⟨he, ⟨T', h1, h2⟩, h3⟩
theorem Tbl.do {B t : Nat} {ms : List Int} {n : Nat} {w : World} (h : Tbl (fun k => B ≤ k) t ms n w) (hB : B ≤ w.heap.size) (hn : n ≤ 1000000) (b : Bool) (i v : Int) (hi : -65536 ≤ i ∧ i ≤ 65536 + n) (hv : -2147483648 ≤ v ∧ v ≤ 2147483647) :
    Calls Try.prog 31 #[.pointer (some ⟨t, 0, none⟩), .bool b, .int .i64 i, .int .i32 v] w fun e w' => e = .returned (.tuple #[]) ∧ Tbl (fun k => B ≤ k) t (stepM ms b i v) (n + 1) w' ∧ Below B w w' ∧ w.heap.size ≤ w'.heap.size := by
  obtain ⟨T, hS, hT⟩ := h
  refine (do_any w t T _ hT ms n hS hn b i v hi hv).mono ?_
  rintro e w' ⟨he, T', h1, h2, h3⟩
  refine ⟨he, ⟨T', h1, ?_⟩, h3.below (fun k hk => hk) hB, h3.size⟩
  obtain ⟨va, vd, vs, vk, vi, hT'⟩ := h2
  exact (hT'.mono fun k _ hk => hk.elim id fun hk => Nat.le_trans hB hk).at
end Go.Lua
