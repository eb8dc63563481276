/-
  n005_31: slices of the walk's own, and zzCloneI32.
-/
import Derived.Test.YtdpdpknkfolajaaRegOps
namespace Go.Lua
open Go.Proofs Go.RowKit
set_option linter.unusedVariables false

theorem IsSl.form {w : World} {v : Value} {vs : List Value} (h : IsSl w v vs) : ∃ p c, v = .slice p vs.length c ∧ vs.length ≤ c ∧ c ≤ maxLen ∧ (p = none → vs = [] ∧ c = 0) ∧ ∀ i u, vs[i]? = some u → ∃ a, p = some a ∧ w.cell? (a.add i) = some u := by
  rcases h with ⟨h1, h2⟩ | ⟨a, cap, h1, h2, h3, h4⟩
  · subst h1 h2
    exact ⟨none, 0, rfl, Nat.le_refl _, Nat.zero_le _, fun _ => ⟨rfl, rfl⟩, fun i u hu => by simp at hu⟩
  · exact ⟨some a, cap, h1, h2, h3, (fun e => nomatch e), fun i u hu => ⟨a, rfl, h4 i u hu⟩⟩

theorem RowAt.isSl {w : World} {b : Nat} {e : TypeId} {cs : List Value} (h : RowAt w b e cs) {n : Nat} (hn : cs.length = n) (hm : n ≤ maxLen) : IsSl w (.slice (some ⟨b, 0, none⟩) n n) cs := by
  subst hn
  refine .inr ⟨_, _, rfl, Nat.le_refl _, hm, fun i u hu => ?_⟩
  have : (⟨b, 0, none⟩ : Addr).add i = ⟨b, i, none⟩ := by unfold Addr.add; split <;> simp_all
  rw [this]
  exact h.cell hu

/-- The first j of xs, zeros behind them. -/
def partly (xs : List Value) (z : Value) (j : Nat) : List Value := xs.take j ++ List.replicate (xs.length - j) z
theorem partly_zero (xs : List Value) (z : Value) : partly xs z 0 = List.replicate xs.length z := by simp [partly]
theorem partly_full (xs : List Value) (z : Value) : partly xs z xs.length = xs := by simp [partly]
theorem partly_at {xs : List Value} (z : Value) {j : Nat} (h : j < xs.length) : (partly xs z j)[j]? = some z := by
  unfold partly
  rw [List.getElem?_append_right (by simp; omega)]
  simp [List.getElem?_replicate]
  omega
theorem partly_set {xs : List Value} (z : Value) {j : Nat} {u : Value} (h : xs[j]? = some u) : (partly xs z j).set j u = partly xs z (j + 1) := by
  obtain ⟨hj, rfl⟩ := List.getElem?_eq_some_iff.1 h
  unfold partly
  have e4 : (xs.take j).length = j := by simp; omega
  rw [List.set_append_right _ _ (by omega), e4, List.take_succ_eq_append_getElem hj, Nat.sub_self, show xs.length - j = (xs.length - (j + 1)) + 1 by omega, List.replicate_succ, List.set_cons_zero, List.append_assoc]
  rfl

/-- A clone's word. -/
def CloneW (w : World) (b : Nat) (e : TypeId) (xs : List Value) (z : Value) (i : Value) (wr : World) : Prop :=
  ∃ j : Nat, j ≤ xs.length ∧ i = .int .i64 j ∧ RowAt wr b e (partly xs z j) ∧ Upd (fun _ => False) w wr

/-- It hands back a slice of its own with these values. -/
def Cloned (w : World) (xs : List Value) (e : Ending) (w' : World) : Prop := ∃ v', e = .returned v' ∧ IsSl w' v' xs ∧ Upd (fun _ => False) w w'
theorem rowNew' (w : World) (z : Value) (n : Nat) (e : TypeId) : RowAt (w.alloc (.cells (madeCells #[z] n) e)) w.heap.size e (List.replicate n z) := by
  have := RowAt.new w z n e
  rwa [show rowF n (fun _ => z) = List.replicate n z by unfold rowF; rw [List.map_const', List.length_range]] at this

theorem clone32_info : (Try.prog.info? 21).map (fun i => (i.zero, i.size, decide (i.bytes ≤ 64))) = some (some (.int .i32 0), 1, true) := by kernel_rfl
theorem clone32_made (n : Nat) (h1 : n ≤ 4398046511104) (w : World) : (Instr.makeSlice 22 (.int .i64 n) (.int .i64 n)).run Try.prog w = .ok (.slice (some ⟨w.heap.size, 0, none⟩) n n) (w.alloc (.cells (madeCells #[.int .i32 0] n) 21)) := by
  obtain ⟨i, hi, hz, hs, hby⟩ : ∃ i, Try.prog.info? 21 = some i ∧ i.zero = some (.int .i32 0) ∧ i.size = 1 ∧ i.bytes ≤ 64 := by simpa using clone32_info
  have hb : (i.bytes : Int) * n ≤ 281474976710656 := by
    have : (i.bytes : Int) * n ≤ 64 * n := Int.mul_le_mul_of_nonneg_right (by omega) (by omega)
    omega
  have := run_make (P := Try.prog) w 22 21 i (.int .i32 0) Try.underlying22 hi hz .i64 .i64 n n (by omega) (Int.le_refl _) hb (by omega)
  rw [hs, Nat.mul_one] at this
  exact this

@[go_sem] theorem clone32_eqnil (a : Option Addr) (n c : Nat) (w : World) : (binOp .eql 22 (.slice a n c) (.slice none 0 0)).run Try.prog w = .ok (.bool a.isNone) w := Lib.run_eql_slice_nil w _ _ _ _ _ _ _ Try.underlying22

set_option maxHeartbeats 400000 in
theorem clone32_any (w : World) (v : Value) (xs : List Value) (h : IsSl w v xs) (hl : xs.length ≤ 1048576) (hone : ∀ u ∈ xs, ∃ y, u = .int .i32 y) :
    Calls Try.prog 9 #[v] w (Cloned w xs) := by
  obtain ⟨p, c, rfl, k, m, hn, g⟩ := h.form
  unfold maxLen at m
  cases p with
  | none =>
    obtain ⟨rfl, rfl⟩ := hn rfl
    go_enter Try.func9, Try.ntmps9
    go_wp2
    go_ret
    exact ⟨_, rfl, .inl ⟨rfl, rfl⟩, Upd.refl _ _⟩
  | some a =>
    have hm := clone32_made xs.length (by omega)
    have G := Lib.hid g
    have O := Lib.hid hone
    have hlt : ∀ j u, xs[j]? = some u → a.block < w.heap.size := fun j u hu => by
      obtain ⟨a', e, hc⟩ := g j u hu
      cases e
      have hb : (a.add j).block = a.block := by unfold Addr.add; split <;> rfl
      rw [← hb]
      exact World.block_lt_of_cell? w _ hc
    have L := Lib.hid hlt
    have hx3 : xs.length ≤ maxLen := by unfold maxLen; omega
    clear h hn g hone hlt
    go_enter Try.func9, Try.ntmps9
    go_wp2_with (simp only [hm])
    go_loopw [4] (CloneW w w.heap.size 21 xs (.int .i32 0)) (fun i _ => (xs.length - intOf i).toNat)
    case atStart => exact ⟨0, Nat.zero_le _, rfl, by rw [partly_zero]; exact rowNew' w _ _ _, (Upd.refl _ w).alloc _⟩
    case round =>
      clear hm
      obtain ⟨j, hj, rfl, hr, hu⟩ := hrel
      by_cases hlt : (j : Int) < xs.length
      · obtain ⟨u, hu1⟩ : ∃ u, xs[j]? = some u := ⟨xs[j]'(by omega), by simp⟩
        obtain ⟨a', ea, hc⟩ := G.out j u hu1
        cases ea
        have hab := L.out j u hu1
        have hc2 : wr.cell? (a.add j) = some u := by
          have hb : (a.add j).block = a.block := by unfold Addr.add; split <;> rfl
          rw [← hc]
          unfold World.cell?
          rw [hb, hu.block a.block hab (fun h => h)]
        have hr1 := hr.cell (partly_at (.int .i32 0) (show j < xs.length by omega))
        have hr2 := hr.thaw j
        obtain ⟨y, rfl⟩ := O.out u (List.mem_of_getElem? hu1)
        have HU := Lib.hid hu1
        have HR := Lib.hid hr
        have Hu := Lib.hid hu
        have hne : a.block ≠ w.heap.size := by omega
        clear hu1 hr hu hc
        go_wp2_with fail
        go_roundw
        case rel => exact ⟨j + 1, by omega, by go_num, by rw [← partly_set _ HU.out]; exact HR.out.set j _, Hu.out.setCell (.inr (Nat.le_refl _)) _⟩
        case measure => simp [intOf]; omega
      · have hje : j = xs.length := by omega
        subst hje
        rw [partly_full] at hr
        have HR := Lib.hid (hr.isSl rfl hx3)
        have Hu := Lib.hid hu
        clear hr hu
        go_wp2
        go_ret
        exact ⟨_, rfl, HR.out, Hu.out⟩


end Go.Lua
