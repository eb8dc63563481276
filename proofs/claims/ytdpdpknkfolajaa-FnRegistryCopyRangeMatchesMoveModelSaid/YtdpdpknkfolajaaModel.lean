/-
  n005_31: the models' rows kind and num, and what the laws' loops write into them.
-/
import Derived.Test.YtdpdpknkfolajaaShim
namespace Go.Lua
open Go.Proofs Go.RowKit
set_option linter.unusedVariables false

theorem kind_info : (Try.prog.info? 3).map (fun i => (i.zero, i.size, decide (i.bytes ≤ 64))) = some (some (.int .i64 0), 1, true) := by kernel_rfl
theorem kind_made (n : Nat) (h1 : n ≤ 4398046511104) (w : World) : (Instr.makeSlice 32 (.int .i64 n) (.int .i64 n)).run Try.prog w = .ok (.slice (some ⟨w.heap.size, 0, none⟩) n n) (w.alloc (.cells (madeCells #[.int .i64 0] n) 3)) := by
  obtain ⟨i, hi, hz, hs, hby⟩ : ∃ i, Try.prog.info? 3 = some i ∧ i.zero = some (.int .i64 0) ∧ i.size = 1 ∧ i.bytes ≤ 64 := by simpa using kind_info
  have hb : (i.bytes : Int) * n ≤ 281474976710656 := by
    have : (i.bytes : Int) * n ≤ 64 * n := Int.mul_le_mul_of_nonneg_right (by omega) (by omega)
    omega
  have := run_make (P := Try.prog) w 32 3 i (.int .i64 0) Try.underlying32 hi hz .i64 .i64 n n (by omega) (Int.le_refl _) hb (by omega)
  rw [hs, Nat.mul_one] at this
  exact this

/-- A row of n numbers of kind k, filled by f below j. -/
def rowN (k : IntKind) (n : Nat) (f : Nat → Int) (j : Nat) : List Value := rowF n fun x => .int k (if x < j then f x else 0)
theorem rowN_zero (k : IntKind) (n : Nat) (f : Nat → Int) : rowN k n f 0 = rowF n fun _ => .int k 0 := rowF_congr fun x _ => by rw [if_neg (by omega)]
theorem rowN_full (k : IntKind) (n : Nat) (f : Nat → Int) : rowN k n f n = rowF n fun x => .int k (f x) := rowF_congr fun x hx => by rw [if_pos hx]
theorem rowN_set (k : IntKind) (n : Nat) (f : Nat → Int) (j : Nat) {v : Int} (h : f j = v) : (rowN k n f j).set j (.int k v) = rowN k n f (j + 1) := by
  unfold rowN
  rw [rowF_set]
  refine rowF_congr fun x _ => ?_
  by_cases hx : x = j
  · subst hx; rw [if_pos rfl, if_pos (Nat.lt_succ_self _), h]
  · rw [if_neg hx]
    by_cases hlt : x < j
    · rw [if_pos hlt, if_pos (by omega)]
    · rw [if_neg hlt, if_neg (by omega)]
theorem rowN_skip (k : IntKind) (n : Nat) (f : Nat → Int) (j : Nat) (h : f j = 0) : rowN k n f j = rowN k n f (j + 1) := by
  refine rowF_congr fun x _ => ?_
  by_cases hx : x = j
  · subst hx; rw [if_neg (by omega), if_pos (by omega), h]
  · by_cases hlt : x < j
    · rw [if_pos hlt, if_pos (by omega)]
    · rw [if_neg hlt, if_neg (by omega)]
theorem rowN_at (k : IntKind) {n j : Nat} (f : Nat → Int) (h : j < n) : (rowN k n f j)[j]? = some (.int k 0) := by
  unfold rowN
  rw [rowF_at _ h, if_neg (by omega)]

/-- The two rows in the loop: what lay before w2 stands. -/
structure Rows2 (w2 : World) (bk bm n : Nat) (kd nm : Nat → Int) (j : Nat) (wr : World) : Prop where
  kind : RowAt wr bk 3 (rowN .i64 n kd j)
  num : RowAt wr bm 21 (rowN .i32 n nm j)
  upd : Upd (fun _ => False) w2 wr
  hk : w2.heap.size ≤ bk
  hm : w2.heap.size ≤ bm
  ne : bk ≠ bm
section
variable {w2 wr w' : World} {bk bm n j : Nat} {kd nm : Nat → Int}
theorem Rows2.start (w : World) (n : Nat) (kd nm : Nat → Int) : Rows2 w w.heap.size (w.heap.size + 1) n kd nm 0 ((w.alloc (.cells (madeCells #[.int .i64 0] n) 3)).alloc (.cells (madeCells #[.int .i32 0] n) 21)) := by
  refine ⟨?_, ?_, ((Upd.refl _ _).alloc _).alloc _, Nat.le_refl _, Nat.le_succ _, by omega⟩
  · rw [rowN_zero]
    exact (RowAt.new w _ n _).of_heap (Below.heap_alloc _ _ _ (by simp))
  · rw [rowN_zero]
    have := RowAt.new (w.alloc (.cells (madeCells #[.int .i64 0] n) 3)) (.int .i32 0) n 21
    simpa using this
/-- kind[j] set; num[j] left at 0. -/
theorem Rows2.one (h : Rows2 w2 bk bm n kd nm j wr) {c : Int} (hc : kd j = c) (hz : nm j = 0) : Rows2 w2 bk bm n kd nm (j + 1) (wr.setCell ⟨bk, j, none⟩ (.int .i64 c)) :=
  ⟨by rw [← rowN_set .i64 n kd j hc]; exact h.kind.set _ _, by rw [← rowN_skip .i32 n nm j hz]; exact h.num.of_heap (Below.heap_setCell _ ⟨bk, j, none⟩ _ _ (fun e => h.ne e.symm)), h.upd.setCell (.inr h.hk) _, h.hk, h.hm, h.ne⟩
/-- Both set. -/
theorem Rows2.two (h : Rows2 w2 bk bm n kd nm j wr) {c d : Int} (hc : kd j = c) (hd : nm j = d) : Rows2 w2 bk bm n kd nm (j + 1) ((wr.setCell ⟨bk, j, none⟩ (.int .i64 c)).setCell ⟨bm, j, none⟩ (.int .i32 d)) :=
  ⟨by rw [← rowN_set .i64 n kd j hc]; exact (h.kind.set _ _).of_heap (Below.heap_setCell _ ⟨bm, j, none⟩ _ _ h.ne), by rw [← rowN_set .i32 n nm j hd]; exact (h.num.of_heap (Below.heap_setCell _ ⟨bk, j, none⟩ _ _ (fun e => h.ne e.symm))).set _ _, (h.upd.setCell (.inr h.hk) _).setCell (.inr h.hm) _, h.hk, h.hm, h.ne⟩
theorem Rows2.cells (h : Rows2 w2 bk bm n kd nm j wr) (hj : j < n) : wr.cell? ⟨bk, j, none⟩ = some (.int .i64 0) ∧ wr.frozen? ⟨bk, j, none⟩ = false ∧ wr.cell? ⟨bm, j, none⟩ = some (.int .i32 0) ∧ wr.frozen? ⟨bm, j, none⟩ = false :=
  ⟨h.kind.cell (rowN_at .i64 kd hj), h.kind.thaw j, h.num.cell (rowN_at .i32 nm hj), h.num.thaw j⟩
theorem Rows2.full (h : Rows2 w2 bk bm n kd nm n wr) (u : Upd (fun _ => False) wr w') : RowAt w' bk 3 (rowF n fun x => .int .i64 (kd x)) ∧ RowAt w' bm 21 (rowF n fun x => .int .i32 (nm x)) := by
  have h1 := h.kind
  have h2 := h.num
  rw [rowN_full] at h1 h2
  exact ⟨h1.of_heap (u.block _ h1.lt fun h => h), h2.of_heap (u.block _ h2.lt fun h => h)⟩
end
end Go.Lua
