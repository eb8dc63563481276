/-
  n005_31: a growing slice of int32 (want), by the kit's law of owned rows.
-/
import Derived.Test.YtdpdpknkfolajaaModel
import Derived.Laws.AppendOwn
namespace Go.Lua
open Go.Proofs Go.RowKit
set_option linter.unusedVariables false

/-- The slice v holds these numbers, in a row made behind w2; all that lay there before w2 stands. -/
structure WantAt (w2 : World) (v : Value) (zs : List Int) (wr : World) : Prop where
  own : wr.ownsRow w2.heap.size 21 1 v zs.length (zs.map (Value.int .i32))
  upd : Upd (fun _ => False) w2 wr
theorem made32_cap (n : Nat) (h1 : n ≤ 4398046511104) (w : World) : (Instr.makeSlice 22 (.int .i64 0) (.int .i64 n)).run Try.prog w = .ok (.slice (some ⟨w.heap.size, 0, none⟩) 0 n) (w.alloc (.cells (madeCells #[.int .i32 0] n) 21)) := by
  obtain ⟨i, hi, hz, hs, hby⟩ : ∃ i, Try.prog.info? 21 = some i ∧ i.zero = some (.int .i32 0) ∧ i.size = 1 ∧ i.bytes ≤ 64 := by simpa using clone32_info
  have hb : (i.bytes : Int) * n ≤ 281474976710656 := by
    have : (i.bytes : Int) * n ≤ 64 * n := Int.mul_le_mul_of_nonneg_right (by omega) (by omega)
    omega
  have := run_make (P := Try.prog) w 22 21 i (.int .i32 0) Try.underlying22 hi hz .i64 .i64 0 n (Int.le_refl _) (by omega) hb (by omega)
  rw [hs, Nat.mul_one] at this
  exact this
theorem want_start (w : World) (n : Nat) (h1 : n ≤ 65536) : WantAt w (.slice (some ⟨w.heap.size, 0, none⟩) 0 n) [] (w.alloc (.cells (madeCells #[.int .i32 0] n) 21)) :=
  ⟨World.ownsRow_made w _ n (Nat.le_refl _) (by unfold maxLen; omega) (by rw [size_madeCells]; simp), (Upd.refl _ _).alloc _⟩
theorem WantAt.since {w0 w2 wr : World} {v : Value} {zs : List Int} (h : WantAt w2 v zs wr) (u : Upd (fun _ => False) w0 w2) : WantAt w0 v zs wr := by
  obtain ⟨⟨h1, h2⟩, hu⟩ := h
  refine ⟨⟨h1, ?_⟩, none_trans u hu⟩
  rcases h2 with h2 | ⟨g, cap, cur, a, b, c⟩
  · exact .inl h2
  · exact .inr ⟨g, cap, cur, a, Nat.le_trans u.size b, c⟩
/-- .. for the walk: one number appended. -/
theorem wpList_append_32 {w2 w : World} {ops : Array Oper} {rest : List Oper} {o : Oper} {a : Act} {Q : Exit → Act → World → Prop} (hgd : o.guard = none) (s x : Operand)
    (ho : o.op = .call { callee := .builtin .append, args := #[s, x], argTypes := #[22, 22] })
    (v : Value) (zs : List Int) (hs : a.eval s = v) (h : WantAt w2 v zs w) (ad : Addr) (c : Nat) (u : Int) (hx : a.eval x = .slice (some ad) 1 c) (hu : w.cell? ad = some (.int .i32 u)) (hl : zs.length ≤ 65536)
    (hK : ∀ v' w', WantAt w2 v' (zs ++ [u]) w' → (∃ p c', v' = .slice p (zs.length + 1) c') → wpList Try.prog ops Q rest (a.put o.dst v') w') : wpList Try.prog ops Q (o :: rest) a w := by
  obtain ⟨i, hi, hz, hsz, hby⟩ : ∃ i, Try.prog.info? 21 = some i ∧ i.zero = some (.int .i32 0) ∧ i.size = 1 ∧ i.bytes ≤ 64 := by simpa using clone32_info
  refine wpList_append_own w hgd s x 22 ho w2.heap.size 21 i (.int .i32 0) 1 i.bytes Try.underlying22 hi hz hsz rfl rfl (by decide) v zs.length _ hs h.own ad 1 c [.int .i32 u] hx rfl ?_ ?_ ?_ ?_ h.upd.size ?_
  · intro j y hy
    cases j with
    | zero => simp at hy; subst hy; simpa [Addr.add] using hu
    | succ j => simp at hy
  · intro y hy
    rw [List.mem_singleton.1 hy]
    rfl
  · unfold maxLen; omega
  · have : (zs.length + 1) * i.bytes ≤ 65537 * 64 := Nat.mul_le_mul (by omega) hby
    omega
  · intro v' w' ho' hg hv
    have ho2 : w'.ownsRow w2.heap.size 21 1 v' (zs ++ [u]).length ((zs ++ [u]).map (Value.int .i32)) := by
      rw [List.length_append, List.map_append]; exact ho'
    refine hK v' w' ⟨ho2, ?_⟩ ?_
    · refine h.upd.after (b := w) (c := w') (G := fun k => some k = v.ownBlock) ⟨hg.os, hg.tape, hg.output, hg.size, fun k hk hf => hg.block k hk hf⟩ fun k hk => .inr ?_
      exact (h.own.lt k hk.symm).1
    · obtain ⟨-, h2⟩ := ho'
      rcases h2 with ⟨-, h2⟩ | ⟨g, cap, cur, rfl, -⟩
      · omega
      · exact ⟨_, _, rfl⟩
theorem cell_new_of {w : World} {b : Nat} {u : Value} {e : TypeId} (h : b = w.heap.size) : (w.alloc (.cells #[u] e)).cell? ⟨b, 0, none⟩ = some u := by
  subst h
  simp
theorem WantAt.alloc {w2 w : World} {v : Value} {zs : List Int} (h : WantAt w2 v zs w) (o : Obj) : WantAt w2 v zs (w.alloc o) := ⟨h.own.alloc o, h.upd.alloc o⟩
/-- Read as a slice that came in. -/
theorem WantAt.isl {w2 w : World} {v : Value} {zs : List Int} (h : WantAt w2 v zs w) : ∃ p c, v = .slice p zs.length c ∧ ∀ i u, zs[i]? = some u → ∃ a, p = some a ∧ w2.heap.size ≤ a.block ∧ a.block < w.heap.size ∧ w.cell? (a.add i) = some (.int .i32 u) := by
  have h1 := h.own
  obtain ⟨h1, h2⟩ := h.own
  rcases h2 with ⟨rfl, h2⟩ | ⟨g, cap, cur, rfl, hg, hb, hn, hm, hc, ht⟩
  · refine ⟨none, 0, by rw [h2], fun i u hu => ?_⟩
    rw [List.getElem?_eq_none (by omega)] at hu
    cases hu
  · refine ⟨_, _, rfl, fun i u hu => ⟨_, rfl, hg, (Array.getElem?_eq_some_iff.1 hb).1, h.own.cells (g := g) rfl i _ (by simp [hu])⟩⟩
end Go.Lua
