/-
  A row of a walk's own: what it holds, a store into it, the slice over it.
-/
import Derived.Test.YtfkemahinnpgdaaNew
import Derived.Test.YtfkemahinnpgdaaArgs
import Derived.Laws.OwnMore
namespace Go.Lua
open Go.Proofs Go.RowKit
set_option linter.unusedVariables false

theorem IsSl.form {w : World} {v : Value} {vs : List Value} (h : IsSl w v vs) : ∃ p c, v = .slice p vs.length c ∧ vs.length ≤ c ∧ c ≤ maxLen ∧ (p = none → vs = [] ∧ c = 0) ∧ ∀ i u, vs[i]? = some u → ∃ a, p = some a ∧ w.cell? (a.add i) = some u := by
  rcases h with ⟨h1, h2⟩ | ⟨a, cap, h1, h2, h3, h4⟩
  · subst h1 h2
    exact ⟨none, 0, rfl, Nat.le_refl _, Nat.zero_le _, fun _ => ⟨rfl, rfl⟩, fun i u hu => by simp at hu⟩
  · exact ⟨some a, cap, h1, h2, h3, (fun e => nomatch e), fun i u hu => ⟨a, rfl, h4 i u hu⟩⟩

/-- The row at block b holds cs. -/
def RowAt (w : World) (b : Nat) (e : TypeId) (cs : List Value) : Prop := w.heap[b]? = some (.cells cs.toArray e (0, 0))

theorem RowAt.cell {w : World} {b : Nat} {e : TypeId} {cs : List Value} (h : RowAt w b e cs) {i : Nat} {u : Value} (hu : cs[i]? = some u) : w.cell? ⟨b, i, none⟩ = some u := by
  unfold RowAt at h
  simpa [World.cell?, h] using hu
theorem RowAt.thaw {w : World} {b : Nat} {e : TypeId} {cs : List Value} (h : RowAt w b e cs) (i : Nat) : w.frozen? ⟨b, i, none⟩ = false := by
  unfold RowAt at h
  simp only [World.frozen?, h]
  simp
theorem RowAt.lt {w : World} {b : Nat} {e : TypeId} {cs : List Value} (h : RowAt w b e cs) : b < w.heap.size := (Array.getElem?_eq_some_iff.1 h).1
theorem RowAt.set {w : World} {b : Nat} {e : TypeId} {cs : List Value} (h : RowAt w b e cs) (i : Nat) (u : Value) : RowAt (w.setCell ⟨b, i, none⟩ u) b e (cs.set i u) := by
  unfold RowAt at h ⊢
  rw [head_setCell h]
  simp
theorem RowAt.new (w : World) (z : Value) (n : Nat) (e : TypeId) : RowAt (w.alloc (.cells (madeCells #[z] n) e)) w.heap.size e (List.replicate n z) := by
  unfold RowAt
  rw [heap_alloc_new w]
  congr 2
  rw [← toList_madeCells_one]
theorem RowAt.of_heap {w w' : World} {b : Nat} {e : TypeId} {cs : List Value} (h : RowAt w b e cs) (hh : w'.heap[b]? = w.heap[b]?) : RowAt w' b e cs := hh.trans h
theorem RowAt.isSl {w : World} {b : Nat} {e : TypeId} {cs : List Value} (h : RowAt w b e cs) {n : Nat} (hn : cs.length = n) (hm : n ≤ maxLen) : IsSl w (.slice (some ⟨b, 0, none⟩) n n) cs := by
  subst hn
  refine .inr ⟨_, _, rfl, Nat.le_refl _, hm, fun i u hu => ?_⟩
  have : (⟨b, 0, none⟩ : Addr).add i = ⟨b, i, none⟩ := by unfold Addr.add; split <;> simp_all
  rw [this]
  exact h.cell hu

/-- The first j of xs, zeros behind them. -/
def partly (xs : List Value) (z : Value) (j : Nat) : List Value := xs.take j ++ List.replicate (xs.length - j) z
theorem partly_zero (xs : List Value) (z : Value) : partly xs z 0 = List.replicate xs.length z := by simp [partly]
theorem partly_full (xs : List Value) (z : Value) : partly xs z xs.length = xs := by simp [partly]
theorem partly_at {xs : List Value} (z : Value) {j : Nat} (h : j < xs.length) : (partly xs z j)[j]? = some z := by
  unfold partly
  rw [List.getElem?_append_right (by simp; omega)]
  simp [List.getElem?_replicate]
  omega
theorem partly_set {xs : List Value} (z : Value) {j : Nat} {u : Value} (h : xs[j]? = some u) : (partly xs z j).set j u = partly xs z (j + 1) := by
  obtain ⟨hj, rfl⟩ := List.getElem?_eq_some_iff.1 h
  unfold partly
  have e4 : (xs.take j).length = j := by simp; omega
  rw [List.set_append_right _ _ (by omega), e4, List.take_succ_eq_append_getElem hj, Nat.sub_self, show xs.length - j = (xs.length - (j + 1)) + 1 by omega, List.replicate_succ, List.set_cons_zero, List.append_assoc]
  rfl

/-- A clone's word. -/
def CloneW (w : World) (b : Nat) (e : TypeId) (xs : List Value) (z : Value) (i : Value) (wr : World) : Prop :=
  ∃ j : Nat, j ≤ xs.length ∧ i = .int .i64 j ∧ RowAt wr b e (partly xs z j) ∧ Upd (fun _ => False) w wr

/-- It hands back a slice of its own with these values. -/
def Cloned (w : World) (xs : List Value) (e : Ending) (w' : World) : Prop := ∃ v', e = .returned v' ∧ IsSl w' v' xs ∧ Upd (fun _ => False) w w'
end Go.Lua
