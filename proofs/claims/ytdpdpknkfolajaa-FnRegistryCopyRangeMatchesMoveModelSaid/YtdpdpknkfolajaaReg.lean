/-
  n005_31: a registry in memory: six cells and a row of LValues, told as a function of the slot.
-/
import Derived.Test.YtdpdpknkfolajaaLv
import Derived.Test.YtdpdpknkfolajaaArgs
import Derived.Below
import Derived.Laws.OwnMore
import Derived.Lib.Hide
import Derived.OwnWalk
namespace Go.Lua
open Go.Proofs Go.RowKit
set_option linter.unusedVariables false

/-- A row of n cells, told by a function. -/
def rowF {α : Type} (n : Nat) (f : Nat → α) : List α := (List.range n).map f
theorem rowF_length {α : Type} (n : Nat) (f : Nat → α) : (rowF n f).length = n := by simp [rowF]
theorem rowF_at {α : Type} {n i : Nat} (f : Nat → α) (h : i < n) : (rowF n f)[i]? = some (f i) := by
  unfold rowF
  rw [List.getElem?_map, List.getElem?_range h]
  rfl
theorem rowF_set {α : Type} (n : Nat) (f : Nat → α) (i : Nat) (v : α) : (rowF n f).set i v = rowF n (fun k => if k = i then v else f k) := by
  apply List.ext_getElem?
  intro k
  rw [List.getElem?_set]
  by_cases hk : k < n
  · by_cases hi : i = k
    · subst hi
      rw [if_pos rfl, if_pos (by rw [rowF_length]; exact hk), rowF_at _ hk, if_pos rfl]
    · rw [if_neg hi, rowF_at _ hk, rowF_at _ hk, if_neg (fun h => hi h.symm)]
  · by_cases hi : i = k
    · rw [if_pos hi, if_neg (by rw [rowF_length]; omega), List.getElem?_eq_none (by rw [rowF_length]; omega)]
    · rw [if_neg hi, List.getElem?_eq_none (by rw [rowF_length]; omega), List.getElem?_eq_none (by rw [rowF_length]; omega)]
theorem rowF_congr {α : Type} {n : Nat} {f g : Nat → α} (h : ∀ k, k < n → f k = g k) : rowF n f = rowF n g := by
  unfold rowF
  exact List.map_congr_left fun k hk => h k (List.mem_range.1 hk)

/-- The row at block b holds cs. -/
def RowAt (w : World) (b : Nat) (e : TypeId) (cs : List Value) : Prop := w.heap[b]? = some (.cells cs.toArray e (0, 0))
theorem RowAt.cell {w : World} {b : Nat} {e : TypeId} {cs : List Value} (h : RowAt w b e cs) {i : Nat} {u : Value} (hu : cs[i]? = some u) : w.cell? ⟨b, i, none⟩ = some u := by
  unfold RowAt at h
  simpa [World.cell?, h] using hu
theorem RowAt.thaw {w : World} {b : Nat} {e : TypeId} {cs : List Value} (h : RowAt w b e cs) (i : Nat) : w.frozen? ⟨b, i, none⟩ = false := by
  unfold RowAt at h
  simp only [World.frozen?, h]
  simp
theorem RowAt.lt {w : World} {b : Nat} {e : TypeId} {cs : List Value} (h : RowAt w b e cs) : b < w.heap.size := (Array.getElem?_eq_some_iff.1 h).1
theorem head_setCell {w : World} {t : Nat} {cs : Array Value} {e : TypeId} (h : w.heap[t]? = some (.cells cs e (0, 0))) (i : Nat) (u : Value) : (w.setCell ⟨t, i, none⟩ u).heap[t]? = some (.cells (cs.setIfInBounds i u) e (0, 0)) := by
  simp [World.setCell, Array.getElem?_modify, h]
theorem RowAt.set {w : World} {b : Nat} {e : TypeId} {cs : List Value} (h : RowAt w b e cs) (i : Nat) (u : Value) : RowAt (w.setCell ⟨b, i, none⟩ u) b e (cs.set i u) := by
  unfold RowAt at h ⊢
  rw [head_setCell h]
  simp
theorem RowAt.of_heap {w w' : World} {b : Nat} {e : TypeId} {cs : List Value} (h : RowAt w b e cs) (hh : w'.heap[b]? = w.heap[b]?) : RowAt w' b e cs := hh.trans h
theorem RowAt.new (w : World) (z : Value) (n : Nat) (e : TypeId) : RowAt (w.alloc (.cells (madeCells #[z] n) e)) w.heap.size e (rowF n fun _ => z) := by
  unfold RowAt
  rw [heap_alloc_new w]
  congr 2
  apply Array.ext'
  rw [toList_madeCells_one, List.toList_toArray]
  unfold rowF
  rw [List.map_const', List.length_range]

/-- What has turned from w to w': blocks of F alone, and new ones. -/
structure Upd (F : Nat → Prop) (w w' : World) : Prop where
  os : w'.os = w.os
  tape : w'.tape = w.tape
  output : w'.output = w.output
  size : w.heap.size ≤ w'.heap.size
  block : ∀ k, k < w.heap.size → ¬ F k → w'.heap[k]? = w.heap[k]?
theorem Upd.refl (F : Nat → Prop) (w : World) : Upd F w w := ⟨rfl, rfl, rfl, Nat.le_refl _, fun _ _ _ => rfl⟩
theorem Upd.trans {F : Nat → Prop} {a b c : World} (h : Upd F a b) (k : Upd F b c) : Upd F a c :=
  ⟨k.os.trans h.os, k.tape.trans h.tape, k.output.trans h.output, Nat.le_trans h.size k.size, fun i hi hf => (k.block i (Nat.lt_of_lt_of_le hi h.size) hf).trans (h.block i hi hf)⟩
/-- Of a later world the blocks that a did not have may turn as well. -/
theorem Upd.after {F G : Nat → Prop} {a b c : World} (h : Upd F a b) (k : Upd G b c) (hg : ∀ i, G i → F i ∨ a.heap.size ≤ i) : Upd F a c :=
  ⟨k.os.trans h.os, k.tape.trans h.tape, k.output.trans h.output, Nat.le_trans h.size k.size, fun i hi hf =>
    (k.block i (Nat.lt_of_lt_of_le hi h.size) (fun hx => (hg i hx).elim hf (fun hx => by omega))).trans (h.block i hi hf)⟩
theorem Upd.drewN {F : Nat → Prop} {a b : World} (h : Upd F a b) (n : Nat) : Upd F a (b.drewN n) := ⟨h.os, h.tape, h.output, h.size, h.block⟩
theorem Upd.drew {F : Nat → Prop} {a b : World} (h : Upd F a b) : Upd F a b.drew := ⟨h.os, h.tape, h.output, h.size, h.block⟩
theorem Upd.alloc {F : Nat → Prop} {a b : World} (h : Upd F a b) (o : Obj) : Upd F a (b.alloc o) :=
  ⟨h.os, h.tape, h.output, by simp; exact Nat.le_succ_of_le h.size, fun i hi hf => (Below.heap_alloc _ _ _ (Nat.lt_of_lt_of_le hi h.size)).trans (h.block i hi hf)⟩
theorem Upd.setCell {F : Nat → Prop} {a b : World} (h : Upd F a b) {p : Addr} (hp : F p.block ∨ a.heap.size ≤ p.block) (u : Value) : Upd F a (b.setCell p u) :=
  ⟨h.os, h.tape, h.output, by simp; exact h.size, fun i hi hf => by
    rw [Below.heap_setCell _ _ _ _ (fun e => by subst e; exact hp.elim hf (fun hp => by omega))]
    exact h.block i hi hf⟩
theorem Upd.below {F : Nat → Prop} {a b : World} (h : Upd F a b) {B : Nat} (hB : ∀ k, F k → B ≤ k) (hs : B ≤ a.heap.size) : Below B a b :=
  ⟨h.os, h.tape, h.output, h.size, fun k hk => h.block k (by omega) fun hf => by have := hB k hf; omega⟩
theorem none_below {a b : World} (h : Upd (fun _ => False) a b) : Below a.heap.size a b := h.below (fun k hk => hk.elim) (Nat.le_refl _)
theorem old_at {w wr : World} (h : Upd (fun _ => False) w wr) {a : Addr} {u : Value} (hc : w.cell? a = some u) : wr.cell? a = some u := by
  have hlt := World.block_lt_of_cell? w _ hc
  rw [← hc]
  unfold World.cell?
  rw [h.block _ hlt (fun h => h)]

/-- The registry at block r, its row at block b: n slots that hold f, and the top. -/
structure RegAt (w : World) (r b n : Nat) (f : Nat → Value) (top : Int) : Prop where
  head : w.heap[r]? = some (.cells #[.slice (some ⟨b, 0, none⟩) n n, .int .i64 top, .int .i64 0, .int .i64 n, .pointer none, .nilIface] 55 (0, 0))
  row : RowAt w b 48 (rowF n f)
  ne : r ≠ b

section
variable {w w' : World} {r b n : Nat} {f : Nat → Value} {top : Int}
theorem RegAt.cells (h : RegAt w r b n f top) : w.cell? ⟨r, 0, none⟩ = some (.slice (some ⟨b, 0, none⟩) n n) ∧ w.cell? ⟨r, 1, none⟩ = some (.int .i64 top) := by
  simp [World.cell?, h.head]
theorem RegAt.thaw (h : RegAt w r b n f top) (i : Nat) : w.frozen? ⟨r, i, none⟩ = false := by simp [World.frozen?, h.head]
theorem RegAt.lt (h : RegAt w r b n f top) : r < w.heap.size := (Array.getElem?_eq_some_iff.1 h.head).1
theorem RegAt.at (h : RegAt w r b n f top) {i : Nat} (hi : i < n) : w.cell? ⟨b, i, none⟩ = some (f i) := h.row.cell (rowF_at f hi)
theorem RegAt.kept (h : RegAt w r b n f top) (h1 : w'.heap[r]? = w.heap[r]?) (h2 : w'.heap[b]? = w.heap[b]?) : RegAt w' r b n f top := ⟨h1.trans h.head, h.row.of_heap h2, h.ne⟩
theorem RegAt.drewN (h : RegAt w r b n f top) (d : Nat) : RegAt (w.drewN d) r b n f top := h.kept rfl rfl
theorem RegAt.setSlot (h : RegAt w r b n f top) (i : Nat) (v : Value) : RegAt (w.setCell ⟨b, i, none⟩ v) r b n (fun k => if k = i then v else f k) top :=
  ⟨(Below.heap_setCell w ⟨b, i, none⟩ v r h.ne).trans h.head, by have := h.row.set i v; rwa [rowF_set] at this, h.ne⟩
theorem RegAt.setTop (h : RegAt w r b n f top) (t : Int) : RegAt (w.setCell ⟨r, 1, none⟩ (.int .i64 t)) r b n f t :=
  ⟨by rw [head_setCell h.head]; simp, h.row.of_heap (Below.heap_setCell w ⟨r, 1, none⟩ _ b (fun e => h.ne e.symm)), h.ne⟩
theorem RegAt.congr (h : RegAt w r b n f top) {g : Nat → Value} {t : Int} (hg : ∀ k, k < n → f k = g k) (ht : top = t) : RegAt w r b n g t := by
  subst ht
  exact ⟨h.head, by have := h.row; rwa [rowF_congr hg] at this, h.ne⟩
end
/-- The registry's two blocks. -/
def Rb (r b : Nat) : Nat → Prop := fun k => k = r ∨ k = b
/-- It returns nothing; the registry holds g with this top; nothing else has turned. -/
def RegTo (r b n : Nat) (g : Nat → Value) (t : Int) (w : World) (e : Ending) (w' : World) : Prop := e = .returned (.tuple #[]) ∧ RegAt w' r b n g t ∧ Upd (Rb r b) w w'
end Go.Lua
