/-
  Slots set in a list; the words for what a call on a table leaves (no program's function is walked here).
-/
import Derived.Test.YtfpeldekhogfpaaOps
import Derived.BigQuiet
import Derived.Lib.Hide
namespace Go.Lua
open Go.Proofs Go.RowKit
set_option linter.unusedVariables false

/-- Slot i set to v, LNil in between. -/
def setAt (xs : List Value) (i : Nat) (v : Value) : List Value := if i < xs.length then xs.set i v else xs ++ List.replicate (i - xs.length) lnil ++ [v]

/-- It returns nothing; the table holds T'; nothing else has turned. -/
def UpdTo (F : Nat → Prop) (w : World) (t : Nat) (T' : Tab) (e : Ending) (w' : World) : Prop := e = .returned (.tuple #[]) ∧ TabAt w' t T' (Fw F w) ∧ Upd F w w'

theorem Upd.under {F G : Nat → Prop} {a b c : World} (h : Upd F a b) (k : Upd G b c) (hg : ∀ k, G k → Fw F a k) : Upd F a c := h.trans (k.mono fun i _ hi => hg i hi)
theorem Fw_Fw {F : Nat → Prop} {a b : World} (h : a.heap.size ≤ b.heap.size) {k : Nat} (hk : Fw (Fw F a) b k) : Fw F a k := hk.elim id fun hk => .inr (by omega)

/-- The end of an append: the table's array field holds the new header. -/
theorem end_append {w W W1 : World} {t : Nat} {T0 T : Tab} {F : Nat → Prop} {va vd vs vk vi v' : Value} {l l2 : List Value} (hT : TabV W t T (Fw F w) va vd vs vk vi) (hu : Upd F w W) (o : Obj)
    (hs1 : SlAt W1 v' (some l)) (hg1 : (W.alloc o).grownBy W1 (blk va)) (hb1 : blk v' = blk va ∨ blk v' = some (W.alloc o).heap.size) (hso1 : SlAt W1 va T.arr) (hl : l = l2) (hT0 : { T with arr := some l2 } = T0) :
    TabAt (W1.setCell ⟨t, 1, none⟩ v') t T0 (Fw F w) ∧ Upd F w (W1.setCell ⟨t, 1, none⟩ v') := by
  subst hl
  obtain ⟨h1, h2⟩ := (hT.alloc o).append_arr hs1 hg1 hb1 hso1
  have hsz : w.heap.size ≤ (W.alloc o).heap.size := by have := hu.size; simp; omega
  subst hT0
  exact ⟨(h1.mono fun k _ hk => Fw_Fw hsz hk).at, (hu.alloc o).under h2 fun k hk => hk⟩

theorem cell_new_of {w : World} {b : Nat} {u : Value} {e : TypeId} (h : b = w.heap.size) : (w.alloc (.cells #[u] e)).cell? ⟨b, 0, none⟩ = some u := by
  subst h; simp

theorem setAt_end {xs : List Value} {i : Nat} (v : Value) (h : i = xs.length) : setAt xs i v = xs ++ [v] := by
  subst h; simp [setAt]
theorem setAt_in {xs : List Value} {i : Nat} (v : Value) (h : i < xs.length) : setAt xs i v = xs.set i v := by simp [setAt, h]
theorem setAt_past {xs : List Value} {i : Nat} (v : Value) (h : xs.length ≤ i) : setAt xs i v = (xs ++ List.replicate (i - xs.length) lnil) ++ [v] := by
  simp [setAt, Nat.not_lt.2 h]

/-- The loop's word: j times LNil has been appended. -/
def Filled (F : Nat → Prop) (w : World) (t : Nat) (T : Tab) (xs : List Value) (m : Nat) (i : Value) (wr : World) : Prop :=
  ∃ j : Nat, j ≤ m ∧ i = .int .i64 j ∧ TabAt wr t { T with arr := some (xs ++ List.replicate j lnil) } (Fw F w) ∧ Upd F w wr

theorem Filled.next {F : Nat → Prop} {w : World} {t : Nat} {T : Tab} {xs : List Value} {m j : Nat} {wr W1 : World} {va vd vs vk vi : Value} {g' cap' : Nat} (hT : TabV wr t { T with arr := some (xs ++ List.replicate j lnil) } (Fw F w) va vd vs vk vi) (hu : Upd F w wr) (o : Obj) (hj : j < m)
    (hs1 : SlAt W1 (.slice (some ⟨g', 0, none⟩) ((xs ++ List.replicate j lnil).length + 1) cap') (some ((xs ++ List.replicate j lnil) ++ [lnil]))) (hg1 : (wr.alloc o).grownBy W1 (blk va))
    (hb1 : blk (.slice (some ⟨g', 0, none⟩) ((xs ++ List.replicate j lnil).length + 1) cap') = blk va ∨ blk (.slice (some ⟨g', 0, none⟩) ((xs ++ List.replicate j lnil).length + 1) cap') = some (wr.alloc o).heap.size) (hso1 : SlAt W1 va (some (xs ++ List.replicate j lnil))) {i : Value} (hi : i = .int .i64 ((j + 1 : Nat) : Int)) :
    Filled F w t T xs m i (W1.setCell ⟨t, 1, none⟩ (.slice (some ⟨g', 0, none⟩) ((xs ++ List.replicate j lnil).length + 1) cap')) := by
  have hl : (xs ++ List.replicate j lnil) ++ [lnil] = xs ++ List.replicate (j + 1) lnil := by simp [List.replicate_succ']
  obtain ⟨h1, h2⟩ := end_append (l2 := xs ++ List.replicate (j + 1) lnil) (T0 := { T with arr := some (xs ++ List.replicate (j + 1) lnil) }) hT hu o hs1 hg1 hb1 hso1 hl rfl
  exact ⟨j + 1, hj, hi, h1, h2⟩

end Go.Lua
