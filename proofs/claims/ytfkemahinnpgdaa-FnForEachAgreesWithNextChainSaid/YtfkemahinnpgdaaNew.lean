/-
  newLTable: a fresh table.
-/
import Derived.Test.YtfkemahinnpgdaaSet
namespace Go.Lua
open Go.Proofs Go.RowKit
set_option linter.unusedVariables false

/-- A fresh table with these hints. -/
def newTab (a h : Int) : Tab := { mt := lnil, arr := if a ≤ 0 then none else some [], dict := none, sdict := if h ≤ 0 then none else some (fun _ => none), keys := none, k2i := none }

/-- What newLTable does. -/
def Fresh (w : World) (a h : Int) (e : Ending) (w' : World) : Prop :=
  e = .returned (.pointer (some ⟨w.heap.size, 0, none⟩)) ∧ ∃ va vs, TabV w' w.heap.size (newTab a h) (fun k => w.heap.size ≤ k) va (.map none) vs (.slice none 0 0) (.map none) ∧ Upd (fun _ => False) w w' ∧ (a ≤ 0 → va = .slice none 0 0) ∧ (0 < a → ∃ g, va = .slice (some ⟨g, 0, none⟩) 0 a.toNat)

theorem fresh_of {w W : World} {a h : Int} {va vs : Value}
    (hh : W.heap[w.heap.size]? = some (.cells #[lnil, va, .map none, vs, .slice none 0 0, .map none] 72 (0, 0)))
    (ha : SlAt W va (newTab a h).arr) (hs : MpAt IsSK skEq W vs (newTab a h).sdict) (hva : ∀ b, blk va = some b → w.heap.size < b) (hvs : ∀ b, blk vs = some b → w.heap.size ≤ b)
    (hu : Upd (fun _ => False) w W) (h1 : a ≤ 0 → va = .slice none 0 0) (h2 : 0 < a → ∃ g, va = .slice (some ⟨g, 0, none⟩) 0 a.toNat) :
    Fresh w a h (.returned (.pointer (some ⟨w.heap.size, 0, none⟩))) W :=
  ⟨rfl, va, vs, { head := hh, arr := ha, dict := rfl, sdict := hs, keys := rfl, k2i := rfl, ft := Nat.le_refl _, fa := fun b hb => Nat.le_of_lt (hva b hb), fd := fun b hb => (by cases hb), fs := hvs, fk := fun b hb => (by cases hb), fi := fun b hb => (by cases hb), ta := fun e => Nat.lt_irrefl _ (hva _ e), tk := fun e => (by cases e), ak := fun b hb e => (by cases e), ds := fun b hb e => (by cases hb), di := fun b hb e => (by cases hb), si := fun b hb e => (by cases e) }, hu, h1, h2⟩

set_option maxHeartbeats 400000 in
theorem newLTable_any (w : World) (a h : Int) (ha : a ≤ 65536) (hh : h ≤ 65536) :
    Calls Try.prog 35 #[.int .i64 a, .int .i64 h] w (Fresh w a h) := by
  have ca : a < 0 ∨ a = 0 ∨ (0 < a ∧ ¬ a < 0 ∧ (a != 0) = true) := by
    rcases Int.lt_trichotomy a 0 with h | h | h
    · exact .inl h
    · exact .inr (.inl h)
    · exact .inr (.inr ⟨h, by omega, by simp; omega⟩)
  have ch : h < 0 ∨ h = 0 ∨ (0 < h ∧ ¬ h < 0 ∧ (h != 0) = true) := by
    rcases Int.lt_trichotomy h 0 with h | h | h
    · exact .inl h
    · exact .inr (.inl h)
    · exact .inr (.inr ⟨h, by omega, by simp; omega⟩)
  have hn0 : ∀ (a h : Int), a ≤ 0 → (newTab a h).arr = none := fun a h q => if_pos q
  have hn1 : ∀ (a h : Int), 0 < a → (newTab a h).arr = some [] := fun a h q => if_neg (by omega)
  have hn2 : ∀ (a h : Int), h ≤ 0 → (newTab a h).sdict = none := fun a h q => if_pos q
  have hn3 : ∀ (a h : Int), 0 < h → (newTab a h).sdict = some (fun _ => none) := fun a h q => if_neg (by omega)
  have E00 : ∀ a h : Int, a ≤ 0 → h ≤ 0 → Fresh w a h (.returned (.pointer (some ⟨w.heap.size, 0, none⟩))) (w.alloc (.cells #[lnil, .slice none 0 0, .map none, .map none, .slice none 0 0, .map none] 72)) := fun a h q1 q2 =>
    fresh_of (heap_alloc_new w _) (by rw [hn0 _ _ q1]; rfl) (by rw [hn2 _ _ q2]; rfl) (fun b hb => by cases hb) (fun b hb => by cases hb) ((Upd.refl _ _).alloc _) (fun _ => rfl) (fun q => by omega)
  have E01 : ∀ a h : Int, a ≤ 0 → 0 < h → Fresh w a h (.returned (.pointer (some ⟨w.heap.size, 0, none⟩))) ((w.alloc (.cells #[lnil, .slice none 0 0, .map none, .map (some (w.heap.size + 1)), .slice none 0 0, .map none] 72)).alloc (.map #[] 0)) := fun a h q1 q2 =>
    fresh_of ((Below.heap_alloc _ _ _ (by simp)).trans (heap_alloc_new w _)) (by rw [hn0 _ _ q1]; rfl) (by rw [hn3 _ _ q2]; have := MpAt.made (IsK := IsSK) (eq := skEq) (w.alloc (.cells #[lnil, .slice none 0 0, .map none, .map (some (w.heap.size + 1)), .slice none 0 0, .map none] 72)); simpa using this) (fun b hb => by cases hb) (fun b hb => by cases hb; omega) (((Upd.refl _ _).alloc _).alloc _) (fun _ => rfl) (fun q => by omega)
  have E10 : ∀ a h : Int, 0 < a → a ≤ 65536 → h ≤ 0 → Fresh w a h (.returned (.pointer (some ⟨w.heap.size, 0, none⟩))) ((w.alloc (.cells #[lnil, .slice (some ⟨w.heap.size + 1, 0, none⟩) 0 a.toNat, .map none, .map none, .slice none 0 0, .map none] 72)).alloc (.cells (nils a.toNat) 40)) := fun a h q1 q3 q2 =>
    fresh_of ((Below.heap_alloc _ _ _ (by simp)).trans (heap_alloc_new w _)) (by rw [hn1 _ _ q1]; have := SlAt.made (w.alloc (.cells #[lnil, .slice (some ⟨w.heap.size + 1, 0, none⟩) 0 a.toNat, .map none, .map none, .slice none 0 0, .map none] 72)) a.toNat (by unfold maxLen; omega); simpa using this) (by rw [hn2 _ _ q2]; rfl) (fun b hb => by cases hb; exact Nat.lt_succ_self _) (fun b hb => by cases hb) (((Upd.refl _ _).alloc _).alloc _) (fun q => by omega) (fun _ => ⟨_, rfl⟩)
  have E11 : ∀ a h : Int, 0 < a → a ≤ 65536 → 0 < h → Fresh w a h (.returned (.pointer (some ⟨w.heap.size, 0, none⟩))) (((w.alloc (.cells #[lnil, .slice (some ⟨w.heap.size + 1, 0, none⟩) 0 a.toNat, .map none, .map (some (w.heap.size + 1 + 1)), .slice none 0 0, .map none] 72)).alloc (.cells (nils a.toNat) 40)).alloc (.map #[] 0)) := fun a h q1 q3 q2 =>
    fresh_of ((Below.heap_alloc _ _ _ (by simp; omega)).trans ((Below.heap_alloc _ _ _ (by simp)).trans (heap_alloc_new w _))) (by rw [hn1 _ _ q1]; have := SlAt.made (w.alloc (.cells #[lnil, .slice (some ⟨w.heap.size + 1, 0, none⟩) 0 a.toNat, .map none, .map (some (w.heap.size + 1 + 1)), .slice none 0 0, .map none] 72)) a.toNat (by unfold maxLen; omega); exact SlAt.of_heap (by simpa using this) (fun b hb => Below.heap_alloc _ _ _ (by cases hb; simp)))
      (by rw [hn3 _ _ q2]; have := MpAt.made (IsK := IsSK) (eq := skEq) ((w.alloc (.cells #[lnil, .slice (some ⟨w.heap.size + 1, 0, none⟩) 0 a.toNat, .map none, .map (some (w.heap.size + 1 + 1)), .slice none 0 0, .map none] 72)).alloc (.cells (nils a.toNat) 40)); simpa using this) (fun b hb => by cases hb; exact Nat.lt_succ_self _) (fun b hb => by cases hb; omega) ((((Upd.refl _ _).alloc _).alloc _).alloc _) (fun q => by omega) (fun _ => ⟨_, rfl⟩)
  have E := Lib.hid (And.intro (And.intro E00 E01) (And.intro E10 E11))
  clear E00 E01 E10 E11 hn0 hn1 hn2 hn3
  rcases ca with h1 | rfl | ⟨h1, h3, h4⟩
  · rcases ch with h2 | rfl | ⟨h2, h5, h6⟩
    · go_enter Try.func35, Try.ntmps35
      go_wp2
      go_ret
      exact E.out.1.1 _ _ (by omega) (by omega)
    · go_enter Try.func35, Try.ntmps35
      go_wp2
      go_ret
      exact E.out.1.1 _ _ (by omega) (by omega)
    · go_enter Try.func35, Try.ntmps35
      go_wp2
      go_ret
      exact E.out.1.2 _ _ (by omega) h2
  · rcases ch with h2 | rfl | ⟨h2, h5, h6⟩
    · go_enter Try.func35, Try.ntmps35
      go_wp2
      go_ret
      exact E.out.1.1 _ _ (by omega) (by omega)
    · go_enter Try.func35, Try.ntmps35
      go_wp2
      go_ret
      exact E.out.1.1 _ _ (by omega) (by omega)
    · go_enter Try.func35, Try.ntmps35
      go_wp2
      go_ret
      exact E.out.1.2 _ _ (by omega) h2
  · have hm : ∀ w : World, (Instr.makeSlice 35 (.int .i64 0) (.int .i64 a)).run Try.prog w = .ok (.slice (some ⟨w.heap.size, 0, none⟩) 0 a.toNat) (w.alloc (.cells (nils a.toNat) 40)) := fun w => made_sl a (by omega) (by omega) w
    rcases ch with h2 | rfl | ⟨h2, h5, h6⟩
    · go_enter Try.func35, Try.ntmps35
      go_wp2_with (simp only [hm])
      go_ret
      exact E.out.2.1 _ _ h1 ha (by omega)
    · go_enter Try.func35, Try.ntmps35
      go_wp2_with (simp only [hm])
      go_ret
      exact E.out.2.1 _ _ h1 ha (by omega)
    · go_enter Try.func35, Try.ntmps35
      go_wp2_with (simp only [hm])
      go_ret
      exact E.out.2.2 _ _ h1 ha h2
end Go.Lua
