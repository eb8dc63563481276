/-
  FnNewLTableFreshState: the walk.
-/
import Derived.Test.YtcnjdmbcofodnaaNew
import Derived.Test.YtcnjdmbcofodnaaRead
namespace Go.Lua
open Go.Proofs Go.RowKit
set_option linter.unusedVariables false

theorem newTab_arr (a h : Int) : (newTab a h).arr.getD [] = [] := by
  unfold newTab
  simp only
  split <;> rfl

/-- What the walk reads of a fresh table: its cells, and that it has no slot. -/
structure Fresh2 (w w1 : World) (a h : Int) (va vs : Value) : Prop where
  tab : TabAt w1 w.heap.size (newTab a h) (fun k => w.heap.size ≤ k)
  upd : Upd (fun _ => False) w w1
  c0 : w1.cell? ⟨w.heap.size, 0, none⟩ = some lnil
  c1 : w1.cell? ⟨w.heap.size, 1, none⟩ = some va
  c2 : w1.cell? ⟨w.heap.size, 2, none⟩ = some (.map none)
  c3 : w1.cell? ⟨w.heap.size, 3, none⟩ = some vs
  c4 : w1.cell? ⟨w.heap.size, 4, none⟩ = some (.slice none 0 0)
  c5 : w1.cell? ⟨w.heap.size, 5, none⟩ = some (.map none)

theorem fresh2 {w w1 : World} {a h : Int} {e : Ending} (hf : Fresh w a h e w1) : e = .returned (.pointer (some ⟨w.heap.size, 0, none⟩)) ∧ ∃ va vs, Fresh2 w w1 a h va vs ∧ (a ≤ 0 → va = .slice none 0 0) ∧ (0 < a → ∃ g, va = .slice (some ⟨g, 0, none⟩) 0 a.toNat) ∧ (h ≤ 0 → vs = .map none) ∧ (0 < h → ∃ r, vs = .map (some r)) := by
  obtain ⟨he, va, vs, hT, hU, h1, h2⟩ := hf
  refine ⟨he, va, vs, ⟨hT.at, hU, hT.cells.1, hT.cells.2.1, hT.cells.2.2.1, hT.cells.2.2.2.1, hT.cells.2.2.2.2.1, hT.cells.2.2.2.2.2⟩, h1, h2, fun q => ?_, fun q => ?_⟩
  · have := hT.sdict
    rw [show (newTab a h).sdict = none from if_pos q] at this
    exact this
  · have := hT.sdict
    rw [show (newTab a h).sdict = some (fun _ => none) from if_neg (by omega)] at this
    obtain ⟨r, hr, -⟩ := this
    exact ⟨r, hr⟩

def VA (a : Int) (g : Nat) : Value := if a ≤ 0 then .slice none 0 0 else .slice (some ⟨g, 0, none⟩) 0 a.toNat
def VS (h : Int) (r : Nat) : Value := if h ≤ 0 then .map none else .map (some r)
theorem fresh3 {w w1 : World} {a h : Int} {e : Ending} (hf : Fresh w a h e w1) : e = .returned (.pointer (some ⟨w.heap.size, 0, none⟩)) ∧ ∃ g r, Fresh2 w w1 a h (VA a g) (VS h r) := by
  obtain ⟨he, va, vs, hF, q1, q2, q3, q4⟩ := fresh2 hf
  have ha : ∃ g, va = VA a g := by
    unfold VA
    split
    · exact ⟨0, q1 (by assumption)⟩
    · obtain ⟨g, hg⟩ := q2 (by omega); exact ⟨g, hg⟩
  have hh : ∃ r, vs = VS h r := by
    unfold VS
    split
    · exact ⟨0, q3 (by assumption)⟩
    · obtain ⟨g, hg⟩ := q4 (by omega); exact ⟨g, hg⟩
  obtain ⟨g, rfl⟩ := ha
  obtain ⟨r, rfl⟩ := hh
  exact ⟨he, g, r, hF⟩

theorem Fresh2.len {w w1 : World} {a h : Int} {va vs : Value} (f : Fresh2 w w1 a h va vs) : Calls Try.prog 19 #[.pointer (some ⟨w.heap.size, 0, none⟩)] w1 fun e w' => e = .returned (.int .i64 0) ∧ w1 = w' := by
  have := len_any w1 _ _ _ f.tab (by rw [newTab_arr]; simp)
  rw [newTab_arr] at this
  exact this
theorem Fresh2.maxN {w w1 : World} {a h : Int} {va vs : Value} (f : Fresh2 w w1 a h va vs) : Calls Try.prog 20 #[.pointer (some ⟨w.heap.size, 0, none⟩)] w1 fun e w' => e = .returned (.int .i64 0) ∧ w1 = w' := by
  have := maxN_any w1 _ _ _ f.tab (by rw [newTab_arr]; simp)
  rw [newTab_arr] at this
  exact this
theorem Fresh2.get {w w1 : World} {a h : Int} {va vs : Value} (f : Fresh2 w w1 a h va vs) : Calls Try.prog 56 #[.pointer (some ⟨w.heap.size, 0, none⟩), .int .i64 1] w1 fun e w' => e = .returned lnil ∧ w1 = w' := by
  have := rawGetInt_any w1 _ _ _ f.tab 1 (by unfold Is64; omega)
  rw [newTab_arr] at this
  exact this

set_option maxHeartbeats 1000000 in
theorem freshState_walk (w : World) (a : Int) (ha : (Lit.int .i64 a).wf = true) (h : Int) (hh : (Lit.int .i64 h).wf = true) :
    Calls Try.prog 10 #[.int .i64 a, .int .i64 h] w fun e w' => e = .returned (.bool true) ∧ Below w.heap.size w w' := by
  by_cases ha1 : 65536 < a
  · go_enter Try.func10, Try.ntmps10
    go_wp2
    go_ret
    exact ⟨rfl, Below.refl _ _⟩
  by_cases hh1 : 65536 < h
  · go_enter Try.func10, Try.ntmps10
    go_wp2
    go_ret
    exact ⟨rfl, Below.refl _ _⟩
  have C := Lib.hid (newLTable_any w a h (by omega) (by omega))
  have ca : (a < 0 ∧ decide (a ≤ 0) = true ∧ a ≤ 0) ∨ (a = 0 ∧ a ≤ 0) ∨ (0 < a ∧ decide (a ≤ 0) = false) := by
    rcases Int.lt_trichotomy a 0 with q | q | q
    · exact .inl ⟨q, decide_eq_true (by omega), by omega⟩
    · exact .inr (.inl ⟨q, by omega⟩)
    · exact .inr (.inr ⟨q, decide_eq_false (by omega)⟩)
  have ch : (h ≤ 0 ∧ decide (h ≤ 0) = true) ∨ (0 < h ∧ decide (h ≤ 0) = false) := by
    rcases (show h ≤ 0 ∨ 0 < h by omega) with q | q
    · exact .inl ⟨q, decide_eq_true (by omega)⟩
    · exact .inr ⟨q, decide_eq_false (by omega)⟩
  have E1 : a ≤ 0 → Hid (∀ g, VA a g = .slice none 0 0) := fun q => Lib.hid fun g => if_pos q
  have E2 : 0 < a → Hid (∀ g, VA a g = .slice (some ⟨g, 0, none⟩) 0 a.toNat) := fun q => Lib.hid fun g => if_neg (by omega)
  have E3 : h ≤ 0 → Hid (∀ g, VS h g = .map none) := fun q => Lib.hid fun g => if_pos q
  have E4 : 0 < h → Hid (∀ g, VS h g = .map (some g)) := fun q => Lib.hid fun g => if_neg (by omega)
  rcases ca with ⟨h1, da, pa⟩ | ⟨rfl, pa⟩ | ⟨pa, da⟩ <;> rcases ch with ⟨ph, dh⟩ | ⟨ph, dh⟩
  case' inl.inl => have EA := E1 pa; have EH := E3 ph
  case' inl.inr => have EA := E1 pa; have EH := E4 ph
  case' inr.inl.inl => have EA := E1 pa; have EH := E3 ph
  case' inr.inl.inr => have EA := E1 pa; have EH := E4 ph
  case' inr.inr.inl => have EA := E2 pa; have EH := E3 ph
  case' inr.inr.inr => have EA := E2 pa; have EH := E4 ph
  all_goals
    clear E1 E2 E3 E4
    go_enter Try.func10, Try.ntmps10
    go_wp2_with (first
      | (go_at_call 63; refine C.out.mono ?_; intro e w1 hf; obtain ⟨rfl, g, r, hF⟩ := fresh3 hf; have c0 := hF.c0; have c1 := hF.c1; have c2 := hF.c2; have c3 := hF.c3; have c4 := hF.c4; have c5 := hF.c5; rw [EA.out] at c1; rw [EH.out] at c3)
      | (go_at_call 19; refine hF.len.mono ?_; rintro e w' ⟨rfl, rfl⟩)
      | (go_at_call 20; refine hF.maxN.mono ?_; rintro e w' ⟨rfl, rfl⟩)
      | (go_at_call 56; refine hF.get.mono ?_; rintro e w' ⟨rfl, rfl⟩)
      | go_in)
    all_goals
      go_ret
      exact ⟨rfl, hF.upd.below (fun k hk => hk.elim) (Nat.le_refl _)⟩
end Go.Lua
