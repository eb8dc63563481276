/-
  Slices that came in, as lists of values: what a law's walk is told of them.
-/
import Derived.Test.YtfkemahinnpgdaaRows
import Derived.WalkKit
import Derived.ProofKit
import Derived.OpenShut
import Derived.Below
import Derived.Laws.Cover2
import Derived.SliceStrings
import Derived.Deep.Grids
namespace Go.Lua
open Go.ChangeShapes Go.WideShapes Go.ChangeAt Go.RowKit Go.Deep
set_option linter.unusedVariables false

/-- The slice v holds the values vs. -/
def IsSl (w : World) (v : Value) (vs : List Value) : Prop :=
  (v = .slice none 0 0 ∧ vs = []) ∨
  ∃ a cap, v = .slice (some a) vs.length cap ∧ vs.length ≤ cap ∧ cap ≤ maxLen ∧ ∀ i u, vs[i]? = some u → w.cell? (a.add i) = some u

def IsInts (k : IntKind) (w : World) (v : Value) (xs : List Int) : Prop := IsSl w v (xs.map (Value.int k)) ∧ ∀ n ∈ xs, (Lit.int k n).wf = true
def IsBools (w : World) (v : Value) (xs : List Bool) : Prop := IsSl w v (xs.map Value.bool)
def IsStrs (w : World) (v : Value) (xs : List ByteArray) : Prop := IsSl w v (xs.map Value.string) ∧ ∀ s ∈ xs, s.size ≤ maxLen
def IsFloats (w : World) (v : Value) (xs : List Nat) : Prop := IsSl w v (xs.map (Value.float .f64)) ∧ ∀ x ∈ xs, (Lit.float .f64 x).wf = true

theorem IsSl.below {w w' : World} {v : Value} {vs : List Value} (h : IsSl w v vs) {B : Nat} (hb : Below B w w') (hB : w.heap.size ≤ B) : IsSl w' v vs := by
  rcases h with h | ⟨a, cap, h1, h2, h3, h4⟩
  · exact .inl h
  · refine .inr ⟨a, cap, h1, h2, h3, fun i u hu => ?_⟩
    have hc := h4 i u hu
    rw [hb.cell (Nat.lt_of_lt_of_le (World.block_lt_of_cell? w _ hc) hB)]
    exact hc

section
variable {H : Type} {enc : TypeId × Value → H} {P : Program} {W : World} {base0 : Nat} {r : Reach} {t e : TypeId} {v : Value} {d : DataW H} {ps : List MemPlace}

theorem isl_ints {k : IntKind} (ht : P.underlying t = some (.slice e)) (he : P.underlying e = some (.int k)) (hc : P.cellsOf e = 1) (hval : Value.okWide P W r base0 t v)
    (h : DataW.Trod enc P W 0 (fun _ => true) true t v d ps) (_ : ∀ x ∈ ps, x.block < W.heap.size) : ∃ xs, IsInts k W v xs := by
  obtain ⟨a0, len0, cap0, rfl⟩ := okWide_slice ht hval
  obtain ⟨fuel, hf⟩ := h
  rcases open_ints ht he hc hf with ⟨hcs, _⟩ | ⟨x, l, c, zs, hcs, _, hl, hm, hz, _, hcell, hwz⟩
  · simp [Value.cells] at hcs
    obtain ⟨rfl, rfl, rfl⟩ := hcs
    exact ⟨[], .inl ⟨rfl, rfl⟩, by simp⟩
  · simp [Value.cells] at hcs
    obtain ⟨rfl, rfl, rfl⟩ := hcs
    have hz' : zs.length = cap0 := by simpa using hz
    have hlen : ((zs.take len0).map (Value.int k)).length = len0 := by simp; omega
    refine ⟨zs.take len0, .inr ⟨_, cap0, by rw [hlen], by rw [hlen]; exact hl, hm, fun i u hu => ?_⟩, fun n hn => hwz n (List.mem_of_mem_take hn)⟩
    simp only [List.getElem?_map, List.getElem?_take] at hu
    split at hu
    · have hi : i < zs.length := by omega
      rw [hcell i hi]
      simp [hi] at hu
      simp [hi, ← hu]
    · simp at hu

theorem isl_bools (ht : P.underlying t = some (.slice e)) (he : P.underlying e = some .bool) (hc : P.cellsOf e = 1) (hval : Value.okWide P W r base0 t v)
    (h : DataW.Trod enc P W 0 (fun _ => true) true t v d ps) (_ : ∀ x ∈ ps, x.block < W.heap.size) : ∃ xs, IsBools W v xs := by
  obtain ⟨a0, len0, cap0, rfl⟩ := okWide_slice ht hval
  obtain ⟨fuel, hf⟩ := h
  rcases open_bools ht he hc hf with ⟨hcs, _⟩ | ⟨x, l, c, B, hcs, _, hl, hm, _, hcell⟩
  · simp [Value.cells] at hcs
    obtain ⟨rfl, rfl, rfl⟩ := hcs
    exact ⟨[], .inl ⟨rfl, rfl⟩⟩
  · simp [Value.cells] at hcs
    obtain ⟨rfl, rfl, rfl⟩ := hcs
    have hlen : (((List.range len0).map B).map Value.bool).length = len0 := by simp
    refine ⟨(List.range len0).map B, .inr ⟨_, cap0, by rw [hlen], by rw [hlen]; exact hl, hm, fun i u hu => ?_⟩⟩
    simp only [List.getElem?_map] at hu
    by_cases hi : i < len0
    · rw [List.getElem?_range hi] at hu
      rw [hcell i (by omega)]
      simpa using hu
    · rw [List.getElem?_eq_none (by simp; omega)] at hu
      cases hu

theorem trod_flt {k : FloatKind} {fuel base : Nat} {spare : Nat → Bool} {held : Bool} {x : DataW H × List MemPlace} (he : P.underlying e = some (.float k)) (h : DataW.trod enc P W base spare held fuel e [v] = some x) : ∃ b, v = .float k b ∧ (Lit.float k b).wf = true := by
  cases fuel with
  | zero => simp [DataW.trod] at h
  | succ n =>
    simp only [DataW.trod, he] at h
    cases v <;> simp at h
    obtain ⟨⟨rfl, hw⟩, -⟩ := h
    exact ⟨_, rfl, hw⟩

theorem isl_floats (ht : P.underlying t = some (.slice e)) (he : P.underlying e = some (.float .f64)) (hc : P.cellsOf e = 1) (hval : Value.okWide P W r base0 t v)
    (h : DataW.Trod enc P W 0 (fun _ => true) true t v d ps) (_ : ∀ x ∈ ps, x.block < W.heap.size) : ∃ xs, IsFloats W v xs := by
  obtain ⟨a0, len0, cap0, rfl⟩ := okWide_slice ht hval
  obtain ⟨fuel, hf⟩ := h
  rcases open_slice1 ht hc hf with ⟨hcs, _⟩ | ⟨a, len, cap, m, n, V, D, Pl, hcs, _, hl, hm, hmm, _, hx⟩
  · simp [Value.cells] at hcs
    obtain ⟨rfl, rfl, rfl⟩ := hcs
    exact ⟨[], .inl ⟨rfl, rfl⟩, by simp⟩
  · simp [Value.cells] at hcs
    obtain ⟨rfl, rfl, rfl⟩ := hcs
    simp only [if_true] at hmm
    subst hmm
    obtain ⟨B, hB⟩ := choose_lt (α := Nat) (p := fun i b => V i = .float .f64 b ∧ (Lit.float .f64 b).wf = true) (fun i hi => trod_flt he (hx i hi).2)
    have hlen : (((List.range len0).map B).map (Value.float .f64)).length = len0 := by simp
    refine ⟨(List.range len0).map B,   .inr ⟨_, m, by rw [hlen], by rw [hlen]; exact hl, hm, fun i u hu => ?_⟩, fun n hn => ?_⟩
    · simp only [List.getElem?_map] at hu
      by_cases hi : i < len0
      · rw [List.getElem?_range hi] at hu
        rw [(hx i (by omega)).1, (hB i (by omega)).1]
        simpa using hu
      · rw [List.getElem?_eq_none (by simp; omega)] at hu
        cases hu
    · obtain ⟨i, hi, rfl⟩ := List.mem_map.1 hn
      exact (hB i (by have := List.mem_range.1 hi; omega)).2

theorem isl_strings (ht : P.underlying t = some (.slice e)) (he : P.underlying e = some .string) (hc : P.cellsOf e = 1) (hval : Value.okWide P W r base0 t v)
    (h : DataW.Trod enc P W 0 (fun _ => true) true t v d ps) (_ : ∀ x ∈ ps, x.block < W.heap.size) : ∃ xs, IsStrs W v xs := by
  obtain ⟨a0, len0, cap0, rfl⟩ := okWide_slice ht hval
  obtain ⟨fuel, hf⟩ := h
  rcases open_strings ht he hc hf with ⟨hcs, _⟩ | ⟨x, l, c, zs, hcs, _, hl, hm, hz, _, hcell, hwz⟩
  · simp [Value.cells] at hcs
    obtain ⟨rfl, rfl, rfl⟩ := hcs
    exact ⟨[], .inl ⟨rfl, rfl⟩, by simp⟩
  · simp [Value.cells] at hcs
    obtain ⟨rfl, rfl, rfl⟩ := hcs
    have hz' : zs.length = cap0 := by simpa using hz
    have hlen : ((zs.take len0).map Value.string).length = len0 := by simp; omega
    refine ⟨zs.take len0, .inr ⟨_, cap0, by rw [hlen], by rw [hlen]; exact hl, hm, fun i u hu => ?_⟩, fun n hn => hwz n (List.mem_of_mem_take hn)⟩
    simp only [List.getElem?_map, List.getElem?_take] at hu
    split at hu
    · have hi : i < zs.length := by omega
      rw [hcell i hi]
      simp [hi] at hu
      simp [hi, ← hu]
    · simp at hu
end
end Go.Lua
