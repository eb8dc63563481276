/-
  Slices of structs that came in, as lists of rows of cells.
-/
import Derived.Test.YtfkemahinnpgdaaArgs
import Derived.Deep.Slices
import Derived.Deep.Fields
namespace Go.Lua
open Go.ChangeShapes Go.WideShapes Go.ChangeAt Go.RowKit Go.Deep
set_option linter.unusedVariables false

/-- The slice v holds rows of k cells each. -/
def IsAggs (w : World) (v : Value) (k : Nat) (rows : List (List Value)) : Prop :=
  (v = .slice none 0 0 ∧ rows = []) ∨
  ∃ a cap, v = .slice (some a) rows.length cap ∧ rows.length ≤ cap ∧ cap ≤ maxLen ∧ ∀ i r, rows[i]? = some r → ∀ j u, r[j]? = some u → w.cell? ((a.add (i * k)).add j) = some u

theorem rows_map {α : Type} (f : α → List Value) (p : α → Prop) : ∀ rows : List (List Value), (∀ r ∈ rows, ∃ o, r = f o ∧ p o) → ∃ ops : List α, rows = ops.map f ∧ ∀ o ∈ ops, p o
  | [], _ => ⟨[], rfl, by simp⟩
  | r :: rs, h => by
    obtain ⟨o, ho, hp⟩ := h r (.head _)
    obtain ⟨os, hos, hps⟩ := rows_map f p rs fun x hx => h x (.tail _ hx)
    exact ⟨o :: os, by rw [ho, hos]; rfl, fun x hx => (List.mem_cons.1 hx).elim (fun e => e ▸ hp) (hps x)⟩

theorem IsAggs.below {w w' : World} {v : Value} {k : Nat} {rows : List (List Value)} (h : IsAggs w v k rows) {B : Nat} (hb : Below B w w') (hB : w.heap.size ≤ B) : IsAggs w' v k rows := by
  rcases h with h | ⟨a, cap, h1, h2, h3, h4⟩
  · exact .inl h
  · refine .inr ⟨a, cap, h1, h2, h3, fun i r hr j u hu => ?_⟩
    have hc := h4 i r hr j u hu
    rw [hb.cell (Nat.lt_of_lt_of_le (World.block_lt_of_cell? w _ hc) hB)]
    exact hc
theorem IsAggs.form {w : World} {v : Value} {k : Nat} {rows : List (List Value)} (h : IsAggs w v k rows) : ∃ p c, v = .slice p rows.length c ∧ rows.length ≤ c ∧ c ≤ maxLen ∧ (p = none → rows = [] ∧ c = 0) ∧ ∀ i r, rows[i]? = some r → ∃ a, p = some a ∧ ∀ j u, r[j]? = some u → w.cell? ((a.add (i * k)).add j) = some u := by
  rcases h with ⟨h1, h2⟩ | ⟨a, cap, h1, h2, h3, h4⟩
  · subst h1 h2
    exact ⟨none, 0, rfl, Nat.le_refl _, Nat.zero_le _, fun _ => ⟨rfl, rfl⟩, fun i u hu => by simp at hu⟩
  · exact ⟨some a, cap, h1, h2, h3, (fun e => nomatch e), fun i r hr => ⟨a, rfl, h4 i r hr⟩⟩

section
variable {H : Type} {enc : TypeId × Value → H} {P : Program} {W : World} {base0 : Nat} {r : Reach} {t e : TypeId} {v : Value} {d : DataW H} {ps : List MemPlace}

/-- What is known of a field's cell. -/
def FieldOk (enc : TypeId × Value → H) (P : Program) (W : World) (t : TypeId) (u : Value) : Prop := ∃ n y, DataW.trod enc P W 0 (fun _ => true) true n t [u] = some y

theorem FieldOk.int {k : IntKind} {u : Value} (ht : P.underlying t = some (.int k)) (h : FieldOk enc P W t u) : ∃ n, u = .int k n ∧ (Lit.int k n).wf = true := by
  obtain ⟨n, y, hy⟩ := h
  obtain ⟨m, h1, -, h2⟩ := DataW.trod_int ht hy
  exact ⟨m, by simpa using h1, h2⟩
theorem FieldOk.string {u : Value} (ht : P.underlying t = some .string) (h : FieldOk enc P W t u) : ∃ s, u = .string s ∧ s.size ≤ maxLen := by
  obtain ⟨n, y, hy⟩ := h
  obtain ⟨m, h1, -, h2⟩ := DataW.trod_string ht hy
  exact ⟨m, by simpa using h1, h2⟩
theorem FieldOk.bool {u : Value} (ht : P.underlying t = some .bool) (h : FieldOk enc P W t u) : ∃ b, u = .bool b := by
  obtain ⟨n, y, hy⟩ := h
  obtain ⟨m, h1, -⟩ := DataW.trod_bool ht hy
  exact ⟨m, by simpa using h1⟩

theorem isl_fields {fs : Array Field} (ht : P.underlying t = some (.slice e)) (he : P.underlying e = some (.struct fs)) (hone : oneCellFields P fs = true) (hC : P.cellsOf e = fs.size) (hval : Value.okWide P W r base0 t v)
    (h : DataW.Trod enc P W 0 (fun _ => true) true t v d ps) {α : Type} (f : α → List Value) (p : α → Prop)
    (hQ : ∀ cs : List Value, cs.length = fs.size → (∀ (j : Nat) (g : Field), fs[j]? = some g → ∃ u, cs[j]? = some u ∧ FieldOk enc P W g.type u) → ∃ o, cs = f o ∧ p o) :
    ∃ ops : List α, IsAggs W v fs.size (ops.map f) ∧ ∀ o ∈ ops, p o := by
  obtain ⟨a0, len0, cap0, rfl⟩ := okWide_slice ht hval
  obtain ⟨fuel, hf⟩ := h
  rcases open_slice ht hf with ⟨hcs, _⟩ | ⟨a, len, cap, m, n, D, Pl, hcs, _, hl, hm, hmm, _, hi⟩
  · simp [Value.cells] at hcs
    obtain ⟨rfl, rfl, rfl⟩ := hcs
    exact ⟨[], .inl ⟨rfl, rfl⟩, by simp⟩
  · simp [Value.cells] at hcs
    obtain ⟨rfl, rfl, rfl⟩ := hcs
    simp only [if_true] at hmm
    have hone1 : ∀ i, i < len0 → ∃ cs, W.cells? 0 (a.add (i * fs.size)) fs.size = some cs ∧ ∃ o, cs = f o ∧ p o := by
      intro i hlt
      obtain ⟨cs, hc, htr⟩ := hi i (by omega)
      rw [hC] at hc
      obtain ⟨ys, n', -, -, hlen, hyl, hg⟩ := DataW.trod_struct he htr
      rw [hC] at hlen
      refine ⟨cs, hc, hQ cs hlen fun j g hj => ?_⟩
      obtain ⟨ho, hk⟩ := hone_of hone j g hj
      have hjl : j < fs.size := (Array.getElem?_eq_some_iff.1 hj).1
      have h1 := hg j g hj
      rw [ho, hk] at h1
      have h2 : (cs.drop j).take 1 = [cs[j]'(by omega)] := by
        rw [List.drop_eq_getElem_cons (by omega)]
        rfl
      rw [h2, List.getElem?_eq_getElem (by omega)] at h1
      exact ⟨_, List.getElem?_eq_getElem (by omega), n', _, h1⟩
    obtain ⟨C, hCs⟩ := choose_lt (α := List Value) (p := fun i cs => W.cells? 0 (a.add (i * fs.size)) fs.size = some cs ∧ ∃ o, cs = f o ∧ p o) hone1
    obtain ⟨ops, hops, hp⟩ := rows_map f p ((List.range len0).map C) (fun r hr => by
      obtain ⟨i, hi, rfl⟩ := List.mem_map.1 hr
      exact (hCs i (List.mem_range.1 hi)).2)
    have hlen : (ops.map f).length = len0 := by rw [← hops]; simp
    refine ⟨ops, .inr ⟨a, cap0, by rw [hlen], by rw [hlen]; exact hl, hm, fun i r hr j u hu => ?_⟩, hp⟩
    rw [← hops, List.getElem?_map] at hr
    by_cases hlt : i < len0
    · rw [List.getElem?_range hlt] at hr
      obtain rfl := Option.some.inj hr
      obtain ⟨-, hsz, hat⟩ := World.cells?_some (hCs i hlt).1
      have hj : j < fs.size := by rw [← hsz]; exact (List.getElem?_eq_some_iff.1 hu).1
      rw [hat j hj, hu]
    · rw [List.getElem?_eq_none (by simp; omega)] at hr
      cases hr
end
end Go.Lua
