/-
  A growing slice of one-cell values of any type: what an append of one value does to it.
-/
import Derived.Test.YtfkemahinnpgdaaHas
namespace Go.Lua
open Go.Proofs Go.RowKit
set_option linter.unusedVariables false

/-- v is a nil slice, or it owns a row of type e that begins with xs. -/
def SlE (e : TypeId) (w : World) (v : Value) (xs : List Value) : Prop :=
  (v = .slice none 0 0 ∧ xs = []) ∨ ∃ g cap cur, v = .slice (some ⟨g, 0, none⟩) xs.length cap ∧ w.heap[g]? = some (.cells cur e (0, 0)) ∧ xs.length ≤ cap ∧ cap ≤ maxLen ∧ cur.size = cap ∧ cur.toList.take xs.length = xs
section
variable {e e' : TypeId} {w w' : World} {v v' : Value} {xs ys : List Value}
theorem SlE.kept (h : SlE e w v xs) (hh : ∀ b, blk v = some b → w'.heap[b]? = w.heap[b]?) : SlE e w' v xs := by
  rcases h with h | ⟨g, cap, cur, rfl, hb, r⟩
  · exact .inl h
  · exact .inr ⟨g, cap, cur, rfl, (hh g rfl).trans hb, r⟩
theorem SlE.at (h : SlE e w v xs) {b : Nat} (hb : blk v = some b) : ∃ cur, w.heap[b]? = some (.cells cur e (0, 0)) := by
  rcases h with ⟨rfl, -⟩ | ⟨g, cap, cur, rfl, hg, -⟩
  · cases hb
  · cases hb; exact ⟨_, hg⟩
theorem SlE.lt (h : SlE e w v xs) {b : Nat} (hb : blk v = some b) : b < w.heap.size := by
  obtain ⟨cur, hc⟩ := h.at hb
  exact (Array.getElem?_eq_some_iff.1 hc).1
theorem SlE.apart (h : SlE e w v xs) (k : SlE e' w v' ys) (hne : e ≠ e') {b : Nat} (hb : blk v = some b) : blk v' ≠ some b := by
  intro hb'
  obtain ⟨c1, h1⟩ := h.at hb
  obtain ⟨c2, h2⟩ := k.at hb'
  rw [h1] at h2
  cases h2
  exact hne rfl
theorem SlE.form (h : SlE e w v xs) : ∃ p c, v = .slice p xs.length c ∧ xs.length ≤ c ∧ c ≤ maxLen ∧ ∀ i u, xs[i]? = some u → ∃ g, p = some ⟨g, 0, none⟩ ∧ blk v = some g ∧ w.cell? ⟨g, i, none⟩ = some u ∧ w.frozen? ⟨g, i, none⟩ = false := by
  rcases h with ⟨rfl, rfl⟩ | ⟨g, cap, cur, rfl, hg, h1, h2, h3, h4⟩
  · exact ⟨none, 0, rfl, Nat.le_refl _, Nat.zero_le _, fun i u hu => by simp at hu⟩
  · refine ⟨_, cap, rfl, h1, h2, fun i u hu => ⟨g, rfl, rfl, ?_, by simp [World.frozen?, hg]⟩⟩
    rw [← h4, List.getElem?_take] at hu
    split at hu
    · simpa [World.cell?, hg] using hu
    · cases hu
/-- A store into a slot. -/
theorem SlE.set (h : SlE e w v xs) {g : Nat} (hb : blk v = some g) (i : Nat) (u : Value) (hi : i < xs.length) : SlE e (w.setCell ⟨g, i, none⟩ u) v (xs.set i u) := by
  rcases h with ⟨rfl, rfl⟩ | ⟨g', cap, cur, rfl, hg, h1, h2, h3, h4⟩
  · cases hb
  · cases hb
    exact .inr ⟨g', cap, cur.setIfInBounds i u, by rw [List.length_set], head_setCell hg i u, by simpa using h1, h2, by simpa using h3, by
      rw [List.length_set, Array.toList_setIfInBounds, List.take_set, h4]⟩
theorem SlE.isSl (h : SlE e w v xs) : IsSl w v xs := by
  rcases h with ⟨rfl, rfl⟩ | ⟨g, cap, cur, rfl, hg, h1, h2, h3, h4⟩
  · exact .inl ⟨rfl, rfl⟩
  · refine .inr ⟨_, cap, rfl, h1, h2, fun i u hu => ?_⟩
    have : (⟨g, 0, none⟩ : Addr).add i = ⟨g, i, none⟩ := by unfold Addr.add; split <;> simp_all
    rw [this]
    rw [← h4, List.getElem?_take] at hu
    split at hu
    · simpa [World.cell?, hg] using hu
    · cases hu
theorem SlE.made (w : World) (z : Value) (n : Nat) (hn : n ≤ maxLen) : SlE e (w.alloc (.cells (madeCells #[z] n) e)) (.slice (some ⟨w.heap.size, 0, none⟩) n n) (List.replicate n z) := by
  refine .inr ⟨w.heap.size, n, _, by rw [List.length_replicate], heap_alloc_new w _, by simp, hn, size_madeCells _ _, ?_⟩
  rw [toList_madeCells_one, List.length_replicate, List.take_of_length_le (by simp)]

/-- 'append(s, u)' of one value that lies in a cell: in place, or in a new row. -/
theorem run_append_one {t : TypeId} {z : Value} (ht : Try.prog.underlying t = some (.slice e)) (hinf : (Try.prog.info? e).map (fun i => (i.zero, i.size, decide (i.bytes ≤ 64))) = some (some z, 1, true)) (hzc : z.cells.size = 1)
    (h : SlE e w v xs) {a : Addr} {c : Nat} {u : Value} (hu : w.cell? a = some u) (h1 : u.oneCell' = true) (hl : xs.length < 1000000000) (ty : TypeId) :
    ∃ v' w', (Builtin.append_ #[t, t] ty #[v, .slice (some a) 1 c]).run Try.prog w = .ok v' w' ∧ SlE e w' v' (xs ++ [u]) ∧ w.grownBy w' (blk v) ∧ (blk v' = blk v ∨ blk v' = some w.heap.size) := by
  obtain ⟨i, hi, hz, hs, hby⟩ : ∃ i, Try.prog.info? e = some i ∧ i.zero = some z ∧ i.size = 1 ∧ i.bytes ≤ 64 := by simpa using hinf
  have hnews : ∀ j x, [u][j]? = some x → w.cell? (a.add j) = some x := by
    intro j x hx
    cases j with
    | zero => simp at hx; subst hx; simpa [Addr.add] using hu
    | succ j => simp at hx
  have hln : [u].length = 1 * i.size := by rw [hs]; rfl
  have hzs : ∀ n, (Builtin.zeroCells z.cells n).size = n := fun n => by rw [size_zeroCells, hzc, Nat.mul_one]
  rcases h with ⟨rfl, rfl⟩ | h0
  · have hr := run_append_nil (P := Try.prog) w t ty e i z ht hi hz a 1 c [u] hln hnews (by decide) (by decide) (by omega)
    have hge := grownCap_ge w 1 0 e
    have hcm := grownCap_le_maxLen w 1 0 e (by decide)
    refine ⟨_, _, hr, .inr ⟨w.heap.size, _, _, rfl, heap_alloc_new w.drew _, hge, hcm, ?_, ?_⟩, ⟨rfl, rfl, rfl, by simp, fun k hk _ => Below.heap_alloc w.drew _ k hk⟩, .inr rfl⟩
    · simp only [Array.size_append, hzs, List.size_toArray, List.length_cons, List.length_nil]
      omega
    · simp
  · obtain ⟨g, cap, cur, rfl, hg, hnc, hcm, hcs, htake⟩ := h0
    by_cases hroom : xs.length + 1 ≤ cap
    · have hfit : xs.length * i.size + [u].length ≤ cur.size := by rw [hs, hcs]; simpa using hroom
      have hr := run_append_room (P := Try.prog) w t ty e i ht hi g xs.length cap cur hg a 1 c [u] hln hnews (by simpa using h1) hroom hfit
      refine ⟨_, _, hr, .inr ⟨g, cap, _, by rw [List.length_append]; rfl, setRow_heap w g cur _ _ _ hg, by simpa using hroom, hcm, ?_, ?_⟩, ⟨rfl, rfl, rfl, by simp, fun k _ hk => setRow_other w g k _ (fun e => hk (by simp [blk, e]))⟩, .inl rfl⟩
      · rw [hs]
        simp only [List.size_toArray, List.length_append, List.length_take, List.length_drop, Array.length_toList, Nat.mul_one, List.length_cons, List.length_nil]
        omega
      · rw [hs]
        simp only [Nat.mul_one, htake]
        rw [List.take_left' rfl]
    · have holds : ∀ j x, xs[j]? = some x → w.cell? ((⟨g, 0, none⟩ : Addr).add j) = some x := by
        intro j x hx
        have hadd : (⟨g, 0, none⟩ : Addr).add j = ⟨g, j, none⟩ := by unfold Addr.add; split <;> simp_all
        rw [hadd]
        rw [← htake, List.getElem?_take] at hx
        split at hx
        · simpa [World.cell?, hg] using hx
        · cases hx
      have hr := run_append_grow (P := Try.prog) w t ty e i z ht hi hz ⟨g, 0, none⟩ xs.length cap xs (by rw [hs, Nat.mul_one]) holds a 1 c [u] hln hnews (by omega) (by omega) (growslice_fits (by omega) (by
        have : (xs.length + 1) * i.bytes ≤ 1000000001 * 64 := Nat.mul_le_mul (by omega) hby
        omega))
      have hge := grownCap_ge w (xs.length + 1) cap e
      have hcm2 := grownCap_le_maxLen w (xs.length + 1) cap e (by unfold maxLen; omega)
      refine ⟨_, _, hr, .inr ⟨w.heap.size, _, _, by rw [List.length_append]; rfl, heap_alloc_new w.drew _, by simpa using hge, hcm2, ?_, ?_⟩, ⟨rfl, rfl, rfl, by simp, fun k hk _ => Below.heap_alloc w.drew _ k hk⟩, .inr rfl⟩
      · simp only [Array.size_append, hzs, List.size_toArray, List.length_cons, List.length_nil]
        omega
      · simp only [Array.toList_append]
        rw [List.take_left' (by simp)]
/-- .. for the walk. -/
theorem wpList_append_one {ops : Array Oper} {rest : List Oper} {o : Oper} {a : Act} {Q : Exit → Act → World → Prop} (hgd : o.guard = none) (s x : Operand) (t : TypeId) (z : Value)
    (ho : o.op = .call { callee := .builtin .append, args := #[s, x], argTypes := #[t, t] })
    (ht : Try.prog.underlying t = some (.slice e)) (hinf : (Try.prog.info? e).map (fun i => (i.zero, i.size, decide (i.bytes ≤ 64))) = some (some z, 1, true)) (hzc : z.cells.size = 1)
    (hs : a.eval s = v) (h : SlE e w v xs) (ad : Addr) (c : Nat) (u : Value) (hx : a.eval x = .slice (some ad) 1 c) (hu : w.cell? ad = some u) (h1 : u.oneCell' = true) (hl : xs.length < 1000000000)
    (hK : ∀ p' cap' w', SlE e w' (.slice p' (xs.length + 1) cap') (xs ++ [u]) → w.grownBy w' (blk v) → (blk (.slice p' (xs.length + 1) cap') = blk v ∨ blk (.slice p' (xs.length + 1) cap') = some w.heap.size) →
      wpList Try.prog ops Q rest (a.put o.dst (.slice p' (xs.length + 1) cap')) w') : wpList Try.prog ops Q (o :: rest) a w := by
  refine wpList_plain hgd fun K hK' => ?_
  obtain ⟨v', w', hr, h2, h3, h4⟩ := run_append_one ht hinf hzc h (c := c) hu h1 hl o.type
  obtain ⟨p', cap', rfl, -⟩ := h2.form
  rw [List.length_append] at hr h2 h4
  unfold Oper.wp execOp
  simp only [ho, resolve, invoke, builtin, Sem.run_bind, Sem.run_pure, Result.andThen_ok, List.map_toArray, List.map_cons, List.map_nil, hs, hx, hr]
  exact hK' _ _ (hK p' cap' w' h2 h3 h4)
end
end Go.Lua
