/-
  n005_23: what ForEach hands out, told by the model: the array's live pairs in order, then the live strings, then the live numbers.
-/
import Derived.Test.YtfkemahinnpgdaaPairs
import Derived.Test.YtfkemahinnpgdaaNextL
namespace Go.Lua
open Go.Proofs Go.RowKit Go.Deep
set_option linter.unusedVariables false

def arrTo (A : List Int) : Nat → List (Value × Value)
  | 0 => []
  | j + 1 => if A.getD j 0 = 0 then arrTo A j else arrTo A j ++ [(lnum (fofInt ((j : Int) + 1)), lnum (fofInt (A.getD j 0)))]
section
variable {A : List Int} {j : Nat}
theorem arrTo_zero (h : A.getD j 0 = 0) : arrTo A (j + 1) = arrTo A j := if_pos h
theorem arrTo_some (h : A.getD j 0 ≠ 0) : arrTo A (j + 1) = arrTo A j ++ [(lnum (fofInt ((j : Int) + 1)), lnum (fofInt (A.getD j 0)))] := if_neg h
theorem arrTo_len (A : List Int) : ∀ j, (arrTo A j).length ≤ j
  | 0 => Nat.le_refl _
  | j + 1 => by
    have ih := arrTo_len A j
    rw [arrTo]
    split
    · omega
    · simp; omega
theorem arrTo_at {i : Nat} (h : A.getD i 0 ≠ 0) : ∀ n, i < n → (arrTo A n)[(arrTo A i).length]? = some (lnum (fofInt ((i : Int) + 1)), lnum (fofInt (A.getD i 0)))
  | 0, hi => by omega
  | n + 1, hi => by
    by_cases e : i = n
    · subst e
      rw [arrTo_some h]
      simp
    · have ih := arrTo_at h n (by omega)
      by_cases h0 : A.getD n 0 = 0
      · rw [arrTo_zero h0]; exact ih
      · rw [arrTo_some h0, List.getElem?_append_left (List.getElem?_eq_some_iff.1 ih).1]; exact ih
end
section
variable {m : Mod} {T : Tab} (h : Full m T)
include h
theorem Full.el {i : Nat} {u : Value} (hu : (T.arr.getD [])[i]? = some u) : u = val (m.arr.getD i 0) := by
  have hl := h.rel.a.len
  have hi := (List.getElem?_eq_some_iff.1 hu).1
  have h1 := h.rel.a.at' i (by omega)
  rw [getAt_succ, hu] at h1
  exact h1
theorem Full.alive : alive T = arrTo m.arr m.arr.length := by
  have h1 : ∀ j, j ≤ (T.arr.getD []).length → aliveTo (T.arr.getD []) j = arrTo m.arr j := by
    intro j
    induction j with
    | zero => intro _; rfl
    | succ j ih =>
      intro hj
      have hu : (T.arr.getD [])[j]? = some ((T.arr.getD [])[j]'(by omega)) := List.getElem?_eq_getElem _
      have he := h.el hu
      by_cases h0 : m.arr.getD j 0 = 0
      · rw [h0, val_zero] at he
        rw [he] at hu
        rw [alive_nil hu, arrTo_zero h0, ih (by omega)]
      · rw [val_num h0] at he
        rw [he] at hu
        rw [alive_num hu, arrTo_some h0, ih (by omega)]
  have h2 : ∀ j, (T.arr.getD []).length ≤ j → j ≤ m.arr.length → arrTo m.arr j = arrTo m.arr (T.arr.getD []).length := by
    intro j
    induction j with
    | zero => intro hj _; rw [Nat.le_zero.1 hj]
    | succ j ih =>
      intro hj hj2
      by_cases e : (T.arr.getD []).length = j + 1
      · rw [e]
      · have h1 := h.rel.a.at' j (by omega)
        rw [getAt_succ, List.getElem?_eq_none (by omega)] at h1
        rw [arrTo_zero (val_lnil h1.symm), ih (by omega) (by omega)]
  unfold Lua.alive
  rw [h1 _ (Nat.le_refl _), h2 m.arr.length h.rel.a.len (Nat.le_refl _)]
theorem Full.hash_at {q v : Value} (hq : IsLK q) (hv : T.hv q = some v) : ∃ j e, findL (keysOf m.hs) q = some j ∧ m.hs[j]? = some e ∧ lkEq q e.key = true ∧ e.v ≠ 0 ∧ v = lnum (fofInt e.v) := by
  rw [h.rel.h.hash q hq] at hv
  unfold hsv at hv
  cases hf : findL (keysOf m.hs) q with
  | none => rw [hf] at hv; cases hv
  | some j =>
    rw [hf, Option.bind_some] at hv
    cases he : m.hs[j]? with
    | none => rw [he] at hv; cases hv
    | some e =>
      rw [he, Option.bind_some] at hv
      obtain ⟨k, hk, hl⟩ := findL_some hf
      rw [keysOf_at he] at hk
      cases hk
      unfold live at hv
      split at hv
      · cases hv
      · rename_i h0
        exact ⟨j, e, rfl, he, hl, h0, (Option.some.inj hv).symm⟩
theorem Full.fe : FE T := by
  refine ⟨fun u hu => ?_, h.nx.alen, fun s u hu => ?_, fun q u hq hu => ?_, fun l hl hk => ?_⟩
  · obtain ⟨i, hi, rfl⟩ := List.mem_iff_getElem.1 hu
    have he := h.el (List.getElem?_eq_getElem hi)
    by_cases h0 : m.arr.getD i 0 = 0
    · rw [h0, val_zero] at he; exact .inl he
    · rw [val_num h0] at he; exact .inr ⟨_, he⟩
  · obtain ⟨j, e, -, -, -, -, hv⟩ := h.hash_at (q := lstr s) (.inr ⟨s, rfl⟩) hu
    exact ⟨_, hv⟩
  · rcases hq with ⟨y, rfl, hy⟩ | ⟨s, rfl⟩
    · obtain ⟨j, e, -, -, -, -, hv⟩ := h.hash_at (q := lnum y) (.inl ⟨y, rfl, hy⟩) hu
      exact ⟨⟨y, rfl⟩, _, hv⟩
    · rw [h.rel.h.dstr] at hu
      cases hu
  · have := inj_len (R := fun a b => lkEq a b = true) l (keysOf m.hs) (fun k hkl => by
      obtain ⟨h1, h2⟩ := hk k hkl
      cases hv : T.hv k with
      | none => exact absurd hv h2
      | some v =>
        obtain ⟨j, e, -, he, hl, -⟩ := h.hash_at h1 hv
        exact ⟨e.key, List.mem_of_getElem? (keysOf_at he), hl⟩) (hl.imp fun {a b} hab c h1 h2 => by
        have := lkEq_trans _ _ _ h1 (lkEq_symm _ _ h2)
        rw [hab] at this
        cases this)
    have hkl := h.nx.klen
    rw [h.rel.h.keys] at hkl
    omega
end
/-! ### the counts -/
def liveOf (b : Bool) (hs : List HEnt) : List HEnt := hs.filter fun e => e.v != 0 && e.str == b
theorem liveOf_take {hs : List HEnt} {j : Nat} {e : HEnt} (he : hs[j]? = some e) (b : Bool) : (liveOf b (hs.take (j + 1))).length = (liveOf b (hs.take j)).length + if (e.v != 0 && e.str == b) = true then 1 else 0 := by
  obtain ⟨hj, rfl⟩ := List.getElem?_eq_some_iff.1 he
  unfold liveOf
  rw [List.take_succ_eq_append_getElem hj, List.filter_append, List.length_append]
  congr 1
  split
  · rename_i h; simp [h]
  · rename_i h; simp [h]
theorem liveOf_le (b : Bool) (hs : List HEnt) : (liveOf b hs).length ≤ hs.length := List.length_filter_le _ _
theorem str_key {e : HEnt} {q : Value} (hq : IsStrK q) (h : lkEq q e.key = true) : e.str = true := by
  obtain ⟨s, rfl⟩ := hq
  cases hs : e.str with
  | true => rfl
  | false => rw [key_num hs] at h; cases h
theorem num_key {e : HEnt} {q : Value} (hq : IsNumK q) (h : lkEq q e.key = true) : e.str = false := by
  obtain ⟨x, rfl, -⟩ := hq
  cases hs : e.str with
  | false => rfl
  | true => rw [key_str hs] at h; cases h
theorem len_of {m : Mod} {T : Tab} (h : Full m T) {K : Value → Prop} {b : Bool} {L : List (Value × Value)} (hL : PairsOf T.hv K L) (hK : ∀ q, K q → IsLK q) (h1 : ∀ {e : HEnt} {q : Value}, K q → lkEq q e.key = true → e.str = b) (h2 : ∀ e : HEnt, IsLK e.key → e.str = b → K e.key) : L.length = (liveOf b m.hs).length := by
  refine Nat.le_antisymm ?_ ?_
  · refine inj_len (R := fun p e => lkEq p.1 e.key = true) _ _ (fun p hp => ?_) (hL.1.2.imp fun {a b} hab c q1 q2 => ?_)
    · obtain ⟨k1, k2⟩ := hL.1.1 p hp
      obtain ⟨j, e, -, he, hl, h0, -⟩ := h.hash_at (hK _ k1) k2
      refine ⟨e, List.mem_filter.2 ⟨List.mem_of_getElem? he, ?_⟩, hl⟩
      simp [h0, h1 k1 hl]
    · have := lkEq_trans _ _ _ q1 (lkEq_symm _ _ q2)
      rw [hab] at this
      cases this
  · have hap : m.hs.Pairwise fun a b => lkEq a.key b.key = false := by
      have := h.rel.h.apart
      unfold keysOf at this
      exact List.pairwise_map.1 this
    refine inj_len (R := fun e p => lkEq p.1 e.key = true) _ _ (fun e he => ?_) ((hap.filter _).imp fun {a b} hab c q1 q2 => ?_)
    · obtain ⟨hm, hc⟩ := List.mem_filter.1 he
      simp at hc
      obtain ⟨j, hj⟩ := List.getElem?_of_mem hm
      have hq := h.rel.h.isk e.key (List.mem_of_getElem? (keysOf_at hj))
      refine hL.2 e.key (h2 e hq hc.2) ?_
      rw [hsv_at h.rel.h hj]
      unfold live
      rw [if_neg hc.1]
      simp
    · have := lkEq_trans _ _ _ (lkEq_symm _ _ q1) q2
      rw [hab] at this
      cases this
theorem Full.len_s {m : Mod} {T : Tab} (h : Full m T) {L : List (Value × Value)} (hL : PairsOf T.hv IsStrK L) : L.length = (liveOf true m.hs).length :=
  len_of h hL (fun _ => strK_lk) (fun a b => str_key a b) fun e _ hs => ⟨e.s, key_str hs⟩
theorem Full.len_n {m : Mod} {T : Tab} (h : Full m T) {L : List (Value × Value)} (hL : PairsOf T.hv IsNumK L) : L.length = (liveOf false m.hs).length :=
  len_of h hL (fun _ => numK_lk) (fun a b => num_key a b) fun e hq hs => ⟨_, key_num hs, by
    have := lk_self hq
    rwa [key_num hs, lkEq_num] at this⟩
/-! ### the hash pairs, each served by one entry -/
structure HPairs (hs : List HEnt) (b : Nat) (HL : List (Value × Value)) : Prop where
  tgt : ∀ (x : Nat) (p : Value × Value), HL[x]? = some p → ∃ j e, findL (keysOf hs) p.1 = some j ∧ hs[j]? = some e ∧ e.v ≠ 0 ∧ p.2 = lnum (fofInt e.v) ∧ e.str = decide (x < b) ∧ IsLK p.1
  apart : HL.Pairwise fun p q => lkEq p.1 q.1 = false
theorem str_num {p q : Value} (hp : IsStrK p) (hq : IsNumK q) : lkEq p q = false := by
  obtain ⟨s, rfl⟩ := hp
  obtain ⟨x, rfl, -⟩ := hq
  rfl
theorem Full.hpairs {m : Mod} {T : Tab} (h : Full m T) {SL NL : List (Value × Value)} (hS : PairsOf T.hv IsStrK SL) (hN : PairsOf T.hv IsNumK NL) : HPairs m.hs SL.length (SL ++ NL) := by
  refine ⟨fun x p hp => ?_, ?_⟩
  · by_cases hx : x < SL.length
    · rw [List.getElem?_append_left hx] at hp
      obtain ⟨k1, k2⟩ := hS.1.1 p (List.mem_of_getElem? hp)
      obtain ⟨j, e, hf, he, hl, h0, hv⟩ := h.hash_at (strK_lk k1) k2
      exact ⟨j, e, hf, he, h0, hv, by rw [str_key k1 hl, decide_eq_true hx], strK_lk k1⟩
    · rw [List.getElem?_append_right (by omega)] at hp
      obtain ⟨k1, k2⟩ := hN.1.1 p (List.mem_of_getElem? hp)
      obtain ⟨j, e, hf, he, hl, h0, hv⟩ := h.hash_at (numK_lk k1) k2
      exact ⟨j, e, hf, he, h0, hv, by rw [num_key k1 hl, decide_eq_false hx], numK_lk k1⟩
  · rw [List.pairwise_append]
    exact ⟨hS.1.2, hN.1.2, fun p hp q hq => str_num (hS.1.1 p hp).1 (hN.1.1 q hq).1⟩
/-- Which of the list ks are taken: only what an earlier pair took. -/
def Mk (ks : List Value) (HL : List (Value × Value)) (x : Nat) (ms : List Bool) : Prop := ms.length = ks.length ∧ ∀ j, ms[j]? = some true → ∃ x' p, x' < x ∧ HL[x']? = some p ∧ findL ks p.1 = some j
section
variable {ks : List Value} {HL : List (Value × Value)} {x : Nat} {ms : List Bool}
theorem Mk.start (ks : List Value) (HL : List (Value × Value)) : Mk ks HL 0 (List.replicate ks.length false) := by
  refine ⟨List.length_replicate, fun j hj => ?_⟩
  rw [List.getElem?_replicate] at hj
  split at hj <;> cases hj
theorem findL_lt {q : Value} {j : Nat} (h : findL ks q = some j) : j < ks.length := by
  obtain ⟨k, hk, -⟩ := findL_some h
  exact (List.getElem?_eq_some_iff.1 hk).1
theorem Mk.free (h : Mk ks HL x ms) (ha : HL.Pairwise fun p q => lkEq p.1 q.1 = false) {p : Value × Value} (hp : HL[x]? = some p) {j : Nat} (hj : findL ks p.1 = some j) : ms[j]? = some false := by
  have hl : j < ms.length := by rw [h.1]; exact findL_lt hj
  rw [List.getElem?_eq_getElem hl]
  cases hb : ms[j] with
  | false => rfl
  | true =>
    obtain ⟨x', p', hx', hp', hj'⟩ := h.2 j (by rw [List.getElem?_eq_getElem hl, hb])
    obtain ⟨k, hk, h1⟩ := findL_some hj
    obtain ⟨k', hk', h2⟩ := findL_some hj'
    rw [hk] at hk'
    cases hk'
    obtain ⟨l1, e1⟩ := List.getElem?_eq_some_iff.1 hp
    obtain ⟨l2, e2⟩ := List.getElem?_eq_some_iff.1 hp'
    have h3 := List.pairwise_iff_getElem.1 ha x' x l2 l1 hx'
    rw [e1, e2, lkEq_trans _ _ _ h2 (lkEq_symm _ _ h1)] at h3
    cases h3
theorem Mk.next (h : Mk ks HL x ms) {p : Value × Value} (hp : HL[x]? = some p) {j : Nat} (hj : findL ks p.1 = some j) : Mk ks HL (x + 1) (ms.set j true) := by
  refine ⟨by rw [List.length_set]; exact h.1, fun i hi => ?_⟩
  by_cases e : j = i
  · subst e
    exact ⟨x, p, Nat.lt_succ_self _, hp, hj⟩
  · rw [List.getElem?_set, if_neg e] at hi
    obtain ⟨x', p', h1, h2⟩ := h.2 i hi
    exact ⟨x', p', by omega, h2⟩
theorem findL_before {q : Value} {j i : Nat} (h : findL ks q = some j) (hi : i < j) {k : Value} (hk : ks[i]? = some k) : lkEq q k = false := by
  unfold findL at h
  rw [List.findIdx?_eq_some_iff_getElem] at h
  obtain ⟨hj, -, h2⟩ := h
  have := h2 i hi
  obtain ⟨hl, rfl⟩ := List.getElem?_eq_some_iff.1 hk
  simpa using this
end
end Go.Lua
