/-
  n005_23: what ForEach hands out, told by the table.
-/
import Derived.Test.YtfkemahinnpgdaaPush
import Derived.Test.YtfkemahinnpgdaaIter
namespace Go.Lua
open Go.Proofs Go.RowKit Go.Deep
set_option linter.unusedVariables false

/-! ### plain -/
/-- The live pairs of the array's first j slots. -/
def aliveTo (xs : List Value) : Nat → List (Value × Value)
  | 0 => []
  | j + 1 => match xs[j]? with
    | some x => if isNil x then aliveTo xs j else aliveTo xs j ++ [(lnum (fofInt ((j : Int) + 1)), x)]
    | none => aliveTo xs j
theorem alive_nil {xs : List Value} {j : Nat} (h : xs[j]? = some lnil) : aliveTo xs (j + 1) = aliveTo xs j := by
  rw [aliveTo, h]
  rfl
theorem alive_num {xs : List Value} {j x : Nat} (h : xs[j]? = some (lnum x)) : aliveTo xs (j + 1) = aliveTo xs j ++ [(lnum (fofInt ((j : Int) + 1)), lnum x)] := by
  rw [aliveTo, h]
  rfl
theorem alive_len (xs : List Value) : ∀ j, (aliveTo xs j).length ≤ j
  | 0 => Nat.le_refl _
  | j + 1 => by
    have ih := alive_len xs j
    rw [aliveTo]
    split
    · split
      · omega
      · simp; omega
    · omega
def IsStrK (q : Value) : Prop := ∃ s, q = lstr s
def IsNumK (q : Value) : Prop := ∃ x, q = lnum x ∧ feq x x = true
/-- L is what f gives over the keys K, each once. -/
def SomeOf (f : Value → Option Value) (K : Value → Prop) (L : List (Value × Value)) : Prop :=
  (∀ p ∈ L, K p.1 ∧ f p.1 = some p.2) ∧ L.Pairwise fun p q => lkEq p.1 q.1 = false
def PairsOf (f : Value → Option Value) (K : Value → Prop) (L : List (Value × Value)) : Prop :=
  SomeOf f K L ∧ ∀ q, K q → f q ≠ none → ∃ p ∈ L, lkEq p.1 q = true
structure FE (T : Tab) : Prop where
  ev : ∀ u ∈ T.arr.getD [], u = lnil ∨ ∃ x, u = lnum x
  alen : (T.arr.getD []).length ≤ 65536
  sv : ∀ s u, mget T.sdict (.string s) = some u → ∃ x, u = lnum x
  dv : ∀ q u, IsLK q → mget T.dict q = some u → (∃ y, q = lnum y) ∧ ∃ x, u = lnum x
  cap : ∀ l : List Value, l.Pairwise (fun a b => lkEq a b = false) → (∀ k ∈ l, IsLK k ∧ T.hv k ≠ none) → l.length ≤ 1000000
theorem strK_lk {q : Value} (h : IsStrK q) : IsLK q := by obtain ⟨s, rfl⟩ := h; exact .inr ⟨s, rfl⟩
theorem numK_lk {q : Value} (h : IsNumK q) : IsLK q := by obtain ⟨x, rfl, hx⟩ := h; exact .inl ⟨x, rfl, hx⟩
theorem FE.len {T : Tab} (h : FE T) {K : Value → Prop} (hK : ∀ q, K q → IsLK q) {L : List (Value × Value)} (hL : SomeOf T.hv K L) : L.length ≤ 1000000 := by
  have := h.cap (L.map (·.1)) (List.pairwise_map.2 hL.2) (fun k hk => by
    obtain ⟨p, hp, rfl⟩ := List.mem_map.1 hk
    have := hL.1 p hp
    exact ⟨hK _ this.1, by rw [this.2]; simp⟩)
  simpa using this
theorem pw_of {α : Type} {R : α → α → Prop} (hs : ∀ a b, R a b → R b a) : ∀ {l : List α}, l.Pairwise R → ∀ {x y : α}, x ∈ l → y ∈ l → x ≠ y → R x y
  | [], _, x, y, hx, _, _ => by cases hx
  | a :: l, hp, x, y, hx, hy, hne => by
    obtain ⟨h1, h2⟩ := List.pairwise_cons.1 hp
    rcases List.mem_cons.1 hx with ex | hx'
    · rcases List.mem_cons.1 hy with ey | hy'
      · exact absurd (ex.trans ey.symm) hne
      · rw [ex]; exact h1 y hy'
    · rcases List.mem_cons.1 hy with ey | hy'
      · rw [ey]; exact hs _ _ (h1 x hx')
      · exact pw_of hs h2 hx' hy' hne
/-! ### entries as pairs -/
def strOf : Value → Value
  | .string s => lstr s
  | q => q
def sPair (e : MapEntry) : Value × Value := (strOf e.key, e.val)
def nPair (e : MapEntry) : Value × Value := (e.key, e.val)
theorem skEq_comm (a b : Value) : skEq a b = skEq b a := by
  cases h : skEq b a with
  | true => exact sk_law.symm _ _ h
  | false => exact sk_law.eq_false_symm h
section
variable {T : Tab} {f : Value → Option Value} {es : Array MapEntry} {clock : Nat} {L : List MapEntry}
theorem some_s (hT : T.sdict = some f) (hg : GoodMap IsSK skEq es.toList clock) (hf : ∀ q, IsSK q → mlook skEq es.toList q = f q) (hL : (∀ x ∈ L, x ∈ es.toList) ∧ (L.map (·.born)).Nodup) : SomeOf T.hv IsStrK (L.map sPair) := by
  refine ⟨fun p hp => ?_, ?_⟩
  · obtain ⟨e, he, rfl⟩ := List.mem_map.1 hp
    have hem := hL.1 e he
    obtain ⟨s, hs⟩ := hg.keys e hem
    have h1 := mlook_self (fun q hq => sk_self hq) skEq_comm hg.keys hg.apart e hem
    rw [hf _ (hg.keys e hem)] at h1
    unfold sPair
    rw [hs] at h1 ⊢
    refine ⟨⟨s, rfl⟩, ?_⟩
    show T.hv (lstr s) = _
    rw [hv_str, hT]
    exact h1
  · rw [List.pairwise_map]
    refine (List.pairwise_map.1 hL.2).imp_of_mem ?_
    intro a b ha hb hne
    have h1 := pw_of (fun x y h => by rw [skEq_comm]; exact h) hg.apart (hL.1 a ha) (hL.1 b hb) (fun e => hne (e ▸ rfl))
    obtain ⟨s, hs⟩ := hg.keys a (hL.1 a ha)
    obtain ⟨u, hu⟩ := hg.keys b (hL.1 b hb)
    unfold sPair
    rw [hs, hu] at h1 ⊢
    show lkEq (lstr s) (lstr u) = false
    rw [lkEq_str]
    exact h1
theorem pairs_s (hT : T.sdict = some f) (hg : GoodMap IsSK skEq es.toList clock) (hf : ∀ q, IsSK q → mlook skEq es.toList q = f q) (hL : (∀ x ∈ L, x ∈ es.toList) ∧ (L.map (·.born)).Nodup) (hall : ∀ y ∈ es.toList, y ∈ L) : PairsOf T.hv IsStrK (L.map sPair) := by
  refine ⟨some_s hT hg hf hL, ?_⟩
  rintro q ⟨s, rfl⟩ hne
  rw [hv_str, hT] at hne
  cases h : f (.string s) with
  | none => exact absurd h hne
  | some v =>
    rw [← hf _ ⟨s, rfl⟩] at h
    obtain ⟨e, he, hk, -⟩ := mlook_mem h
    refine ⟨_, List.mem_map.2 ⟨e, hall e he, rfl⟩, ?_⟩
    obtain ⟨u, hu⟩ := hg.keys e he
    unfold sPair
    rw [hu] at hk ⊢
    show lkEq (lstr u) (lstr s) = true
    rw [lkEq_comm, lkEq_str]
    exact hk
theorem hv_numK {q : Value} (h : IsNumK q) : T.hv q = mget T.dict q := by
  obtain ⟨x, rfl, -⟩ := h
  rfl
theorem num_of (hFE : FE T) (hT : T.dict = some f) (hg : GoodMap IsLK lkEq es.toList clock) (hf : ∀ q, IsLK q → mlook lkEq es.toList q = f q) {e : MapEntry} (he : e ∈ es.toList) : IsNumK e.key ∧ (∃ x, e.val = lnum x) ∧ f e.key = some e.val := by
  have h1 := mlook_self (fun q hq => lk_self hq) lkEq_comm hg.keys hg.apart e he
  rw [hf _ (hg.keys e he)] at h1
  obtain ⟨⟨y, hy⟩, hx⟩ := hFE.dv e.key e.val (hg.keys e he) (by rw [hT]; exact h1)
  refine ⟨⟨y, hy, ?_⟩, hx, h1⟩
  have := lk_self (hg.keys e he)
  rw [hy, lkEq_num] at this
  exact this
theorem str_of (hFE : FE T) (hT : T.sdict = some f) (hg : GoodMap IsSK skEq es.toList clock) (hf : ∀ q, IsSK q → mlook skEq es.toList q = f q) {e : MapEntry} (he : e ∈ es.toList) : (∃ s, e.key = .string s) ∧ ∃ x, e.val = lnum x := by
  have h1 := mlook_self (fun q hq => sk_self hq) skEq_comm hg.keys hg.apart e he
  rw [hf _ (hg.keys e he)] at h1
  obtain ⟨s, hs⟩ := hg.keys e he
  refine ⟨⟨s, hs⟩, hFE.sv s e.val ?_⟩
  rw [hT, ← hs]
  exact h1
theorem some_n (hFE : FE T) (hT : T.dict = some f) (hg : GoodMap IsLK lkEq es.toList clock) (hf : ∀ q, IsLK q → mlook lkEq es.toList q = f q) (hL : (∀ x ∈ L, x ∈ es.toList) ∧ (L.map (·.born)).Nodup) : SomeOf T.hv IsNumK (L.map nPair) := by
  refine ⟨fun p hp => ?_, ?_⟩
  · obtain ⟨e, he, rfl⟩ := List.mem_map.1 hp
    obtain ⟨h1, h2, h3⟩ := num_of hFE hT hg hf (hL.1 e he)
    refine ⟨h1, ?_⟩
    show T.hv e.key = some e.val
    rw [hv_numK h1, hT]
    exact h3
  · rw [List.pairwise_map]
    refine (List.pairwise_map.1 hL.2).imp_of_mem ?_
    intro a b ha hb hne
    exact pw_of (fun x y h => by rw [lkEq_comm]; exact h) hg.apart (hL.1 a ha) (hL.1 b hb) (fun e => hne (e ▸ rfl))
theorem pairs_n (hFE : FE T) (hT : T.dict = some f) (hg : GoodMap IsLK lkEq es.toList clock) (hf : ∀ q, IsLK q → mlook lkEq es.toList q = f q) (hL : (∀ x ∈ L, x ∈ es.toList) ∧ (L.map (·.born)).Nodup) (hall : ∀ y ∈ es.toList, y ∈ L) : PairsOf T.hv IsNumK (L.map nPair) := by
  refine ⟨some_n hFE hT hg hf hL, fun q hq hne => ?_⟩
  rw [hv_numK hq, hT] at hne
  cases h : f q with
  | none => exact absurd h hne
  | some v =>
    rw [← hf _ (numK_lk hq)] at h
    obtain ⟨e, he, hk, -⟩ := mlook_mem h
    exact ⟨_, List.mem_map.2 ⟨e, hall e he, rfl⟩, by rw [lkEq_comm]; exact hk⟩
end
theorem pairs_none {f : Value → Option Value} {K : Value → Prop} (h : ∀ q, K q → f q = none) : PairsOf f K [] := ⟨⟨by simp, .nil⟩, fun q hq hne => absurd (h q hq) hne⟩
/-! ### the callback's state -/
def FSt (w0 : World) (N ba bb : Nat) (w : World) (ps : List (Value × Value)) : Prop :=
  (∃ va vb, Acc2 N w ba va (ps.map (·.1)) bb vb (ps.map (·.2))) ∧ Upd (fun k => N ≤ k) w0 w
section
variable {w0 w w' : World} {N ba bb : Nat} {ps : List (Value × Value)}
theorem FSt.call (h : FSt w0 N ba bb w ps) (hba : N ≤ ba) (hbb : N ≤ bb) (hl : ps.length < 999999999) (tk : TypeId) (xk : Value) (tv : TypeId) (xv : Value) :
    Calls Try.prog 40 #[.iface tk xk, .iface tv xv, .pointer (some ⟨ba, 0, none⟩), .pointer (some ⟨bb, 0, none⟩)] w fun e w' => e = .returned (.tuple #[]) ∧ FSt w0 N ba bb w' (ps ++ [(.iface tk xk, .iface tv xv)]) ∧ Upd (Tch N w ba bb) w w' := by
  obtain ⟨⟨va, vb, hA⟩, hU⟩ := h
  refine (push_any w N ba bb va _ vb _ hA (by simpa using hl) (by simpa using hl) tk xk tv xv).mono ?_
  rintro e w' ⟨rfl, ⟨va', vb', hA'⟩, hu⟩
  refine ⟨rfl, ⟨⟨va', vb', by simpa using hA'⟩, hU.trans (hu.mono fun k _ hk => ?_)⟩, hu⟩
  rcases hk with rfl | rfl | ⟨q, -⟩
  · exact .inl hba
  · exact .inl hbb
  · exact .inl q
theorem FSt.kept (h : FSt w0 N ba bb w ps) (u : Upd (fun k => ∃ bm s c0 cl, w.heap[k]? = some (.mapIter bm s c0 cl)) w w') (hN : ∀ k, k < N → k < w.heap.size → w'.heap[k]? = w.heap[k]?) : FSt w0 N ba bb w' ps := by
  obtain ⟨⟨va, vb, hA⟩, hU⟩ := h
  exact ⟨⟨va, vb, hA.kept u⟩, hU.under ⟨u.os, u.tape, u.output, u.size, fun k hk hn => hN k (Nat.lt_of_not_le hn) hk⟩ fun k hk => .inl hk⟩
theorem FSt.other (h : FSt w0 N ba bb w ps) (u : Upd (fun _ => False) w w') : FSt w0 N ba bb w' ps := h.kept (u.mono fun k _ q => q.elim) fun k _ hk => u.block k hk fun q => q
theorem FSt.tab (h : FSt w0 N ba bb w ps) {t : Nat} {T : Tab} {F : Nat → Prop} {va vd vs vk vi : Value} (hT : TabV w0 t T F va vd vs vk vi) (hF : ∀ k, F k → k < N) : TabV w t T F va vd vs vk vi :=
  hT.kept fun k hk hf => h.2.block k hk (Nat.not_le.2 (hF k hf))
theorem FSt.size (h : FSt w0 N ba bb w ps) : N ≤ w.heap.size := by
  obtain ⟨⟨va, vb, hA⟩, hU⟩ := h
  exact hA.hN
end
/-- The iterator under way, and what was handed out. -/
theorem Rng.pushed {w w' : World} {bm it N ba bb : Nat} {es : Array MapEntry} {L : List MapEntry} (h : Rng w bm it es L) (u : Upd (Tch N w ba bb) w w') {w0 : World} {ps : List (Value × Value)} (hS : FSt w0 N ba bb w ps) : Rng w' bm it es L := by
  obtain ⟨⟨va, vb, hA⟩, -⟩ := hS
  obtain ⟨b, s, c, cl, hi⟩ := h.iter
  obtain ⟨clock, hm⟩ := h.map
  refine h.kept ?_
  rintro k (rfl | rfl)
  · refine u.block _ (Array.getElem?_eq_some_iff.1 hm).1 ?_
    rintro (rfl | rfl | ⟨-, c, hc⟩)
    · have := hA.ha; rw [hm] at this; cases this
    · have := hA.hb; rw [hm] at this; cases this
    · rw [hm] at hc; cases hc
  · refine u.block _ (Array.getElem?_eq_some_iff.1 hi).1 ?_
    rintro (rfl | rfl | ⟨-, c, hc⟩)
    · have := hA.ha; rw [hi] at this; cases this
    · have := hA.hb; rw [hi] at this; cases this
    · rw [hi] at hc; cases hc
end Go.Lua
