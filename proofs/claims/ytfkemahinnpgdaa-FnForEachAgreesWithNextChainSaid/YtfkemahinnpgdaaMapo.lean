/-
  A Go map as a partial function from keys to values: look-up, store and delete at any key type whose equality is known. The key that stays at a store is left open (0 and -0).
-/
import Derived.WalkKit
import Derived.MapKept
namespace Go.Lua
open Go.MapKept (heap_set)

/-- The place and the value of the first entry whose key equals k. -/
def locate (eq : Value → Value → Bool) (k : Value) : List MapEntry → Nat → Option (Nat × Value)
  | [], _ => none
  | e :: es, i => if eq k e.key then some (i, e.val) else locate eq k es (i + 1)

def mlook (eq : Value → Value → Bool) (es : List MapEntry) (k : Value) : Option Value := (locate eq k es 0).map (·.2)

/-- What a key type must give. -/
structure KeyLaw (P : Program) (kt : TypeId) (IsK : Value → Prop) (eq : Value → Value → Bool) : Prop where
  check : ∀ (e : Bool) (k : Value) (w : World), IsK k → (Instr.checkKey e 10000 kt k).run P w = .ok () w
  find : ∀ (k : Value) (es : List MapEntry) (w : World), IsK k → (∀ x ∈ es, IsK x.key) → (Instr.findKey kt k es).run P w = .ok (locate eq k es 0) w
  symm : ∀ a b, eq a b = true → eq b a = true
  trans : ∀ a b c, eq a b = true → eq b c = true → eq a c = true

structure GoodMap (IsK : Value → Prop) (eq : Value → Value → Bool) (es : List MapEntry) (clock : Nat) : Prop where
  keys : ∀ x ∈ es, IsK x.key
  apart : es.Pairwise fun x y => eq x.key y.key = false
  young : ∀ x ∈ es, x.born < clock
  stamps : (es.map (·.born)).Nodup

/-- Block r is a map that holds f. -/
def MapAt (IsK : Value → Prop) (eq : Value → Value → Bool) (w : World) (r : Nat) (f : Value → Option Value) : Prop :=
  ∃ es clock, w.heap[r]? = some (.map es clock) ∧ GoodMap IsK eq es.toList clock ∧ ∀ q, IsK q → mlook eq es.toList q = f q

theorem locate_shift (eq : Value → Value → Bool) (k : Value) : ∀ (es : List MapEntry) (i : Nat), locate eq k es (i + 1) = (locate eq k es i).map fun p => (p.1 + 1, p.2)
  | [], i => rfl
  | e :: es, i => by
    unfold locate
    split
    · rfl
    · exact locate_shift eq k es (i + 1)

theorem mlook_nil (eq : Value → Value → Bool) (k : Value) : mlook eq [] k = none := rfl
theorem mlook_cons (eq : Value → Value → Bool) (e : MapEntry) (es : List MapEntry) (k : Value) : mlook eq (e :: es) k = if eq k e.key then some e.val else mlook eq es k := by
  unfold mlook
  rw [locate]
  split
  · rfl
  · rw [locate_shift]; simp [Function.comp_def]

theorem locate_some {eq : Value → Value → Bool} {k : Value} : ∀ {es : List MapEntry} {i : Nat} {j : Nat} {v : Value}, locate eq k es i = some (j, v) → ∃ n e, j = i + n ∧ es[n]? = some e ∧ e.val = v ∧ eq k e.key = true
  | [], i, j, v, h => by cases h
  | e :: es, i, j, v, h => by
    unfold locate at h
    split at h
    · cases h
      exact ⟨0, e, rfl, rfl, rfl, ‹_›⟩
    · obtain ⟨n, e', rfl, h2, h3, h4⟩ := locate_some h
      exact ⟨n + 1, e', by omega, by simpa using h2, h3, h4⟩

theorem locate_none {eq : Value → Value → Bool} {k : Value} : ∀ {es : List MapEntry} {i : Nat}, locate eq k es i = none → ∀ e ∈ es, eq k e.key = false
  | [], _, _, _, h => by cases h
  | e :: es, i, h, x, hx => by
    unfold locate at h
    split at h
    · cases h
    · rename_i hne
      cases hx with
      | head => simpa using hne
      | tail _ hx => exact locate_none h x hx

theorem mlook_none {eq : Value → Value → Bool} {k : Value} {es : List MapEntry} (h : ∀ e ∈ es, eq k e.key = false) : mlook eq es k = none := by
  induction es with
  | nil => rfl
  | cons e es ih =>
    rw [mlook_cons, h e (.head _)]
    simpa using ih fun x hx => h x (.tail _ hx)

theorem mlook_append (eq : Value → Value → Bool) (es fs : List MapEntry) (k : Value) : mlook eq (es ++ fs) k = (mlook eq es k).or (mlook eq fs k) := by
  induction es with
  | nil => simp [mlook_nil]
  | cons e es ih =>
    rw [List.cons_append, mlook_cons, mlook_cons, ih]
    split <;> simp

theorem mlook_mem {eq : Value → Value → Bool} {k v : Value} {es : List MapEntry} (h : mlook eq es k = some v) : ∃ e ∈ es, eq k e.key = true ∧ e.val = v := by
  induction es with
  | nil => cases h
  | cons e es ih =>
    rw [mlook_cons] at h
    split at h
    · cases h
      exact ⟨e, .head _, ‹_›, rfl⟩
    · obtain ⟨x, hx, h2⟩ := ih h
      exact ⟨x, .tail _ hx, h2⟩

section
variable {P : Program} {kt : TypeId} {IsK : Value → Prop} {eq : Value → Value → Bool}

theorem KeyLaw.eq_false_symm (K : KeyLaw P kt IsK eq) {a b : Value} (h : eq a b = false) : eq b a = false := by
  cases h2 : eq b a with
  | false => rfl
  | true => rw [K.symm _ _ h2] at h; cases h

theorem KeyLaw.eq_congr (K : KeyLaw P kt IsK eq) {a b c : Value} (h : eq a b = true) : eq a c = eq b c := by
  cases h2 : eq b c with
  | true => exact K.trans _ _ _ h h2
  | false =>
    cases h3 : eq a c with
    | false => rfl
    | true => rw [K.trans _ _ _ (K.symm _ _ h) h3] at h2; cases h2

theorem mlook_congr (K : KeyLaw P kt IsK eq) {a b : Value} (h : eq a b = true) : ∀ es, mlook eq es a = mlook eq es b
  | [] => rfl
  | e :: es => by rw [mlook_cons, mlook_cons, K.eq_congr h, mlook_congr K h es]

theorem MapAt.lt {w : World} {r : Nat} {f : Value → Option Value} (h : MapAt IsK eq w r f) : r < w.heap.size := by
  obtain ⟨es, clock, hb, _⟩ := h
  exact (Array.getElem?_eq_some_iff.1 hb).1

theorem MapAt.of_heap {w w' : World} {r : Nat} {f : Value → Option Value} (h : MapAt IsK eq w r f) (hh : w'.heap[r]? = w.heap[r]?) : MapAt IsK eq w' r f := by
  obtain ⟨es, clock, hb, r⟩ := h
  exact ⟨es, clock, hh.trans hb, r⟩

theorem MapAt.made (w : World) : MapAt IsK eq (w.alloc (.map #[] 0)) w.heap.size fun _ => none :=
  ⟨#[], 0, (Go.MapKept.heap_alloc w _).1, ⟨by simp, by simp, by simp, by simp⟩, fun _ _ => rfl⟩

/-- 'm[k]', 'v, ok := m[k]': what the function gives, else the zero value. -/
theorem MapAt.lookup (K : KeyLaw P kt IsK eq) {w : World} {r : Nat} {f : Value → Option Value} (h : MapAt IsK eq w r f) {t e : TypeId} {z : Value} (ht : P.underlying t = some (.map kt e)) (hz : ∀ w, (zeroValue e).run P w = .ok z w)
    {k : Value} (hk : IsK k) (ok : Bool) :
    (Instr.lookup t (.map (some r)) k ok).run P w = .ok (if ok then .tuple #[(f k).getD z, .bool (f k).isSome] else (f k).getD z) w := by
  obtain ⟨es, clock, hb, hg, hf⟩ := h
  have hfk := hf k hk
  unfold mlook at hfk
  have hc := K.check es.isEmpty k w hk
  have hfind := K.find k es.toList w hk hg.keys
  cases hl : locate eq k es.toList 0 with
  | none =>
    rw [hl] at hfk hfind
    simp only [Option.map_none] at hfk
    simp [Instr.lookup, run_underlying ht, Go.MapKept.run_getObj_map hb, hc, hfind, hz, ← hfk]
  | some p =>
    rw [hl] at hfk hfind
    simp only [Option.map_some] at hfk
    simp [Instr.lookup, run_underlying ht, Go.MapKept.run_getObj_map hb, hc, hfind, ← hfk]

/-- .. of a nil map: the zero value. -/
theorem lookup_nil (K : KeyLaw P kt IsK eq) (w : World) {t e : TypeId} {z : Value} (ht : P.underlying t = some (.map kt e)) (hz : ∀ w, (zeroValue e).run P w = .ok z w) {k : Value} (hk : IsK k) (ok : Bool) :
    (Instr.lookup t (.map none) k ok).run P w = .ok (if ok then .tuple #[z, .bool false] else z) w := by
  have hc := K.check true k w hk
  have hfind := K.find k [] w hk (by simp)
  simp only [locate] at hfind
  simp [Instr.lookup, run_underlying ht, hc, hfind, hz]

theorem mlook_modify_val {es : List MapEntry} {n : Nat} {e : MapEntry} (K : KeyLaw P kt IsK eq) (hn : es[n]? = some e) {k k' v : Value} (hk' : k' = k ∨ k' = e.key) (he : eq k e.key = true)
    (hap : es.Pairwise fun x y => eq x.key y.key = false) (q : Value) :
    mlook eq (es.modify n fun e => { e with key := k', val := v }) q = if eq q k then some v else mlook eq es q := by
  induction es generalizing n with
  | nil => simp at hn
  | cons x es ih =>
    have hqk : eq q k' = eq q k := by
      rcases hk' with rfl | rfl
      · rfl
      · cases h1 : eq q k with
        | true => exact K.trans _ _ _ h1 he
        | false =>
          cases h2 : eq q e.key with
          | false => rfl
          | true => rw [K.trans _ _ _ h2 (K.symm _ _ he)] at h1; cases h1
    cases n with
    | zero =>
      simp only [List.getElem?_cons_zero, Option.some.injEq] at hn
      subst hn
      simp only [List.modify_zero_cons, mlook_cons, hqk]
      by_cases h1 : eq q k = true
      · simp [h1]
      · have h2 : eq q x.key = false := by
          cases h2 : eq q x.key with
          | false => rfl
          | true => exact absurd (K.trans _ _ _ h2 (K.symm _ _ he)) h1
        simp [h1, h2]
    | succ n =>
      simp only [List.getElem?_cons_succ] at hn
      simp only [List.modify_succ_cons, mlook_cons]
      rw [ih hn (List.pairwise_cons.1 hap).2]
      by_cases h1 : eq q x.key = true
      · have h2 : eq q k = false := by
          cases h2 : eq q k with
          | false => rfl
          | true =>
            have h3 := K.trans _ _ _ (K.symm _ _ h1) (K.trans _ _ _ h2 he)
            rw [(List.pairwise_cons.1 hap).1 e (List.mem_of_getElem? hn)] at h3
            cases h3
        simp [h1, h2]
      · simp [h1]

theorem pairwise_modify {es : List MapEntry} {n : Nat} {e : MapEntry} (K : KeyLaw P kt IsK eq) (hn : es[n]? = some e) {k' v : Value} (hk' : eq k' e.key = true ∨ k' = e.key)
    (hap : es.Pairwise fun x y => eq x.key y.key = false) : (es.modify n fun e => { e with key := k', val := v }).Pairwise fun x y => eq x.key y.key = false := by
  have hto : ∀ a, eq e.key a = false → eq k' a = false := by
    intro a h
    rcases hk' with h1 | rfl
    · rw [K.eq_congr h1]; exact h
    · exact h
  have hfrom : ∀ a, eq a e.key = false → eq a k' = false := fun a h => K.eq_false_symm (hto a (K.eq_false_symm h))
  induction es generalizing n with
  | nil => simp at hn
  | cons x es ih =>
    obtain ⟨h1, h2⟩ := List.pairwise_cons.1 hap
    cases n with
    | zero =>
      simp only [List.getElem?_cons_zero, Option.some.injEq] at hn
      subst hn
      simp only [List.modify_zero_cons]
      exact List.pairwise_cons.2 ⟨fun a ha => hto _ (h1 a ha), h2⟩
    | succ n =>
      simp only [List.getElem?_cons_succ] at hn
      simp only [List.modify_succ_cons]
      refine List.pairwise_cons.2 ⟨fun a ha => ?_, ih hn h2⟩
      obtain ⟨j, hj, hja⟩ := List.mem_iff_getElem.1 ha
      rw [List.getElem_modify] at hja
      split at hja
      · subst hja
        exact hfrom _ (h1 e (List.mem_of_getElem? hn))
      · subst hja
        exact h1 _ (List.getElem_mem _)

theorem keys_modify {es : List MapEntry} {n : Nat} {k' v : Value} (hk : IsK k') (h : ∀ x ∈ es, IsK x.key) : ∀ x ∈ es.modify n fun e => { e with key := k', val := v }, IsK x.key := by
  intro x hx
  obtain ⟨j, hj, rfl⟩ := List.mem_iff_getElem.1 hx
  rw [List.getElem_modify]
  split
  · exact hk
  · exact h _ (List.getElem_mem _)

theorem borns_modify (es : List MapEntry) (n : Nat) (k' v : Value) : (es.modify n fun e => { e with key := k', val := v }).map (·.born) = es.map (·.born) := by
  induction es generalizing n with
  | nil => cases n <;> rfl
  | cons x es ih =>
    cases n with
    | zero => rfl
    | succ n => simp only [List.modify_succ_cons, List.map_cons, ih]

/-- A world in which block r alone holds another map; a draw perhaps besides. -/
theorem grownBy_setMap {w : World} {r : Nat} {es : Array MapEntry} {clock : Nat} (hb : w.heap[r]? = some (.map es clock)) (o : Obj) (d : Nat) :
    w.grownBy { w with heap := w.heap.setIfInBounds r o, drawn := d } (some r) :=
  ⟨rfl, rfl, rfl, by simp, fun i _ hi => (heap_set hb).2 i fun e => hi (by rw [e])⟩

/-- 'm[k] = v'. -/
theorem MapAt.update (K : KeyLaw P kt IsK eq) {w : World} {r : Nat} {f : Value → Option Value} (h : MapAt IsK eq w r f) {t e : TypeId} (ht : P.underlying t = some (.map kt e))
    {k : Value} (hk : IsK k) (v : Value) :
    ∃ w', (Instr.mapUpdate t (.map (some r)) k v).run P w = .ok () w' ∧ MapAt IsK eq w' r (fun q => if eq q k then some v else f q) ∧ w.grownBy w' (some r) ∧ w'.heap.size = w.heap.size := by
  obtain ⟨es, clock, hb, hg, hf⟩ := h
  have hc := K.check false k w hk
  have hfind := K.find k es.toList w hk hg.keys
  cases hl : locate eq k es.toList 0 with
  | none =>
    rw [hl] at hfind
    have hno := locate_none hl
    refine ⟨{ w with heap := w.heap.setIfInBounds r (.map (es.push { key := k, val := v, born := clock }) (clock + 1)) }, ?_, ⟨_, _, (heap_set hb).1, ⟨?_, ?_, ?_, ?_⟩, ?_⟩, grownBy_setMap hb _ _, by simp⟩
    · simp [Instr.mapUpdate, run_underlying ht, Go.MapKept.run_getObj_map hb, hc, hfind, Go.MapKept.run_setObj_map _ hb]
    · intro x hx
      simp only [Array.toList_push, List.mem_append, List.mem_singleton] at hx
      rcases hx with hx | rfl
      · exact hg.keys x hx
      · exact hk
    · simp only [Array.toList_push]
      refine List.pairwise_append.2 ⟨hg.apart, by simp, ?_⟩
      intro a ha b hb'
      simp only [List.mem_singleton] at hb'
      subst hb'
      exact K.eq_false_symm (hno a ha)
    · intro x hx
      simp only [Array.toList_push, List.mem_append, List.mem_singleton] at hx
      rcases hx with hx | rfl
      · exact Nat.lt_succ_of_lt (hg.young x hx)
      · exact Nat.lt_succ_self _
    · simp only [Array.toList_push, List.map_append, List.map_cons, List.map_nil]
      refine List.nodup_append.2 ⟨hg.stamps, by simp, ?_⟩
      intro a ha b hb'
      simp only [List.mem_singleton] at hb'
      subst hb'
      obtain ⟨x, hx, rfl⟩ := List.mem_map.1 ha
      exact Nat.ne_of_lt (hg.young x hx)
    · intro q hq
      simp only [Array.toList_push, mlook_append, mlook_cons, mlook_nil]
      rw [hf q hq]
      by_cases h1 : eq q k = true
      · have : f q = none := by
          rw [← hf q hq]
          exact mlook_none fun x hx => by rw [K.eq_congr h1]; exact hno x hx
        simp [h1, this]
      · simp [h1]
  | some p =>
    obtain ⟨j, val⟩ := p
    rw [hl] at hfind
    obtain ⟨n, x, hj, hn, hval, hx⟩ := locate_some hl
    simp only [Nat.zero_add] at hj
    subst hj
    have hna : es[j]? = some x := by simpa using hn
    have stays : ∃ k' d, (Instr.keyThatStays x.key k).run P w = .ok k' { w with drawn := d } ∧ (k' = k ∨ k' = x.key) := by
      unfold Instr.keyThatStays
      split
      · exact ⟨k, w.drawn, by simp, .inl rfl⟩
      · refine ⟨if (Question.extern "map.whichKeyStays" 2).cut (w.tape w.drawn (.extern "map.whichKeyStays" 2)) = 0 then k else x.key, w.drawn + 1, ?_, ?_⟩
        · simp [Question.forced]
        · split <;> simp
    obtain ⟨k', d, hstay, hk'⟩ := stays
    have hIsK' : IsK k' := by
      rcases hk' with rfl | rfl
      · exact hk
      · exact hg.keys _ (List.mem_of_getElem? hn)
    have hb2 : ({ w with drawn := d } : World).heap[r]? = some (.map es clock) := hb
    refine ⟨{ w with heap := w.heap.setIfInBounds r (.map (es.modify j fun e => { e with key := k', val := v }) clock), drawn := d }, ?_, ⟨_, _, (heap_set (w := { w with drawn := d }) hb).1, ⟨?_, ?_, ?_, ?_⟩, ?_⟩, grownBy_setMap hb _ _, by simp⟩
    · simp [Instr.mapUpdate, run_underlying ht, Go.MapKept.run_getObj_map hb, hc, hfind, hna, hstay, Go.MapKept.run_setObj_map _ hb2]
    · rw [Array.toList_modify]
      exact keys_modify hIsK' hg.keys
    · rw [Array.toList_modify]
      exact pairwise_modify K hn (hk'.imp (fun h => by rw [h]; exact hx) id) hg.apart
    · intro y hy
      rw [Array.toList_modify] at hy
      have : y.born ∈ (es.toList.modify j fun e => { e with key := k', val := v }).map (·.born) := List.mem_map.2 ⟨y, hy, rfl⟩
      rw [borns_modify] at this
      obtain ⟨z, hz, hzy⟩ := List.mem_map.1 this
      rw [← hzy]
      exact hg.young z hz
    · rw [Array.toList_modify, borns_modify]
      exact hg.stamps
    · intro q hq
      rw [Array.toList_modify, mlook_modify_val K hn hk' hx hg.apart, hf q hq]

theorem mlook_erase {es : List MapEntry} {n : Nat} {e : MapEntry} (K : KeyLaw P kt IsK eq) (hn : es[n]? = some e) {k : Value} (he : eq k e.key = true)
    (hap : es.Pairwise fun x y => eq x.key y.key = false) (q : Value) : mlook eq (es.eraseIdx n) q = if eq q k then none else mlook eq es q := by
  induction es generalizing n with
  | nil => simp at hn
  | cons x es ih =>
    obtain ⟨h1, h2⟩ := List.pairwise_cons.1 hap
    cases n with
    | zero =>
      simp only [List.getElem?_cons_zero, Option.some.injEq] at hn
      subst hn
      simp only [List.eraseIdx_cons_zero, mlook_cons]
      by_cases hq : eq q k = true
      · rw [if_pos hq]
        refine mlook_none fun y hy => ?_
        rw [K.eq_congr (K.trans _ _ _ hq he)]
        exact h1 y hy
      · have h3 : eq q x.key = false := by
          cases h3 : eq q x.key with
          | false => rfl
          | true => exact absurd (K.trans _ _ _ h3 (K.symm _ _ he)) hq
        simp [hq, h3]
    | succ n =>
      simp only [List.getElem?_cons_succ] at hn
      simp only [List.eraseIdx_cons_succ, mlook_cons]
      rw [ih hn h2]
      by_cases hq : eq q x.key = true
      · have h3 : eq q k = false := by
          cases h3 : eq q k with
          | false => rfl
          | true =>
            have h4 := K.trans _ _ _ (K.symm _ _ hq) (K.trans _ _ _ h3 he)
            rw [h1 e (List.mem_of_getElem? hn)] at h4
            cases h4
        simp [hq, h3]
      · simp [hq]

/-- 'delete(m, k)'. -/
theorem MapAt.delete (K : KeyLaw P kt IsK eq) {w : World} {r : Nat} {f : Value → Option Value} (h : MapAt IsK eq w r f) {t e : TypeId} (ht : P.underlying t = some (.map kt e)) {k : Value} (hk : IsK k) (ty ty2 : TypeId) :
    ∃ w', (Builtin.delete_ #[t, ty2] ty #[.map (some r), k]).run P w = .ok (.tuple #[]) w' ∧ MapAt IsK eq w' r (fun q => if eq q k then none else f q) ∧ w.grownBy w' (some r) ∧ w'.heap.size = w.heap.size := by
  obtain ⟨es, clock, hb, hg, hf⟩ := h
  have hc := K.check es.isEmpty k w hk
  have hfind := K.find k es.toList w hk hg.keys
  cases hl : locate eq k es.toList 0 with
  | none =>
    rw [hl] at hfind
    refine ⟨{ w with heap := w.heap.setIfInBounds r (.map es clock) }, ?_, ⟨_, _, (heap_set hb).1, hg, fun q hq => ?_⟩, grownBy_setMap hb _ _, by simp⟩
    · simp [Builtin.delete_, run_underlying ht, Go.MapKept.run_getObj_map hb, hc, hfind, Go.MapKept.run_setObj_map _ hb]
    · rw [hf q hq]
      show f q = if eq q k then none else f q
      split
      · rw [← hf q hq]
        exact mlook_none fun x hx => by rw [K.eq_congr ‹_›]; exact locate_none hl x hx
      · rfl
  | some p =>
    obtain ⟨j, val⟩ := p
    rw [hl] at hfind
    obtain ⟨n, x, hj, hn, hval, hx⟩ := locate_some hl
    simp only [Nat.zero_add] at hj
    subst hj
    have hsub : (es.toList.eraseIdx j).Sublist es.toList := List.eraseIdx_sublist _ _
    have hlt : j < es.size := by simpa using (List.getElem?_eq_some_iff.1 hn).1
    have htl : (es.eraseIdxIfInBounds j).toList = es.toList.eraseIdx j := by
      unfold Array.eraseIdxIfInBounds
      rw [dif_pos hlt, Array.toList_eraseIdx]
    refine ⟨{ w with heap := w.heap.setIfInBounds r (.map (es.eraseIdxIfInBounds j) clock) }, ?_, ⟨_, _, (heap_set hb).1, ?_, fun q hq => ?_⟩, grownBy_setMap hb _ _, by simp⟩
    · simp [Builtin.delete_, run_underlying ht, Go.MapKept.run_getObj_map hb, hc, hfind, Go.MapKept.run_setObj_map _ hb]
    · rw [htl]
      exact ⟨fun y hy => hg.keys y (hsub.subset hy), hg.apart.sublist hsub, fun y hy => hg.young y (hsub.subset hy), (hsub.map _).nodup hg.stamps⟩
    · rw [htl, mlook_erase K hn hx hg.apart, hf q hq]

end
end Go.Lua
