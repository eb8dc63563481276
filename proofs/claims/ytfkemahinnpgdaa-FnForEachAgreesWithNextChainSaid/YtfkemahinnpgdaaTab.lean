/-
  A lua table in memory: six cells, two slices, three maps, all in blocks of its own. What one store, one append, one map operation does to it.
-/
import Derived.Test.YtfkemahinnpgdaaLv
import Derived.Test.YtfkemahinnpgdaaMapo
import Derived.Below
namespace Go.Lua
open Go.Proofs Go.RowKit
set_option linter.unusedVariables false

/-! ### keys -/
def IsLK (v : Value) : Prop := (∃ x, v = lnum x ∧ feq x x = true) ∨ ∃ s, v = lstr s
def lkEq : Value → Value → Bool
  | .iface t (.float .f64 a), .iface u (.float .f64 b) => t == u && feq a b
  | .iface t (.string a), .iface u (.string b) => t == u && a == b
  | _, _ => false
def IsSK (v : Value) : Prop := ∃ s, v = .string s
def skEq : Value → Value → Bool
  | .string a, .string b => a == b
  | _, _ => false

theorem bytes_beq (a b : ByteArray) : (a == b) = true ↔ a = b := Go.MapKept.bytes_beq a b
theorem lkEq_num (x y : Nat) : lkEq (lnum x) (lnum y) = feq x y := by simp [lkEq]
theorem lkEq_str (s u : ByteArray) : lkEq (lstr s) (lstr u) = (s == u) := by simp [lkEq]
theorem lkEq_num_str (x : Nat) (s : ByteArray) : lkEq (lnum x) (lstr s) = false := rfl
theorem lkEq_str_num (x : Nat) (s : ByteArray) : lkEq (lstr s) (lnum x) = false := rfl

theorem lk_num {x : Nat} (h : Hid (feq x x = true)) : IsLK (lnum x) := .inl ⟨x, rfl, h.out⟩
theorem lk_str (s : ByteArray) : IsLK (lstr s) := .inr ⟨s, rfl⟩
theorem lk_self {k : Value} (h : IsLK k) : lkEq k k = true := by
  rcases h with ⟨x, rfl, h⟩ | ⟨s, rfl⟩
  · rw [lkEq_num]; exact h
  · rw [lkEq_str]; exact (bytes_beq _ _).2 rfl
theorem sk_self {k : Value} (h : IsSK k) : skEq k k = true := by
  obtain ⟨s, rfl⟩ := h
  exact (bytes_beq _ _).2 rfl
theorem lkEq_cases {a b : Value} (h : lkEq a b = true) :
    (∃ t x y, a = .iface t (.float .f64 x) ∧ b = .iface t (.float .f64 y) ∧ feq x y = true) ∨ ∃ t s, a = .iface t (.string s) ∧ b = .iface t (.string s) := by
  unfold lkEq at h
  split at h
  · simp only [Bool.and_eq_true, beq_iff_eq] at h
    obtain ⟨rfl, h⟩ := h
    exact .inl ⟨_, _, _, rfl, rfl, h⟩
  · rw [Bool.and_eq_true] at h
    obtain ⟨h1, h2⟩ := h
    obtain rfl := eq_of_beq h1
    obtain rfl := (bytes_beq _ _).1 h2
    exact .inr ⟨_, _, rfl, rfl⟩
  · cases h
theorem lkEq_symm (a b : Value) (h : lkEq a b = true) : lkEq b a = true := by
  rcases lkEq_cases h with ⟨t, x, y, rfl, rfl, q⟩ | ⟨t, s, rfl, rfl⟩
  · simp only [lkEq, beq_self_eq_true, Bool.true_and]
    rw [feq_symm]; exact q
  · exact h
theorem lkEq_trans (a b c : Value) (h : lkEq a b = true) (k : lkEq b c = true) : lkEq a c = true := by
  rcases lkEq_cases h with ⟨t, x, y, rfl, rfl, q⟩ | ⟨t, s, rfl, rfl⟩
  · rcases lkEq_cases k with ⟨t', x', z, e, rfl, q2⟩ | ⟨t', s', e, rfl⟩
    · cases e
      simp only [lkEq, beq_self_eq_true, Bool.true_and]
      exact feq_trans q q2
    · cases e
  · exact k
theorem skEq_cases {a b : Value} (h : skEq a b = true) : ∃ s, a = .string s ∧ b = .string s := by
  unfold skEq at h
  split at h
  · obtain rfl := (bytes_beq _ _).1 h
    exact ⟨_, rfl, rfl⟩
  · cases h

theorem run_equal_lk {k j : Value} (hk : IsLK k) (hj : IsLK j) (w : World) : (Op.equal 40 k j).run Try.prog w = .ok (lkEq k j) w := by
  rcases hk with ⟨x, rfl, -⟩ | ⟨s, rfl⟩ <;> rcases hj with ⟨y, rfl, -⟩ | ⟨u, rfl⟩
  · rw [lv_num, lkEq_num]
  · exact lv_diff (by decide) _ _ w
  · exact lv_diff (by decide) _ _ w
  · rw [lv_str, lkEq_str]

theorem comparable_num : (Try.prog.info? 66).map (·.comparable) = some true := by kernel_rfl
theorem comparable_str : (Try.prog.info? 53).map (·.comparable) = some true := by kernel_rfl

theorem run_checkKey_lk (e : Bool) (k : Value) (w : World) (hk : IsLK k) : (Instr.checkKey e 10000 40 k).run Try.prog w = .ok () w := by
  have aux : ∀ (d : Nat) (t : TypeId) (v : Value), (Try.prog.info? t).map (·.comparable) = some true → (∀ n, (Instr.checkKey e (n + 1) t v).run Try.prog w = .ok () w) → (Instr.checkKey e (d + 2) 40 (.iface t v)).run Try.prog w = .ok () w := by
    intro d t v hc h
    obtain ⟨i, hx, hc⟩ : ∃ i, Try.prog.info? t = some i ∧ i.comparable = true := by simpa using hc
    unfold Instr.checkKey
    simp [run_underlying Try.underlying40, typeInfo, hx, hc, h d]
  rcases hk with ⟨x, rfl, -⟩ | ⟨s, rfl⟩
  · refine aux 9998 _ _ comparable_num fun n => ?_
    unfold Instr.checkKey
    simp [run_underlying Try.underlying66]
  · refine aux 9998 _ _ comparable_str fun n => ?_
    unfold Instr.checkKey
    simp [run_underlying Try.underlying53]

theorem run_findAsking_lk {k : Value} (hk : IsLK k) (w : World) : ∀ (es : List MapEntry) (i : Nat), (∀ x ∈ es, IsLK x.key) → (Instr.findAsking 40 k es i).run Try.prog w = .ok (locate lkEq k es i) w
  | [], i, _ => rfl
  | e :: es, i, h => by
    unfold Instr.findAsking locate
    have he := run_equal_lk hk (h e (.head _)) w
    have ih := run_findAsking_lk hk w es (i + 1) fun x hx => h x (.tail _ hx)
    simp only [Sem.run_bind, he, Result.andThen_ok, Sem.run_ite, Sem.run_pure, ih]
    split <;> rfl

theorem run_findKey_lk {k : Value} (hk : IsLK k) (w : World) (es : List MapEntry) (h : ∀ x ∈ es, IsLK x.key) : (Instr.findKey 40 k es).run Try.prog w = .ok (locate lkEq k es 0) w := by
  unfold Instr.findKey
  simp only [Sem.run_bind, run_underlying Try.underlying40, Result.andThen_ok]
  cases es with
  | nil => rfl
  | cons e es =>
    simp only [Instr.findNow, Instr.sameNow]
    exact run_findAsking_lk hk w (e :: es) 0 h

theorem lk_law : KeyLaw Try.prog 40 IsLK lkEq :=
  ⟨run_checkKey_lk, fun k es w hk h => run_findKey_lk hk w es h, lkEq_symm, lkEq_trans⟩

theorem findNow_sk (s : ByteArray) : ∀ (es : List MapEntry) (i : Nat), (∀ x ∈ es, IsSK x.key) → Instr.findNow .string (.string s) es i = some (locate skEq (.string s) es i)
  | [], i, _ => rfl
  | e :: es, i, h => by
    obtain ⟨u, hu⟩ := h e (.head _)
    have ih := findNow_sk s es (i + 1) fun x hx => h x (.tail _ hx)
    unfold Instr.findNow locate
    rw [hu]
    simp only [Instr.sameNow, skEq]
    by_cases hs : (s == u) = true
    · simp [hs]
    · simp only [Bool.not_eq_true] at hs
      simp [hs, ih]

theorem sk_law : KeyLaw Try.prog 9 IsSK skEq := by
  refine ⟨?_, ?_, ?_, ?_⟩
  · rintro e k w ⟨s, rfl⟩
    unfold Instr.checkKey
    simp [run_underlying Try.underlying9]
  · rintro k es w ⟨s, rfl⟩ h
    unfold Instr.findKey
    simp [run_underlying Try.underlying9, findNow_sk s es 0 h]
  · intro a b h
    obtain ⟨s, rfl, rfl⟩ := skEq_cases h
    exact h
  · intro a b c h k
    obtain ⟨s, rfl, rfl⟩ := skEq_cases h
    exact k

/-! ### values in memory -/
/-- v is a nil slice of LValues (none), or it owns a row that begins with xs. -/
def SlAt (w : World) (v : Value) : Option (List Value) → Prop
  | none => v = .slice none 0 0
  | some xs => ∃ g cap cur, v = .slice (some ⟨g, 0, none⟩) xs.length cap ∧ w.heap[g]? = some (.cells cur 40 (0, 0)) ∧ xs.length ≤ cap ∧ cap ≤ maxLen ∧ cur.size = cap ∧ cur.toList.take xs.length = xs

/-- v is a nil map (none), or one that holds f. -/
def MpAt (IsK : Value → Prop) (eq : Value → Value → Bool) (w : World) (v : Value) : Option (Value → Option Value) → Prop
  | none => v = .map none
  | some f => ∃ r, v = .map (some r) ∧ MapAt IsK eq w r f

def blk : Value → Option Nat
  | .slice (some a) _ _ => some a.block
  | .map (some r) => some r
  | _ => none

theorem SlAt.of_heap {w w' : World} {v : Value} {o : Option (List Value)} (h : SlAt w v o) (hh : ∀ b, blk v = some b → w'.heap[b]? = w.heap[b]?) : SlAt w' v o := by
  cases o with
  | none => exact h
  | some xs =>
    obtain ⟨g, cap, cur, rfl, hb, r⟩ := h
    exact ⟨g, cap, cur, rfl, (hh g rfl).trans hb, r⟩
theorem MpAt.of_heap {IsK : Value → Prop} {eq : Value → Value → Bool} {w w' : World} {v : Value} {o : Option (Value → Option Value)} (h : MpAt IsK eq w v o) (hh : ∀ b, blk v = some b → w'.heap[b]? = w.heap[b]?) : MpAt IsK eq w' v o := by
  cases o with
  | none => exact h
  | some f =>
    obtain ⟨r, rfl, hr⟩ := h
    exact ⟨r, rfl, hr.of_heap (hh r rfl)⟩
theorem SlAt.lt {w : World} {v : Value} {o : Option (List Value)} (h : SlAt w v o) : ∀ b, blk v = some b → b < w.heap.size := by
  intro b hb
  cases o with
  | none => rw [show v = _ from h] at hb; cases hb
  | some xs =>
    obtain ⟨g, cap, cur, rfl, hg, r⟩ := h
    cases hb
    exact (Array.getElem?_eq_some_iff.1 hg).1
theorem MpAt.lt {IsK : Value → Prop} {eq : Value → Value → Bool} {w : World} {v : Value} {o : Option (Value → Option Value)} (h : MpAt IsK eq w v o) : ∀ b, blk v = some b → b < w.heap.size := by
  intro b hb
  cases o with
  | none => rw [show v = _ from h] at hb; cases hb
  | some f =>
    obtain ⟨r, rfl, hr⟩ := h
    cases hb
    exact hr.lt
theorem SlAt.is_cells {w : World} {v : Value} {o : Option (List Value)} (h : SlAt w v o) {b : Nat} (hb : blk v = some b) : ∃ c e f, w.heap[b]? = some (.cells c e f) := by
  cases o with
  | none => rw [show v = _ from h] at hb; cases hb
  | some xs =>
    obtain ⟨g, cap, cur, rfl, hg, r⟩ := h
    cases hb
    exact ⟨_, _, _, hg⟩
theorem MpAt.is_map {IsK : Value → Prop} {eq : Value → Value → Bool} {w : World} {v : Value} {o : Option (Value → Option Value)} (h : MpAt IsK eq w v o) {b : Nat} (hb : blk v = some b) : ∃ es c, w.heap[b]? = some (.map es c) := by
  cases o with
  | none => rw [show v = _ from h] at hb; cases hb
  | some f =>
    obtain ⟨r, rfl, es, c, hr, _⟩ := h
    cases hb
    exact ⟨_, _, hr⟩

/-- The cell of place i. -/
theorem SlAt.cell {w : World} {v : Value} {xs : List Value} (h : SlAt w v (some xs)) : ∃ g cap, v = .slice (some ⟨g, 0, none⟩) xs.length cap ∧ xs.length ≤ cap ∧ cap ≤ maxLen ∧ (∀ i u, xs[i]? = some u → w.cell? ⟨g, i, none⟩ = some u) ∧ ∀ i, w.frozen? ⟨g, i, none⟩ = false := by
  obtain ⟨g, cap, cur, rfl, hg, h1, h2, h3, h4⟩ := h
  refine ⟨g, cap, rfl, h1, h2, fun i u hu => ?_, fun i => by simp only [World.frozen?, hg]; simp⟩
  rw [← h4, List.getElem?_take] at hu
  split at hu
  · simpa [World.cell?, hg] using hu
  · cases hu

/-- What a table holds. -/
structure Tab where
  mt : Value
  arr : Option (List Value)
  dict : Option (Value → Option Value)
  sdict : Option (Value → Option Value)
  keys : Option (List Value)
  k2i : Option (Value → Option Value)

/-- Two values lie in blocks apart. -/
def Apart (x y : Value) : Prop := ∀ b, blk x = some b → blk y ≠ some b

/-- The table at block t holds T; its six cells are these; its blocks lie in F. -/
structure TabV (w : World) (t : Nat) (T : Tab) (F : Nat → Prop) (va vd vs vk vi : Value) : Prop where
  head : w.heap[t]? = some (.cells #[T.mt, va, vd, vs, vk, vi] 72 (0, 0))
  arr : SlAt w va T.arr
  dict : MpAt IsLK lkEq w vd T.dict
  sdict : MpAt IsSK skEq w vs T.sdict
  keys : SlAt w vk T.keys
  k2i : MpAt IsLK lkEq w vi T.k2i
  ft : F t
  fa : ∀ b, blk va = some b → F b
  fd : ∀ b, blk vd = some b → F b
  fs : ∀ b, blk vs = some b → F b
  fk : ∀ b, blk vk = some b → F b
  fi : ∀ b, blk vi = some b → F b
  ta : blk va ≠ some t
  tk : blk vk ≠ some t
  ak : Apart va vk
  ds : Apart vd vs
  di : Apart vd vi
  si : Apart vs vi

def TabAt (w : World) (t : Nat) (T : Tab) (F : Nat → Prop) : Prop := ∃ va vd vs vk vi, TabV w t T F va vd vs vk vi

theorem TabV.at {w : World} {t : Nat} {T : Tab} {F : Nat → Prop} {va vd vs vk vi : Value} (h : TabV w t T F va vd vs vk vi) : TabAt w t T F := ⟨_, _, _, _, _, h⟩

/-- What has turned from w to w': blocks of F alone, and new ones. -/
structure Upd (F : Nat → Prop) (w w' : World) : Prop where
  os : w'.os = w.os
  tape : w'.tape = w.tape
  output : w'.output = w.output
  size : w.heap.size ≤ w'.heap.size
  block : ∀ k, k < w.heap.size → ¬ F k → w'.heap[k]? = w.heap[k]?

/-- F, and whatever is new behind w. -/
def Fw (F : Nat → Prop) (w : World) : Nat → Prop := fun k => F k ∨ w.heap.size ≤ k

theorem Fw.of {F : Nat → Prop} {w : World} {k : Nat} (h : F k) : Fw F w k := .inl h
theorem Upd.refl (F : Nat → Prop) (w : World) : Upd F w w := ⟨rfl, rfl, rfl, Nat.le_refl _, fun _ _ _ => rfl⟩
theorem Upd.trans {F : Nat → Prop} {a b c : World} (h : Upd F a b) (k : Upd (Fw F a) b c) : Upd F a c :=
  ⟨k.os.trans h.os, k.tape.trans h.tape, k.output.trans h.output, Nat.le_trans h.size k.size, fun i hi hf =>
    (k.block i (Nat.lt_of_lt_of_le hi h.size) (fun hx => hx.elim hf (fun hx => by omega))).trans (h.block i hi hf)⟩
theorem Upd.mono {F G : Nat → Prop} {a b : World} (h : Upd F a b) (hfg : ∀ k, k < a.heap.size → F k → G k) : Upd G a b :=
  ⟨h.os, h.tape, h.output, h.size, fun i hi hg => h.block i hi fun hf => hg (hfg i hi hf)⟩
theorem Upd.drewN {F : Nat → Prop} {a b : World} (h : Upd F a b) (n : Nat) : Upd F a (b.drewN n) := ⟨h.os, h.tape, h.output, h.size, h.block⟩
theorem Upd.drew {F : Nat → Prop} {a b : World} (h : Upd F a b) : Upd F a b.drew := ⟨h.os, h.tape, h.output, h.size, h.block⟩
theorem Upd.alloc {F : Nat → Prop} {a b : World} (h : Upd F a b) (o : Obj) : Upd F a (b.alloc o) :=
  ⟨h.os, h.tape, h.output, by simp; exact Nat.le_succ_of_le h.size, fun i hi hf => (Below.heap_alloc _ _ _ (Nat.lt_of_lt_of_le hi h.size)).trans (h.block i hi hf)⟩
theorem Upd.setCell {F : Nat → Prop} {a b : World} (h : Upd F a b) {p : Addr} (hp : F p.block ∨ a.heap.size ≤ p.block) (u : Value) : Upd F a (b.setCell p u) :=
  ⟨h.os, h.tape, h.output, by simp; exact h.size, fun i hi hf => by
    rw [Below.heap_setCell _ _ _ _ (fun e => by subst e; exact hp.elim hf (fun hp => by omega))]
    exact h.block i hi hf⟩
theorem Upd.of_grownBy {F : Nat → Prop} {a b : World} {row : Option Nat} (h : a.grownBy b row) (hr : ∀ k, row = some k → F k) : Upd F a b :=
  ⟨h.os, h.tape, h.output, h.size, fun i hi hf => h.block i hi fun e => hf (hr i e.symm)⟩
theorem Upd.below {F : Nat → Prop} {a b : World} (h : Upd F a b) {B : Nat} (hB : ∀ k, F k → B ≤ k) (hs : B ≤ a.heap.size) : Below B a b :=
  ⟨h.os, h.tape, h.output, h.size, fun k hk => h.block k (by omega) fun hf => by have := hB k hf; omega⟩
theorem Upd.old {F : Nat → Prop} {a b : World} (h : Upd F a b) {k : Nat} (hk : k < a.heap.size) (hf : ¬ F k) : b.heap[k]? = a.heap[k]? := h.block k hk hf

section
variable {w w' : World} {t : Nat} {T : Tab} {F G : Nat → Prop} {va vd vs vk vi : Value}

theorem TabV.lt (h : TabV w t T F va vd vs vk vi) : t < w.heap.size := (Array.getElem?_eq_some_iff.1 h.head).1

theorem TabV.mono (h : TabV w t T F va vd vs vk vi) (hfg : ∀ k, k < w.heap.size → F k → G k) : TabV w t T G va vd vs vk vi :=
  { h with
    ft := hfg _ h.lt h.ft
    fa := fun b hb => hfg _ (h.arr.lt b hb) (h.fa b hb)
    fd := fun b hb => hfg _ (h.dict.lt b hb) (h.fd b hb)
    fs := fun b hb => hfg _ (h.sdict.lt b hb) (h.fs b hb)
    fk := fun b hb => hfg _ (h.keys.lt b hb) (h.fk b hb)
    fi := fun b hb => hfg _ (h.k2i.lt b hb) (h.fi b hb) }

/-- The six cells, for the walk. -/
theorem TabV.cells (h : TabV w t T F va vd vs vk vi) : w.cell? ⟨t, 0, none⟩ = some T.mt ∧ w.cell? ⟨t, 1, none⟩ = some va ∧ w.cell? ⟨t, 2, none⟩ = some vd ∧ w.cell? ⟨t, 3, none⟩ = some vs ∧ w.cell? ⟨t, 4, none⟩ = some vk ∧ w.cell? ⟨t, 5, none⟩ = some vi := by
  simp [World.cell?, h.head]
theorem TabV.thaw (h : TabV w t T F va vd vs vk vi) (i : Nat) : w.frozen? ⟨t, i, none⟩ = false := by simp [World.frozen?, h.head]

/-- The table's blocks have not turned: it is what it was. -/
theorem TabV.kept (h : TabV w t T F va vd vs vk vi) (hh : ∀ k, k < w.heap.size → F k → w'.heap[k]? = w.heap[k]?) : TabV w' t T F va vd vs vk vi :=
  { h with
    head := (hh _ h.lt h.ft).trans h.head
    arr := h.arr.of_heap fun b hb => hh b (h.arr.lt b hb) (h.fa b hb)
    dict := h.dict.of_heap fun b hb => hh b (h.dict.lt b hb) (h.fd b hb)
    sdict := h.sdict.of_heap fun b hb => hh b (h.sdict.lt b hb) (h.fs b hb)
    keys := h.keys.of_heap fun b hb => hh b (h.keys.lt b hb) (h.fk b hb)
    k2i := h.k2i.of_heap fun b hb => hh b (h.k2i.lt b hb) (h.fi b hb) }
theorem TabV.drewN (h : TabV w t T F va vd vs vk vi) (n : Nat) : TabV (w.drewN n) t T F va vd vs vk vi := h.kept fun _ _ _ => rfl
theorem TabV.drew (h : TabV w t T F va vd vs vk vi) : TabV w.drew t T F va vd vs vk vi := h.kept fun _ _ _ => rfl
theorem TabV.alloc (h : TabV w t T F va vd vs vk vi) (o : Obj) : TabV (w.alloc o) t T F va vd vs vk vi := h.kept fun k hk _ => Below.heap_alloc w o k hk

/-- Block t holds these cells behind a store into it. -/
theorem head_setCell {w : World} {t : Nat} {cs : Array Value} {e : TypeId} (h : w.heap[t]? = some (.cells cs e (0, 0))) (i : Nat) (u : Value) : (w.setCell ⟨t, i, none⟩ u).heap[t]? = some (.cells (cs.setIfInBounds i u) e (0, 0)) := by
  simp [World.setCell, Array.getElem?_modify, h]

/-- A new array's header is stored: the table holds that array. -/
theorem TabV.storeArr (h : TabV w t T F va vd vs vk vi) {v' : Value} {o : Option (List Value)} (ha : SlAt w v' o) (hf : ∀ b, blk v' = some b → F b) (ht : blk v' ≠ some t) (hk : Apart v' vk) :
    TabV (w.setCell ⟨t, 1, none⟩ v') t { T with arr := o } F v' vd vs vk vi := by
  have hh : ∀ b, b ≠ t → (w.setCell ⟨t, 1, none⟩ v').heap[b]? = w.heap[b]? := fun b hb => Below.heap_setCell w ⟨t, 1, none⟩ v' b hb
  have hm : ∀ {IsK eq v o}, MpAt IsK eq w v o → MpAt IsK eq (w.setCell ⟨t, 1, none⟩ v') v o := fun {IsK eq v o} hm => hm.of_heap fun b hb => hh b fun e => by
    obtain ⟨es, c, hx⟩ := hm.is_map hb
    rw [e, h.head] at hx
    cases hx
  exact { h with
    head := by rw [head_setCell h.head]; simp
    arr := ha.of_heap fun b hb => hh b fun e => ht (by rw [hb, e])
    dict := hm h.dict
    sdict := hm h.sdict
    keys := h.keys.of_heap fun b hb => hh b fun e => h.tk (by rw [hb, e])
    k2i := hm h.k2i
    fa := hf
    ta := ht
    ak := hk }
theorem TabV.storeKeys (h : TabV w t T F va vd vs vk vi) {v' : Value} {o : Option (List Value)} (ha : SlAt w v' o) (hf : ∀ b, blk v' = some b → F b) (ht : blk v' ≠ some t) (hk : Apart va v') :
    TabV (w.setCell ⟨t, 4, none⟩ v') t { T with keys := o } F va vd vs v' vi := by
  have hh : ∀ b, b ≠ t → (w.setCell ⟨t, 4, none⟩ v').heap[b]? = w.heap[b]? := fun b hb => Below.heap_setCell w ⟨t, 4, none⟩ v' b hb
  have hm : ∀ {IsK eq v o}, MpAt IsK eq w v o → MpAt IsK eq (w.setCell ⟨t, 4, none⟩ v') v o := fun {IsK eq v o} hm => hm.of_heap fun b hb => hh b fun e => by
    obtain ⟨es, c, hx⟩ := hm.is_map hb
    rw [e, h.head] at hx
    cases hx
  exact { h with
    head := by rw [head_setCell h.head]; simp
    arr := h.arr.of_heap fun b hb => hh b fun e => h.ta (by rw [hb, e])
    dict := hm h.dict
    sdict := hm h.sdict
    keys := ha.of_heap fun b hb => hh b fun e => ht (by rw [hb, e])
    k2i := hm h.k2i
    fk := hf
    tk := ht
    ak := hk }
theorem TabV.storeDict (h : TabV w t T F va vd vs vk vi) {v' : Value} {o : Option (Value → Option Value)} (ha : MpAt IsLK lkEq w v' o) (hf : ∀ b, blk v' = some b → F b) (h1 : Apart v' vs) (h2 : Apart v' vi) :
    TabV (w.setCell ⟨t, 2, none⟩ v') t { T with dict := o } F va v' vs vk vi := by
  have hh : ∀ b, b ≠ t → (w.setCell ⟨t, 2, none⟩ v').heap[b]? = w.heap[b]? := fun b hb => Below.heap_setCell w ⟨t, 2, none⟩ v' b hb
  have hm : ∀ {IsK eq v o}, MpAt IsK eq w v o → MpAt IsK eq (w.setCell ⟨t, 2, none⟩ v') v o := fun {IsK eq v o} hm => hm.of_heap fun b hb => hh b fun e => by
    obtain ⟨es, c, hx⟩ := hm.is_map hb
    rw [e, h.head] at hx
    cases hx
  exact { h with
    head := by rw [head_setCell h.head]; simp
    arr := h.arr.of_heap fun b hb => hh b fun e => h.ta (by rw [hb, e])
    dict := hm ha
    sdict := hm h.sdict
    keys := h.keys.of_heap fun b hb => hh b fun e => h.tk (by rw [hb, e])
    k2i := hm h.k2i
    fd := hf
    ds := h1
    di := h2 }
theorem TabV.storeSdict (h : TabV w t T F va vd vs vk vi) {v' : Value} {o : Option (Value → Option Value)} (ha : MpAt IsSK skEq w v' o) (hf : ∀ b, blk v' = some b → F b) (h1 : Apart vd v') (h2 : Apart v' vi) :
    TabV (w.setCell ⟨t, 3, none⟩ v') t { T with sdict := o } F va vd v' vk vi := by
  have hh : ∀ b, b ≠ t → (w.setCell ⟨t, 3, none⟩ v').heap[b]? = w.heap[b]? := fun b hb => Below.heap_setCell w ⟨t, 3, none⟩ v' b hb
  have hm : ∀ {IsK eq v o}, MpAt IsK eq w v o → MpAt IsK eq (w.setCell ⟨t, 3, none⟩ v') v o := fun {IsK eq v o} hm => hm.of_heap fun b hb => hh b fun e => by
    obtain ⟨es, c, hx⟩ := hm.is_map hb
    rw [e, h.head] at hx
    cases hx
  exact { h with
    head := by rw [head_setCell h.head]; simp
    arr := h.arr.of_heap fun b hb => hh b fun e => h.ta (by rw [hb, e])
    dict := hm h.dict
    sdict := hm ha
    keys := h.keys.of_heap fun b hb => hh b fun e => h.tk (by rw [hb, e])
    k2i := hm h.k2i
    fs := hf
    ds := h1
    si := h2 }
theorem TabV.storeK2i (h : TabV w t T F va vd vs vk vi) {v' : Value} {o : Option (Value → Option Value)} (ha : MpAt IsLK lkEq w v' o) (hf : ∀ b, blk v' = some b → F b) (h1 : Apart vd v') (h2 : Apart vs v') :
    TabV (w.setCell ⟨t, 5, none⟩ v') t { T with k2i := o } F va vd vs vk v' := by
  have hh : ∀ b, b ≠ t → (w.setCell ⟨t, 5, none⟩ v').heap[b]? = w.heap[b]? := fun b hb => Below.heap_setCell w ⟨t, 5, none⟩ v' b hb
  have hm : ∀ {IsK eq v o}, MpAt IsK eq w v o → MpAt IsK eq (w.setCell ⟨t, 5, none⟩ v') v o := fun {IsK eq v o} hm => hm.of_heap fun b hb => hh b fun e => by
    obtain ⟨es, c, hx⟩ := hm.is_map hb
    rw [e, h.head] at hx
    cases hx
  exact { h with
    head := by rw [head_setCell h.head]; simp
    arr := h.arr.of_heap fun b hb => hh b fun e => h.ta (by rw [hb, e])
    dict := hm h.dict
    sdict := hm h.sdict
    keys := h.keys.of_heap fun b hb => hh b fun e => h.tk (by rw [hb, e])
    k2i := hm ha
    fi := hf
    di := h1
    si := h2 }
theorem TabV.storeMt (h : TabV w t T F va vd vs vk vi) (v' : Value) : TabV (w.setCell ⟨t, 0, none⟩ v') t { T with mt := v' } F va vd vs vk vi := by
  have hh : ∀ b, b ≠ t → (w.setCell ⟨t, 0, none⟩ v').heap[b]? = w.heap[b]? := fun b hb => Below.heap_setCell w ⟨t, 0, none⟩ v' b hb
  have hm : ∀ {IsK eq v o}, MpAt IsK eq w v o → MpAt IsK eq (w.setCell ⟨t, 0, none⟩ v') v o := fun {IsK eq v o} hm => hm.of_heap fun b hb => hh b fun e => by
    obtain ⟨es, c, hx⟩ := hm.is_map hb
    rw [e, h.head] at hx
    cases hx
  exact { h with
    head := by rw [head_setCell h.head]; simp
    arr := h.arr.of_heap fun b hb => hh b fun e => h.ta (by rw [hb, e])
    dict := hm h.dict
    sdict := hm h.sdict
    keys := h.keys.of_heap fun b hb => hh b fun e => h.tk (by rw [hb, e])
    k2i := hm h.k2i }
end
end Go.Lua
