/-
  n005_23: the statements' model (the array's numbers, the hash keys in the order of their first write), and how a table stands to it.
-/
import Derived.Test.YtfkemahinnpgdaaOps23
namespace Go.Lua
open Go.Proofs Go.RowKit
set_option linter.unusedVariables false

/-! ### keys in a list -/
def findL (ks : List Value) (q : Value) : Option Nat := ks.findIdx? fun k => lkEq q k
theorem lkEq_comm (a b : Value) : lkEq a b = lkEq b a := by
  cases h : lkEq b a with
  | true => exact lkEq_symm _ _ h
  | false =>
    cases h2 : lkEq a b with
    | false => rfl
    | true => rw [lkEq_symm _ _ h2] at h; cases h
theorem lkEq_congr {a b : Value} (h : lkEq a b = true) (c : Value) : lkEq a c = lkEq b c := by
  cases h2 : lkEq b c with
  | true => exact lkEq_trans _ _ _ h h2
  | false =>
    cases h3 : lkEq a c with
    | false => rfl
    | true => rw [lkEq_trans _ _ _ (lkEq_symm _ _ h) h3] at h2; cases h2
theorem findL_congr {a b : Value} (h : lkEq a b = true) (ks : List Value) : findL ks a = findL ks b := by
  unfold findL
  congr 1
  funext c
  exact lkEq_congr h c
theorem findL_append (ks : List Value) (k q : Value) : findL (ks ++ [k]) q = (findL ks q).or (if lkEq q k then some ks.length else none) := by
  unfold findL
  rw [List.findIdx?_append]
  congr 1
  by_cases h : lkEq q k = true <;> simp [h]
theorem findL_none {ks : List Value} {q : Value} (h : findL ks q = none) : ∀ k ∈ ks, lkEq q k = false := by
  unfold findL at h
  rw [List.findIdx?_eq_none_iff] at h
  intro k hk
  simpa using h k hk
theorem findL_some {ks : List Value} {q : Value} {j : Nat} (h : findL ks q = some j) : ∃ k, ks[j]? = some k ∧ lkEq q k = true := by
  unfold findL at h
  rw [List.findIdx?_eq_some_iff_getElem] at h
  obtain ⟨hj, h1, -⟩ := h
  exact ⟨ks[j], List.getElem?_eq_getElem hj, h1⟩
theorem findL_at {ks : List Value} {j : Nat} {k : Value} (h : ks[j]? = some k) (hk : lkEq k k = true) (ha : ks.Pairwise fun a b => lkEq a b = false) : findL ks k = some j := by
  obtain ⟨hj, rfl⟩ := List.getElem?_eq_some_iff.1 h
  unfold findL
  rw [List.findIdx?_eq_some_iff_getElem]
  refine ⟨hj, hk, fun i hi => ?_⟩
  rw [lkEq_comm, List.pairwise_iff_getElem.1 ha i j (by omega) hj hi]
  simp

/-! ### the model -/
structure HEnt where
  str : Bool
  n : Int
  s : ByteArray
  v : Int
def HEnt.key (e : HEnt) : Value := if e.str then lstr e.s else lnum (fofInt e.n)
structure Mod where
  arr : List Int
  hs : List HEnt
def keysOf (hs : List HEnt) : List Value := hs.map HEnt.key
/-- A hash key is written. -/
def putK (hs : List HEnt) (p : HEnt) : List HEnt := match findL (keysOf hs) p.key with
  | some j => hs.modify j fun e => { e with v := p.v }
  | none => if p.v = 0 then hs else hs ++ [p]
def ZOp.ent (o : ZOp) : HEnt := if o.kind % 4 = 3 then ⟨false, o.n, ⟨#[]⟩, o.v⟩ else ⟨true, 0, o.s, o.v⟩
def ZOp.inArr (o : ZOp) : Prop := o.kind % 4 = 3 ∧ InArr o.n
instance (o : ZOp) : Decidable o.inArr := inferInstanceAs (Decidable (_ ∧ _))
def Mod.step (m : Mod) (o : ZOp) : Mod := if o.inArr then { m with arr := m.arr.set (o.n.toNat - 1) o.v } else { m with hs := putK m.hs o.ent }
def modAt (m : Mod) (ops : List ZOp) : Nat → Mod
  | 0 => m
  | j + 1 => match ops[j]? with
    | some o => (modAt m ops j).step o
    | none => modAt m ops j
theorem modAt_step {m : Mod} {ops : List ZOp} {j : Nat} {o : ZOp} (h : ops[j]? = some o) : modAt m ops (j + 1) = (modAt m ops j).step o := by
  show (match ops[j]? with | some o => _ | none => _) = _
  rw [h]

/-! ### what a table's hash parts read -/
def Tab.hv (T : Tab) (q : Value) : Option Value := match q with
  | .iface _ (.string s) => mget T.sdict (.string s)
  | q => mget T.dict q
theorem hv_str (T : Tab) (s : ByteArray) : T.hv (lstr s) = mget T.sdict (.string s) := rfl
theorem hv_num (T : Tab) (x : Nat) : T.hv (lnum x) = mget T.dict (lnum x) := rfl
/-- A live number. -/
def live (v : Int) : Option Value := if v = 0 then none else some (lnum (fofInt v))
theorem live_val (v : Int) : (if isNil (val v) then none else some (val v) : Option Value) = live v := by
  unfold live
  by_cases h : v = 0
  · subst h; rw [val_zero, if_pos rfl, if_pos (show isNil lnil = true from rfl)]
  · rw [val_num h, if_neg h, if_neg (by simp [isNil])]
theorem live_getD (v : Int) : (live v).getD lnil = val v := by
  unfold live
  by_cases h : v = 0
  · subst h; rw [val_zero]; rfl
  · rw [val_num h, if_neg h]; rfl
/-- T' is T with v under the hash key k. -/
structure PutK (T T' : Tab) (k v : Value) : Prop where
  arr : T'.arr = T.arr
  keys : T'.keys.getD [] = if isNil v ∨ (mget T.ready.k2i k).isSome then T.keys.getD [] else T.keys.getD [] ++ [k]
  k2i : ∀ q, mget T'.k2i q = if isNil v ∨ (mget T.ready.k2i k).isSome then mget T.ready.k2i q else if lkEq q k then some (.int .i64 (T.keys.getD []).length) else mget T.ready.k2i q
  hash : ∀ q, IsLK q → T'.hv q = if lkEq q k then (if isNil v then none else some v) else T.hv q
  dstr : ∀ s, mget T'.dict (lstr s) = mget T.dict (lstr s)
theorem ready_keysD (T : Tab) : T.ready.keys.getD [] = T.keys.getD [] := by
  obtain ⟨mt, arr, dict, sdict, keys, k2i⟩ := T
  cases keys <;> rfl
theorem ready_sdict (T : Tab) (f : Option (Value → Option Value)) : ({ T with sdict := f } : Tab).ready = { T.ready with sdict := f } := by
  obtain ⟨mt, arr, dict, sdict, keys, k2i⟩ := T
  cases keys <;> rfl
theorem ready_dict (T : Tab) (f : Option (Value → Option Value)) : ({ T with dict := f } : Tab).ready = { T.ready with dict := f } := by
  obtain ⟨mt, arr, dict, sdict, keys, k2i⟩ := T
  cases keys <;> rfl
theorem note_keys (T : Tab) (k : Value) : (T.noteKey k).keys.getD [] = if (mget T.k2i k).isSome then T.keys.getD [] else T.keys.getD [] ++ [k] := by
  unfold Tab.noteKey
  split <;> rfl
theorem note_k2i (T : Tab) (k q : Value) : mget (T.noteKey k).k2i q = if (mget T.k2i k).isSome then mget T.k2i q else if lkEq q k then some (.int .i64 (T.keys.getD []).length) else mget T.k2i q := by
  unfold Tab.noteKey
  split <;> rfl
theorem putStr (T : Tab) (s : ByteArray) (v : Value) : PutK T (T.setStr s v) (lstr s) v := by
  have h1 := ready_sdict T (some (mget T.sdict))
  refine ⟨(setStr_frame T s v).2.1, ?_, fun q => ?_, fun q hq => ?_, fun u => by rw [(setStr_frame T s v).2.2]⟩
  · unfold Tab.setStr
    simp only [h1]
    by_cases hv : isNil v = true
    · simp only [hv, if_true, true_or]
      exact ready_keysD T
    · simp only [hv, if_false, false_or, Bool.false_eq_true]
      rw [note_keys]
      simp only [ready_keysD]
  · unfold Tab.setStr
    simp only [h1]
    by_cases hv : isNil v = true
    · simp only [hv, if_true, true_or]
    · simp only [hv, if_false, false_or, Bool.false_eq_true]
      rw [note_k2i]
      simp only [ready_keysD]
  · rcases hq with ⟨x, rfl, -⟩ | ⟨u, rfl⟩
    · rw [lkEq_num_str, hv_num, hv_num, (setStr_frame T s v).2.2]
      rfl
    · rw [lkEq_str, hv_str, hv_str, setStr_sdict]
      rfl
theorem putNum (T : Tab) (x : Nat) (v : Value) : PutK T (T.setNum x v) (lnum x) v := by
  have h1 := ready_dict T (some (mget T.dict))
  refine ⟨(setNum_frame2 T x v).2.1, ?_, fun q => ?_, fun q hq => ?_, fun u => by rw [setNum_dict]; rfl⟩
  · unfold Tab.setNum
    simp only [h1]
    by_cases hv : isNil v = true
    · simp only [hv, if_true, true_or]
      exact ready_keysD T
    · simp only [hv, if_false, false_or, Bool.false_eq_true]
      rw [note_keys]
      simp only [ready_keysD]
  · unfold Tab.setNum
    simp only [h1]
    by_cases hv : isNil v = true
    · simp only [hv, if_true, true_or]
    · simp only [hv, if_false, false_or, Bool.false_eq_true]
      rw [note_k2i]
      simp only [ready_keysD]
  · rcases hq with ⟨y, rfl, -⟩ | ⟨u, rfl⟩
    · rw [hv_num, hv_num, setNum_dict]
      rfl
    · rw [lkEq_str_num, hv_str, hv_str, (setNum_frame2 T x v).2.2]
      rfl

/-! ### how a table stands to the model -/
/-- What the model holds under the hash key q. -/
def hsv (hs : List HEnt) (q : Value) : Option Value := (findL (keysOf hs) q).bind fun j => (hs[j]?).bind fun e => live e.v
structure RelH (hs : List HEnt) (T : Tab) : Prop where
  keys : T.keys.getD [] = keysOf hs
  index : ∀ q, IsLK q → mget T.k2i q = (findL (keysOf hs) q).map fun j => .int .i64 j
  hash : ∀ q, IsLK q → T.hv q = hsv hs q
  apart : (keysOf hs).Pairwise fun a b => lkEq a b = false
  isk : ∀ k ∈ keysOf hs, IsLK k
  dstr : ∀ s, mget T.dict (lstr s) = none
structure RelA (arr : List Int) (T : Tab) : Prop where
  len : (T.arr.getD []).length ≤ arr.length
  at' : ∀ i, i < arr.length → getAt (T.arr.getD []) ((i : Int) + 1) = val (arr.getD i 0)
structure Rel (m : Mod) (T : Tab) : Prop where
  h : RelH m.hs T
  a : RelA m.arr T

theorem keysOf_modify (hs : List HEnt) (j : Nat) (v : Int) : keysOf (hs.modify j fun e => { e with v := v }) = keysOf hs := by
  unfold keysOf
  apply List.ext_getElem?
  intro i
  rw [List.getElem?_map, List.getElem?_map, List.getElem?_modify]
  by_cases h : j = i
  · simp only [h, if_true]
    cases hs[i]? <;> rfl
  · simp only [h, if_false]
    cases hs[i]? <;> rfl
theorem ready_index {hs : List HEnt} {T : Tab} (h : RelH hs T) (q : Value) (hq : IsLK q) : mget T.ready.k2i q = mget T.k2i q := by
  have hi := h.index q hq
  have hk := h.keys
  obtain ⟨mt, arr, dict, sdict, keys, k2i⟩ := T
  cases keys with
  | some ks => rfl
  | none =>
    rw [hi, ← hk]
    rfl
theorem keysOf_length (hs : List HEnt) : (keysOf hs).length = hs.length := List.length_map ..
theorem RelH.put {hs : List HEnt} {T T' : Tab} (h : RelH hs T) (p : HEnt) (hp : IsLK p.key) (k : PutK T T' p.key (val p.v)) : RelH (putK hs p) T' := by
  have hr := fun q hq => ready_index h q hq
  have hi := h.index p.key hp
  have hself := lk_self hp
  cases hf : findL (keysOf hs) p.key with
  | some j =>
    have e : putK hs p = hs.modify j fun e => { e with v := p.v } := by unfold putK; rw [hf]
    have hsome : (mget T.ready.k2i p.key).isSome = true := by rw [hr _ hp, hi, hf]; rfl
    rw [e]
    refine ⟨?_, fun q hq => ?_, fun q hq => ?_, ?_, ?_, fun u => (k.dstr u).trans (h.dstr u)⟩
    · rw [k.keys, if_pos (.inr hsome), keysOf_modify]; exact h.keys
    · rw [k.k2i, if_pos (.inr hsome), keysOf_modify, hr q hq]; exact h.index q hq
    · rw [k.hash q hq]
      unfold hsv
      rw [keysOf_modify]
      by_cases hq2 : lkEq q p.key = true
      · rw [if_pos hq2, findL_congr hq2, hf, live_val]
        obtain ⟨k', hk', -⟩ := findL_some hf
        unfold keysOf at hk'
        rw [List.getElem?_map] at hk'
        cases hj : hs[j]? with
        | none => rw [hj] at hk'; cases hk'
        | some e => simp [List.getElem?_modify, hj]
      · rw [if_neg hq2, h.hash q hq]
        unfold hsv
        cases hfq : findL (keysOf hs) q with
        | none => rfl
        | some i =>
          have hij : j ≠ i := by
            rintro rfl
            obtain ⟨a, ha, ha2⟩ := findL_some hf
            obtain ⟨b, hb, hb2⟩ := findL_some hfq
            rw [ha] at hb
            cases hb
            exact hq2 (lkEq_trans _ _ _ hb2 (lkEq_symm _ _ ha2))
          simp [List.getElem?_modify, hij]
    · rw [keysOf_modify]; exact h.apart
    · rw [keysOf_modify]; exact h.isk
  | none =>
    have hnone : (mget T.ready.k2i p.key).isSome = false := by rw [hr _ hp, hi, hf]; rfl
    by_cases hv : p.v = 0
    · have e : putK hs p = hs := by unfold putK; rw [hf]; exact if_pos hv
      have hn : isNil (val p.v) = true := by rw [isNil_val]; exact decide_eq_true hv
      rw [e]
      refine ⟨?_, fun q hq => ?_, fun q hq => ?_, h.apart, h.isk, fun u => (k.dstr u).trans (h.dstr u)⟩
      · rw [k.keys, if_pos (.inl hn)]; exact h.keys
      · rw [k.k2i, if_pos (.inl hn), hr q hq]; exact h.index q hq
      · rw [k.hash q hq]
        by_cases hq2 : lkEq q p.key = true
        · rw [if_pos hq2, if_pos hn]
          unfold hsv
          rw [findL_congr hq2, hf]
          rfl
        · rw [if_neg hq2, h.hash q hq]
    · have e : putK hs p = hs ++ [p] := by unfold putK; rw [hf]; exact if_neg hv
      have hn : isNil (val p.v) = false := by rw [isNil_val]; exact decide_eq_false hv
      have hno : ¬ (isNil (val p.v) = true ∨ (mget T.ready.k2i p.key).isSome = true) := by simp [hn, hnone]
      have ek : keysOf (hs ++ [p]) = keysOf hs ++ [p.key] := by simp [keysOf]
      rw [e]
      refine ⟨?_, fun q hq => ?_, fun q hq => ?_, ?_, ?_, fun u => (k.dstr u).trans (h.dstr u)⟩
      · rw [k.keys, if_neg hno, ek, h.keys]
      · rw [k.k2i, if_neg hno, ek, hr q hq, h.index q hq, findL_append, h.keys]
        by_cases hq2 : lkEq q p.key = true
        · rw [if_pos hq2, if_pos hq2, findL_congr hq2, hf]; rfl
        · rw [if_neg hq2, if_neg hq2, Option.or_none]
      · rw [k.hash q hq, h.hash q hq, live_val]
        unfold hsv
        rw [ek, findL_append]
        by_cases hq2 : lkEq q p.key = true
        · rw [if_pos hq2, if_pos hq2, findL_congr hq2, hf]
          simp [keysOf_length]
        · rw [if_neg hq2, if_neg hq2, Option.or_none]
          cases hfq : findL (keysOf hs) q with
          | none => rfl
          | some i =>
            obtain ⟨b, hb, -⟩ := findL_some hfq
            have hlt : i < hs.length := by rw [← keysOf_length]; exact (List.getElem?_eq_some_iff.1 hb).1
            simp [List.getElem?_append_left hlt]
      · rw [ek]
        refine List.pairwise_append.2 ⟨h.apart, List.pairwise_singleton _ _, fun a ha b hb => ?_⟩
        rw [List.mem_singleton.1 hb, lkEq_comm]
        exact findL_none hf a ha
      · rw [ek]
        intro a ha
        rcases List.mem_append.1 ha with ha | ha
        · exact h.isk a ha
        · rw [List.mem_singleton.1 ha]; exact hp

/-- The array part alone has turned, or the hash parts. -/
theorem RelH.frame {hs : List HEnt} {T : Tab} (h : RelH hs T) (k : Int) (v : Value) : RelH hs (T.setArr k v) := ⟨h.keys, h.index, h.hash, h.apart, h.isk, h.dstr⟩
theorem RelA.frame {arr : List Int} {T T' : Tab} (h : RelA arr T) (e : T'.arr = T.arr) : RelA arr T' := ⟨by rw [e]; exact h.len, by rw [e]; exact h.at'⟩
theorem RelA.set {arr : List Int} {T : Tab} (h : RelA arr T) (k : Int) (h1 : 1 ≤ k) (h2 : k ≤ arr.length) (v : Int) : RelA (arr.set (k.toNat - 1) v) (T.setArr k (val v)) := by
  refine ⟨?_, fun i hi => ?_⟩
  · show (setAt _ _ _).length ≤ _
    rw [setAt_length, List.length_set]
    have := h.len
    omega
  · rw [List.length_set] at hi
    show getAt (setAt _ _ _) _ = _
    rw [getAt_setAt, List.getD_eq_getElem?_getD, List.getElem?_set]
    by_cases he : k.toNat - 1 = i
    · subst he
      rw [if_pos rfl, if_pos rfl, if_pos hi]
      rfl
    · rw [if_neg (by omega), if_neg he, h.at' i hi, List.getD_eq_getElem?_getD]
theorem Rel.new (n : Nat) : Rel ⟨List.replicate n 0, []⟩ (newTab 0 0) := by
  refine ⟨⟨rfl, fun q _ => rfl, fun q hq => ?_, List.Pairwise.nil, (fun k hk => nomatch hk), fun _ => rfl⟩, ⟨Nat.zero_le _, fun i hi => ?_⟩⟩
  · rcases hq with ⟨x, rfl, -⟩ | ⟨s, rfl⟩ <;> rfl
  · rw [List.length_replicate] at hi
    rw [List.getD_eq_getElem?_getD, List.getElem?_replicate, if_pos hi]
    show getAt [] _ = val 0
    rw [val_zero]
    simp [getAt]
end Go.Lua
