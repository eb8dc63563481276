/-
  What a table reads behind a store: plain facts, with no program in sight.
-/
import Derived.Test.YtfkemahinnpgdaaNew
import Derived.Test.YtfkemahinnpgdaaRead
namespace Go.Lua
open Go.Proofs Go.RowKit
set_option linter.unusedVariables false

/-- What a string key reads; what a number key reads in the hash; what slot k reads. -/
def Tab.sv (T : Tab) (s : ByteArray) : Value := (mget T.sdict (.string s)).getD lnil
def Tab.nv (T : Tab) (x : Nat) : Value := (mget T.dict (lnum x)).getD lnil
def Tab.av (T : Tab) (k : Int) : Value := getAt (T.arr.getD []) k

theorem ready_frame (T : Tab) : T.ready.mt = T.mt ∧ T.ready.arr = T.arr ∧ T.ready.dict = T.dict ∧ T.ready.sdict = T.sdict := by
  unfold Tab.ready
  split <;> exact ⟨rfl, rfl, rfl, rfl⟩
theorem noteKey_frame (T : Tab) (k : Value) : (T.noteKey k).mt = T.mt ∧ (T.noteKey k).arr = T.arr ∧ (T.noteKey k).dict = T.dict ∧ (T.noteKey k).sdict = T.sdict := by
  unfold Tab.noteKey
  split <;> exact ⟨rfl, rfl, rfl, rfl⟩
theorem setStr_frame (T : Tab) (s : ByteArray) (v : Value) : (T.setStr s v).mt = T.mt ∧ (T.setStr s v).arr = T.arr ∧ (T.setStr s v).dict = T.dict := by
  obtain ⟨a, b, c, d⟩ := ready_frame { T with sdict := some (mget T.sdict) }
  unfold Tab.setStr
  simp only
  split
  · exact ⟨a, b, c⟩
  · obtain ⟨e, f, g, h⟩ := noteKey_frame { ({ T with sdict := some (mget T.sdict) } : Tab).ready with sdict := some fun q => if skEq q (.string s) then some v else mget T.sdict q } (lstr s)
    exact ⟨e.trans a, f.trans b, g.trans c⟩
theorem setNum_frame2 (T : Tab) (x : Nat) (v : Value) : (T.setNum x v).mt = T.mt ∧ (T.setNum x v).arr = T.arr ∧ (T.setNum x v).sdict = T.sdict := by
  obtain ⟨a, b, c, d⟩ := ready_frame { T with dict := some (mget T.dict) }
  unfold Tab.setNum
  simp only
  split
  · exact ⟨a, b, d⟩
  · obtain ⟨e, f, g, h⟩ := noteKey_frame { ({ T with dict := some (mget T.dict) } : Tab).ready with dict := some fun q => if lkEq q (lnum x) then some v else mget T.dict q } (lnum x)
    exact ⟨e.trans a, f.trans b, h.trans d⟩
theorem setStr_sdict (T : Tab) (s : ByteArray) (v : Value) : (T.setStr s v).sdict = some fun q => if skEq q (.string s) then (if isNil v then none else some v) else mget T.sdict q := by
  unfold Tab.setStr
  simp only
  split
  · simp [*]
  · rw [(noteKey_frame _ _).2.2.2]
theorem setNum_dict (T : Tab) (x : Nat) (v : Value) : (T.setNum x v).dict = some fun q => if lkEq q (lnum x) then (if isNil v then none else some v) else mget T.dict q := by
  unfold Tab.setNum
  simp only
  split
  · simp [*]
  · rw [(noteKey_frame _ _).2.2.1]

theorem LvOk.back {v : Value} (h : LvOk v) : (if isNil v then none else some v : Option Value).getD lnil = v := by
  split
  · rename_i hn; exact ((h.nil_iff).1 hn).symm
  · rfl

theorem sv_setStr (T : Tab) (s : ByteArray) {v : Value} (hv : LvOk v) (u : ByteArray) : (T.setStr s v).sv u = if u == s then v else T.sv u := by
  unfold Tab.sv
  rw [setStr_sdict]
  show (if (u == s) = true then _ else _ : Option Value).getD lnil = _
  split
  · exact hv.back
  · rfl
theorem sv_setNum (T : Tab) (x : Nat) (v : Value) (u : ByteArray) : (T.setNum x v).sv u = T.sv u := by
  unfold Tab.sv
  rw [(setNum_frame2 T x v).2.2]
theorem nv_setNum (T : Tab) (x : Nat) {v : Value} (hv : LvOk v) (y : Nat) : (T.setNum x v).nv y = if feq y x then v else T.nv y := by
  unfold Tab.nv
  rw [setNum_dict]
  show (if lkEq (lnum y) (lnum x) = true then _ else _ : Option Value).getD lnil = _
  rw [lkEq_num]
  split
  · exact hv.back
  · rfl
theorem nv_setStr (T : Tab) (s : ByteArray) (v : Value) (x : Nat) : (T.setStr s v).nv x = T.nv x := by
  unfold Tab.nv
  rw [(setStr_frame T s v).2.2]
theorem av_setStr (T : Tab) (s : ByteArray) (v : Value) (k : Int) : (T.setStr s v).av k = T.av k := by
  unfold Tab.av
  rw [(setStr_frame T s v).2.1]
theorem av_setNum (T : Tab) (x : Nat) (v : Value) (k : Int) : (T.setNum x v).av k = T.av k := by
  unfold Tab.av
  rw [(setNum_frame2 T x v).2.1]

theorem getAt_setAt (xs : List Value) (i : Nat) (v : Value) (k : Int) : getAt (setAt xs i v) k = if k = (i : Int) + 1 then v else getAt xs k := by
  unfold getAt
  by_cases hk : 1 ≤ k
  · obtain ⟨j, rfl⟩ : ∃ j : Nat, k = (j : Int) + 1 := ⟨(k - 1).toNat, by omega⟩
    have e : ((j : Int) + 1).toNat - 1 = j := by omega
    rw [if_pos hk, if_pos hk, e]
    unfold setAt
    by_cases hi : i < xs.length
    · rw [if_pos hi, List.getElem?_set]
      by_cases hij : i = j
      · subst hij; simp [hi]
      · rw [if_neg hij, if_neg (by omega)]
    · rw [if_neg hi, List.append_assoc]
      by_cases hj : j < xs.length
      · rw [List.getElem?_append_left hj, if_neg (by omega)]
      · rw [List.getElem?_append_right (by omega), List.getElem?_eq_none (by omega : xs.length ≤ j)]
        by_cases hj2 : j - xs.length < i - xs.length
        · rw [List.getElem?_append_left (by simpa using hj2), if_neg (by omega)]
          simp [hj2]
        · rw [List.getElem?_append_right (by simp; omega)]
          simp only [List.length_replicate]
          by_cases hij : j = i
          · subst hij; simp
          · rw [List.getElem?_eq_none (by simp; omega), if_neg (by omega)]
  · rw [if_neg hk, if_neg hk, if_neg (by omega)]

theorem setAt_length (xs : List Value) (i : Nat) (v : Value) : (setAt xs i v).length = max xs.length (i + 1) := by
  unfold setAt
  split
  · rw [List.length_set]; omega
  · simp; omega
theorem setAt_ok {xs : List Value} (h : ∀ u ∈ xs, LvOk u) (i : Nat) {v : Value} (hv : LvOk v) : ∀ u ∈ setAt xs i v, LvOk u := by
  intro u hu
  unfold setAt at hu
  split at hu
  · rcases List.mem_or_eq_of_mem_set hu with q | rfl
    · exact h u q
    · exact hv
  · rcases List.mem_append.1 hu with hu | hu
    · rcases List.mem_append.1 hu with hu | hu
      · exact h u hu
      · rw [List.eq_of_mem_replicate hu]; exact .inl rfl
    · rw [List.mem_singleton.1 hu]; exact hv

/-- The table's form behind at most n steps: few keys, a short array part of proper values. -/
structure Ok (T : Tab) (n : Nat) : Prop where
  index : T.keys ≠ none → T.k2i ≠ none
  keys : (T.keys.getD []).length ≤ n
  alen : (T.arr.getD []).length ≤ 65536
  lv : ∀ u ∈ T.arr.getD [], LvOk u

theorem Ok.wf {T : Tab} {n : Nat} (h : Ok T n) (hn : n ≤ 1000000) : T.Wf := ⟨h.index, by have := h.keys; omega⟩
theorem Ok.more {T : Tab} {n m : Nat} (h : Ok T n) (hm : n ≤ m) : Ok T m := { h with keys := Nat.le_trans h.keys hm }
theorem Ok.new (a b : Int) : Ok (newTab a b) 0 := ⟨fun h => absurd rfl h, Nat.le_refl _, by unfold newTab; split <;> simp_all, by unfold newTab; intro u hu; simp only at hu; split at hu <;> simp at hu⟩

theorem ready_keys (T : Tab) (n : Nat) (h1 : T.keys ≠ none → T.k2i ≠ none) (h2 : (T.keys.getD []).length ≤ n) : T.ready.keys ≠ none ∧ T.ready.k2i ≠ none ∧ (T.ready.keys.getD []).length ≤ n := by
  obtain ⟨mt, arr, dict, sdict, keys, k2i⟩ := T
  cases keys with
  | none => exact ⟨by simp [Tab.ready], by simp [Tab.ready], Nat.zero_le _⟩
  | some ks => exact ⟨by simp [Tab.ready], h1 (by simp), h2⟩
theorem noteKey_keys (T : Tab) (k : Value) (n : Nat) (h1 : T.k2i ≠ none) (h2 : (T.keys.getD []).length ≤ n) : (T.noteKey k).k2i ≠ none ∧ ((T.noteKey k).keys.getD []).length ≤ n + 1 := by
  unfold Tab.noteKey
  split
  · exact ⟨h1, by omega⟩
  · exact ⟨by simp, by simpa using h2⟩

theorem Ok.setStr {T : Tab} {n : Nat} (h : Ok T n) (s : ByteArray) (v : Value) : Ok (T.setStr s v) (n + 1) := by
  have hf := (setStr_frame T s v).2.1
  obtain ⟨r1, r2, r3⟩ := ready_keys { T with sdict := some (mget T.sdict) } n h.index h.keys
  have hk : (T.setStr s v).k2i ≠ none ∧ ((T.setStr s v).keys.getD []).length ≤ n + 1 := by
    unfold Tab.setStr
    simp only
    split
    · exact ⟨r2, Nat.le_succ_of_le r3⟩
    · exact noteKey_keys _ _ _ r2 r3
  exact ⟨fun _ => hk.1, hk.2, by rw [hf]; exact h.alen, by rw [hf]; exact h.lv⟩
theorem Ok.setNum {T : Tab} {n : Nat} (h : Ok T n) (x : Nat) (v : Value) : Ok (T.setNum x v) (n + 1) := by
  have hf := (setNum_frame2 T x v).2.1
  obtain ⟨r1, r2, r3⟩ := ready_keys { T with dict := some (mget T.dict) } n h.index h.keys
  have hk : (T.setNum x v).k2i ≠ none ∧ ((T.setNum x v).keys.getD []).length ≤ n + 1 := by
    unfold Tab.setNum
    simp only
    split
    · exact ⟨r2, Nat.le_succ_of_le r3⟩
    · exact noteKey_keys _ _ _ r2 r3
  exact ⟨fun _ => hk.1, hk.2, by rw [hf]; exact h.alen, by rw [hf]; exact h.lv⟩

/-- Slot k set. -/
def Tab.setArr (T : Tab) (k : Int) (v : Value) : Tab := { T with arr := some (setAt (T.arr.getD []) (k.toNat - 1) v) }
theorem Ok.setArr {T : Tab} {n : Nat} (h : Ok T n) (k : Int) (hk : 1 ≤ k ∧ k ≤ 65536) {v : Value} (hv : LvOk v) : Ok (T.setArr k v) n :=
  ⟨h.index, h.keys, by show (setAt _ _ _).length ≤ _; rw [setAt_length]; have := h.alen; omega, setAt_ok h.lv _ hv⟩
theorem av_setArr (T : Tab) (k : Int) (hk : 1 ≤ k) (v : Value) (q : Int) : (T.setArr k v).av q = if q = k then v else T.av q := by
  unfold Tab.av
  show getAt (setAt _ _ _) q = _
  rw [getAt_setAt]
  have : ((k.toNat - 1 : Nat) : Int) + 1 = k := by omega
  rw [this]
theorem sv_setArr (T : Tab) (k : Int) (v : Value) (u : ByteArray) : (T.setArr k v).sv u = T.sv u := rfl
theorem nv_setArr (T : Tab) (k : Int) (v : Value) (x : Nat) : (T.setArr k v).nv x = T.nv x := rfl
theorem sv_new (a b : Int) (s : ByteArray) : (newTab a b).sv s = lnil := by unfold Tab.sv newTab; simp only; split <;> rfl
theorem nv_new (a b : Int) (x : Nat) : (newTab a b).nv x = lnil := rfl
theorem av_new (a b : Int) (k : Int) : (newTab a b).av k = lnil := by unfold Tab.av newTab; simp only; split <;> simp [getAt]
end Go.Lua
