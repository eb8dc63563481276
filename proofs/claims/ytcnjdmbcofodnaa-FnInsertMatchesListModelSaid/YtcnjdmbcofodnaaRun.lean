/-
  n005_73: a script over a table, and the list that the table's array holds behind it.
-/
import Derived.Test.YtcnjdmbcofodnaaScript
namespace Go.Lua
open Go.Proofs Go.RowKit
set_option linter.unusedVariables false

/-- The value that stands for v in a slot: LNil for 0. -/
def val (v : Int) : Value := if v = 0 then lnil else lnum (fofInt v)
/-- The last place (from 1) that is not 0. -/
def bord (ms : List Int) : Nat := ms.length - (ms.reverse.takeWhile (· == 0)).length
def setM (ms : List Int) (i : Nat) (v : Int) : List Int := if i < ms.length then ms.set i v else ms ++ List.replicate (i - ms.length) 0 ++ [v]
def insM (ms : List Int) (i : Int) (v : Int) : List Int :=
  if i ≤ 0 then ms else if (ms.length : Int) < i then setM ms (i.toNat - 1) v else ms.take (i.toNat - 1) ++ v :: ms.drop (i.toNat - 1)
def appM (ms : List Int) (v : Int) : List Int := if v = 0 then ms else setM ms (bord ms) v
def stepM (ms : List Int) (b : Bool) (i v : Int) : List Int := if b then appM ms v else insM ms i v
def runM (ks : List Bool) (is vs : List Int) : Nat → List Int
  | 0 => []
  | j + 1 => stepM (runM ks is vs j) (ks.getD j false) (is.getD j 0) (vs.getD j 0)

theorem val_zero : val 0 = lnil := rfl
theorem val_num {v : Int} (h : v ≠ 0) : val v = lnum (fofInt v) := if_neg h
theorem isNil_val (v : Int) : isNil (val v) = (v == 0) := by
  by_cases h : v = 0
  · subst h; rfl
  · rw [val_num h, beq_false_of_ne h]; rfl
theorem lvOk_val (v : Int) : LvOk (val v) := by
  by_cases h : v = 0
  · subst h; exact .inl rfl
  · rw [val_num h]; exact .inr ⟨_, _, rfl, by decide⟩
theorem lvOk_vals (ms : List Int) : ∀ u ∈ ms.map val, LvOk u := by
  intro u hu
  obtain ⟨v, -, rfl⟩ := List.mem_map.1 hu
  exact lvOk_val v
theorem val_iface (v : Int) : ∃ tv xv, val v = .iface tv xv := by
  by_cases h : v = 0
  · subst h; exact ⟨_, _, rfl⟩
  · rw [val_num h]; exact ⟨_, _, rfl⟩

theorem border_vals (ms : List Int) : border (ms.map val) = bord ms := by
  unfold border bord
  rw [← List.map_reverse, List.takeWhile_map, List.length_map, List.length_map]
  congr 3
  funext v
  exact isNil_val v
theorem setAt_vals (ms : List Int) (i : Nat) (v : Int) : setAt (ms.map val) i (val v) = (setM ms i v).map val := by
  unfold setAt setM
  rw [List.length_map]
  split
  · rw [List.map_set]
  · simp [val_zero]
theorem bord_le (ms : List Int) : bord ms ≤ ms.length := by unfold bord; omega
theorem setM_length (ms : List Int) (i : Nat) (v : Int) : (setM ms i v).length = max ms.length (i + 1) := by
  unfold setM
  split
  · rw [List.length_set]; omega
  · simp; omega

/-- What a table holds behind n steps of a script: the list in its array part, few keys. -/
structure St (T : Tab) (ms : List Int) (n : Nat) : Prop where
  arr : T.arr.getD [] = ms.map val
  index : T.keys ≠ none → T.k2i ≠ none
  keys : (T.keys.getD []).length ≤ n
  len : ms.length ≤ 65536 + n
  fit : ∀ v ∈ ms, -2147483648 ≤ v ∧ v ≤ 2147483647

theorem setNum_frame (T : Tab) (x : Nat) (v : Value) (n : Nat) (h1 : T.keys ≠ none → T.k2i ≠ none) (h2 : (T.keys.getD []).length ≤ n) :
    (T.setNum x v).arr = T.arr ∧ ((T.setNum x v).keys ≠ none → (T.setNum x v).k2i ≠ none) ∧ (((T.setNum x v).keys.getD []).length ≤ n + 1) := by
  obtain ⟨mt, arr, dict, sdict, keys, k2i⟩ := T
  cases keys with
  | none =>
    unfold Tab.setNum Tab.ready
    by_cases hv : isNil v = true
    · simp [hv]
    · simp [hv, Tab.noteKey, mget]
  | some ks =>
    have h4 : k2i ≠ none := h1 (by simp)
    have h3 : ks.length ≤ n := h2
    by_cases hv : isNil v = true
    · simp [Tab.setNum, Tab.ready, hv]
      exact ⟨h4, by omega⟩
    · by_cases hm : (mget k2i (lnum x)).isSome = true
      · simp [Tab.setNum, Tab.ready, hv, Tab.noteKey, hm]
        exact ⟨h4, by omega⟩
      · simp [Tab.setNum, Tab.ready, hv, Tab.noteKey, hm]
        exact h3
theorem setM_fit {ms : List Int} (h : ∀ v ∈ ms, -2147483648 ≤ v ∧ v ≤ 2147483647) (i : Nat) (v : Int) (hv : -2147483648 ≤ v ∧ v ≤ 2147483647) : ∀ u ∈ setM ms i v, -2147483648 ≤ u ∧ u ≤ 2147483647 := by
  intro u hu
  unfold setM at hu
  split at hu
  · rcases List.mem_or_eq_of_mem_set hu with q | rfl
    · exact h u q
    · exact hv
  · rcases List.mem_append.1 hu with hu | hu
    · rcases List.mem_append.1 hu with hu | hu
      · exact h u hu
      · rw [List.eq_of_mem_replicate hu]; omega
    · rw [List.mem_singleton.1 hu]; exact hv
theorem insM_fit {ms : List Int} (h : ∀ v ∈ ms, -2147483648 ≤ v ∧ v ≤ 2147483647) (i : Int) (v : Int) (hv : -2147483648 ≤ v ∧ v ≤ 2147483647) : ∀ u ∈ insM ms i v, -2147483648 ≤ u ∧ u ≤ 2147483647 := by
  unfold insM
  split
  · exact h
  · split
    · exact setM_fit h _ v hv
    · intro u hu
      rcases List.mem_append.1 hu with hu | hu
      · exact h u (List.mem_of_mem_take hu)
      · rcases List.mem_cons.1 hu with rfl | hu
        · exact hv
        · exact h u (List.mem_of_mem_drop hu)
theorem insM_length {ms : List Int} {i v : Int} {n : Nat} (h : ms.length ≤ 65536 + n) (hi : i ≤ 65536 + n) : (insM ms i v).length ≤ 65536 + (n + 1) := by
  unfold insM
  split
  · omega
  · split
    · rw [setM_length]; omega
    · simp; omega
theorem St.insert {T : Tab} {ms : List Int} {n : Nat} (h : St T ms n) (i v : Int) (hi : i ≤ 65536 + n) (hv : -2147483648 ≤ v ∧ v ≤ 2147483647) : St (T.insert i (val v)) (insM ms i v) (n + 1) := by
  have hl := insM_length (v := v) h.len hi
  have hf := insM_fit h.fit i v hv
  have hk := h.keys
  by_cases h1 : i ≤ 0
  · have e1 : insM ms i v = ms := by unfold insM; rw [if_pos h1]
    have e2 : T.insert i (val v) = ({ T with arr := some (ms.map val) } : Tab).setNum (fofInt i) (val v) := by
      unfold Tab.insert
      rw [h.arr, List.length_map, if_neg (by omega), if_pos h1]
    obtain ⟨f1, f2, f3⟩ := setNum_frame ({ T with arr := some (ms.map val) } : Tab) (fofInt i) (val v) n h.index h.keys
    rw [e1] at hl hf ⊢
    rw [e2]
    exact ⟨by rw [f1]; rfl, f2, f3, hl, hf⟩
  · by_cases h2 : (ms.length : Int) < i
    · have e1 : insM ms i v = setM ms (i.toNat - 1) v := by unfold insM; rw [if_neg h1, if_pos h2]
      have e2 : T.insert i (val v) = { T with arr := some ((setM ms (i.toNat - 1) v).map val) } := by
        unfold Tab.insert
        rw [h.arr, List.length_map, if_pos h2, setAt_vals]
      rw [e1] at hl hf ⊢
      rw [e2]
      exact ⟨rfl, h.index, Nat.le_succ_of_le hk, hl, hf⟩
    · have e1 : insM ms i v = ms.take (i.toNat - 1) ++ v :: ms.drop (i.toNat - 1) := by unfold insM; rw [if_neg h1, if_neg h2]
      have e2 : T.insert i (val v) = { T with arr := some ((ms.take (i.toNat - 1) ++ v :: ms.drop (i.toNat - 1)).map val) } := by
        unfold Tab.insert
        rw [h.arr, List.length_map, if_neg h2, if_neg h1, List.map_append, List.map_cons, List.map_take, List.map_drop]
      rw [e1] at hl hf ⊢
      rw [e2]
      exact ⟨rfl, h.index, Nat.le_succ_of_le hk, hl, hf⟩
theorem St.append {T : Tab} {ms : List Int} {n : Nat} (h : St T ms n) (v : Int) (hv : -2147483648 ≤ v ∧ v ≤ 2147483647) (h0 : v ≠ 0) : St { T with arr := some (appendTo (T.arr.getD []) (val v)) } (appM ms v) (n + 1) := by
  have hk := h.keys
  have e1 : appM ms v = setM ms (bord ms) v := if_neg h0
  have e2 : appendTo (T.arr.getD []) (val v) = (appM ms v).map val := by
    unfold appendTo
    rw [h.arr, border_vals, setAt_vals, e1]
  rw [e2]
  refine ⟨rfl, h.index, Nat.le_succ_of_le hk, ?_, ?_⟩
  · rw [e1, setM_length]
    have := h.len
    have := bord_le ms
    omega
  · rw [e1]; exact setM_fit h.fit _ v hv
theorem St.more {T : Tab} {ms : List Int} {n m : Nat} (h : St T ms n) (hm : n ≤ m) : St T ms m :=
  { h with keys := Nat.le_trans h.keys hm, len := by have := h.len; omega }
theorem St.wf {T : Tab} {ms : List Int} {n : Nat} (h : St T ms n) (hn : n ≤ 1000000) : T.Wf := ⟨h.index, by have := h.keys; omega⟩

theorem TabAt.fw {w w0 : World} {t : Nat} {T : Tab} {F : Nat → Prop} (h : TabAt w t T F) : TabAt w t T (Fw F w0) := by
  obtain ⟨va, vd, vs, vk, vi, hT⟩ := h
  exact (hT.mono fun k _ hk => Fw.of hk).at

/-- Some step of a script: the table holds the list behind it. -/
def StepTo (F : Nat → Prop) (w : World) (t : Nat) (ms : List Int) (n : Nat) (e : Ending) (w' : World) : Prop := e = .returned (.tuple #[]) ∧ ∃ T, St T ms n ∧ TabAt w' t T (Fw F w) ∧ Upd F w w'

set_option maxHeartbeats 1000000 in
theorem do_any (w : World) (t : Nat) (T : Tab) (F : Nat → Prop) (h : TabAt w t T F) (ms : List Int) (n : Nat) (hs : St T ms n) (hn : n ≤ 1000000) (b : Bool) (i v : Int) (hi : -65536 ≤ i ∧ i ≤ 65536 + n) (hv : -2147483648 ≤ v ∧ v ≤ 2147483647) :
    Calls Try.prog 31 #[.pointer (some ⟨t, 0, none⟩), .bool b, .int .i64 i, .int .i32 v] w (StepTo F w t (stepM ms b i v) (n + 1)) := by
  have hok : ∀ u ∈ T.arr.getD [], LvOk u := by rw [hs.arr]; exact lvOk_vals ms
  have hlen : (T.arr.getD []).length < 1073741824 := by rw [hs.arr, List.length_map]; have := hs.len; omega
  cases b with
  | true =>
    by_cases h0 : v = 0
    · subst h0
      go_enter Try.func31, Try.ntmps31
      go_wp2_with (first
        | (go_at_call 64; refine (append_nil _ _).mono ?_; rintro e w1 ⟨rfl, rfl⟩)
        | go_in)
      exact bodyPost_ret (v := .tuple #[]) (results_none rfl _ _ _) rfl ⟨rfl, T, hs.more (by omega), h.fw, Upd.refl F _⟩
    · have C := Lib.hid (append_any w t T F h hok hlen 65 (.float .f64 (fofInt v)) (by decide))
      have hv0 : (v == 0) = false := beq_false_of_ne h0
      have hq := hs.append v hv h0
      rw [val_num h0] at hq
      clear h0
      go_enter Try.func31, Try.ntmps31
      go_wp2_with (first
        | (go_at_call 64; refine C.out.mono ?_; rintro e w1 ⟨rfl, hT, hU⟩)
        | go_in)
      exact bodyPost_ret (v := .tuple #[]) (results_none rfl _ _ _) rfl ⟨rfl, _, hq, hT, hU⟩
  | false =>
    have C := Lib.hid (insert_any w t T F h (hs.wf hn) hok hlen i (by omega) (by omega) (val v) (lvOk_val v))
    have hq := hs.insert i v hi.2 hv
    by_cases h0 : v = 0
    · subst h0
      go_enter Try.func31, Try.ntmps31
      go_wp2_with (first
        | (go_at_call 68; refine C.out.mono ?_; rintro e w1 ⟨rfl, hT, hU⟩)
        | go_in)
      go_end0
      exact ⟨rfl, _, hq, hT, hU⟩
    · rw [val_num h0] at C
      have hv0 : (v == 0) = false := beq_false_of_ne h0
      rw [val_num h0] at hq
      clear h0
      go_enter Try.func31, Try.ntmps31
      go_wp2_with (first
        | (go_at_call 68; refine C.out.mono ?_; rintro e w1 ⟨rfl, hT, hU⟩)
        | go_in)
      go_end0
      exact ⟨rfl, _, hq, hT, hU⟩
end Go.Lua
