/-
  n005_156: a table filled with a list, from its first slot up; a removal, and its undoing.
-/
import Derived.Test.YtpbeecbijlhocaaBase
import Derived.Test.YtpbeecbijlhocaaBord
namespace Go.Lua
open Go.Proofs Go.RowKit
set_option linter.unusedVariables false

/-- The table holds the first j of xs and nothing else. -/
structure Fl (xs : List Int) (j : Nat) (T : Tab) : Prop where
  ok : Ok T 0
  arr : T.arr.getD [] = (xs.take j).map val
  str : ∀ s, T.sv s = lnil

theorem Fl.start (xs : List Int) : Fl xs 0 (newTab 0 0) := ⟨Ok.new 0 0, rfl, fun s => sv_new 0 0 s⟩
theorem Fl.next {xs : List Int} {j : Nat} {T : Tab} (h : Fl xs j T) {x : Int} (hx : xs[j]? = some x) (hj : j < 65536) : Fl xs (j + 1) (T.setArr ((j : Int) + 1) (val x)) := by
  obtain ⟨hjl, rfl⟩ := List.getElem?_eq_some_iff.1 hx
  refine ⟨h.ok.setArr _ (by omega) (lvOk_val _), ?_, fun s => h.str s⟩
  show setAt _ _ _ = _
  rw [h.arr, setAt_end _ (by simp; omega), List.take_succ_eq_append_getElem hjl, List.map_append]
  rfl
theorem Fl.alen {xs : List Int} {j : Nat} {T : Tab} (h : Fl xs j T) (hj : j ≤ 65536) : (T.arr.getD []).length < 1073741824 := by have := h.ok.alen; omega
theorem Fl.full {xs : List Int} {T : Tab} (h : Fl xs xs.length T) : T.arr.getD [] = xs.map val := by rw [h.arr, List.take_length]
theorem Fl.av {xs : List Int} {T : Tab} (h : Fl xs xs.length T) (k : Int) : T.av k = val (atM xs k) := by
  unfold Tab.av
  rw [h.full, getAt_vals]

/-- The setter, at a slot. -/
theorem set_slot (w : World) (t : Nat) (T : Tab) (F : Nat → Prop) (h : TabAt w t T F) (k : Int) (hk1 : 1 ≤ k) (hk2 : k < 67108864) (hl : (T.arr.getD []).length < 1073741824) (v : Int) :
    Calls Try.prog 21 #[.pointer (some ⟨t, 0, none⟩), .int .i64 k, .int .i64 v] w (UpdTo F w t (T.setArr k (val v))) := by
  refine setInt_via w t k v _ ?_
  obtain ⟨tv, xv, he⟩ := val_iface v
  rw [he]
  exact rawSetInt_arr w t T F h k hk1 hk2 hl tv xv

/-- Which place (from 0) Remove takes out; -1 for none. -/
def kM (xs : List Int) (pos : Int) : Int := if xs.length = 0 ∨ pos = -9223372036854775808 ∨ (xs.length : Int) < pos then -1 else if pos < 1 then xs.length - 1 else pos - 1
def leftM (xs : List Int) (k : Int) : List Int := if k < 0 then xs else xs.eraseIdx k.toNat
theorem kM_range (xs : List Int) (pos : Int) : -1 ≤ kM xs pos ∧ kM xs pos < xs.length := by
  unfold kM
  split
  · omega
  · split <;> omega
theorem erase_last {α : Type} {l : List α} (h : 0 < l.length) : l.eraseIdx (l.length - 1) = l.dropLast := by
  rw [List.eraseIdx_eq_take_drop_succ, List.dropLast_eq_take, List.drop_eq_nil_of_le (by omega), List.append_nil]
theorem erase_map (xs : List Int) (i : Nat) : (xs.map val).eraseIdx i = (xs.eraseIdx i).map val := by
  rw [List.eraseIdx_eq_take_drop_succ, List.eraseIdx_eq_take_drop_succ, List.map_append, List.map_take, List.map_drop]
theorem last_map (xs : List Int) : (xs.map val).getLastD lnil = val (xs.getLastD 0) := by
  rw [List.getLastD_eq_getLast?, List.getLastD_eq_getLast?, List.getLast?_eq_getElem?, List.getLast?_eq_getElem?, List.getElem?_map, List.length_map]
  cases xs[xs.length - 1]? <;> rfl
theorem removeAt_vals (xs : List Int) (pos : Int) : removeAt (xs.map val) pos = (val (atM xs (kM xs pos + 1)), (leftM xs (kM xs pos)).map val) := by
  unfold removeAt kM
  by_cases h1 : xs.length = 0 ∨ pos = -9223372036854775808 ∨ (xs.length : Int) < pos
  · have h1' : xs.map val = [] ∨ pos = -9223372036854775808 ∨ ((xs.map val).length : Int) < pos := by
      rcases h1 with h | h | h
      · exact .inl (by rw [List.length_eq_zero_iff.1 h]; rfl)
      · exact .inr (.inl h)
      · exact .inr (.inr (by simpa using h))
    rw [if_pos h1, if_pos h1']
    rfl
  · have h1' : ¬ (xs.map val = [] ∨ pos = -9223372036854775808 ∨ ((xs.map val).length : Int) < pos) := by
      intro h
      refine h1 ?_
      rcases h with h | h | h
      · exact .inl (by simpa using congrArg List.length h)
      · exact .inr (.inl h)
      · exact .inr (.inr (by simpa using h))
    rw [if_neg h1, if_neg h1']
    have hn : 0 < xs.length := by omega
    have hge : (atM xs (xs.length : Int)) = xs.getLastD 0 := by
      unfold atM
      rw [if_pos (by omega), show ((xs.length : Int)).toNat - 1 = xs.length - 1 by omega, List.getLastD_eq_getLast?, List.getLast?_eq_getElem?]
    by_cases h2 : pos < 1
    · rw [if_pos (.inl h2), if_pos h2]
      unfold leftM
      rw [if_neg (by omega), show ((xs.length : Int) - 1 + 1) = xs.length by omega, hge, show ((xs.length : Int) - 1).toNat = xs.length - 1 by omega, erase_last hn, last_map, List.map_dropLast]
    · rw [if_neg h2]
      by_cases h3 : pos = (xs.map val).length
      · rw [if_pos (.inr h3)]
        simp only [List.length_map] at h3
        subst h3
        unfold leftM
        rw [if_neg (by omega), show ((xs.length : Int) - 1 + 1) = xs.length by omega, hge, show ((xs.length : Int) - 1).toNat = xs.length - 1 by omega, erase_last hn, last_map, List.map_dropLast]
      · rw [if_neg (by simp only [List.length_map] at h3 ⊢; omega)]
        unfold leftM
        rw [if_neg (by omega), show (pos - 1 + 1) = pos by omega, show (pos - 1).toNat = pos.toNat - 1 by omega, erase_map]
        congr 1
        have := getAt_vals xs pos
        unfold getAt at this
        rwa [if_pos (by omega)] at this

/-- Insert undoes it. -/
theorem insert_back {xs : List Int} {pos : Int} (h1 : 1 ≤ pos) (h2 : pos ≤ xs.length) (T : Tab) (hT : T.arr.getD [] = (leftM xs (pos - 1)).map val) : (T.insert pos (val (atM xs pos))).arr.getD [] = xs.map val := by
  obtain ⟨j, rfl⟩ : ∃ j : Nat, pos = (j : Int) + 1 := ⟨(pos - 1).toNat, by omega⟩
  have hj : j < xs.length := by omega
  have e0 : ((j : Int) + 1).toNat - 1 = j := by omega
  have ex : atM xs ((j : Int) + 1) = xs[j] := by
    unfold atM
    rw [if_pos h1, e0, List.getElem?_eq_getElem hj]
    rfl
  have el : leftM xs ((j : Int) + 1 - 1) = xs.eraseIdx j := by
    unfold leftM
    rw [if_neg (by omega), show ((j : Int) + 1 - 1).toNat = j by omega]
  rw [el] at hT
  have hlen : (T.arr.getD []).length = xs.length - 1 := by rw [hT, List.length_map, List.length_eraseIdx_of_lt hj]
  unfold Tab.insert
  rw [hlen, ex]
  by_cases h3 : ((xs.length - 1 : Nat) : Int) < (j : Int) + 1
  · rw [if_pos h3, e0]
    have hje : j = xs.length - 1 := by omega
    show setAt _ _ _ = _
    rw [setAt_end _ (by rw [hlen, hje]), hT, List.eraseIdx_eq_take_drop_succ, List.drop_eq_nil_of_le (by omega), List.append_nil]
    have := List.take_append_drop j xs
    rw [List.drop_eq_getElem_cons hj, List.drop_eq_nil_of_le (by omega)] at this
    conv => rhs; rw [← this]
    rw [List.map_append]
    rfl
  · rw [if_neg h3, if_neg (by omega), e0]
    show _ ++ _ = _
    rw [hT, List.eraseIdx_eq_take_drop_succ, List.map_append]
    have ht : (xs.take j).length = j := by simp; omega
    rw [List.take_append_of_le_length (by simp; omega), List.drop_append_of_le_length (by simp; omega)]
    rw [← List.map_take, ← List.map_drop, List.take_take, List.drop_eq_nil_of_le (by omega), Nat.min_self]
    have := List.take_append_drop j xs
    rw [List.drop_eq_getElem_cons hj] at this
    conv => rhs; rw [← this]
    rw [List.map_append, List.map_cons]
    rfl
theorem insert_keys (T : Tab) {i : Int} (h : 1 ≤ i) (v : Value) : (T.insert i v).keys = T.keys ∧ (T.insert i v).k2i = T.k2i := by
  unfold Tab.insert
  split
  · exact ⟨rfl, rfl⟩
  · rw [if_neg (by omega)]
    exact ⟨rfl, rfl⟩
/-- A table whose array part is a list of such values. -/
theorem Ok.ofList {T T' : Tab} {n : Nat} (h : Ok T n) (h1 : T'.keys = T.keys) (h2 : T'.k2i = T.k2i) {xs : List Int} (h3 : T'.arr.getD [] = xs.map val) (h4 : xs.length ≤ 65536) : Ok T' n :=
  ⟨by rw [h1, h2]; exact h.index, by rw [h1]; exact h.keys, by rw [h3, List.length_map]; exact h4, by rw [h3]; exact lvOk_vals xs⟩
theorem av_ofList {T : Tab} {xs : List Int} (h : T.arr.getD [] = xs.map val) (k : Int) : T.av k = val (atM xs k) := by
  unfold Tab.av
  rw [h, getAt_vals]
theorem border_ofList {T : Tab} {xs : List Int} (h : T.arr.getD [] = xs.map val) : border (T.arr.getD []) = bord xs := by
  rw [h, border_vals]
theorem leftM_length (xs : List Int) (k : Int) : (leftM xs k).length ≤ xs.length := by
  unfold leftM
  split
  · omega
  · exact List.length_eraseIdx_le xs _

theorem back {T : Tab} {xs : List Int} {pos : Int} (hok : Ok T 0) (hn : xs.length ≤ 65536) (h1 : 1 ≤ pos) (h2 : pos ≤ xs.length) {o : Option (List Value)} (ho : o.getD [] = (leftM xs (pos - 1)).map val) :
    Ok { T with arr := o } 0 ∧ Ok (({ T with arr := o } : Tab).insert pos (val (atM xs pos))) 0 ∧ (({ T with arr := o } : Tab).insert pos (val (atM xs pos))).arr.getD [] = xs.map val := by
  have q1 : Ok { T with arr := o } 0 := hok.ofList rfl rfl ho (Nat.le_trans (leftM_length _ _) hn)
  have q2 := insert_back h1 h2 { T with arr := o } ho
  obtain ⟨k1, k2⟩ := insert_keys { T with arr := o } h1 (val (atM xs pos))
  exact ⟨q1, q1.ofList k1 k2 q2 hn, q2⟩
/-- The loops' words: the table filled so far; the table T, whatever has been read. -/
def FillW (w : World) (t : Nat) (xs : List Int) (i : Value) (wr : World) : Prop := ∃ j : Nat, j ≤ xs.length ∧ i = .int .i64 j ∧ ∃ T, Fl xs j T ∧ Has w t T wr
def ReadW (w : World) (t : Nat) (T : Tab) (n : Nat) (i : Value) (wr : World) : Prop := ∃ j : Nat, j ≤ n ∧ i = .int .i64 j ∧ Has w t T wr
theorem wf_fit {xs : List Int} (h : ∀ n ∈ xs, (Lit.int .i64 n).wf = true) (q : Int) : Is64 (atM xs q) := by
  unfold atM
  split
  · cases hu : xs[q.toNat - 1]? with
    | none => unfold Is64; simp
    | some u => exact is64_of_wf (h u (List.mem_of_getElem? hu))
  · unfold Is64; omega
theorem atM_succ {xs : List Int} {j : Nat} {x : Int} (h : xs[j]? = some x) : atM xs ((j : Int) + 1) = x := by
  unfold atM
  rw [if_pos (by omega), show ((j : Int) + 1).toNat - 1 = j by omega, h]
  rfl

/-- The list without place k, and what lay there, as far as the first i go. -/
def restU (xs : List Int) (k : Int) (i : Nat) : List Int := if 0 ≤ k ∧ k < i then (xs.take i).eraseIdx k.toNat else xs.take i
def wantU (xs : List Int) (k : Int) (i : Nat) : Int := if 0 ≤ k ∧ k < i then atM xs (k + 1) else 0
theorem restU_same {xs : List Int} {k : Int} {i : Nat} {x : Int} (hx : xs[i]? = some x) (h : (i : Int) = k) : restU xs k (i + 1) = restU xs k i := by
  obtain ⟨hi, rfl⟩ := List.getElem?_eq_some_iff.1 hx
  subst h
  unfold restU
  rw [if_pos (by omega), if_neg (by omega), show ((i : Nat) : Int).toNat = i by omega, List.eraseIdx_eq_take_drop_succ, List.take_take, Nat.min_eq_left (by omega), List.drop_eq_nil_of_le (by simp; omega), List.append_nil]
theorem restU_next {xs : List Int} {k : Int} {i : Nat} {x : Int} (hx : xs[i]? = some x) (h : (i : Int) ≠ k) : restU xs k (i + 1) = restU xs k i ++ [x] := by
  obtain ⟨hi, rfl⟩ := List.getElem?_eq_some_iff.1 hx
  have ht : (xs.take i).length = i := by simp; omega
  unfold restU
  rw [List.take_succ_eq_append_getElem hi]
  by_cases hk : 0 ≤ k ∧ k < i
  · rw [if_pos hk, if_pos (by omega), List.eraseIdx_append_of_lt_length (by rw [ht]; omega)]
  · rw [if_neg hk, if_neg (by omega)]
theorem wantU_same {xs : List Int} {k : Int} {i : Nat} {x : Int} (hx : xs[i]? = some x) (h : (i : Int) = k) : wantU xs k (i + 1) = x := by
  subst h
  unfold wantU
  rw [if_pos (by omega)]
  exact atM_succ hx
theorem wantU_next {xs : List Int} {k : Int} {i : Nat} (h : (i : Int) ≠ k) : wantU xs k (i + 1) = wantU xs k i := by
  unfold wantU
  by_cases hk : 0 ≤ k ∧ k < i
  · rw [if_pos hk, if_pos (by omega)]
  · rw [if_neg hk, if_neg (by omega)]
theorem restU_end {xs : List Int} {k : Int} (h : -1 ≤ k ∧ k < xs.length) : restU xs k xs.length = leftM xs k := by
  unfold restU leftM
  rw [List.take_length]
  by_cases hk : 0 ≤ k
  · rw [if_pos (by omega), if_neg (by omega)]
  · rw [if_neg (by omega), if_pos (by omega)]
theorem wantU_end {xs : List Int} {k : Int} (h : -1 ≤ k ∧ k < xs.length) : wantU xs k xs.length = atM xs (k + 1) := by
  unfold wantU
  by_cases hk : 0 ≤ k
  · rw [if_pos (by omega)]
  · rw [if_neg (by omega), atM_low _ (by omega)]
theorem restU_zero (xs : List Int) (k : Int) : restU xs k 0 = [] := by
  unfold restU
  rw [if_neg (by omega)]
  rfl
theorem wantU_zero (xs : List Int) (k : Int) : wantU xs k 0 = 0 := by
  unfold wantU
  rw [if_neg (by omega)]
theorem leftM_fit {xs : List Int} (h : ∀ n ∈ xs, (Lit.int .i64 n).wf = true) (k : Int) : ∀ n ∈ leftM xs k, (Lit.int .i64 n).wf = true := by
  unfold leftM
  split
  · exact h
  · exact fun n hn => h n (List.mem_of_mem_eraseIdx hn)
theorem restU_le (xs : List Int) (k : Int) (i : Nat) : (restU xs k i).length ≤ i := by
  unfold restU
  split
  · exact Nat.le_trans (List.length_eraseIdx_le _ _) (by simp; omega)
  · simp; omega

theorem news1 (w : World) (u : Value) (e : TypeId) : ∀ j v, [u][j]? = some v → (w.alloc (.cells #[u] e)).cell? ((⟨w.heap.size, 0, none⟩ : Addr).add j) = some v := by
  intro j v hv
  cases j with
  | zero =>
    simp at hv
    subst hv
    show (w.alloc (.cells #[u] e)).cell? ⟨w.heap.size, 0, none⟩ = some u
    simp
  | succ j => simp at hv
theorem owned_isSl {w : World} {base e : Nat} {g n cap : Nat} {xs : List Value} (h : w.ownsRow base e 1 (.slice (some ⟨g, 0, none⟩) n cap) n xs) : IsSl w (.slice (some ⟨g, 0, none⟩) n cap) xs := by
  have hx := h.1
  rw [Nat.mul_one] at hx
  subst hx
  rcases h.2 with ⟨h1, -⟩ | ⟨g', cap', cur, h1, -, h2, h3, h4, h5, h6⟩
  · cases h1
  · cases h1
    refine .inr ⟨_, _, rfl, h3, h4, fun i u hu => ?_⟩
    have e : (⟨g, 0, none⟩ : Addr).add i = ⟨g, i, none⟩ := by unfold Addr.add; split <;> simp_all
    rw [e]
    rw [← h6, List.getElem?_take] at hu
    split at hu
    · simpa [World.cell?, h2] using hu
    · cases hu
theorem int_info : (Try.prog.info? 2).map (fun i => (i.zero, i.size, i.bytes)) = some (some (.int .i64 0), 1, 8) := by kernel_rfl
end Go.Lua
