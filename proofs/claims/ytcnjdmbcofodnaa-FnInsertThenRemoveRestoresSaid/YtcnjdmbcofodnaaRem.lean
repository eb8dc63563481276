/-
  n005_73: ZZremoveNum, and plain laws of append, insert and removal.
-/
import Derived.Test.YtcnjdmbcofodnaaSnap
namespace Go.Lua
open Go.Proofs Go.RowKit
set_option linter.unusedVariables false

theorem removeAt_vals {ms : List Int} {pos : Int} (h1 : 1 ≤ pos) (h2 : pos ≤ ms.length) : removeAt (ms.map val) pos = (val (atM ms pos), (ms.eraseIdx (pos.toNat - 1)).map val) := by
  have hne : ms ≠ [] := by rintro rfl; simp at h2; omega
  unfold removeAt
  rw [List.length_map, if_neg (by rintro (e | e | e); exact hne (List.map_eq_nil_iff.1 e); omega; omega)]
  have hg : ((ms.map val)[pos.toNat - 1]?).getD lnil = val (atM ms pos) := by
    have := getAt_vals ms pos
    unfold getAt at this
    rw [if_pos h1] at this
    exact this
  have hmap : ∀ (l : List Int) (j : Nat), (l.eraseIdx j).map val = (l.map val).eraseIdx j := by
    intro l
    induction l with
    | nil => intro j; rfl
    | cons a l ih =>
      intro j
      cases j with
      | zero => rfl
      | succ j => simp only [List.eraseIdx_cons_succ, List.map_cons, ih]
  by_cases h3 : pos < 1 ∨ pos = ms.length
  · rw [if_pos h3]
    have h4 : pos = ms.length := by omega
    have e1 : (ms.map val).getLastD lnil = val (atM ms pos) := by
      rw [← hg, List.getLastD_eq_getLast?, List.getLast?_eq_getElem?, List.length_map]
      congr 2
      omega
    have e2 : (ms.map val).dropLast = (ms.eraseIdx (pos.toNat - 1)).map val := by
      rw [hmap, List.eraseIdx_eq_dropLast]
      rw [List.length_map]; omega
    rw [e1, e2]
  · rw [if_neg h3, hg, hmap]

theorem Tbl.remove {F : Nat → Prop} {t : Nat} {ms : List Int} {n : Nat} {w : World} (h : Tbl F t ms n w) (pos : Int) (h1 : 1 ≤ pos) (h2 : pos ≤ ms.length) (h3 : ms.length ≤ 1000000) :
    Calls Try.prog 34 #[.pointer (some ⟨t, 0, none⟩), .int .i64 pos] w fun e w' => e = .returned (slotOf (atM ms pos)) ∧ Tbl (Fw F w) t (ms.eraseIdx (pos.toNat - 1)) n w' ∧ Upd F w w' := by
  obtain ⟨T, hS, hT⟩ := h
  have C := remove_any w t T _ hT (by rw [hS.arr]; exact lvOk_vals ms) pos (by unfold Is64; omega)
  rw [hS.arr, removeAt_vals h1 h2] at C
  have C := Lib.hid C
  have key : ∀ (o : Option (List Value)) w', o.getD [] = (ms.eraseIdx (pos.toNat - 1)).map val → TabAt w' t { T with arr := o } (Fw F w) → Upd F w w' → Tbl (Fw F w) t (ms.eraseIdx (pos.toNat - 1)) n w' ∧ Upd F w w' := by
    intro o w' ho hA hU
    refine ⟨⟨{ T with arr := o }, ⟨ho, hS.index, hS.keys, ?_, fun v hv => hS.fit v (List.mem_of_mem_eraseIdx hv)⟩, hA⟩, hU⟩
    have := hS.len
    have := List.length_eraseIdx_le (l := ms) (i := pos.toNat - 1)
    omega
  have K := Lib.hid key
  clear key
  unfold slotOf
  generalize atM ms pos = v at *
  by_cases h0 : v = 0
  · subst h0
    rw [if_pos rfl]
    rw [val_zero] at C
    go_enter Try.func34, Try.ntmps34
    go_wp2_with (first | (go_at_call 62; refine C.out.mono ?_; rintro e w1 ⟨o, ho, rfl, hA, hU⟩))
    go_ret2
    exact ⟨rfl, K.out o _ ho hA hU⟩
  · rw [if_neg h0]
    rw [val_num h0] at C
    clear h0
    go_enter Try.func34, Try.ntmps34
    go_wp2_with (first | (go_at_call 62; refine C.out.mono ?_; rintro e w1 ⟨o, ho, rfl, hA, hU⟩))
    go_ret2
    exact ⟨rfl, K.out o _ ho hA hU⟩

theorem atM_nat (ms : List Int) (q : Nat) : atM ms ((q : Int) + 1) = (ms[q]?).getD 0 := by
  unfold atM
  rw [if_pos (by omega), show ((q : Int) + 1).toNat - 1 = q by omega]
theorem atM_erase {ms : List Int} {j : Nat} (k : Int) (h : 1 ≤ k) : atM (ms.eraseIdx j) k = if k ≤ (j : Int) then atM ms k else atM ms (k + 1) := by
  obtain ⟨q, rfl⟩ : ∃ q : Nat, k = (q : Int) + 1 := ⟨(k - 1).toNat, by omega⟩
  have e : (q : Int) + 1 + 1 = ((q + 1 : Nat) : Int) + 1 := by omega
  rw [e, atM_nat, atM_nat, atM_nat, List.getElem?_eraseIdx]
  by_cases hq : q < j
  · rw [if_pos hq, if_pos (by omega)]
  · rw [if_neg hq, if_neg (by omega)]

theorem atM_app {ms : List Int} {v : Int} (hv : v ≠ 0) (k : Int) : atM (appM ms v) k = if k = (bord ms : Int) + 1 then v else atM ms k := by
  unfold appM
  rw [if_neg hv, atM_set]
theorem bord_app {ms : List Int} {v : Int} (hv : v ≠ 0) : bord (appM ms v) = bord ms + 1 := by
  refine bord_is (fun k hk => ?_) (.inr ?_)
  · rw [atM_app hv, if_neg (by omega)]
    exact bord_above (by omega)
  · rw [atM_app hv, if_pos (by omega)]
    exact hv
theorem app_length {ms : List Int} {v : Int} (hv : v ≠ 0) : (appM ms v).length ≤ ms.length + 1 ∧ bord ms + 1 ≤ (appM ms v).length := by
  unfold appM
  rw [if_neg hv, setM_length]
  have := bord_le ms
  omega
end Go.Lua
