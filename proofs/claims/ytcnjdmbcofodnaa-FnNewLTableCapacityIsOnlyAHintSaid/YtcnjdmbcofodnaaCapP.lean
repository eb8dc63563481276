/-
  n005_61: two tables under one script: the small functions, the clones, and what both tables hold alike.
-/
import Derived.Test.YtcnjdmbcofodnaaAppend
import Derived.Test.YtcnjdmbcofodnaaMaxN
import Derived.Test.YtcnjdmbcofodnaaGetInt
import Derived.Test.YtcnjdmbcofodnaaGet
import Derived.Test.YtcnjdmbcofodnaaKeyI
import Derived.Test.YtcnjdmbcofodnaaHas
import Derived.Test.YtcnjdmbcofodnaaVal
namespace Go.Lua
open Go.Proofs Go.RowKit
set_option linter.unusedVariables false

@[go_sem] theorem run_store_flt {P : Program} {w : World} (a : Addr) (m : Mode) (k : FloatKind) (n : Nat) : (store a (.float k n) m).run P w = stored P w a (.float k n) m := run_store P w a _ m rfl
/-- What a slot of these scripts holds: LNil or a number. -/
def NumOk (v : Value) : Prop := v = lnil ∨ ∃ x, v = lnum x
theorem NumOk.lv {v : Value} (h : NumOk v) : LvOk v := by
  rcases h with rfl | ⟨x, rfl⟩
  · exact .inl rfl
  · exact .inr ⟨_, _, rfl, by decide⟩
theorem appendTo_num {xs : List Value} (h : ∀ u ∈ xs, NumOk u) (x : Nat) : (∀ u ∈ appendTo xs (lnum x), NumOk u) ∧ (appendTo xs (lnum x)).length ≤ xs.length + 1 := by
  have hb := border_le xs
  constructor
  · intro u hu
    unfold appendTo setAt at hu
    split at hu
    · rcases List.mem_or_eq_of_mem_set hu with q | rfl
      · exact h u q
      · exact .inr ⟨x, rfl⟩
    · rcases List.mem_append.1 hu with hu | hu
      · rcases List.mem_append.1 hu with hu | hu
        · exact h u hu
        · rw [List.eq_of_mem_replicate hu]; exact .inl rfl
      · rw [List.mem_singleton.1 hu]; exact .inr ⟨x, rfl⟩
  · unfold appendTo
    rw [setAt_length]
    omega
/-- The table's form behind n steps. -/
structure CapOk (T : Tab) (n : Nat) : Prop where
  index : T.keys ≠ none → T.k2i ≠ none
  keys : (T.keys.getD []).length ≤ n
  alen : (T.arr.getD []).length ≤ 65536 + n
  num : ∀ u ∈ T.arr.getD [], NumOk u
  dict : ∀ x, NumOk (T.nv x)
theorem CapOk.wf {T : Tab} {n : Nat} (h : CapOk T n) (hn : n ≤ 1000000) : T.Wf := ⟨h.index, by have := h.keys; omega⟩
theorem CapOk.lv {T : Tab} {n : Nat} (h : CapOk T n) : ∀ u ∈ T.arr.getD [], LvOk u := fun u hu => (h.num u hu).lv
theorem CapOk.new (a b : Int) : CapOk (newTab a b) 0 := by
  refine ⟨fun h => absurd rfl h, Nat.le_refl _, by unfold newTab; split <;> simp_all, by unfold newTab; intro u hu; simp only at hu; split at hu <;> simp at hu, fun x => .inl (nv_new a b x)⟩
/-- Both hold the same slots and the same number keys. -/
structure Same (T1 T2 : Tab) : Prop where
  arr : T1.arr.getD [] = T2.arr.getD []
  dict : mget T1.dict = mget T2.dict
theorem Same.new (a b c d : Int) : Same (newTab a b) (newTab c d) := by
  refine ⟨?_, rfl⟩
  unfold newTab
  simp only
  split <;> split <;> rfl
theorem Same.nv {T1 T2 : Tab} (h : Same T1 T2) (x : Nat) : T1.nv x = T2.nv x := by unfold Tab.nv; rw [h.dict]
/-- One step: an append, or a set. -/
def Tab.capStep (T : Tab) (k : Int) (x : Nat) : Tab := if k = 0 then { T with arr := some (appendTo (T.arr.getD []) (lnum x)) } else T.setKey k (lnum x)
theorem Same.step {T1 T2 : Tab} (h : Same T1 T2) (k : Int) (x : Nat) : Same (T1.capStep k x) (T2.capStep k x) := by
  unfold Tab.capStep
  split
  · exact ⟨by show appendTo _ _ = appendTo _ _; rw [h.arr], h.dict⟩
  · unfold Tab.setKey
    split
    · exact ⟨by show setAt _ _ _ = setAt _ _ _; rw [h.arr], h.dict⟩
    · refine ⟨by rw [(setNum_frame2 _ _ _).2.1, (setNum_frame2 _ _ _).2.1, h.arr], ?_⟩
      rw [setNum_dict, setNum_dict, h.dict]
theorem CapOk.step {T : Tab} {n : Nat} (h : CapOk T n) (k : Int) (hk : k ≤ 65536) (x : Nat) : CapOk (T.capStep k x) (n + 1) := by
  unfold Tab.capStep
  split
  · obtain ⟨h1, h2⟩ := appendTo_num h.num x
    exact ⟨h.index, Nat.le_succ_of_le h.keys, by have := h.alen; show (appendTo _ _).length ≤ _; omega, h1, h.dict⟩
  · unfold Tab.setKey
    split
    · rename_i hi
      unfold InArr at hi
      refine ⟨h.index, Nat.le_succ_of_le h.keys, ?_, ?_, h.dict⟩
      · show (setAt _ _ _).length ≤ _
        rw [setAt_length]
        have := h.alen
        omega
      · intro u hu
        change u ∈ setAt _ _ _ at hu
        unfold setAt at hu
        split at hu
        · rcases List.mem_or_eq_of_mem_set hu with q | rfl
          · exact h.num u q
          · exact .inr ⟨x, rfl⟩
        · rcases List.mem_append.1 hu with hu | hu
          · rcases List.mem_append.1 hu with hu | hu
            · exact h.num u hu
            · rw [List.eq_of_mem_replicate hu]; exact .inl rfl
          · rw [List.mem_singleton.1 hu]; exact .inr ⟨x, rfl⟩
    · have hf := (setNum_frame2 T (fofInt k) (lnum x)).2.1
      obtain ⟨r1, r2, r3⟩ := ready_keys { T with dict := some (mget T.dict) } n h.index h.keys
      have hk : (T.setNum (fofInt k) (lnum x)).k2i ≠ none ∧ ((T.setNum (fofInt k) (lnum x)).keys.getD []).length ≤ n + 1 := by
        unfold Tab.setNum
        simp only
        split
        · exact ⟨r2, Nat.le_succ_of_le r3⟩
        · exact noteKey_keys _ _ _ r2 r3
      refine ⟨fun _ => hk.1, hk.2, by rw [hf]; have := h.alen; omega, by rw [hf]; exact h.num, fun y => ?_⟩
      rw [nv_setNum _ _ (.inr ⟨_, _, rfl, by decide⟩)]
      split
      · exact .inr ⟨x, rfl⟩
      · exact h.dict y

/-! ### the small functions -/
section
variable {w : World} {t : Nat} {T : Tab} {F : Nat → Prop}
theorem capNew_any (w : World) (a h : Int) (ha : a ≤ 65536) (hh : h ≤ 65536) : Calls Try.prog 38 #[.int .i64 a, .int .i64 h] w (Fresh w a h) := by
  have C := Lib.hid (newLTable_any w a h ha hh)
  go_enter Try.func38, Try.ntmps38
  go_wp2_with (go_at_call 63; refine C.out.mono ?_; intro e w1 hf; obtain ⟨he, hq⟩ := hf; subst he; have HQ := Lib.hid hq; clear hq)
  go_ret
  exact ⟨rfl, HQ.out⟩
theorem capAppend_any (h : TabAt w t T F) {n : Nat} (ho : CapOk T n) (hn : n ≤ 1000000) (x : Nat) : Calls Try.prog 39 #[.pointer (some ⟨t, 0, none⟩), .float .f64 x] w (UpdTo F w t (T.capStep 0 x)) := by
  have C := Lib.hid (append_any w t T F h ho.lv (by have := ho.alen; omega) 65 (.float .f64 x) (by decide))
  clear h
  go_enter Try.func39, Try.ntmps39
  go_wp2_with (go_at_call 64; refine C.out.mono ?_; rintro e w1 ⟨rfl, hq⟩)
  go_end0
  exact ⟨rfl, hq⟩
theorem capSet_any (h : TabAt w t T F) {n : Nat} (ho : CapOk T n) (hn : n ≤ 1000000) (k : Int) (hk : k ≠ 0) (x : Nat) : Calls Try.prog 40 #[.pointer (some ⟨t, 0, none⟩), .int .i64 k, .float .f64 x] w (UpdTo F w t (T.capStep k x)) := by
  have C : Calls Try.prog 65 #[.pointer (some ⟨t, 0, none⟩), .int .i64 k, lnum x] w (UpdTo F w t (T.capStep k x)) := by
    unfold Tab.capStep
    rw [if_neg hk]
    unfold Tab.setKey
    by_cases hi : InArr k
    · rw [if_pos hi]
      exact rawSetInt_arr w t T F h k hi.1 hi.2 (by have := ho.alen; omega) _ _
    · rw [if_neg hi]
      exact rawSetInt_hash w t T F h (ho.wf hn) k (by unfold InArr at hi; omega) _ (.inr ⟨_, _, rfl, by decide⟩)
  have C := Lib.hid C
  clear h
  go_enter Try.func40, Try.ntmps40
  go_wp2_with (go_at_call 65; refine C.out.mono ?_; rintro e w1 ⟨rfl, hq⟩)
  go_end0
  exact ⟨rfl, hq⟩
/-- What a slot's reading answers: a number and yes, or 0 and no. -/
def rdN (v : Value) : Value × Value := match v with
  | .iface _ (.float .f64 x) => (.float .f64 x, .bool true)
  | _ => (.float .f64 0, .bool false)
theorem rdN_form {v : Value} (h : NumOk v) : ∃ x b, rdN v = (.float .f64 x, .bool b) := by
  rcases h with rfl | ⟨x, rfl⟩
  · exact ⟨_, _, rfl⟩
  · exact ⟨_, _, rfl⟩
theorem capGet_any (h : TabAt w t T F) {n : Nat} (ho : CapOk T n) (k : Int) (hk : Is64 k) : Calls Try.prog 42 #[.pointer (some ⟨t, 0, none⟩), .int .i64 k] w fun e w' => e = .returned (.tuple #[(rdN (getAt (T.arr.getD []) k)).1, (rdN (getAt (T.arr.getD []) k)).2]) ∧ w = w' := by
  have C := Lib.hid (rawGetInt_any w t T F h k hk)
  have hv : NumOk (getAt (T.arr.getD []) k) := by
    unfold getAt
    split
    · cases hx : (T.arr.getD [])[k.toNat - 1]? with
      | none => exact .inl rfl
      | some u => exact ho.num u (List.mem_of_getElem? hx)
    · exact .inl rfl
  generalize getAt (T.arr.getD []) k = v at hv C
  clear h
  rcases hv with rfl | ⟨x, rfl⟩
  all_goals
    go_enter Try.func42, Try.ntmps42
    go_wp2_with (go_at_call 56; refine C.out.mono ?_; rintro e w1 ⟨rfl, rfl⟩)
    go_ret2
    exact ⟨rfl, rfl⟩
theorem capGetH_any (h : TabAt w t T F) {n : Nat} (ho : CapOk T n) (k : Int) : Calls Try.prog 44 #[.pointer (some ⟨t, 0, none⟩), .int .i64 k] w fun e w' => e = .returned (.tuple #[(rdN (T.nv (fofInt k))).1, (rdN (T.nv (fofInt k))).2]) ∧ w = w' := by
  have C := rawGetH_num w t T F h (fofInt k)
  have hv := ho.dict (fofInt k)
  change Calls _ _ _ _ fun e w' => e = .returned (T.nv (fofInt k)) ∧ w = w' at C
  have C := Lib.hid C
  generalize T.nv (fofInt k) = v at hv C
  clear h
  rcases hv with rfl | ⟨x, rfl⟩
  all_goals
    go_enter Try.func44, Try.ntmps44
    go_wp2_with (go_at_call 66; refine C.out.mono ?_; rintro e w1 ⟨rfl, rfl⟩)
    go_ret2
    exact ⟨rfl, rfl⟩
theorem capLen_any (h : TabAt w t T F) : Calls Try.prog 41 #[.pointer (some ⟨t, 0, none⟩)] w fun e w' => e = .returned (.int .i64 (T.arr.getD []).length) ∧ w = w' := by
  obtain ⟨va, vd, vs, vk, vi, hT⟩ := h
  have c1 := hT.cells.2.1
  have hsl := hT.arr
  cases hx : T.arr with
  | none =>
    rw [hx] at hsl
    obtain rfl : va = .slice none 0 0 := hsl
    clear hT hx
    go_enter Try.func41, Try.ntmps41
    go_wp2
    go_ret
    exact ⟨rfl, rfl⟩
  | some xs =>
    rw [hx] at hsl
    obtain ⟨g, cap, rfl, -⟩ := hsl.cell
    clear hT hx hsl
    go_enter Try.func41, Try.ntmps41
    go_wp2
    go_ret
    exact ⟨rfl, rfl⟩
end
theorem read_zero {x : Nat} (h : feq x 0 = true) : ∃ sg, Ieee.double.read x = .number sg 0 (-1074) := by
  have hk : fkey x = some 0 := by
    obtain ⟨a, h1, h2⟩ := (feq_iff x 0).1 h
    rw [h1, ← h2]; rfl
  unfold fkey at hk
  unfold Ieee.Format.read at hk ⊢
  simp only [leastPlace_double, binade_double, infRung_double, signWeight_double] at hk ⊢
  generalize (x / 2 ^ 63 % 2 == 1) = sg at *
  have hbp := big_pos
  split at hk
  · rename_i h1
    rw [if_pos h1]
    simp only [dkey, signed_eq, Option.some.injEq] at hk
    have e0 : ((-1074 : Int) + 1074).toNat = 0 := by decide
    rw [e0, pw0, Nat.mul_one] at hk
    have hm : x % 2 ^ 63 = 0 := by
      generalize x % 2 ^ 63 = m at *
      cases sg <;> simp at hk <;> omega
    rw [hm]
    exact ⟨sg, rfl⟩
  · split at hk
    · simp only [dkey, signed_eq, Option.some.injEq] at hk
      exfalso
      generalize hP : pw _ = P at hk
      have hp : 0 < P := hP ▸ pw_pos _
      have : 0 < (2 ^ 52 + x % 2 ^ 63 % 2 ^ 52) * P := Nat.mul_pos (by omega) hp
      generalize (2 ^ 52 + x % 2 ^ 63 % 2 ^ 52) * P = M at *
      cases sg <;> simp at hk <;> omega
    · split at hk
      · simp only [dkey, Option.some.injEq] at hk
        exfalso
        generalize big = B at *
        cases sg <;> simp at hk <;> omega
      · cases hk
theorem inv_zero {x : Nat} (h : feq x 0 = true) : ∃ r, floatBits .quo .f64 4607182418800017408 x = some r := by
  obtain ⟨sg, hr⟩ := read_zero h
  show ∃ r, Ieee.double.div 4607182418800017408 x = some r
  unfold Ieee.Format.div
  rw [hr]
  cases sg
  · exact ⟨_, rfl⟩
  · exact ⟨_, rfl⟩
theorem sameF_yes (w : World) (x : Nat) : Calls Try.prog 43 #[.float .f64 x, .float .f64 x] w fun e w' => e = .returned (.bool true) ∧ w = w' := by
  by_cases hz : feq x 0 = true
  · obtain ⟨r, hr⟩ := inv_zero hz
    have hq : ∀ t W, (binOp .quo t (.float .f64 4607182418800017408) (.float .f64 x)).run Try.prog W = .ok (.float .f64 r) W := fun t W => run_float_arith W .quo t .f64 _ _ r hr
    clear hz hr
    go_enter Try.func43, Try.ntmps43
    go_wp2_with (simp only [hq])
    all_goals
      go_ret
      exact ⟨by simp [*], rfl⟩
  · rw [← order_eq, Bool.not_eq_true] at hz
    go_enter Try.func43, Try.ntmps43
    go_wp2
    all_goals
      go_ret
      exact ⟨by simp [*], rfl⟩
theorem capCloneI_info : (Try.prog.info? 3).map (fun i => (i.zero, i.size, decide (i.bytes ≤ 64))) = some (some (.int .i64 0), 1, true) := by kernel_rfl
theorem capCloneI_made (n : Nat) (h1 : n ≤ 4398046511104) (w : World) : (Instr.makeSlice 23 (.int .i64 n) (.int .i64 n)).run Try.prog w = .ok (.slice (some ⟨w.heap.size, 0, none⟩) n n) (w.alloc (.cells (madeCells #[.int .i64 0] n) 3)) := by
  obtain ⟨i, hi, hz, hs, hby⟩ : ∃ i, Try.prog.info? 3 = some i ∧ i.zero = some (.int .i64 0) ∧ i.size = 1 ∧ i.bytes ≤ 64 := by simpa using capCloneI_info
  have hb : (i.bytes : Int) * n ≤ 281474976710656 := by
    have : (i.bytes : Int) * n ≤ 64 * n := Int.mul_le_mul_of_nonneg_right (by omega) (by omega)
    omega
  have := run_make (P := Try.prog) w 23 3 i (.int .i64 0) Try.underlying23 hi hz .i64 .i64 n n (by omega) (Int.le_refl _) hb (by omega)
  rw [hs, Nat.mul_one] at this
  exact this

@[go_sem] theorem capCloneI_eqnil (a : Option Addr) (n c : Nat) (w : World) : (binOp .eql 23 (.slice a n c) (.slice none 0 0)).run Try.prog w = .ok (.bool a.isNone) w := Lib.run_eql_slice_nil w _ _ _ _ _ _ _ Try.underlying23

set_option maxHeartbeats 400000 in
theorem capCloneI_any (w : World) (v : Value) (xs : List Value) (h : IsSl w v xs) (hl : xs.length ≤ 1048576) (hone : ∀ u ∈ xs, ∃ y, u = .int .i64 y) :
    Calls Try.prog 36 #[v] w (Cloned w xs) := by
  obtain ⟨p, c, rfl, k, m, hn, g⟩ := h.form
  unfold maxLen at m
  cases p with
  | none =>
    obtain ⟨rfl, rfl⟩ := hn rfl
    go_enter Try.func36, Try.ntmps36
    go_wp2
    go_ret
    exact ⟨_, rfl, .inl ⟨rfl, rfl⟩, Upd.refl _ _⟩
  | some a =>
    have hm := capCloneI_made xs.length (by omega)
    have G := Lib.hid g
    have O := Lib.hid hone
    have hlt : ∀ j u, xs[j]? = some u → a.block < w.heap.size := fun j u hu => by
      obtain ⟨a', e, hc⟩ := g j u hu
      cases e
      have hb : (a.add j).block = a.block := by unfold Addr.add; split <;> rfl
      rw [← hb]
      exact World.block_lt_of_cell? w _ hc
    have L := Lib.hid hlt
    have hx3 : xs.length ≤ maxLen := by unfold maxLen; omega
    clear h hn g hone hlt
    go_enter Try.func36, Try.ntmps36
    go_wp2_with (simp only [hm])
    go_loopw [4] (CloneW w w.heap.size 3 xs (.int .i64 0)) (fun i _ => (xs.length - intOf i).toNat)
    case atStart => exact ⟨0, Nat.zero_le _, rfl, by rw [partly_zero]; exact RowAt.new w _ _ _, (Upd.refl _ w).alloc _⟩
    case round =>
      clear hm
      obtain ⟨j, hj, rfl, hr, hu⟩ := hrel
      by_cases hlt : (j : Int) < xs.length
      · obtain ⟨u, hu1⟩ : ∃ u, xs[j]? = some u := ⟨xs[j]'(by omega), by simp⟩
        obtain ⟨a', ea, hc⟩ := G.out j u hu1
        cases ea
        have hab := L.out j u hu1
        have hc2 : wr.cell? (a.add j) = some u := by
          have hb : (a.add j).block = a.block := by unfold Addr.add; split <;> rfl
          rw [← hc]
          unfold World.cell?
          rw [hb, hu.block a.block hab (fun h => h)]
        have hr1 := hr.cell (partly_at (.int .i64 0) (show j < xs.length by omega))
        have hr2 := hr.thaw j
        obtain ⟨y, rfl⟩ := O.out u (List.mem_of_getElem? hu1)
        have HU := Lib.hid hu1
        have HR := Lib.hid hr
        have Hu := Lib.hid hu
        have hne : a.block ≠ w.heap.size := by omega
        clear hu1 hr hu hc
        go_wp2_with fail
        go_roundw
        case rel => exact ⟨j + 1, by omega, by go_num, by rw [← partly_set _ HU.out]; exact HR.out.set j _, Hu.out.setCell (.inr (Nat.le_refl _)) _⟩
        case measure => simp [intOf]; omega
      · have hje : j = xs.length := by omega
        subst hje
        rw [partly_full] at hr
        have HR := Lib.hid (hr.isSl rfl hx3)
        have Hu := Lib.hid hu
        clear hr hu
        go_wp2
        go_ret
        exact ⟨_, rfl, HR.out, Hu.out⟩


theorem capCloneF_info : (Try.prog.info? 36).map (fun i => (i.zero, i.size, decide (i.bytes ≤ 64))) = some (some (.float .f64 0), 1, true) := by kernel_rfl
theorem capCloneF_made (n : Nat) (h1 : n ≤ 4398046511104) (w : World) : (Instr.makeSlice 43 (.int .i64 n) (.int .i64 n)).run Try.prog w = .ok (.slice (some ⟨w.heap.size, 0, none⟩) n n) (w.alloc (.cells (madeCells #[.float .f64 0] n) 36)) := by
  obtain ⟨i, hi, hz, hs, hby⟩ : ∃ i, Try.prog.info? 36 = some i ∧ i.zero = some (.float .f64 0) ∧ i.size = 1 ∧ i.bytes ≤ 64 := by simpa using capCloneF_info
  have hb : (i.bytes : Int) * n ≤ 281474976710656 := by
    have : (i.bytes : Int) * n ≤ 64 * n := Int.mul_le_mul_of_nonneg_right (by omega) (by omega)
    omega
  have := run_make (P := Try.prog) w 43 36 i (.float .f64 0) Try.underlying43 hi hz .i64 .i64 n n (by omega) (Int.le_refl _) hb (by omega)
  rw [hs, Nat.mul_one] at this
  exact this

@[go_sem] theorem capCloneF_eqnil (a : Option Addr) (n c : Nat) (w : World) : (binOp .eql 43 (.slice a n c) (.slice none 0 0)).run Try.prog w = .ok (.bool a.isNone) w := Lib.run_eql_slice_nil w _ _ _ _ _ _ _ Try.underlying43

set_option maxHeartbeats 400000 in
theorem capCloneF_any (w : World) (v : Value) (xs : List Value) (h : IsSl w v xs) (hl : xs.length ≤ 1048576) (hone : ∀ u ∈ xs, ∃ y, u = .float .f64 y) :
    Calls Try.prog 37 #[v] w (Cloned w xs) := by
  obtain ⟨p, c, rfl, k, m, hn, g⟩ := h.form
  unfold maxLen at m
  cases p with
  | none =>
    obtain ⟨rfl, rfl⟩ := hn rfl
    go_enter Try.func37, Try.ntmps37
    go_wp2
    go_ret
    exact ⟨_, rfl, .inl ⟨rfl, rfl⟩, Upd.refl _ _⟩
  | some a =>
    have hm := capCloneF_made xs.length (by omega)
    have G := Lib.hid g
    have O := Lib.hid hone
    have hlt : ∀ j u, xs[j]? = some u → a.block < w.heap.size := fun j u hu => by
      obtain ⟨a', e, hc⟩ := g j u hu
      cases e
      have hb : (a.add j).block = a.block := by unfold Addr.add; split <;> rfl
      rw [← hb]
      exact World.block_lt_of_cell? w _ hc
    have L := Lib.hid hlt
    have hx3 : xs.length ≤ maxLen := by unfold maxLen; omega
    clear h hn g hone hlt
    go_enter Try.func37, Try.ntmps37
    go_wp2_with (simp only [hm])
    go_loopw [4] (CloneW w w.heap.size 36 xs (.float .f64 0)) (fun i _ => (xs.length - intOf i).toNat)
    case atStart => exact ⟨0, Nat.zero_le _, rfl, by rw [partly_zero]; exact RowAt.new w _ _ _, (Upd.refl _ w).alloc _⟩
    case round =>
      clear hm
      obtain ⟨j, hj, rfl, hr, hu⟩ := hrel
      by_cases hlt : (j : Int) < xs.length
      · obtain ⟨u, hu1⟩ : ∃ u, xs[j]? = some u := ⟨xs[j]'(by omega), by simp⟩
        obtain ⟨a', ea, hc⟩ := G.out j u hu1
        cases ea
        have hab := L.out j u hu1
        have hc2 : wr.cell? (a.add j) = some u := by
          have hb : (a.add j).block = a.block := by unfold Addr.add; split <;> rfl
          rw [← hc]
          unfold World.cell?
          rw [hb, hu.block a.block hab (fun h => h)]
        have hr1 := hr.cell (partly_at (.float .f64 0) (show j < xs.length by omega))
        have hr2 := hr.thaw j
        obtain ⟨y, rfl⟩ := O.out u (List.mem_of_getElem? hu1)
        have HU := Lib.hid hu1
        have HR := Lib.hid hr
        have Hu := Lib.hid hu
        have hne : a.block ≠ w.heap.size := by omega
        clear hu1 hr hu hc
        go_wp2_with fail
        go_roundw
        case rel => exact ⟨j + 1, by omega, by go_num, by rw [← partly_set _ HU.out]; exact HR.out.set j _, Hu.out.setCell (.inr (Nat.le_refl _)) _⟩
        case measure => simp [intOf]; omega
      · have hje : j = xs.length := by omega
        subst hje
        rw [partly_full] at hr
        have HR := Lib.hid (hr.isSl rfl hx3)
        have Hu := Lib.hid hu
        clear hr hu
        go_wp2
        go_ret
        exact ⟨_, rfl, HR.out, Hu.out⟩

end Go.Lua
