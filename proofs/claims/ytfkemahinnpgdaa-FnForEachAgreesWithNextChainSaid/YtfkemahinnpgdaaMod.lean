/-
  n005_23: the statements' model in memory (five slices of a struct), and the functions that read it.
-/
import Derived.Test.YtfkemahinnpgdaaRel
import Derived.Test.YtfkemahinnpgdaaBase
import Derived.Test.YtfkemahinnpgdaaApp1
namespace Go.Lua
open Go.Proofs Go.RowKit Go.Deep
set_option linter.unusedVariables false

/-- The five slices hold these lists. -/
structure MV (w : World) (A S N T V : List Value) (va vs vn vt vv : Value) : Prop where
  a : SlE 2 w va A
  s : SlE 4 w vs S
  n : SlE 3 w vn N
  t : SlE 9 w vt T
  v : SlE 2 w vv V
def strsOf (hs : List HEnt) : List Value := hs.map fun e => .bool e.str
def numsOf (hs : List HEnt) : List Value := hs.map fun e => .int .i64 e.n
def txtsOf (hs : List HEnt) : List Value := hs.map fun e => .string e.s
def valsOf (hs : List HEnt) : List Value := hs.map fun e => .int .i64 e.v
def arrOf (A : List Int) : List Value := A.map (Value.int .i64)
theorem strsOf_length (hs : List HEnt) : (strsOf hs).length = hs.length := List.length_map ..
theorem numsOf_length (hs : List HEnt) : (numsOf hs).length = hs.length := List.length_map ..
theorem txtsOf_length (hs : List HEnt) : (txtsOf hs).length = hs.length := List.length_map ..
theorem valsOf_length (hs : List HEnt) : (valsOf hs).length = hs.length := List.length_map ..
theorem arrOf_length (A : List Int) : (arrOf A).length = A.length := List.length_map ..
section
variable {hs : List HEnt} {j : Nat} {e : HEnt} (h : hs[j]? = some e)
include h
theorem strsOf_at : (strsOf hs)[j]? = some (.bool e.str) := by unfold strsOf; rw [List.getElem?_map, h]; rfl
theorem numsOf_at : (numsOf hs)[j]? = some (.int .i64 e.n) := by unfold numsOf; rw [List.getElem?_map, h]; rfl
theorem txtsOf_at : (txtsOf hs)[j]? = some (.string e.s) := by unfold txtsOf; rw [List.getElem?_map, h]; rfl
theorem valsOf_at : (valsOf hs)[j]? = some (.int .i64 e.v) := by unfold valsOf; rw [List.getElem?_map, h]; rfl
theorem keysOf_at : (keysOf hs)[j]? = some e.key := by unfold keysOf; rw [List.getElem?_map, h]; rfl
end
/-- The model, whole. -/
def MM (w : World) (m : Mod) (va vs vn vt vv : Value) : Prop := MV w (arrOf m.arr) (strsOf m.hs) (numsOf m.hs) (txtsOf m.hs) (valsOf m.hs) va vs vn vt vv
theorem MV.other {w w' : World} {A S N T V : List Value} {va vs vn vt vv : Value} (h : MV w A S N T V va vs vn vt vv) (u : Upd (fun _ => False) w w') : MV w' A S N T V va vs vn vt vv :=
  ⟨h.a.kept fun b hb => u.block b (h.a.lt hb) fun h => h, h.s.kept fun b hb => u.block b (h.s.lt hb) fun h => h, h.n.kept fun b hb => u.block b (h.n.lt hb) fun h => h, h.t.kept fun b hb => u.block b (h.t.lt hb) fun h => h, h.v.kept fun b hb => u.block b (h.v.lt hb) fun h => h⟩

def fidx : Option Nat → Int
  | some j => j
  | none => -1
def NoneTo (hs : List HEnt) (q : Value) (j : Nat) : Prop := ∀ k ∈ (keysOf hs).take j, lkEq q k = false
theorem NoneTo.zero (hs : List HEnt) (q : Value) : NoneTo hs q 0 := by unfold NoneTo; simp
theorem NoneTo.next {hs : List HEnt} {q : Value} {j : Nat} {e : HEnt} (h : NoneTo hs q j) (he : hs[j]? = some e) (hn : lkEq q e.key = false) : NoneTo hs q (j + 1) := by
  intro x hx
  obtain ⟨hj, hk⟩ := List.getElem?_eq_some_iff.1 (keysOf_at he)
  rw [List.take_succ_eq_append_getElem hj] at hx
  rcases List.mem_append.1 hx with hx | hx
  · exact h x hx
  · rw [List.mem_singleton.1 hx, hk]; exact hn
theorem NoneTo.hit {hs : List HEnt} {q : Value} {j : Nat} {e : HEnt} (h : NoneTo hs q j) (he : hs[j]? = some e) (hn : lkEq q e.key = true) : findL (keysOf hs) q = some j := by
  obtain ⟨hj, hk⟩ := List.getElem?_eq_some_iff.1 (keysOf_at he)
  unfold findL
  rw [List.findIdx?_eq_some_iff_getElem]
  refine ⟨hj, by rw [hk]; exact hn, fun i hi => ?_⟩
  have := h (keysOf hs)[i] (List.mem_take_iff_getElem.2 ⟨i, by omega, rfl⟩)
  rw [this]; simp
theorem NoneTo.full {hs : List HEnt} {q : Value} (h : NoneTo hs q hs.length) : findL (keysOf hs) q = none := by
  unfold findL
  rw [List.findIdx?_eq_none_iff]
  intro k hk
  have := h k (by rw [← keysOf_length, List.take_length]; exact hk)
  simpa using this
theorem key_str {e : HEnt} (h : e.str = true) : e.key = lstr e.s := if_pos h
theorem key_num {e : HEnt} (h : e.str = false) : e.key = lnum (fofInt e.n) := if_neg (by rw [h]; simp)

/-- It answers v; new blocks may have been laid. -/
def Gives (w : World) (v : Value) (e : Ending) (w' : World) : Prop := e = .returned v ∧ Upd (fun _ => False) w w'

theorem isArr_any (w : World) (n : Int) : Calls Try.prog 32 #[.int .i64 n] w fun e w' => e = .returned (.bool (decide (InArr n))) ∧ w = w' := by
  by_cases hi : InArr n
  · rw [decide_eq_true hi]
    obtain ⟨h1, h2⟩ := hi
    have d1 : decide (n < 1) = false := decide_eq_false (by omega)
    go_enter Try.func32, Try.ntmps32
    go_wp2
    go_ret
    exact ⟨by simp [*], rfl⟩
  · rw [decide_eq_false hi]
    unfold InArr at hi
    by_cases h1 : 1 ≤ n
    · have h2 : ¬ n < 67108864 := fun h => hi ⟨h1, h⟩
      clear hi
      go_enter Try.func32, Try.ntmps32
      go_wp2
      go_ret
      exact ⟨by simp [*], rfl⟩
    · clear hi
      go_enter Try.func32, Try.ntmps32
      go_wp2
      go_ret
      exact ⟨rfl, rfl⟩
theorem numIs_str (w : World) (s : ByteArray) (y : Nat) : Calls Try.prog 15 #[lstr s, .float .f64 y] w fun e w' => e = .returned (.bool false) ∧ w = w' := by
  go_enter Try.func15, Try.ntmps15
  go_wp2
  go_ret
  exact ⟨rfl, rfl⟩
theorem strIs_str (w : World) (s u : ByteArray) : Calls Try.prog 41 #[lstr s, .string u] w fun e w' => e = .returned (.bool (s == u)) ∧ w = w' := by
  go_enter Try.func41, Try.ntmps41
  go_wp2
  go_ret
  exact ⟨rfl, rfl⟩
theorem strIs_num (w : World) (x : Nat) (u : ByteArray) : Calls Try.prog 41 #[lnum x, .string u] w fun e w' => e = .returned (.bool false) ∧ w = w' := by
  go_enter Try.func41, Try.ntmps41
  go_wp2
  go_ret
  exact ⟨rfl, rfl⟩

theorem box_upd (w : World) (o : Obj) : Upd (fun _ => False) w (w.alloc o) := (Upd.refl _ w).alloc o
set_option maxHeartbeats 1000000 in
theorem findStr_any (w : World) (m : Mod) (va vs vn vt vv : Value) (h : MM w m va vs vn vt vv) (q : ByteArray) :
    Calls Try.prog 33 #[.agg #[va, vs, vn, vt, vv], .string q] w (Gives w (.int .i64 (fidx (findL (keysOf m.hs) (lstr q))))) := by
  obtain ⟨ps, cs, rfl, -, -, gs⟩ := h.s.form
  obtain ⟨pn, cn, rfl, -, -, -⟩ := h.n.form
  obtain ⟨pt, ct, rfl, -, -, gt⟩ := h.t.form
  obtain ⟨pv, cv, rfl, hvl, hvm, -⟩ := h.v.form
  obtain ⟨pa, ca, rfl, -, -, -⟩ := h.a.form
  rw [valsOf_length] at *
  rw [strsOf_length, txtsOf_length, numsOf_length, arrOf_length]
  unfold maxLen at hvm
  have hxl : (m.hs.length : Int) ≤ 9223372036854775807 := by omega
  have GS := Lib.hid gs
  have GT := Lib.hid gt
  clear h gs gt hvl hvm
  go_enter Try.func33, Try.ntmps33
  go_wp2_with fail
  go_loop [5] (fun i => ∃ j : Nat, j ≤ m.hs.length ∧ i = .int .i64 j ∧ Hid (NoneTo m.hs (lstr q) j)) (fun i => m.hs.length - (intOf i).toNat)
  case atStart => exact ⟨0, Nat.zero_le _, rfl, Lib.hid (NoneTo.zero _ _)⟩
  case round =>
    obtain ⟨j, hj, rfl, hN⟩ := hrel
    by_cases hlt : (j : Int) < m.hs.length
    · obtain ⟨e, he⟩ : ∃ e, m.hs[j]? = some e := ⟨m.hs[j]'(by omega), by simp⟩
      obtain ⟨g1, rfl, -, c1, -⟩ := GS.out j _ (strsOf_at he)
      obtain ⟨g2, rfl, -, c2, -⟩ := GT.out j _ (txtsOf_at he)
      have d1 := old_at (box_upd w (.cells #[.slice pa m.arr.length ca, .slice (some ⟨g1, 0, none⟩) m.hs.length cs, .slice pn m.hs.length cn, .slice (some ⟨g2, 0, none⟩) m.hs.length ct, .slice pv m.hs.length cv] 30)) c1
      have d2 := old_at (box_upd w (.cells #[.slice pa m.arr.length ca, .slice (some ⟨g1, 0, none⟩) m.hs.length cs, .slice pn m.hs.length cn, .slice (some ⟨g2, 0, none⟩) m.hs.length ct, .slice pv m.hs.length cv] 30)) c2
      have HE := Lib.hid he
      clear c1 c2 he
      cases hst : e.str
      · rw [hst] at d1
        have HN := Lib.hid (hN.out.next HE.out (by rw [key_num hst]; rfl))
        go_wp2_with fail
        go_round
        case rel => exact ⟨j + 1, by omega, by go_num, HN⟩
        case measure => simp [intOf]; omega
      · rw [hst] at d1
        have hk : lkEq (lstr q) e.key = (q == e.s) := by rw [key_str hst, lkEq_str]
        rw [bytes_comm, bytes_list] at hk
        by_cases hq : (e.s.toList == q.toList) = true
        · have HH := Lib.hid (hN.out.hit HE.out (hk.trans hq))
          clear hk
          go_wp2_with fail
          go_ret
          exact ⟨by rw [HH.out]; rfl, box_upd _ _⟩
        · rw [Bool.not_eq_true] at hq
          have HN := Lib.hid (hN.out.next HE.out (hk.trans hq))
          clear hk
          go_wp2_with fail
          go_round
          case rel => exact ⟨j + 1, by omega, by go_num, HN⟩
          case measure => simp [intOf]; omega
    · obtain rfl : j = m.hs.length := by omega
      have HH := Lib.hid hN.out.full
      go_wp2_with fail
      go_ret
      exact ⟨by rw [HH.out]; rfl, box_upd _ _⟩
set_option maxHeartbeats 1000000 in
theorem findNum_any (w : World) (m : Mod) (va vs vn vt vv : Value) (h : MM w m va vs vn vt vv) (q : Int) :
    Calls Try.prog 34 #[.agg #[va, vs, vn, vt, vv], .int .i64 q] w (Gives w (.int .i64 (fidx (findL (keysOf m.hs) (lnum (fofInt q)))))) := by
  obtain ⟨ps, cs, rfl, -, -, gs⟩ := h.s.form
  obtain ⟨pn, cn, rfl, -, -, gn⟩ := h.n.form
  obtain ⟨pt, ct, rfl, -, -, -⟩ := h.t.form
  obtain ⟨pv, cv, rfl, hvl, hvm, -⟩ := h.v.form
  obtain ⟨pa, ca, rfl, -, -, -⟩ := h.a.form
  rw [valsOf_length] at *
  rw [strsOf_length, txtsOf_length, numsOf_length, arrOf_length]
  unfold maxLen at hvm
  have hxl : (m.hs.length : Int) ≤ 9223372036854775807 := by omega
  have GS := Lib.hid gs
  have GN := Lib.hid gn
  clear h gs gn hvl hvm
  go_enter Try.func34, Try.ntmps34
  go_wp2_with fail
  go_loop [5] (fun i => ∃ j : Nat, j ≤ m.hs.length ∧ i = .int .i64 j ∧ Hid (NoneTo m.hs (lnum (fofInt q)) j)) (fun i => m.hs.length - (intOf i).toNat)
  case atStart => exact ⟨0, Nat.zero_le _, rfl, Lib.hid (NoneTo.zero _ _)⟩
  case round =>
    obtain ⟨j, hj, rfl, hN⟩ := hrel
    by_cases hlt : (j : Int) < m.hs.length
    · obtain ⟨e, he⟩ : ∃ e, m.hs[j]? = some e := ⟨m.hs[j]'(by omega), by simp⟩
      obtain ⟨g1, rfl, -, c1, -⟩ := GS.out j _ (strsOf_at he)
      obtain ⟨g2, rfl, -, c2, -⟩ := GN.out j _ (numsOf_at he)
      have d1 := old_at (box_upd w (.cells #[.slice pa m.arr.length ca, .slice (some ⟨g1, 0, none⟩) m.hs.length cs, .slice (some ⟨g2, 0, none⟩) m.hs.length cn, .slice pt m.hs.length ct, .slice pv m.hs.length cv] 30)) c1
      have d2 := old_at (box_upd w (.cells #[.slice pa m.arr.length ca, .slice (some ⟨g1, 0, none⟩) m.hs.length cs, .slice (some ⟨g2, 0, none⟩) m.hs.length cn, .slice pt m.hs.length ct, .slice pv m.hs.length cv] 30)) c2
      have HE := Lib.hid he
      clear c1 c2 he
      cases hst : e.str
      · rw [hst] at d1
        have hk : lkEq (lnum (fofInt q)) e.key = feq (fofInt e.n) (fofInt q) := by rw [key_num hst, lkEq_num, feq_symm]
        rw [← order_eq] at hk
        by_cases hq : (FloatKind.f64.format.order (fofInt e.n) (fofInt q) == some .eq) = true
        · have HH := Lib.hid (hN.out.hit HE.out (hk.trans hq))
          have hq : (FloatKind.f64.format.order (floatOfInt .f64 e.n) (floatOfInt .f64 q) == some .eq) = true := hq
          clear hk
          go_wp2_with fail
          go_ret
          exact ⟨by rw [HH.out]; rfl, box_upd _ _⟩
        · rw [Bool.not_eq_true] at hq
          have HN := Lib.hid (hN.out.next HE.out (hk.trans hq))
          have hq : (FloatKind.f64.format.order (floatOfInt .f64 e.n) (floatOfInt .f64 q) == some .eq) = false := hq
          clear hk
          go_wp2_with fail
          go_round
          case rel => exact ⟨j + 1, by omega, by go_num, HN⟩
          case measure => simp [intOf]; omega
      · rw [hst] at d1
        have HN := Lib.hid (hN.out.next HE.out (by rw [key_str hst]; rfl))
        go_wp2_with fail
        go_round
        case rel => exact ⟨j + 1, by omega, by go_num, HN⟩
        case measure => simp [intOf]; omega
    · obtain rfl : j = m.hs.length := by omega
      have HH := Lib.hid hN.out.full
      go_wp2_with fail
      go_ret
      exact ⟨by rw [HH.out]; rfl, box_upd _ _⟩

/-- Is (k, number y) the entry e? -/
def entIs (e : HEnt) (k : Value) (y : Nat) : Bool := lkEq k e.key && feq y (fofInt e.v)
set_option maxHeartbeats 2000000 in
theorem hashIs_any (w : World) (m : Mod) (va vs vn vt vv : Value) (h : MM w m va vs vn vt vv) (j : Nat) (e : HEnt) (he : m.hs[j]? = some e) (k : Value) (hk : IsLK k) (y : Nat) :
    Calls Try.prog 16 #[.agg #[va, vs, vn, vt, vv], .int .i64 j, k, lnum y] w (Gives w (.bool (entIs e k y))) := by
  obtain ⟨ps, cs, rfl, -, -, gs⟩ := h.s.form
  obtain ⟨pn, cn, rfl, -, -, gn⟩ := h.n.form
  obtain ⟨pt, ct, rfl, -, -, gt⟩ := h.t.form
  obtain ⟨pv, cv, rfl, hvl, hvm, gv⟩ := h.v.form
  obtain ⟨pa, ca, rfl, -, -, -⟩ := h.a.form
  have hjl : j < m.hs.length := (List.getElem?_eq_some_iff.1 he).1
  rw [valsOf_length] at *
  rw [strsOf_length, txtsOf_length, numsOf_length, arrOf_length]
  unfold maxLen at hvm
  have hxl : (m.hs.length : Int) ≤ 9223372036854775807 := by omega
  obtain ⟨g1, rfl, -, c1, -⟩ := gs j _ (strsOf_at he)
  obtain ⟨g2, rfl, -, c2, -⟩ := gn j _ (numsOf_at he)
  obtain ⟨g3, rfl, -, c3, -⟩ := gt j _ (txtsOf_at he)
  obtain ⟨g4, rfl, -, c4, -⟩ := gv j _ (valsOf_at he)
  have B : Hid (∀ {a : Addr} {u : Value}, w.cell? a = some u → (w.alloc (.cells #[.slice pa m.arr.length ca, .slice (some ⟨g1, 0, none⟩) m.hs.length cs, .slice (some ⟨g2, 0, none⟩) m.hs.length cn, .slice (some ⟨g3, 0, none⟩) m.hs.length ct, .slice (some ⟨g4, 0, none⟩) m.hs.length cv] 30)).cell? a = some u) := Lib.hid fun hc => old_at (box_upd w _) hc
  have d1 := B.out c1
  have d2 := B.out c2
  have d3 := B.out c3
  have d4 := B.out c4
  have CV : Hid (∀ W, Calls Try.prog 15 #[lnum y, .float .f64 (floatOfInt .f64 e.v)] W fun en w' => en = .returned (.bool (feq y (fofInt e.v))) ∧ W = w') := Lib.hid fun W => numIs_any W y (fofInt e.v)
  clear h gs gn gt gv c1 c2 c3 c4 hvl hvm
  cases hst : e.str
  · rw [hst] at d1
    have CK : Hid (∀ W, Calls Try.prog 15 #[k, .float .f64 (floatOfInt .f64 e.n)] W fun en w' => en = .returned (.bool (lkEq k e.key)) ∧ W = w') := by
      refine Lib.hid fun W => ?_
      rw [key_num hst]
      rcases hk with ⟨x, rfl, -⟩ | ⟨s, rfl⟩
      · rw [lkEq_num]; exact numIs_any W x (fofInt e.n)
      · exact numIs_str W s _
    unfold entIs
    generalize lkEq k e.key = bk at CK ⊢
    generalize feq y (fofInt e.v) = bv at CV ⊢
    obtain ⟨tq, xq, rfl, htq⟩ : ∃ tq xq, k = .iface tq xq ∧ True := by
      rcases hk with ⟨x, rfl, -⟩ | ⟨s, rfl⟩
      · exact ⟨_, _, rfl, trivial⟩
      · exact ⟨_, _, rfl, trivial⟩
    clear hk he hst
    cases bk
    all_goals
      go_enter Try.func16, Try.ntmps16
      go_wp2_with (go_at_call 15; first | ((with_reducible refine (CK.out _).mono ?_); rintro en w1 ⟨rfl, rfl⟩) | ((with_reducible refine (CV.out _).mono ?_); rintro en w1 ⟨rfl, rfl⟩))
      go_ret
      exact ⟨rfl, box_upd _ _⟩
  · rw [hst] at d1
    have CK : Hid (∀ W, Calls Try.prog 41 #[k, .string e.s] W fun en w' => en = .returned (.bool (lkEq k e.key)) ∧ W = w') := by
      refine Lib.hid fun W => ?_
      rw [key_str hst]
      rcases hk with ⟨x, rfl, -⟩ | ⟨s, rfl⟩
      · exact strIs_num W x _
      · rw [lkEq_str]; exact strIs_str W s _
    unfold entIs
    generalize lkEq k e.key = bk at CK ⊢
    generalize feq y (fofInt e.v) = bv at CV ⊢
    obtain ⟨tq, xq, rfl, htq⟩ : ∃ tq xq, k = .iface tq xq ∧ True := by
      rcases hk with ⟨x, rfl, -⟩ | ⟨s, rfl⟩
      · exact ⟨_, _, rfl, trivial⟩
      · exact ⟨_, _, rfl, trivial⟩
    clear hk he hst
    cases bk
    all_goals
      go_enter Try.func16, Try.ntmps16
      go_wp2_with (first
        | (go_at_call 41; refine (CK.out _).mono ?_; rintro en w1 ⟨rfl, rfl⟩)
        | (go_at_call 15; refine (CV.out _).mono ?_; rintro en w1 ⟨rfl, rfl⟩))
      go_ret
      exact ⟨rfl, box_upd _ _⟩
end Go.Lua
