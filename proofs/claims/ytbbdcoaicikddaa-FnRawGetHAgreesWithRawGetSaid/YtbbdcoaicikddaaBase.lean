/-
  n005_96: the statements' own small functions, by contract.
-/
import Derived.Test.YtbbdcoaicikddaaFlK
import Derived.Test.YtbbdcoaicikddaaRawGet
import Derived.Test.YtbbdcoaicikddaaHas
import Derived.Test.YtbbdcoaicikddaaVal
import Derived.Test.YtbbdcoaicikddaaGetInt
namespace Go.Lua
open Go.Proofs Go.RowKit
set_option linter.unusedVariables false

/-- The law's end: true, and what lay there stands. -/
def Fine (w : World) (e : Ending) (w' : World) : Prop := e = .returned (.bool true) ∧ Below w.heap.size w w'
/-- It answers no, or yes and P; it changes nothing. -/
def YnIf (P : Prop) (w : World) (e : Ending) (w' : World) : Prop := w = w' ∧ (e = .returned (.bool false) ∨ (e = .returned (.bool true) ∧ P))

theorem bytes_comm (a b : ByteArray) : (a == b) = (b == a) := by
  rw [Bool.eq_iff_iff, bytes_beq, bytes_beq]
  exact eq_comm
/-- In the walk's spelling. -/
theorem bytes_list (a b : ByteArray) : (a == b) = (a.toList == b.toList) := by
  rw [Bool.eq_iff_iff, bytes_beq, beq_iff_eq]
  refine ⟨fun h => by rw [h], fun h => ?_⟩
  rw [ByteArray.toList_eq, ByteArray.toList_eq] at h
  exact ByteArray.ext (Array.toList_inj.1 h)

/-- The empty text stands for LNil, another for itself. -/
def sval (s : ByteArray) : Value := if s.toList = [] then lnil else lstr s
theorem lvOk_sval (s : ByteArray) : LvOk (sval s) := by
  unfold sval
  split
  · exact .inl rfl
  · exact .inr ⟨_, _, rfl, by decide⟩
theorem sval_iface (s : ByteArray) : ∃ tv xv, sval s = .iface tv xv := iface_of (lvOk_sval s)
def nos : ByteArray := ⟨#[]⟩
theorem nos_list : nos.toList = [] := by rw [ByteArray.toList_eq]; rfl
theorem sval_nos : sval nos = lnil := if_pos nos_list
def valAt (vs : List ByteArray) (i : Nat) : ByteArray := (vs[i]?).getD nos

/-- The text at the last place below j where p holds; the empty one if there is none. -/
def lastP (p : Nat → Bool) (vs : List ByteArray) : Nat → ByteArray
  | 0 => nos
  | j + 1 => if p j then valAt vs j else lastP p vs j
def lastN (ks : List Nat) (vs : List ByteArray) (q : Nat) (j : Nat) : ByteArray := lastP (fun i => feq (ks.getD i 0) q) vs j
def lastI (ks : List Int) (vs : List ByteArray) (q : Int) (j : Nat) : ByteArray := lastP (fun i => ks.getD i 0 == q) vs j
def lastS (ks : List ByteArray) (vs : List ByteArray) (q : ByteArray) (j : Nat) : ByteArray := lastP (fun i => ks.getD i nos == q) vs j
theorem lastN_step {ks : List Nat} {vs : List ByteArray} {q j x : Nat} (h : ks[j]? = some x) : lastN ks vs q (j + 1) = if feq x q then valAt vs j else lastN ks vs q j := by
  show (if feq (ks.getD j 0) q = true then valAt vs j else lastN ks vs q j) = _
  rw [List.getD_eq_getElem?_getD, h]
  rfl
theorem lastI_step {ks : List Int} {vs : List ByteArray} {q x : Int} {j : Nat} (h : ks[j]? = some x) : lastI ks vs q (j + 1) = if x == q then valAt vs j else lastI ks vs q j := by
  show (if (ks.getD j 0 == q) = true then valAt vs j else lastI ks vs q j) = _
  rw [List.getD_eq_getElem?_getD, h]
  rfl
theorem lastS_step {ks : List ByteArray} {vs : List ByteArray} {q x : ByteArray} {j : Nat} (h : ks[j]? = some x) : lastS ks vs q (j + 1) = if x == q then valAt vs j else lastS ks vs q j := by
  show (if (ks.getD j nos == q) = true then valAt vs j else lastS ks vs q j) = _
  rw [List.getD_eq_getElem?_getD, h]
  rfl

theorem new_any (w : World) (a b : Int) (ha : a ≤ 65536) (hb : b ≤ 65536) : Calls Try.prog 12 #[.int .i64 a, .int .i64 b] w (Fresh w a b) := by
  have C := Lib.hid (newLTable_any w a b ha hb)
  go_enter Try.func12, Try.ntmps12
  go_wp2_with (first
    | (go_at_call 36; refine C.out.mono ?_; intro e w1 hf; obtain ⟨he, hq⟩ := hf; subst he; have HQ := Lib.hid hq; clear hq))
  go_ret
  exact ⟨rfl, HQ.out⟩

theorem value_any (w : World) (s : ByteArray) : Calls Try.prog 14 #[.string s] w fun e w' => e = .returned (sval s) ∧ w = w' := by
  unfold sval
  by_cases h : s.toList = []
  · rw [if_pos h]
    have h2 : s.toList.isEmpty = true := by simpa using h
    go_enter Try.func14, Try.ntmps14
    go_wp2
    go_ret
    exact ⟨rfl, rfl⟩
  · rw [if_neg h]
    have h2 : s.toList.isEmpty = false := by simpa using h
    go_enter Try.func14, Try.ntmps14
    go_wp2
    go_ret
    exact ⟨rfl, rfl⟩

theorem is_yes (w : World) (s : ByteArray) : Calls Try.prog 19 #[sval s, .string s] w fun e w' => e = .returned (.bool true) ∧ w = w' := by
  unfold sval
  by_cases h : s.toList = []
  · rw [if_pos h]
    have h2 : s.toList.isEmpty = true := by simpa using h
    go_enter Try.func19, Try.ntmps19
    go_wp2
    go_ret
    exact ⟨rfl, rfl⟩
  · rw [if_neg h]
    have h2 : s.toList.isEmpty = false := by simpa using h
    have HB := Lib.hid ((bytes_beq s s).2 rfl)
    go_enter Try.func19, Try.ntmps19
    go_wp2
    go_ret
    exact ⟨congrArg (fun b => Ending.returned (.bool b)) HB.out, rfl⟩

theorem valAt_any (w : World) (v : Value) (vs : List ByteArray) (h : IsStrs w v vs) (i : Nat) (hi : (i : Int) ≤ 9223372036854775807) :
    Calls Try.prog 15 #[v, .int .i64 i] w fun e w' => e = .returned (.string (valAt vs i)) ∧ w = w' := by
  obtain ⟨p, c, rfl, k, m, hn, g⟩ := h.1.form
  simp only [List.length_map] at *
  unfold maxLen at m
  have hxl : (vs.length : Int) ≤ 9223372036854775807 := by omega
  by_cases hlt : (i : Int) < vs.length
  · obtain ⟨s, hs⟩ : ∃ s, vs[i]? = some s := ⟨vs[i]'(by omega), by simp⟩
    obtain ⟨a, rfl, hc⟩ := g i (.string s) (by simp [hs])
    have HR : Hid (valAt vs i = s) := Lib.hid (by unfold valAt; rw [hs]; rfl)
    rw [HR.out]
    clear h g hn k m hs
    go_enter Try.func15, Try.ntmps15
    go_wp2
    go_ret
    exact ⟨rfl, rfl⟩
  · have HR : Hid (valAt vs i = nos) := Lib.hid (by unfold valAt; rw [List.getElem?_eq_none (by omega)]; rfl)
    rw [HR.out]
    clear h g hn k m
    go_enter Try.func15, Try.ntmps15
    go_wp2
    go_ret
    exact ⟨rfl, rfl⟩

set_option maxHeartbeats 1000000 in
theorem lastNum_any (w : World) (v0 : Value) (ks : List Nat) (h0 : IsFloats w v0 ks) (v1 : Value) (vs : List ByteArray) (h1 : IsStrs w v1 vs) (q : Nat) :
    Calls Try.prog 18 #[v0, v1, .float .f64 q] w fun e w' => e = .returned (.string (lastN ks vs q ks.length)) ∧ w = w' := by
  have CV := Lib.hid (fun i hi => valAt_any w v1 vs h1 i hi)
  obtain ⟨p, c, rfl, k, m, hn, g⟩ := h0.1.form
  simp only [List.length_map] at *
  unfold maxLen at m
  have hxl : (ks.length : Int) ≤ 9223372036854775807 := by omega
  have G := Lib.hid g
  clear h0 h1 g hn k m
  go_enter Try.func18, Try.ntmps18
  go_wp2_with fail
  go_loop [7] (fun i => ∃ j : Nat, j ≤ ks.length ∧ i = .int .i64 ((j : Int) - 1) ∧ Hid (lastN ks vs q ks.length = lastN ks vs q j)) (fun i => (intOf i + 1).toNat)
  case atStart => exact ⟨ks.length, Nat.le_refl _, rfl, Lib.hid rfl⟩
  case round =>
    obtain ⟨j, hj, rfl, hd⟩ := hrel
    cases j with
    | zero =>
      go_wp2
      go_ret
      exact ⟨by rw [hd.out]; rfl, rfl⟩
    | succ m =>
      obtain ⟨x, hx⟩ : ∃ x, ks[m]? = some x := ⟨ks[m]'(by omega), by simp⟩
      obtain ⟨a, rfl, hc⟩ := G.out m (.float .f64 x) (by simp [hx])
      have hst := lastN_step (vs := vs) (q := q) hx
      clear hx
      by_cases he : feq x q = true
      · rw [if_pos he] at hst
        rw [← order_eq] at he
        have HS := Lib.hid hst
        have C := Lib.hid (CV.out m (by omega))
        clear hst
        go_wp2_with (first | (go_at_call 15; refine C.out.mono ?_; rintro e w1 ⟨rfl, rfl⟩))
        go_ret
        exact ⟨by rw [hd.out, HS.out]; rfl, rfl⟩
      · rw [if_neg he] at hst
        rw [Bool.not_eq_true, ← order_eq] at he
        have HS := Lib.hid hst
        clear hst
        go_wp2
        go_round
        case rel => exact ⟨m, by omega, rfl, Lib.hid (hd.out.trans HS.out)⟩
        case measure => simp [intOf]
set_option maxHeartbeats 1000000 in
theorem lastInt_any (w : World) (v0 : Value) (ks : List Int) (h0 : IsInts .i64 w v0 ks) (v1 : Value) (vs : List ByteArray) (h1 : IsStrs w v1 vs) (q : Int) :
    Calls Try.prog 27 #[v0, v1, .int .i64 q] w fun e w' => e = .returned (.string (lastI ks vs q ks.length)) ∧ w = w' := by
  have CV := Lib.hid (fun i hi => valAt_any w v1 vs h1 i hi)
  obtain ⟨p, c, rfl, k, m, hn, g⟩ := h0.1.form
  simp only [List.length_map] at *
  unfold maxLen at m
  have hxl : (ks.length : Int) ≤ 9223372036854775807 := by omega
  have G := Lib.hid g
  clear h0 h1 g hn k m
  go_enter Try.func27, Try.ntmps27
  go_wp2_with fail
  go_loop [7] (fun i => ∃ j : Nat, j ≤ ks.length ∧ i = .int .i64 ((j : Int) - 1) ∧ Hid (lastI ks vs q ks.length = lastI ks vs q j)) (fun i => (intOf i + 1).toNat)
  case atStart => exact ⟨ks.length, Nat.le_refl _, rfl, Lib.hid rfl⟩
  case round =>
    obtain ⟨j, hj, rfl, hd⟩ := hrel
    cases j with
    | zero =>
      go_wp2
      go_ret
      exact ⟨by rw [hd.out]; rfl, rfl⟩
    | succ m =>
      obtain ⟨x, hx⟩ : ∃ x, ks[m]? = some x := ⟨ks[m]'(by omega), by simp⟩
      obtain ⟨a, rfl, hc⟩ := G.out m (.int .i64 x) (by simp [hx])
      have hst := lastI_step (vs := vs) (q := q) hx
      clear hx
      by_cases he : (x == q) = true
      · rw [if_pos he] at hst
        have HS := Lib.hid hst
        have C := Lib.hid (CV.out m (by omega))
        clear hst
        go_wp2_with (first | (go_at_call 15; refine C.out.mono ?_; rintro e w1 ⟨rfl, rfl⟩))
        go_ret
        exact ⟨by rw [hd.out, HS.out]; rfl, rfl⟩
      · rw [if_neg he] at hst
        rw [Bool.not_eq_true] at he
        have HS := Lib.hid hst
        clear hst
        go_wp2
        go_round
        case rel => exact ⟨m, by omega, rfl, Lib.hid (hd.out.trans HS.out)⟩
        case measure => simp [intOf]
set_option maxHeartbeats 1000000 in
theorem lastStr_any (w : World) (v0 : Value) (ks : List ByteArray) (h0 : IsStrs w v0 ks) (v1 : Value) (vs : List ByteArray) (h1 : IsStrs w v1 vs) (q : ByteArray) :
    Calls Try.prog 32 #[v0, v1, .string q] w fun e w' => e = .returned (.string (lastS ks vs q ks.length)) ∧ w = w' := by
  have CV := Lib.hid (fun i hi => valAt_any w v1 vs h1 i hi)
  obtain ⟨p, c, rfl, k, m, hn, g⟩ := h0.1.form
  simp only [List.length_map] at *
  unfold maxLen at m
  have hxl : (ks.length : Int) ≤ 9223372036854775807 := by omega
  have G := Lib.hid g
  clear h0 h1 g hn k m
  go_enter Try.func32, Try.ntmps32
  go_wp2_with fail
  go_loop [7] (fun i => ∃ j : Nat, j ≤ ks.length ∧ i = .int .i64 ((j : Int) - 1) ∧ Hid (lastS ks vs q ks.length = lastS ks vs q j)) (fun i => (intOf i + 1).toNat)
  case atStart => exact ⟨ks.length, Nat.le_refl _, rfl, Lib.hid rfl⟩
  case round =>
    obtain ⟨j, hj, rfl, hd⟩ := hrel
    cases j with
    | zero =>
      go_wp2
      go_ret
      exact ⟨by rw [hd.out]; rfl, rfl⟩
    | succ m =>
      obtain ⟨x, hx⟩ : ∃ x, ks[m]? = some x := ⟨ks[m]'(by omega), by simp⟩
      obtain ⟨a, rfl, hc⟩ := G.out m (.string x) (by simp [hx])
      have hst := lastS_step (vs := vs) (q := q) hx
      clear hx
      by_cases he : (x == q) = true
      · rw [if_pos he] at hst
        rw [bytes_list] at he
        have HS := Lib.hid hst
        have C := Lib.hid (CV.out m (by omega))
        clear hst
        go_wp2_with (first | (go_at_call 15; refine C.out.mono ?_; rintro e w1 ⟨rfl, rfl⟩))
        go_ret
        exact ⟨by rw [hd.out, HS.out]; rfl, rfl⟩
      · rw [if_neg he] at hst
        rw [Bool.not_eq_true, bytes_list] at he
        have HS := Lib.hid hst
        clear hst
        go_wp2
        go_round
        case rel => exact ⟨m, by omega, rfl, Lib.hid (hd.out.trans HS.out)⟩
        case measure => simp [intOf]
end Go.Lua
