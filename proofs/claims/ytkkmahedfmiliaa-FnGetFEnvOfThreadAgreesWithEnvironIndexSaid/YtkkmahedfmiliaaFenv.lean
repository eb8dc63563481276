/-
  n005_150: FnGetFEnvOfThreadAgreesWithEnvironIndex.
-/
import Derived.Test.YtkkmahedfmiliaaLv
import Derived.WalkKit
import Derived.ProofKit
import Derived.Below
import Derived.LaidEql
import Derived.Laws.MakeOwn
import Derived.Lib.Hide
namespace Go.Lua
open Go.Proofs Go.RowKit
set_option linter.unusedVariables false

theorem lvInfo : (Try.prog.info? 41).map (fun i => (i.zero, i.size, i.bytes)) = some (some .nilIface, 1, 16) := by kernel_rfl
theorem made_32 (w : World) : (Instr.makeSlice 50 (.int .i64 0) (.int .i64 32)).run Try.prog w = .ok (.slice (some ⟨w.heap.size, 0, none⟩) 0 32) (w.alloc (.cells (madeCells #[.nilIface] 32) 41)) := by
  obtain ⟨i, hi, hz, hs, hby⟩ : ∃ i, Try.prog.info? 41 = some i ∧ i.zero = some .nilIface ∧ i.size = 1 ∧ i.bytes = 16 := by simpa using lvInfo
  have := run_make (P := Try.prog) w 50 41 i .nilIface Try.underlying50 hi hz .i64 .i64 0 32 (Int.le_refl _) (by decide) (by rw [hby]; decide) (by decide)
  rw [hs, Nat.mul_one] at this
  exact this
theorem made_sdict (n : Int) (w : World) : (Instr.makeMap 52 (some (.int .i64 n))).run Try.prog w = .ok (.map (some w.heap.size)) (w.alloc (.map #[] 0)) := by
  simp [Instr.makeMap, run_underlying Try.underlying52, asInt, asIntOf]

/-- A table made behind w. -/
def Newed (w : World) (e : Ending) (w' : World) : Prop :=
  e = .returned (.pointer (some ⟨w.heap.size, 0, none⟩)) ∧ (∃ cs, w'.heap[w.heap.size]? = some (.cells cs 55 (0, 0))) ∧ Below w.heap.size w w' ∧ w.heap.size < w'.heap.size
set_option maxHeartbeats 400000 in
theorem newLTable_32 (w : World) : Calls Try.prog 22 #[.int .i64 32, .int .i64 32] w (Newed w) := by
  go_enter Try.func22, Try.ntmps22
  go_wp2_with (simp only [made_32, made_sdict])
  go_ret
  refine ⟨rfl, ⟨_, (Below.heap_alloc _ _ _ (by simp; omega)).trans ((Below.heap_alloc _ _ _ (by simp)).trans (heap_alloc_new w _))⟩, ?_, by simp; omega⟩
  exact ((((Below.refl _ _).alloc (Nat.le_refl _) _).alloc (by simp) _).alloc (by simp; omega) _)
theorem newTable_any (w : World) (l : Nat) : Calls Try.prog 13 #[.pointer (some ⟨l, 0, none⟩)] w (Newed w) := by
  go_enter Try.func13, Try.ntmps13
  go_wp2_with (go_at_call 22; refine (newLTable_32 _).mono ?_; rintro e w1 ⟨rfl, hq⟩)
  go_ret
  exact ⟨rfl, hq⟩
def Fine (w : World) (e : Ending) (w' : World) : Prop := e = .returned (.bool true) ∧ Below w.heap.size w w'
/-- A thread's cells: a new one, but for its Env. -/
abbrev stCells (env : Value) : Array Value := #[.pointer none, .pointer none, env, .nilFunc, .bool false, .int .i64 0, .int .i64 0, .int .i64 0, .int .i64 0, .bool false, .bool false, .bool false, .int .i32 0, .pointer none, .nilIface, .pointer none, .pointer none, .bool false, .pointer none, .bool false, .nilFunc]
def StAt (w : World) (b : Nat) (env : Value) : Prop := w.heap[b]? = some (.cells (stCells env) 38 (0, 0))
theorem StAt.c2 {w : World} {b : Nat} {env : Value} (h : StAt w b env) : w.cell? ⟨b, 2, none⟩ = some env := by
  unfold StAt at h
  simp [World.cell?, h]
theorem StAt.c16 {w : World} {b : Nat} {env : Value} (h : StAt w b env) : w.cell? ⟨b, 16, none⟩ = some (.pointer none) := by
  unfold StAt at h
  simp [World.cell?, h]
theorem StAt.z2 {w : World} {b : Nat} {env : Value} (h : StAt w b env) : w.frozen? ⟨b, 2, none⟩ = false := by
  unfold StAt at h
  simp [World.frozen?, h]
theorem StAt.set {w : World} {b : Nat} {env : Value} (h : StAt w b env) (v : Value) : StAt (w.setCell ⟨b, 2, none⟩ v) b v := by
  unfold StAt at h ⊢
  simp [World.setCell, Array.getElem?_modify, h]
theorem StAt.of {w w' : World} {b : Nat} {env : Value} (h : StAt w b env) (e : w'.heap[b]? = w.heap[b]?) : StAt w' b env := e.trans h
theorem StAt.lt {w : World} {b : Nat} {env : Value} (h : StAt w b env) : b < w.heap.size := (Array.getElem?_eq_some_iff.1 h).1
theorem StAt.new (w : World) (env : Value) : StAt (w.alloc (.cells (stCells env) 38)) w.heap.size env := heap_alloc_new w _

set_option maxHeartbeats 400000 in
theorem getFEnv_any (w : World) (l b : Nat) (p : Option Addr) (h : StAt w b (.pointer p)) :
    Calls Try.prog 14 #[.pointer (some ⟨l, 0, none⟩), .iface 24 (.pointer (some ⟨b, 0, none⟩))] w fun e w' => e = .returned (.iface 26 (.pointer p)) ∧ w = w' := by
  have c2 := h.c2
  clear h
  go_enter Try.func14, Try.ntmps14
  go_wp2
  go_ret
  exact ⟨rfl, rfl⟩
theorem base_any (w : World) (b : Nat) (p : Option Addr) (h : StAt w b (.pointer p)) :
    Calls Try.prog 23 #[.pointer (some ⟨b, 0, none⟩)] w fun e w' => e = .returned (.int .i64 0) ∧ w = w' := by
  have c16 := h.c16
  clear h
  go_enter Try.func23, Try.ntmps23
  go_wp2
  go_ret
  exact ⟨rfl, rfl⟩
set_option maxHeartbeats 400000 in
theorem get_any (w : World) (b : Nat) (p : Option Addr) (h : StAt w b (.pointer p)) :
    Calls Try.prog 15 #[.pointer (some ⟨b, 0, none⟩), .int .i64 (-10001)] w fun e w' => e = .returned (.iface 26 (.pointer p)) ∧ w = w' := by
  have C := Lib.hid (base_any w b p h)
  have c2 := h.c2
  have c16 := h.c16
  clear h
  go_enter Try.func15, Try.ntmps15
  go_wp2_with (go_at_call 23; refine C.out.mono ?_; rintro e w1 ⟨rfl, rfl⟩)
  go_ret
  exact ⟨rfl, rfl⟩

theorem tabInfo : (Try.prog.info? 26).map (·.comparable) = some true := by kernel_rfl
theorem tabSize : (Try.prog.info? 55).map (fun i => decide (i.size = 0)) = some false := by kernel_rfl
theorem run_equalIn_pnone {P : Program} {w : World} {t e : TypeId} (ht : P.underlying t = some (.pointer e)) (q : Option Addr) (d : Nat) : (Op.equalIn (d + 1) t (.pointer none) (.pointer q)).run P w = .ok q.isNone w := by
  cases q <;> simp [Op.equalIn, run_underlying ht]
theorem tab_eq_none (q : Option Addr) (w : World) : (Op.equal 41 (.iface 26 (.pointer none)) (.iface 26 (.pointer q))).run Try.prog w = .ok q.isNone w :=
  run_equal_same w Try.underlying41 (by kernel_rfl) _ _ _ (run_equalIn_pnone Try.underlying26 q)
theorem neq_none_none (w : World) : (binOp .neq 41 (.iface 26 (.pointer none)) (.iface 26 (.pointer none))).run Try.prog w = .ok (.bool false) w := run_neq_of w (tab_eq_none none w)
theorem neq_none_some (a : Addr) (w : World) : (binOp .neq 41 (.iface 26 (.pointer none)) (.iface 26 (.pointer (some a)))).run Try.prog w = .ok (.bool true) w := run_neq_of w (tab_eq_none (some a) w)
theorem neq_same (a : Addr) (w : World) : (binOp .neq 41 (.iface 26 (.pointer (some a))) (.iface 26 (.pointer (some a)))).run Try.prog w = .ok (.bool false) w := by
  obtain ⟨i, hi, hc⟩ : ∃ i, Try.prog.info? 26 = some i ∧ i.comparable = true := by simpa using tabInfo
  obtain ⟨j, hj, hz⟩ : ∃ j, Try.prog.info? 55 = some j ∧ decide (j.size = 0) = false := by simpa using tabSize
  exact run_neq_of w (run_equalIn_iface_ptr_same w 9998 a Try.underlying41 Try.underlying26 hi hc hj)
theorem neq_other {a b : Nat} {ca cb : Array Value} {ta tb : TypeId} {w : World} (hne : a ≠ b) (ha : w.heap[a]? = some (.cells ca ta (0, 0))) (hb : w.heap[b]? = some (.cells cb tb (0, 0))) :
    (binOp .neq 41 (.iface 26 (.pointer (some ⟨a, 0, none⟩))) (.iface 26 (.pointer (some ⟨b, 0, none⟩)))).run Try.prog w = .ok (.bool true) w := by
  obtain ⟨i, hi, hc⟩ : ∃ i, Try.prog.info? 26 = some i ∧ i.comparable = true := by simpa using tabInfo
  obtain ⟨j, hj, hz⟩ : ∃ j, Try.prog.info? 55 = some j ∧ decide (j.size = 0) = false := by simpa using tabSize
  exact run_neq_of w (run_equalIn_iface_ptr_other w 9998 Try.underlying41 Try.underlying26 hi hc hj (by simpa using hz) (fun e => hne (congrArg Addr.block e)) ha hb)

theorem size_set (w : World) (a : Addr) (v : Value) : (w.setCell a v).heap.size = w.heap.size := by simp
/-- L's Env set, and a second thread made behind it. -/
def thWorld (w1 : World) (b : Nat) (p : Value) : World := (w1.setCell ⟨b, 2, none⟩ p).alloc (.cells (stCells (.pointer none)) 38)
theorem th_new (w1 : World) (b : Nat) (p : Value) : StAt (thWorld w1 b p) w1.heap.size (.pointer none) := by
  have := StAt.new (w1.setCell ⟨b, 2, none⟩ p) (.pointer none)
  rwa [size_set] at this
theorem th_L {w1 : World} {b : Nat} {p q : Value} (h : StAt w1 b q) : StAt (thWorld w1 b p) b p :=
  (h.set p).of (Below.heap_alloc _ _ _ (by rw [size_set]; exact h.lt))
theorem th_below {w w1 : World} {b : Nat} {p : Value} (h : Below w.heap.size w w1) (hb : w.heap.size ≤ b) : Below w.heap.size w (thWorld w1 b p) :=
  (h.setCell hb _).alloc (by rw [size_set]; exact h.size) _

theorem th_size (w1 : World) (b : Nat) (p : Value) : (thWorld w1 b p).heap.size = w1.heap.size + 1 := by
  unfold thWorld
  simp
theorem th_old {w1 : World} {b k : Nat} {p : Value} (hk : k < w1.heap.size) (hb : k ≠ b) : (thWorld w1 b p).heap[k]? = w1.heap[k]? :=
  (Below.heap_alloc _ _ _ (by rw [size_set]; exact hk)).trans (Below.heap_setCell _ _ _ _ hb)
/-- Behind the first table. -/
structure S1 (w w1 : World) : Prop where
  L : StAt w1 w.heap.size (.pointer none)
  t : ∃ cs, w1.heap[w.heap.size + 1]? = some (.cells cs 55 (0, 0))
  b : Below w.heap.size w w1
theorem s1_of {w w1 : World} {e : Ending} (h : Newed (w.alloc (.cells (stCells (.pointer none)) 38)) e w1) : e = .returned (.pointer (some ⟨w.heap.size + 1, 0, none⟩)) ∧ S1 w w1 := by
  obtain ⟨he, hc, hB, hl⟩ := h
  have hs : (w.alloc (.cells (stCells (.pointer none)) 38)).heap.size = w.heap.size + 1 := by simp
  rw [hs] at he hc hB
  exact ⟨he, (StAt.new w _).of (hB.block _ (by omega)), hc, ((Below.refl _ w).alloc (Nat.le_refl _) _).trans (hB.mono (by omega))⟩
/-- Behind the second. -/
structure S2 (w w1 w2 : World) (p : Value) : Prop where
  L : StAt w2 w.heap.size p
  T : StAt w2 w1.heap.size (.pointer none)
  t1 : ∃ cs, w2.heap[w.heap.size + 1]? = some (.cells cs 55 (0, 0))
  t2 : ∃ cs, w2.heap[w1.heap.size + 1]? = some (.cells cs 55 (0, 0))
  b : Below w.heap.size w w2
  lt : w.heap.size + 1 < w1.heap.size
theorem s2_of {w w1 w2 : World} {e : Ending} {p : Value} (h : S1 w w1) (k : Newed (thWorld w1 w.heap.size p) e w2) : e = .returned (.pointer (some ⟨w1.heap.size + 1, 0, none⟩)) ∧ S2 w w1 w2 p := by
  obtain ⟨he, hc, hB, hl⟩ := k
  rw [th_size] at he hc hB
  obtain ⟨cs, ht⟩ := h.t
  have hlt := (Array.getElem?_eq_some_iff.1 ht).1
  exact ⟨he, (th_L h.L).of (hB.block _ (by omega)), (th_new _ _ _).of (hB.block _ (by omega)), ⟨cs, ((hB.block _ (by omega)).trans (th_old hlt (by omega))).trans ht⟩, hc, (th_below h.b (Nat.le_refl _)).trans (hB.mono (by omega)), hlt⟩
/-- The thread's Env set. -/
structure S3 (w w1 : World) (p q : Value) (w3 : World) : Prop where
  L : StAt w3 w.heap.size p
  T : StAt w3 w1.heap.size q
  t1 : ∃ cs, w3.heap[w.heap.size + 1]? = some (.cells cs 55 (0, 0))
  t2 : ∃ cs, w3.heap[w1.heap.size + 1]? = some (.cells cs 55 (0, 0))
  b : Below w.heap.size w w3
  lt : w.heap.size + 1 < w1.heap.size
theorem s3_of {w w1 w2 : World} {p : Value} (h : S2 w w1 w2 p) (q : Value) : S3 w w1 p q (w2.setCell ⟨w1.heap.size, 2, none⟩ q) := by
  obtain ⟨hL, hT, ⟨c1, h1⟩, ⟨c2, h2⟩, hB, hlt⟩ := h
  exact ⟨hL.of (Below.heap_setCell _ _ _ _ (by simp; omega)), hT.set q, ⟨c1, (Below.heap_setCell _ _ _ _ (by simp; omega)).trans h1⟩, ⟨c2, (Below.heap_setCell _ _ _ _ (by simp)).trans h2⟩, hB.setCell (by simp; omega) _, hlt⟩

set_option maxRecDepth 100000 in
set_option maxHeartbeats 2000000 in
theorem fenv_no (w : World) : Calls Try.prog 6 #[.bool false] w (Fine w) := by
  go_enter Try.func6, Try.ntmps6
  go_wp2_with (first
    | (go_at_call 13; refine (newTable_any _ _).mono ?_; intro e w1 hn; obtain ⟨rfl, hs⟩ := s1_of hn; clear hn; have c0 := hs.L.c2; have z0 := hs.L.z2; have H1 := Lib.hid hs; clear hs)
    | (go_at_call 14; change Calls _ _ _ (thWorld w1 w.heap.size (.pointer (some ⟨w.heap.size + 1, 0, none⟩))) _; have hT := th_new w1 w.heap.size (.pointer (some ⟨w.heap.size + 1, 0, none⟩)); have hL := th_L (p := .pointer (some ⟨w.heap.size + 1, 0, none⟩)) H1.out.L; have hB := th_below (p := .pointer (some ⟨w.heap.size + 1, 0, none⟩)) H1.out.b (Nat.le_refl _); clear c0 z0; generalize thWorld w1 w.heap.size (.pointer (some ⟨w.heap.size + 1, 0, none⟩)) = W at hT hL hB ⊢; refine (getFEnv_any _ _ _ none hT).mono ?_; rintro e w2 ⟨rfl, rfl⟩; have cL := hL.c2; have HT := Lib.hid hT; have HB := Lib.hid hB; clear hT hL hB)
    | (go_at_call 15; refine (get_any _ _ none HT.out).mono ?_; rintro e w2 ⟨rfl, rfl⟩)
    | (simp only [neq_none_none, neq_none_some]))
  go_ret
  exact ⟨rfl, HB.out⟩
set_option maxRecDepth 100000 in
set_option maxHeartbeats 2000000 in
theorem fenv_yes (w : World) : Calls Try.prog 6 #[.bool true] w (Fine w) := by
  have MK : True := trivial
  go_enter Try.func6, Try.ntmps6
  go_wp2_with (first
    | (go_at_call 13; clear MK; refine (newTable_any _ _).mono ?_; intro e w1 hn; obtain ⟨rfl, hs⟩ := s1_of hn; clear hn; have c0 := hs.L.c2; have z0 := hs.L.z2; have H1 := Lib.hid hs; clear hs)
    | (go_at_call 13; change Calls _ _ _ (thWorld w1 w.heap.size (.pointer (some ⟨w.heap.size + 1, 0, none⟩))) _; clear c0 z0; refine (newTable_any _ _).mono ?_; intro e w2 hn; obtain ⟨rfl, hs⟩ := s2_of H1.out hn; clear hn; have c2 := hs.T.c2; have z2 := hs.T.z2; have H2 := Lib.hid hs; clear hs)
    | (go_at_call 14; have hs := s3_of H2.out (.pointer (some ⟨w1.heap.size + 1, 0, none⟩)); clear c2 z2; generalize w2.setCell ⟨w1.heap.size, 2, none⟩ (.pointer (some ⟨w1.heap.size + 1, 0, none⟩)) = W at hs ⊢; refine (getFEnv_any _ _ _ _ hs.T).mono ?_; rintro e w3 ⟨rfl, rfl⟩; have cL := hs.L.c2; obtain ⟨k1, h1⟩ := hs.t1; obtain ⟨k2, h2⟩ := hs.t2; have hn := neq_other (show w1.heap.size + 1 ≠ w.heap.size + 1 by have := hs.lt; omega) h2 h1; have H3 := Lib.hid hs; clear hs h1 h2)
    | (go_at_call 15; refine (get_any _ _ _ H3.out.T).mono ?_; rintro e w2 ⟨rfl, rfl⟩)
    | (simp only [neq_same, hn]))
  go_ret
  exact ⟨rfl, H3.out.b⟩
theorem fenv_walk (w : World) (b : Bool) : Calls Try.prog 6 #[.bool b] w (Fine w) := by
  cases b
  · exact fenv_no w
  · exact fenv_yes w
end Go.Lua
