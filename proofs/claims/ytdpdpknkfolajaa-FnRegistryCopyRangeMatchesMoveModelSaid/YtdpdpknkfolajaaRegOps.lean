/-
  n005_31: the registry's small functions: newRegistry, Set, Get, Top, and the shims over them.
-/
import Derived.Test.YtdpdpknkfolajaaReg
import Derived.Deep.QuietTactic
import Derived.BigQuiet
namespace Go.Lua
open Go.Proofs Go.RowKit
set_option linter.unusedVariables false

theorem ret_i {a b : Int} (h : a = b) : Ending.returned (.int .i64 a) = .returned (.int .i64 b) := by rw [h]
theorem reg_info : (Try.prog.info? 48).map (fun i => (i.zero, i.size, decide (i.bytes ≤ 64))) = some (some .nilIface, 1, true) := by kernel_rfl
theorem reg_made (n : Nat) (h1 : n ≤ 4398046511104) (w : World) : (Instr.makeSlice 50 (.int .i64 n) (.int .i64 n)).run Try.prog w = .ok (.slice (some ⟨w.heap.size, 0, none⟩) n n) (w.alloc (.cells (madeCells #[.nilIface] n) 48)) := by
  obtain ⟨i, hi, hz, hs, hby⟩ : ∃ i, Try.prog.info? 48 = some i ∧ i.zero = some .nilIface ∧ i.size = 1 ∧ i.bytes ≤ 64 := by simpa using reg_info
  have hb : (i.bytes : Int) * n ≤ 281474976710656 := by
    have : (i.bytes : Int) * n ≤ 64 * n := Int.mul_le_mul_of_nonneg_right (by omega) (by omega)
    omega
  have := run_make (P := Try.prog) w 50 48 i .nilIface Try.underlying50 hi hz .i64 .i64 n n (by omega) (Int.le_refl _) hb (by omega)
  rw [hs, Nat.mul_one] at this
  exact this

/-- A registry just made: its row at the first new block, its head behind it. -/
def RegNew (w : World) (n : Nat) (e : Ending) (w' : World) : Prop := e = .returned (.pointer (some ⟨w.heap.size + 1, 0, none⟩)) ∧ RegAt w' (w.heap.size + 1) w.heap.size n (fun _ => .nilIface) 0 ∧ Upd (fun _ => False) w w'

set_option maxHeartbeats 400000 in
theorem newRegistry_any (w : World) (n : Nat) (hn : n ≤ 65536) :
    Calls Try.prog 27 #[.nilIface, .int .i64 n, .int .i64 0, .int .i64 n, .pointer none] w (RegNew w n) := by
  have hm := reg_made n (by omega)
  go_enter Try.func27, Try.ntmps27
  go_wp2_with (simp only [hm])
  go_ret
  refine ⟨rfl, ⟨?_, ?_, ?_⟩, ((Upd.refl _ _).alloc _).alloc _⟩
  · have := heap_alloc_new (w.alloc (.cells (madeCells #[.nilIface] n) 48)) (.cells #[.slice (some ⟨w.heap.size, 0, none⟩) n n, .int .i64 0, .int .i64 0, .int .i64 n, .pointer none, .nilIface] 55 (0, 0))
    simpa using this
  · exact (RowAt.new w .nilIface n 48).of_heap (Below.heap_alloc _ _ _ (by simp))
  · omega
theorem new_any (w : World) (n : Nat) (hn : n ≤ 65536) : Calls Try.prog 20 #[.int .i64 n] w (RegNew w n) := by
  have C := Lib.hid (newRegistry_any w n hn)
  go_enter Try.func20, Try.ntmps20
  go_wp2_with (go_at_call 27; refine C.out.mono ?_; rintro e w1 ⟨rfl, hR⟩)
  go_ret
  exact ⟨rfl, hR⟩

section
variable {w w' : World} {r b n : Nat} {f : Nat → Value} {top : Int}
theorem RegTo.mk (h : RegAt w r b n f top) (i : Nat) (v : Value) (t : Int) : RegAt ((w.setCell ⟨b, i, none⟩ v).setCell ⟨r, 1, none⟩ (.int .i64 t)) r b n (fun k => if k = i then v else f k) t ∧ Upd (Rb r b) w ((w.setCell ⟨b, i, none⟩ v).setCell ⟨r, 1, none⟩ (.int .i64 t)) :=
  ⟨(h.setSlot i v).setTop t, ((Upd.refl _ _).setCell (.inl (.inr rfl)) _).setCell (.inl (.inl rfl)) _⟩
theorem RegTo.mk1 (h : RegAt w r b n f top) (i : Nat) (v : Value) : RegAt (w.setCell ⟨b, i, none⟩ v) r b n (fun k => if k = i then v else f k) top ∧ Upd (Rb r b) w (w.setCell ⟨b, i, none⟩ v) :=
  ⟨h.setSlot i v, (Upd.refl _ _).setCell (.inl (.inr rfl)) _⟩

def topAfter (top : Int) (i : Nat) : Int := if top ≤ i then i + 1 else top
theorem topAfter_ge {top : Int} {i : Nat} (h : top ≤ i) : topAfter top i = i + 1 := if_pos h
theorem topAfter_lt {top : Int} {i : Nat} (h : ¬ top ≤ i) : topAfter top i = top := if_neg h
set_option maxHeartbeats 1000000 in
theorem set_any (h : RegAt w r b n f top) (hn : n ≤ 65536) (ht : 0 ≤ top ∧ top ≤ 65536) (i : Nat) (hi : i < n) (tv : TypeId) (x : Value) :
    Calls Try.prog 28 #[.pointer (some ⟨r, 0, none⟩), .int .i64 i, .iface tv x] w (RegTo r b n (fun k => if k = i then .iface tv x else f k) (topAfter top i) w) := by
  obtain ⟨c0, c1⟩ := h.cells
  have z0 := h.thaw 0
  have z1 := h.thaw 1
  have y := h.row.thaw i
  have cu := h.at hi
  have hne := h.ne
  have hne' : b ≠ r := fun e => hne e.symm
  have H := Lib.hid h
  obtain ⟨t1, t2⟩ := ht
  clear h
  by_cases hlt : top ≤ i
  · rw [topAfter_ge hlt]
    go_enter Try.func28, Try.ntmps28
    go_wp2
    go_end0
    exact ⟨rfl, RegTo.mk H.out i _ _⟩
  · rw [topAfter_lt hlt]
    go_enter Try.func28, Try.ntmps28
    go_wp2
    go_end0
    exact ⟨rfl, RegTo.mk1 H.out i _⟩
set_option maxHeartbeats 1000000 in
theorem zset_any (h : RegAt w r b n f top) (hn : n ≤ 65536) (ht : 0 ≤ top ∧ top ≤ 65536) (i : Nat) (hi : i < n) (v : Int) (hv : -2147483648 ≤ v ∧ v ≤ 2147483647) :
    Calls Try.prog 21 #[.pointer (some ⟨r, 0, none⟩), .int .i64 i, .int .i32 v] w (RegTo r b n (fun k => if k = i then lnum (fofInt v) else f k) (topAfter top i) w) := by
  have C := Lib.hid (set_any h hn ht i hi 39 (.float .f64 (fofInt v)))
  clear h
  go_enter Try.func21, Try.ntmps21
  go_wp2_with (go_at_call 28; refine C.out.mono ?_; rintro e w1 ⟨rfl, hR⟩)
  go_end0
  exact ⟨rfl, hR⟩
theorem top_any (h : RegAt w r b n f top) : Calls Try.prog 29 #[.pointer (some ⟨r, 0, none⟩)] w fun e w' => e = .returned (.int .i64 top) ∧ w = w' := by
  obtain ⟨c0, c1⟩ := h.cells
  clear h
  go_enter Try.func29, Try.ntmps29
  go_wp2
  go_ret
  exact ⟨rfl, rfl⟩
theorem ztop_any (h : RegAt w r b n f top) : Calls Try.prog 24 #[.pointer (some ⟨r, 0, none⟩)] w fun e w' => e = .returned (.int .i64 top) ∧ w = w' := by
  have C := Lib.hid (top_any h)
  clear h
  go_enter Try.func24, Try.ntmps24
  go_wp2_with (go_at_call 29; refine C.out.mono ?_; rintro e w1 ⟨rfl, rfl⟩)
  go_ret
  exact ⟨rfl, rfl⟩
set_option maxHeartbeats 400000 in
theorem get_any (h : RegAt w r b n f top) (hn : n ≤ 65536) (i : Nat) (hi : i < n) (v : Value) (hv : f i = v) : Calls Try.prog 31 #[.pointer (some ⟨r, 0, none⟩), .int .i64 i] w fun e w' => e = .returned v ∧ w = w' := by
  obtain ⟨c0, c1⟩ := h.cells
  have cu := h.at hi
  rw [hv] at cu
  clear h hv
  go_enter Try.func31, Try.ntmps31
  go_wp2
  go_ret
  exact ⟨rfl, rfl⟩
/-- A slot's class and number. -/
inductive Cell : Value → Int → Nat → Prop
  | none : Cell .nilIface 0 0
  | nil : Cell lnil 1 0
  | num (x : Nat) : Cell (lnum x) 2 x
set_option maxHeartbeats 400000 in
theorem cell_any (h : RegAt w r b n f top) (hn : n ≤ 65536) (i : Nat) (hi : i < n) (k : Int) (x : Nat) (hc : Cell (f i) k x) : Calls Try.prog 25 #[.pointer (some ⟨r, 0, none⟩), .int .i64 i] w fun e w' => e = .returned (.tuple #[.int .i64 k, .float .f64 x]) ∧ w = w' := by
  generalize hv : f i = v at hc
  have C := Lib.hid (get_any h hn i hi v hv)
  clear h hv
  cases hc
  all_goals
    go_enter Try.func25, Try.ntmps25
    go_wp2_with (go_at_call 31; refine C.out.mono ?_; rintro e w1 ⟨rfl, rfl⟩)
    go_ret2
    exact ⟨rfl, rfl⟩
end
end Go.Lua
