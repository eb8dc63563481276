/-
  The state, and the small functions that write.
-/
import Derived.Test.YtfpeldekhogfpaaObs
import Derived.Test.YtfpeldekhogfpaaHas
import Derived.LaidEqlPtr
namespace Go.Lua
open Go.Proofs Go.RowKit
set_option linter.unusedVariables false

abbrev None (w w' : World) : Prop := Upd (fun _ => False) w w'
theorem cell_kept {w w' : World} {a : Addr} {v : Value} (hc : w.cell? a = some v) (hh : w'.heap[a.block]? = w.heap[a.block]?) : w'.cell? a = some v := by
  rw [← hc]
  unfold World.cell?
  rw [hh]
theorem cell_new {w : World} {cs : Array Value} {t : TypeId} {b i : Nat} {v : Value} (hb : b = w.heap.size) (hc : cs[i]? = some v) : (w.alloc (.cells cs t)).cell? ⟨b, i, none⟩ = some v := by
  subst hb
  unfold World.cell?
  rw [heap_alloc_new]
  exact hc

set_option maxHeartbeats 1000000 in
theorem newState_any (w : World) : Calls Try.prog 8 #[] w fun e w' => e = .returned (.pointer (some ⟨w.heap.size + 2, 0, none⟩)) ∧ St w' (w.heap.size + 2) (w.heap.size + 1) w.heap.size (fun _ => none) ∧ None w w' ∧ w'.heap.size = w.heap.size + 3 := by
  go_enter Try.func8, Try.ntmps8
  go_wp2
  go_ret
  refine ⟨rfl, ⟨?_, ?_, ?_⟩, (((Upd.refl _ _).alloc _).alloc _).alloc _, ?_⟩
  · exact cell_new (by simp) rfl
  · exact cell_kept (cell_new (by simp) rfl) (Below.heap_alloc _ _ _ (by simp))
  · exact (MapAt.made w).of_heap ((Below.heap_alloc _ _ _ (by simp; omega)).trans (Below.heap_alloc _ _ _ (by simp)))
  · simp

set_option maxHeartbeats 1000000 in
theorem setMt_any (w : World) (t mt : Nat) (cs : Array Value) (h : w.heap[t]? = some (.cells cs 87 (0, 0))) (u : Value) (hc : cs[0]? = some u) : Calls Try.prog 27 #[.pointer (some ⟨t, 0, none⟩), .pointer (some ⟨mt, 0, none⟩)] w fun e w' => e = .returned (.tuple #[]) ∧ w' = w.setCell ⟨t, 0, none⟩ (tabV mt) := by
  have c0 : w.cell? ⟨t, 0, none⟩ = some u := by simp [World.cell?, h, hc]
  have f0 : w.frozen? ⟨t, 0, none⟩ = false := by simp [World.frozen?, h]
  clear h hc
  go_enter Try.func27, Try.ntmps27
  go_wp2
  go_end0
  exact ⟨rfl, rfl⟩

theorem St.apart {w : World} {ls g mp : Nat} {f : Value → Option Value} (h : St w ls g mp f) : ls ≠ mp ∧ g ≠ mp := by
  obtain ⟨c1, c2, es, clock, hb, -, -⟩ := h
  constructor
  · rintro rfl
    simp [World.cell?, hb] at c1
  · rintro rfl
    simp [World.cell?, hb] at c2
theorem St.kept {w w' : World} {ls g mp : Nat} {f : Value → Option Value} (h : St w ls g mp f) (u : None w w') : St w' ls g mp f :=
  ⟨old_at u h.c1, old_at u h.c2, h.mp.of_heap (u.block _ h.mp.lt fun h => h)⟩
set_option maxHeartbeats 1000000 in
theorem setBuiltin_any (w : World) (ls g mp t : Nat) (f : Value → Option Value) (k : Int) (h : St w ls g mp f) : Calls Try.prog 19 #[.pointer (some ⟨ls, 0, none⟩), .int .i64 k, .pointer (some ⟨t, 0, none⟩)] w fun e w' => e = .returned (.tuple #[]) ∧ St w' ls g mp (fun q => if ikEq q (.int .i64 k) then some (tabV t) else f q) ∧ Upd (fun b => b = mp) w w' := by
  have HS := Lib.hid h
  obtain ⟨c1, c2, hmp⟩ := h
  have HM := Lib.hid hmp
  clear hmp
  go_enter Try.func19, Try.ntmps19
  go_wp2_with (at_mapUpdate; go_must (refine wpList_mapUpdate_mp ik_law rfl _ _ _ _ _ rfl Try.underlying47 mp _ rfl HM.out (.int .i64 k) (tabV t) rfl ⟨k, rfl⟩ rfl ?_); intro w1 hm1 hg1)
  go_end0
  obtain ⟨n1, n2⟩ := HS.out.apart
  have hu : Upd (fun b => b = mp) w w1 := Upd.of_grownBy hg1 fun b hb => (by cases hb; rfl)
  exact ⟨rfl, ⟨cell_kept c1 (hu.block _ (World.block_lt_of_cell? w _ c1) n1), cell_kept c2 (hu.block _ (World.block_lt_of_cell? w _ c2) n2), hm1⟩, hu⟩

set_option maxHeartbeats 1000000 in
theorem newUd_none (w : World) : Calls Try.prog 29 #[] w fun e w' => e = .returned (.pointer (some ⟨w.heap.size, 0, none⟩)) ∧ w'.cell? ⟨w.heap.size, 2, none⟩ = some lnil ∧ None w w' := by
  go_enter Try.func29, Try.ntmps29
  go_wp2
  go_ret
  refine ⟨rfl, ?_, (Upd.refl _ _).alloc _⟩
  exact cell_new rfl rfl
set_option maxHeartbeats 1000000 in
theorem newUd_some (w : World) (t : Nat) : Calls Try.prog 30 #[.pointer (some ⟨t, 0, none⟩)] w fun e w' => e = .returned (.pointer (some ⟨w.heap.size, 0, none⟩)) ∧ w'.cell? ⟨w.heap.size, 2, none⟩ = some (tabV t) ∧ None w w' := by
  go_enter Try.func30, Try.ntmps30
  go_wp2
  go_ret
  refine ⟨rfl, ?_, (Upd.refl _ _).alloc _⟩
  exact cell_new rfl rfl
theorem newTable_any (w : World) : Calls Try.prog 9 #[] w (Fresh w 0 0) := by
  have C := Lib.hid (newLTable_any w 0 0 (by omega) (by omega))
  go_enter Try.func9, Try.ntmps9
  go_wp2_with (go_at_call 25; refine C.out.mono ?_; intro e w1 hf; obtain ⟨rfl, hR⟩ := hf; have HR := Lib.hid hR; clear hR)
  go_ret
  exact ⟨rfl, HR.out⟩
theorem setString_any (w : World) (t : Nat) (T : Tab) (F : Nat → Prop) (h : TabAt w t T F) (hwf : T.Wf) (s v : ByteArray) :
    Calls Try.prog 10 #[.pointer (some ⟨t, 0, none⟩), .string s, .string v] w (UpdTo F w t (T.setStr s (lstr v))) := by
  have C := Lib.hid (rawSetString_any w t T F h hwf s (lstr v) (.inr ⟨_, _, rfl, by decide⟩))
  clear h hwf
  go_enter Try.func10, Try.ntmps10
  go_wp2_with (go_at_call 26; refine C.out.mono ?_; intro e w1 hf; obtain ⟨rfl, hR⟩ := hf; have HR := Lib.hid hR; clear hR)
  go_end0
  exact ⟨rfl, HR.out⟩
theorem setTable_any (w : World) (t : Nat) (T : Tab) (F : Nat → Prop) (h : TabAt w t T F) (hwf : T.Wf) (s : ByteArray) (l : Nat) :
    Calls Try.prog 15 #[.pointer (some ⟨t, 0, none⟩), .string s, .pointer (some ⟨l, 0, none⟩)] w (UpdTo F w t (T.setStr s (tabV l))) := by
  have C := Lib.hid (rawSetString_any w t T F h hwf s (tabV l) (.inr ⟨_, _, rfl, by decide⟩))
  clear h hwf
  go_enter Try.func15, Try.ntmps15
  go_wp2_with (go_at_call 26; refine C.out.mono ?_; intro e w1 hf; obtain ⟨rfl, hR⟩ := hf; have HR := Lib.hid hR; clear hR)
  go_end0
  exact ⟨rfl, HR.out⟩

set_option maxHeartbeats 1000000 in
theorem obsOf_any (w : World) (a b : Bool) (p : Option Addr) (s : ByteArray) : Calls Try.prog 20 #[.bool a, .pointer p, .string s, .bool b] w fun e w' => e = .returned (.agg #[.bool a, .pointer p, .string s, .bool b]) ∧ None w w' := by
  go_enter Try.func20, Try.ntmps20
  go_wp2
  refine bodyPost_ret (v := .agg #[.bool a, .pointer p, .string s, .bool b]) ?_ rfl ⟨rfl, ?_⟩
  · have hr : Try.f20.results = #[ResultVar.cell 8 30] := rfl
    simp only [results, hr]
    go_simp
  · exact (Upd.refl _ _).alloc _

set_option maxRecDepth 100000 in
theorem is_none (w : World) : Calls Try.prog 12 #[.agg #[.bool true, .pointer none, .string ⟨#[]⟩, .bool false], .pointer none] w fun e w' => e = .returned (.bool true) ∧ None w w' := by
  go_enter Try.func12, Try.ntmps12
  go_wp2
  go_ret
  exact ⟨rfl, (Upd.refl _ _).alloc _⟩
theorem tab_info : ∃ j, Try.prog.info? 87 = some j := Option.isSome_iff_exists.1 (by kernel_rfl)
theorem tab_same (w : World) (a : Addr) : (binOp .eql 26 (.pointer (some a)) (.pointer (some a))).run Try.prog w = .ok (.bool true) w := by
  obtain ⟨j, hj⟩ := tab_info
  exact run_eql_ptr_same w a Try.underlying26 hj
set_option maxRecDepth 100000 in
theorem is_tab (w : World) (t : Nat) : Calls Try.prog 12 #[.agg #[.bool false, .pointer (some ⟨t, 0, none⟩), .string ⟨#[]⟩, .bool false], .pointer (some ⟨t, 0, none⟩)] w fun e w' => e = .returned (.bool true) ∧ None w w' := by
  have hsame := fun w => tab_same w ⟨t, 0, none⟩
  go_enter Try.func12, Try.ntmps12
  go_wp2
  go_ret
  exact ⟨rfl, (Upd.refl _ _).alloc _⟩
set_option maxRecDepth 100000 in
theorem is_str (w : World) (s : ByteArray) : Calls Try.prog 13 #[.agg #[.bool false, .pointer none, .string s, .bool true], .string s] w fun e w' => e = .returned (.bool true) ∧ None w w' := by
  go_enter Try.func13, Try.ntmps13
  go_wp2
  go_ret
  exact ⟨rfl, (Upd.refl _ _).alloc _⟩
end Go.Lua
