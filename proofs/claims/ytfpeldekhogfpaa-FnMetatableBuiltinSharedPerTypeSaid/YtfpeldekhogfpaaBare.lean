/-
  The observers with no metatable, kind by kind (printed by mk84.py).
-/
import Derived.Test.YtfpeldekhogfpaaWatch2
namespace Go.Lua
open Go.Proofs Go.RowKit
set_option linter.unusedVariables false

set_option maxHeartbeats 4000000 in
set_option maxRecDepth 100000 in
theorem bareMt0 (w : World) (ls g mp : Nat) (hS : St w ls g mp (fun _ => none)) (x : Nat) (s : ByteArray) (b : Bool) (raw : Bool) :
    Calls Try.prog 16 #[.pointer (some ⟨ls, 0, none⟩), .int .i64 0, .pointer none, .float .f64 x, .string s, .bool b, .bool raw] w (Saw w ls g mp #[.bool true, .pointer none, .string ⟨#[]⟩, .bool false]) := by
  have HD := Lib.hid (Mid.start hS)
  have hls := World.block_lt_of_cell? w _ hS.c1
  have hg := World.block_lt_of_cell? w _ hS.c2
  have hmp := hS.mp.lt
  simp only at hls hg
  clear hS
  go_enter Try.func16, Try.ntmps16
  go_wp2_with (first
    | (go_at_call 9; refine (newTable_any _).mono ?_; intro e w1 hf; obtain ⟨rfl, hU, cs, hcs, hcs0⟩ := fresh_cell hf; have HD := Lib.hid (HD.out.quiet hU); have HC : w1.heap[w.heap.size + 1]? = some (.cells cs 87 (0, 0)) := (by simpa using hcs); have HK := Lib.hid (Kind.tab (w := w1) (ls := ls) (w.heap.size + 1) lnil (by simp [World.cell?, HC, hcs0])); clear hf hU hcs hcs0 HC)
    | (go_at_call 24; refine (mtOfTable _ ls _ lnil lnil _ HK.out .none raw (by cases raw <;> exact .none)).mono ?_; rintro e w3 ⟨rfl, d, rfl⟩; have HD := Lib.hid (HD.out.drew d))
    | (go_at_call 20; refine (obsOf_any _ _ _ _ _).mono ?_; rintro e w4 ⟨rfl, hU⟩; have HD := Lib.hid (HD.out.quiet hU); obtain ⟨⟨c0, c1, c2, c3⟩, hz⟩ := HD.out.cells; have z0 := hz 0; have z1 := hz 1; have z2 := hz 2; have z3 := hz 3; clear hU hz))
  refine bodyPost_ret (v := .agg #[.bool true, .pointer none, .string ⟨#[]⟩, .bool false]) ?_ rfl ⟨rfl, HD.out.fin (by omega) (by omega) hmp _ _ _ _⟩
  have hr : Try.f16.results = #[ResultVar.cell 14 30] := rfl
  simp only [results, hr]
  go_simp

set_option maxHeartbeats 4000000 in
set_option maxRecDepth 100000 in
theorem bareMt1 (w : World) (ls g mp : Nat) (hS : St w ls g mp (fun _ => none)) (x : Nat) (s : ByteArray) (b : Bool) (raw : Bool) :
    Calls Try.prog 16 #[.pointer (some ⟨ls, 0, none⟩), .int .i64 1, .pointer none, .float .f64 x, .string s, .bool b, .bool raw] w (Saw w ls g mp #[.bool true, .pointer none, .string ⟨#[]⟩, .bool false]) := by
  have HD := Lib.hid (Mid.start hS)
  have hls := World.block_lt_of_cell? w _ hS.c1
  have hg := World.block_lt_of_cell? w _ hS.c2
  have hmp := hS.mp.lt
  simp only at hls hg
  clear hS
  go_enter Try.func16, Try.ntmps16
  go_wp2_with (first
    | (go_at_call 29; refine (newUd_none _).mono ?_; rintro e w1 ⟨rfl, hc, hU⟩; have HD := Lib.hid (HD.out.quiet hU); have HK := Lib.hid (Kind.ud (w := w1) (ls := ls) (w.heap.size + 1) lnil (by simpa using hc)); clear hc hU)
    | (go_at_call 35; refine (mtOfUserData _ ls _ lnil lnil _ HK.out .none raw (by cases raw <;> exact .none)).mono ?_; rintro e w3 ⟨rfl, d, rfl⟩; have HD := Lib.hid (HD.out.drew d))
    | (go_at_call 20; refine (obsOf_any _ _ _ _ _).mono ?_; rintro e w4 ⟨rfl, hU⟩; have HD := Lib.hid (HD.out.quiet hU); obtain ⟨⟨c0, c1, c2, c3⟩, hz⟩ := HD.out.cells; have z0 := hz 0; have z1 := hz 1; have z2 := hz 2; have z3 := hz 3; clear hU hz))
  refine bodyPost_ret (v := .agg #[.bool true, .pointer none, .string ⟨#[]⟩, .bool false]) ?_ rfl ⟨rfl, HD.out.fin (by omega) (by omega) hmp _ _ _ _⟩
  have hr : Try.f16.results = #[ResultVar.cell 14 30] := rfl
  simp only [results, hr]
  go_simp

set_option maxHeartbeats 4000000 in
set_option maxRecDepth 100000 in
theorem bareMt2 (w : World) (ls g mp : Nat) (hS : St w ls g mp (fun _ => none)) (x : Nat) (s : ByteArray) (b : Bool) (raw : Bool) :
    Calls Try.prog 16 #[.pointer (some ⟨ls, 0, none⟩), .int .i64 2, .pointer none, .float .f64 x, .string s, .bool b, .bool raw] w (Saw w ls g mp #[.bool true, .pointer none, .string ⟨#[]⟩, .bool false]) := by
  have HD := Lib.hid (Mid.start hS)
  have HK := Lib.hid (Kind.num (w := w.alloc (.cells zeroObs 30)) (ls := ls) x g mp _ (hS.kept ((Upd.refl _ _).alloc _)) lnil (by simp [isNil, lnil]))
  have hls := World.block_lt_of_cell? w _ hS.c1
  have hg := World.block_lt_of_cell? w _ hS.c2
  have hmp := hS.mp.lt
  simp only at hls hg
  clear hS
  go_enter Try.func16, Try.ntmps16
  go_wp2_with (first
    | (go_at_call 21; refine (mtOfNumber _ ls _ lnil lnil _ HK.out .none raw (by cases raw <;> exact .none)).mono ?_; rintro e w3 ⟨rfl, d, rfl⟩; have HD := Lib.hid (HD.out.drew d))
    | (go_at_call 20; refine (obsOf_any _ _ _ _ _).mono ?_; rintro e w4 ⟨rfl, hU⟩; have HD := Lib.hid (HD.out.quiet hU); obtain ⟨⟨c0, c1, c2, c3⟩, hz⟩ := HD.out.cells; have z0 := hz 0; have z1 := hz 1; have z2 := hz 2; have z3 := hz 3; clear hU hz))
  refine bodyPost_ret (v := .agg #[.bool true, .pointer none, .string ⟨#[]⟩, .bool false]) ?_ rfl ⟨rfl, HD.out.fin (by omega) (by omega) hmp _ _ _ _⟩
  have hr : Try.f16.results = #[ResultVar.cell 14 30] := rfl
  simp only [results, hr]
  go_simp

set_option maxHeartbeats 4000000 in
set_option maxRecDepth 100000 in
theorem bareMt3 (w : World) (ls g mp : Nat) (hS : St w ls g mp (fun _ => none)) (x : Nat) (s : ByteArray) (b : Bool) (raw : Bool) :
    Calls Try.prog 16 #[.pointer (some ⟨ls, 0, none⟩), .int .i64 3, .pointer none, .float .f64 x, .string s, .bool b, .bool raw] w (Saw w ls g mp #[.bool true, .pointer none, .string ⟨#[]⟩, .bool false]) := by
  have HD := Lib.hid (Mid.start hS)
  have HK := Lib.hid (Kind.str (w := w.alloc (.cells zeroObs 30)) (ls := ls) s g mp _ (hS.kept ((Upd.refl _ _).alloc _)) lnil (by simp [isNil, lnil]))
  have hls := World.block_lt_of_cell? w _ hS.c1
  have hg := World.block_lt_of_cell? w _ hS.c2
  have hmp := hS.mp.lt
  simp only at hls hg
  clear hS
  go_enter Try.func16, Try.ntmps16
  go_wp2_with (first
    | (go_at_call 22; refine (mtOfString _ ls _ lnil lnil _ HK.out .none raw (by cases raw <;> exact .none)).mono ?_; rintro e w3 ⟨rfl, d, rfl⟩; have HD := Lib.hid (HD.out.drew d))
    | (go_at_call 20; refine (obsOf_any _ _ _ _ _).mono ?_; rintro e w4 ⟨rfl, hU⟩; have HD := Lib.hid (HD.out.quiet hU); obtain ⟨⟨c0, c1, c2, c3⟩, hz⟩ := HD.out.cells; have z0 := hz 0; have z1 := hz 1; have z2 := hz 2; have z3 := hz 3; clear hU hz))
  refine bodyPost_ret (v := .agg #[.bool true, .pointer none, .string ⟨#[]⟩, .bool false]) ?_ rfl ⟨rfl, HD.out.fin (by omega) (by omega) hmp _ _ _ _⟩
  have hr : Try.f16.results = #[ResultVar.cell 14 30] := rfl
  simp only [results, hr]
  go_simp

set_option maxHeartbeats 4000000 in
set_option maxRecDepth 100000 in
theorem bareMt4 (w : World) (ls g mp : Nat) (hS : St w ls g mp (fun _ => none)) (x : Nat) (s : ByteArray) (b : Bool) (raw : Bool) :
    Calls Try.prog 16 #[.pointer (some ⟨ls, 0, none⟩), .int .i64 4, .pointer none, .float .f64 x, .string s, .bool b, .bool raw] w (Saw w ls g mp #[.bool true, .pointer none, .string ⟨#[]⟩, .bool false]) := by
  have HD := Lib.hid (Mid.start hS)
  have HK := Lib.hid (Kind.bool (w := w.alloc (.cells zeroObs 30)) (ls := ls) b g mp _ (hS.kept ((Upd.refl _ _).alloc _)) lnil (by simp [isNil, lnil]))
  have hls := World.block_lt_of_cell? w _ hS.c1
  have hg := World.block_lt_of_cell? w _ hS.c2
  have hmp := hS.mp.lt
  simp only at hls hg
  clear hS
  go_enter Try.func16, Try.ntmps16
  go_wp2_with (first
    | (go_at_call 23; refine (mtOfBool _ ls _ lnil lnil _ HK.out .none raw (by cases raw <;> exact .none)).mono ?_; rintro e w3 ⟨rfl, d, rfl⟩; have HD := Lib.hid (HD.out.drew d))
    | (go_at_call 20; refine (obsOf_any _ _ _ _ _).mono ?_; rintro e w4 ⟨rfl, hU⟩; have HD := Lib.hid (HD.out.quiet hU); obtain ⟨⟨c0, c1, c2, c3⟩, hz⟩ := HD.out.cells; have z0 := hz 0; have z1 := hz 1; have z2 := hz 2; have z3 := hz 3; clear hU hz))
  refine bodyPost_ret (v := .agg #[.bool true, .pointer none, .string ⟨#[]⟩, .bool false]) ?_ rfl ⟨rfl, HD.out.fin (by omega) (by omega) hmp _ _ _ _⟩
  have hr : Try.f16.results = #[ResultVar.cell 14 30] := rfl
  simp only [results, hr]
  go_simp

set_option maxHeartbeats 4000000 in
set_option maxRecDepth 100000 in
theorem bareOp0 (w : World) (ls g mp : Nat) (hS : St w ls g mp (fun _ => none)) (x : Nat) (s : ByteArray) (b : Bool) (ev : ByteArray) :
    Calls Try.prog 11 #[.pointer (some ⟨ls, 0, none⟩), .int .i64 0, .pointer none, .float .f64 x, .string s, .bool b, .string ev] w (Saw w ls g mp #[.bool true, .pointer none, .string ⟨#[]⟩, .bool false]) := by
  have HD := Lib.hid (Mid.start hS)
  have hls := World.block_lt_of_cell? w _ hS.c1
  have hg := World.block_lt_of_cell? w _ hS.c2
  have hmp := hS.mp.lt
  simp only at hls hg
  clear hS
  go_enter Try.func11, Try.ntmps11
  go_wp2_with (first
    | (go_at_call 9; refine (newTable_any _).mono ?_; intro e w1 hf; obtain ⟨rfl, hU, cs, hcs, hcs0⟩ := fresh_cell hf; have HD := Lib.hid (HD.out.quiet hU); have HC : w1.heap[w.heap.size + 1]? = some (.cells cs 87 (0, 0)) := (by simpa using hcs); have HK := Lib.hid (Kind.tab (w := w1) (ls := ls) (w.heap.size + 1) lnil (by simp [World.cell?, HC, hcs0])); clear hf hU hcs hcs0 HC)
    | (go_at_call 28; refine (opOfTable _ ls _ lnil lnil lnil ev _ HK.out (.none ev) .none).mono ?_; rintro e w3 ⟨rfl, d, rfl⟩; have HD := Lib.hid (HD.out.drew d))
    | (go_at_call 20; refine (obsOf_any _ _ _ _ _).mono ?_; rintro e w4 ⟨rfl, hU⟩; have HD := Lib.hid (HD.out.quiet hU); obtain ⟨⟨c0, c1, c2, c3⟩, hz⟩ := HD.out.cells; have z0 := hz 0; have z1 := hz 1; have z2 := hz 2; have z3 := hz 3; clear hU hz))
  refine bodyPost_ret (v := .agg #[.bool true, .pointer none, .string ⟨#[]⟩, .bool false]) ?_ rfl ⟨rfl, HD.out.fin (by omega) (by omega) hmp _ _ _ _⟩
  have hr : Try.f11.results = #[ResultVar.cell 14 30] := rfl
  simp only [results, hr]
  go_simp

set_option maxHeartbeats 4000000 in
set_option maxRecDepth 100000 in
theorem bareOp1 (w : World) (ls g mp : Nat) (hS : St w ls g mp (fun _ => none)) (x : Nat) (s : ByteArray) (b : Bool) (ev : ByteArray) :
    Calls Try.prog 11 #[.pointer (some ⟨ls, 0, none⟩), .int .i64 1, .pointer none, .float .f64 x, .string s, .bool b, .string ev] w (Saw w ls g mp #[.bool true, .pointer none, .string ⟨#[]⟩, .bool false]) := by
  have HD := Lib.hid (Mid.start hS)
  have hls := World.block_lt_of_cell? w _ hS.c1
  have hg := World.block_lt_of_cell? w _ hS.c2
  have hmp := hS.mp.lt
  simp only at hls hg
  clear hS
  go_enter Try.func11, Try.ntmps11
  go_wp2_with (first
    | (go_at_call 29; refine (newUd_none _).mono ?_; rintro e w1 ⟨rfl, hc, hU⟩; have HD := Lib.hid (HD.out.quiet hU); have HK := Lib.hid (Kind.ud (w := w1) (ls := ls) (w.heap.size + 1) lnil (by simpa using hc)); clear hc hU)
    | (go_at_call 31; refine (opOfUserData _ ls _ lnil lnil lnil ev _ HK.out (.none ev) .none).mono ?_; rintro e w3 ⟨rfl, d, rfl⟩; have HD := Lib.hid (HD.out.drew d))
    | (go_at_call 20; refine (obsOf_any _ _ _ _ _).mono ?_; rintro e w4 ⟨rfl, hU⟩; have HD := Lib.hid (HD.out.quiet hU); obtain ⟨⟨c0, c1, c2, c3⟩, hz⟩ := HD.out.cells; have z0 := hz 0; have z1 := hz 1; have z2 := hz 2; have z3 := hz 3; clear hU hz))
  refine bodyPost_ret (v := .agg #[.bool true, .pointer none, .string ⟨#[]⟩, .bool false]) ?_ rfl ⟨rfl, HD.out.fin (by omega) (by omega) hmp _ _ _ _⟩
  have hr : Try.f11.results = #[ResultVar.cell 14 30] := rfl
  simp only [results, hr]
  go_simp

set_option maxHeartbeats 4000000 in
set_option maxRecDepth 100000 in
theorem bareOp2 (w : World) (ls g mp : Nat) (hS : St w ls g mp (fun _ => none)) (x : Nat) (s : ByteArray) (b : Bool) (ev : ByteArray) :
    Calls Try.prog 11 #[.pointer (some ⟨ls, 0, none⟩), .int .i64 2, .pointer none, .float .f64 x, .string s, .bool b, .string ev] w (Saw w ls g mp #[.bool true, .pointer none, .string ⟨#[]⟩, .bool false]) := by
  have HD := Lib.hid (Mid.start hS)
  have HK := Lib.hid (Kind.num (w := w.alloc (.cells zeroObs 30)) (ls := ls) x g mp _ (hS.kept ((Upd.refl _ _).alloc _)) lnil (by simp [isNil, lnil]))
  have hls := World.block_lt_of_cell? w _ hS.c1
  have hg := World.block_lt_of_cell? w _ hS.c2
  have hmp := hS.mp.lt
  simp only at hls hg
  clear hS
  go_enter Try.func11, Try.ntmps11
  go_wp2_with (first
    | (go_at_call 32; refine (opOfNumber _ ls _ lnil lnil lnil ev _ HK.out (.none ev) .none).mono ?_; rintro e w3 ⟨rfl, d, rfl⟩; have HD := Lib.hid (HD.out.drew d))
    | (go_at_call 20; refine (obsOf_any _ _ _ _ _).mono ?_; rintro e w4 ⟨rfl, hU⟩; have HD := Lib.hid (HD.out.quiet hU); obtain ⟨⟨c0, c1, c2, c3⟩, hz⟩ := HD.out.cells; have z0 := hz 0; have z1 := hz 1; have z2 := hz 2; have z3 := hz 3; clear hU hz))
  refine bodyPost_ret (v := .agg #[.bool true, .pointer none, .string ⟨#[]⟩, .bool false]) ?_ rfl ⟨rfl, HD.out.fin (by omega) (by omega) hmp _ _ _ _⟩
  have hr : Try.f11.results = #[ResultVar.cell 14 30] := rfl
  simp only [results, hr]
  go_simp

set_option maxHeartbeats 4000000 in
set_option maxRecDepth 100000 in
theorem bareOp3 (w : World) (ls g mp : Nat) (hS : St w ls g mp (fun _ => none)) (x : Nat) (s : ByteArray) (b : Bool) (ev : ByteArray) :
    Calls Try.prog 11 #[.pointer (some ⟨ls, 0, none⟩), .int .i64 3, .pointer none, .float .f64 x, .string s, .bool b, .string ev] w (Saw w ls g mp #[.bool true, .pointer none, .string ⟨#[]⟩, .bool false]) := by
  have HD := Lib.hid (Mid.start hS)
  have HK := Lib.hid (Kind.str (w := w.alloc (.cells zeroObs 30)) (ls := ls) s g mp _ (hS.kept ((Upd.refl _ _).alloc _)) lnil (by simp [isNil, lnil]))
  have hls := World.block_lt_of_cell? w _ hS.c1
  have hg := World.block_lt_of_cell? w _ hS.c2
  have hmp := hS.mp.lt
  simp only at hls hg
  clear hS
  go_enter Try.func11, Try.ntmps11
  go_wp2_with (first
    | (go_at_call 33; refine (opOfString _ ls _ lnil lnil lnil ev _ HK.out (.none ev) .none).mono ?_; rintro e w3 ⟨rfl, d, rfl⟩; have HD := Lib.hid (HD.out.drew d))
    | (go_at_call 20; refine (obsOf_any _ _ _ _ _).mono ?_; rintro e w4 ⟨rfl, hU⟩; have HD := Lib.hid (HD.out.quiet hU); obtain ⟨⟨c0, c1, c2, c3⟩, hz⟩ := HD.out.cells; have z0 := hz 0; have z1 := hz 1; have z2 := hz 2; have z3 := hz 3; clear hU hz))
  refine bodyPost_ret (v := .agg #[.bool true, .pointer none, .string ⟨#[]⟩, .bool false]) ?_ rfl ⟨rfl, HD.out.fin (by omega) (by omega) hmp _ _ _ _⟩
  have hr : Try.f11.results = #[ResultVar.cell 14 30] := rfl
  simp only [results, hr]
  go_simp

set_option maxHeartbeats 4000000 in
set_option maxRecDepth 100000 in
theorem bareOp4 (w : World) (ls g mp : Nat) (hS : St w ls g mp (fun _ => none)) (x : Nat) (s : ByteArray) (b : Bool) (ev : ByteArray) :
    Calls Try.prog 11 #[.pointer (some ⟨ls, 0, none⟩), .int .i64 4, .pointer none, .float .f64 x, .string s, .bool b, .string ev] w (Saw w ls g mp #[.bool true, .pointer none, .string ⟨#[]⟩, .bool false]) := by
  have HD := Lib.hid (Mid.start hS)
  have HK := Lib.hid (Kind.bool (w := w.alloc (.cells zeroObs 30)) (ls := ls) b g mp _ (hS.kept ((Upd.refl _ _).alloc _)) lnil (by simp [isNil, lnil]))
  have hls := World.block_lt_of_cell? w _ hS.c1
  have hg := World.block_lt_of_cell? w _ hS.c2
  have hmp := hS.mp.lt
  simp only at hls hg
  clear hS
  go_enter Try.func11, Try.ntmps11
  go_wp2_with (first
    | (go_at_call 34; refine (opOfBool _ ls _ lnil lnil lnil ev _ HK.out (.none ev) .none).mono ?_; rintro e w3 ⟨rfl, d, rfl⟩; have HD := Lib.hid (HD.out.drew d))
    | (go_at_call 20; refine (obsOf_any _ _ _ _ _).mono ?_; rintro e w4 ⟨rfl, hU⟩; have HD := Lib.hid (HD.out.quiet hU); obtain ⟨⟨c0, c1, c2, c3⟩, hz⟩ := HD.out.cells; have z0 := hz 0; have z1 := hz 1; have z2 := hz 2; have z3 := hz 3; clear hU hz))
  refine bodyPost_ret (v := .agg #[.bool true, .pointer none, .string ⟨#[]⟩, .bool false]) ?_ rfl ⟨rfl, HD.out.fin (by omega) (by omega) hmp _ _ _ _⟩
  have hr : Try.f11.results = #[ResultVar.cell 14 30] := rfl
  simp only [results, hr]
  go_simp
end Go.Lua
