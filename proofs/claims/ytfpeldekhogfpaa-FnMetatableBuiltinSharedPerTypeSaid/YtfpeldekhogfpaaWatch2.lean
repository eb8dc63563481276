/-
  The observers, kind by kind (printed by mk84.py).
-/
import Derived.Test.YtfpeldekhogfpaaWatch
namespace Go.Lua
open Go.Proofs Go.RowKit
set_option linter.unusedVariables false

abbrev zeroObs : Array Value := #[.bool false, .pointer none, .string ⟨#[]⟩, .bool false]
/-- Midway through an observer: the state stands, the metatable stands, the result's cell lies there. -/
structure Mid (w : World) (ls g mp : Nat) (w2 : World) : Prop where
  st : ∃ f, St w2 ls g mp f
  upd : Upd (fun k => k = mp) w w2
  head : w2.heap[w.heap.size]? = some (.cells zeroObs 30 (0, 0))
theorem Mid.start {w : World} {ls g mp : Nat} {f : Value → Option Value} (h : St w ls g mp f) : Mid w ls g mp (w.alloc (.cells zeroObs 30)) :=
  ⟨⟨f, h.kept ((Upd.refl _ _).alloc _)⟩, (Upd.refl _ _).alloc _, heap_alloc_new _ _⟩
theorem Mid.quiet {w : World} {ls g mp : Nat} {w2 w3 : World} (h : Mid w ls g mp w2) (u : None w2 w3) : Mid w ls g mp w3 := by
  obtain ⟨⟨f, hs⟩, hu, hh⟩ := h
  exact ⟨⟨f, hs.kept u⟩, hu.trans (u.mono fun k _ hk => hk.elim), (u.block _ (Array.getElem?_eq_some_iff.1 hh).1 (fun h => h)).trans hh⟩
theorem Mid.drew {w : World} {ls g mp : Nat} {w2 : World} (h : Mid w ls g mp w2) (n : Nat) : Mid w ls g mp (w2.drewN n) := h.quiet ((Upd.refl _ _).drewN n)
theorem Mid.cells {w : World} {ls g mp : Nat} {w2 : World} (h : Mid w ls g mp w2) : (w2.cell? ⟨w.heap.size, 0, none⟩ = some (.bool false) ∧ w2.cell? ⟨w.heap.size, 1, none⟩ = some (.pointer none) ∧ w2.cell? ⟨w.heap.size, 2, none⟩ = some (.string ⟨#[]⟩) ∧ w2.cell? ⟨w.heap.size, 3, none⟩ = some (.bool false)) ∧ ∀ i, w2.frozen? ⟨w.heap.size, i, none⟩ = false := by
  simp [World.cell?, World.frozen?, h.head]
theorem Mid.fin {w : World} {ls g mp : Nat} {w2 : World} (h : Mid w ls g mp w2) (hls : ls ≠ w.heap.size) (hg : g ≠ w.heap.size) (hmp : mp < w.heap.size) (a b c d : Value) :
    (∃ f, St ((((w2.setCell ⟨w.heap.size, 0, none⟩ a).setCell ⟨w.heap.size, 1, none⟩ b).setCell ⟨w.heap.size, 2, none⟩ c).setCell ⟨w.heap.size, 3, none⟩ d) ls g mp f) ∧ Upd (fun k => k = mp) w ((((w2.setCell ⟨w.heap.size, 0, none⟩ a).setCell ⟨w.heap.size, 1, none⟩ b).setCell ⟨w.heap.size, 2, none⟩ c).setCell ⟨w.heap.size, 3, none⟩ d) := by
  obtain ⟨⟨f, hs⟩, hu, hh⟩ := h
  have hS : St ((((w2.setCell ⟨w.heap.size, 0, none⟩ a).setCell ⟨w.heap.size, 1, none⟩ b).setCell ⟨w.heap.size, 2, none⟩ c).setCell ⟨w.heap.size, 3, none⟩ d) ls g mp f := by
    have k : ∀ i, i ≠ w.heap.size → ((((w2.setCell ⟨w.heap.size, 0, none⟩ a).setCell ⟨w.heap.size, 1, none⟩ b).setCell ⟨w.heap.size, 2, none⟩ c).setCell ⟨w.heap.size, 3, none⟩ d).heap[i]? = w2.heap[i]? := fun i hi =>
      (Below.heap_setCell _ ⟨w.heap.size, 3, none⟩ _ _ hi).trans ((Below.heap_setCell _ ⟨w.heap.size, 2, none⟩ _ _ hi).trans ((Below.heap_setCell _ ⟨w.heap.size, 1, none⟩ _ _ hi).trans (Below.heap_setCell _ ⟨w.heap.size, 0, none⟩ _ _ hi)))
    exact ⟨cell_kept hs.c1 (k _ hls), cell_kept hs.c2 (k _ hg), hs.mp.of_heap (k _ (by omega))⟩
  exact ⟨⟨f, hS⟩, (((hu.setCell (.inr (Nat.le_refl _)) _).setCell (.inr (Nat.le_refl _)) _).setCell (.inr (Nat.le_refl _)) _).setCell (.inr (Nat.le_refl _)) _⟩
theorem Mid.setNew {w : World} {ls g mp : Nat} {w2 : World} (h : Mid w ls g mp w2) {t : Nat} (ht : w.heap.size < t) (hls : ls < w.heap.size) (hg : g < w.heap.size) (hmp : mp < w.heap.size) (v : Value) : Mid w ls g mp (w2.setCell ⟨t, 0, none⟩ v) := by
  obtain ⟨⟨f, hs⟩, hu, hh⟩ := h
  have k : ∀ i, i ≠ t → (w2.setCell ⟨t, 0, none⟩ v).heap[i]? = w2.heap[i]? := fun i hi => Below.heap_setCell _ ⟨t, 0, none⟩ _ _ hi
  exact ⟨⟨f, cell_kept hs.c1 (k _ (by show ls ≠ t; omega)), cell_kept hs.c2 (k _ (by show g ≠ t; omega)), hs.mp.of_heap (k _ (by omega))⟩, hu.setCell (.inr (Nat.le_of_lt ht)) _, (k _ (by omega)).trans hh⟩
theorem Mid.turn {w : World} {ls g mp : Nat} {w2 w3 : World} {f : Value → Option Value} (h : Mid w ls g mp w2) (hs : St w3 ls g mp f) (u : Upd (fun k => k = mp) w2 w3) (hmp : mp < w.heap.size) : Mid w ls g mp w3 := by
  obtain ⟨-, hu, hh⟩ := h
  exact ⟨⟨f, hs⟩, hu.trans (u.mono fun k _ hk => .inl hk), (u.block _ (Array.getElem?_eq_some_iff.1 hh).1 (by omega)).trans hh⟩

set_option maxHeartbeats 4000000 in
set_option maxRecDepth 100000 in
theorem watchMt0 (w : World) (F : Nat → Prop) (ls g mp t : Nat) (f : Value → Option Value) (T : Tab) (u : Value) (hS : St w ls g mp f) (hFm : ¬ F mp) (hF : ∀ k, F k → k < w.heap.size) (hM : MtAt F w t T u) (x : Nat) (s : ByteArray) (b : Bool) (raw : Bool) (q0 q3 : Bool) (q1 : Option Addr) (q2 : ByteArray)
    (hq : Seen (if raw then tabV t else u) #[.bool q0, .pointer q1, .string q2, .bool q3]) :
    Calls Try.prog 16 #[.pointer (some ⟨ls, 0, none⟩), .int .i64 0, .pointer (some ⟨t, 0, none⟩), .float .f64 x, .string s, .bool b, .bool raw] w (Saw w ls g mp #[.bool q0, .pointer q1, .string q2, .bool q3]) := by
  have HD := Lib.hid (Mid.start hS)
  have HM := Lib.hid (hM.kept ((Upd.refl (fun _ => False) w).alloc (.cells zeroObs 30)) (fun _ h => h.elim))
  have HQ := Lib.hid hq
  have hls := World.block_lt_of_cell? w _ hS.c1
  have hg := World.block_lt_of_cell? w _ hS.c2
  have hmp := hS.mp.lt
  simp only at hls hg
  clear hS hM hq
  go_enter Try.func16, Try.ntmps16
  go_wp2_with (first
    | (go_at_call 9; refine (newTable_any _).mono ?_; intro e w1 hf; obtain ⟨rfl, hU, cs, hcs, hcs0⟩ := fresh_cell hf; have HD := Lib.hid (HD.out.quiet hU); have HM := Lib.hid (HM.out.kept hU (fun _ h => h.elim)); have HC : Hid (w1.heap[w.heap.size + 1]? = some (.cells cs 87 (0, 0))) := Lib.hid (by simpa using hcs); have HC0 := Lib.hid hcs0; clear hf hU hcs hcs0)
    | (go_at_call 27; refine (setMt_any w1 _ t cs HC.out _ HC0.out).mono ?_; rintro e w2 ⟨rfl, rfl⟩; have HK := Lib.hid (Kind.tab (ls := ls) _ _ (set_cell HC.out HC0.out (v := tabV t))); have HD := Lib.hid (HD.out.setNew (t := w.heap.size + 1) (by omega) hls hg hmp (tabV t)); have HM := Lib.hid (HM.out.kept ((Upd.refl (fun k => k = w.heap.size + 1) w1).setCell (p := ⟨w.heap.size + 1, 0, none⟩) (.inl rfl) (tabV t)) (fun k h hf => by have := hF k hf; omega)))
    | (go_at_call 24; refine (mtOfTable _ ls _ _ _ _ HK.out HM.out.meta raw HQ.out).mono ?_; rintro e w3 ⟨rfl, d, rfl⟩; have HD := Lib.hid (HD.out.drew d))
    | (go_at_call 20; refine (obsOf_any _ _ _ _ _).mono ?_; rintro e w4 ⟨rfl, hU⟩; have HD := Lib.hid (HD.out.quiet hU); obtain ⟨⟨c0, c1, c2, c3⟩, hz⟩ := HD.out.cells; have z0 := hz 0; have z1 := hz 1; have z2 := hz 2; have z3 := hz 3; clear hU hz))
  refine bodyPost_ret (v := .agg #[.bool q0, .pointer q1, .string q2, .bool q3]) ?_ rfl ⟨rfl, HD.out.fin (by omega) (by omega) hmp _ _ _ _⟩
  have hr : Try.f16.results = #[ResultVar.cell 14 30] := rfl
  simp only [results, hr]
  go_simp

set_option maxHeartbeats 4000000 in
set_option maxRecDepth 100000 in
theorem watchMt1 (w : World) (F : Nat → Prop) (ls g mp t : Nat) (f : Value → Option Value) (T : Tab) (u : Value) (hS : St w ls g mp f) (hFm : ¬ F mp) (hF : ∀ k, F k → k < w.heap.size) (hM : MtAt F w t T u) (x : Nat) (s : ByteArray) (b : Bool) (raw : Bool) (q0 q3 : Bool) (q1 : Option Addr) (q2 : ByteArray)
    (hq : Seen (if raw then tabV t else u) #[.bool q0, .pointer q1, .string q2, .bool q3]) :
    Calls Try.prog 16 #[.pointer (some ⟨ls, 0, none⟩), .int .i64 1, .pointer (some ⟨t, 0, none⟩), .float .f64 x, .string s, .bool b, .bool raw] w (Saw w ls g mp #[.bool q0, .pointer q1, .string q2, .bool q3]) := by
  have HD := Lib.hid (Mid.start hS)
  have HM := Lib.hid (hM.kept ((Upd.refl (fun _ => False) w).alloc (.cells zeroObs 30)) (fun _ h => h.elim))
  have HQ := Lib.hid hq
  have hls := World.block_lt_of_cell? w _ hS.c1
  have hg := World.block_lt_of_cell? w _ hS.c2
  have hmp := hS.mp.lt
  simp only at hls hg
  clear hS hM hq
  go_enter Try.func16, Try.ntmps16
  go_wp2_with (first
    | (go_at_call 29; refine (newUd_none _).mono ?_; rintro e w1 ⟨rfl, -, hU⟩; have HD := Lib.hid (HD.out.quiet hU); have HM := Lib.hid (HM.out.kept hU (fun _ h => h.elim)); clear hU)
    | (go_at_call 30; refine (newUd_some _ _).mono ?_; rintro e w2 ⟨rfl, hc, hU⟩; have HD := Lib.hid (HD.out.quiet hU); have HM := Lib.hid (HM.out.kept hU (fun _ h => h.elim)); have HK := Lib.hid (Kind.ud (ls := ls) _ _ hc); clear hc hU)
    | (go_at_call 35; refine (mtOfUserData _ ls _ _ _ _ HK.out HM.out.meta raw HQ.out).mono ?_; rintro e w3 ⟨rfl, d, rfl⟩; have HD := Lib.hid (HD.out.drew d))
    | (go_at_call 20; refine (obsOf_any _ _ _ _ _).mono ?_; rintro e w4 ⟨rfl, hU⟩; have HD := Lib.hid (HD.out.quiet hU); obtain ⟨⟨c0, c1, c2, c3⟩, hz⟩ := HD.out.cells; have z0 := hz 0; have z1 := hz 1; have z2 := hz 2; have z3 := hz 3; clear hU hz))
  refine bodyPost_ret (v := .agg #[.bool q0, .pointer q1, .string q2, .bool q3]) ?_ rfl ⟨rfl, HD.out.fin (by omega) (by omega) hmp _ _ _ _⟩
  have hr : Try.f16.results = #[ResultVar.cell 14 30] := rfl
  simp only [results, hr]
  go_simp

set_option maxHeartbeats 4000000 in
set_option maxRecDepth 100000 in
theorem watchMt2 (w : World) (F : Nat → Prop) (ls g mp t : Nat) (f : Value → Option Value) (T : Tab) (u : Value) (hS : St w ls g mp f) (hFm : ¬ F mp) (hF : ∀ k, F k → k < w.heap.size) (hM : MtAt F w t T u) (x : Nat) (s : ByteArray) (b : Bool) (raw : Bool) (q0 q3 : Bool) (q1 : Option Addr) (q2 : ByteArray)
    (hq : Seen (if raw then tabV t else u) #[.bool q0, .pointer q1, .string q2, .bool q3]) :
    Calls Try.prog 16 #[.pointer (some ⟨ls, 0, none⟩), .int .i64 2, .pointer (some ⟨t, 0, none⟩), .float .f64 x, .string s, .bool b, .bool raw] w (Saw w ls g mp #[.bool q0, .pointer q1, .string q2, .bool q3]) := by
  have HD := Lib.hid (Mid.start hS)
  have HM := Lib.hid (hM.kept ((Upd.refl (fun _ => False) w).alloc (.cells zeroObs 30)) (fun _ h => h.elim))
  have HQ := Lib.hid hq
  have hls := World.block_lt_of_cell? w _ hS.c1
  have hg := World.block_lt_of_cell? w _ hS.c2
  have hmp := hS.mp.lt
  simp only at hls hg
  clear hS hM hq
  go_enter Try.func16, Try.ntmps16
  go_wp2_with (first
    | (go_at_call 19; obtain ⟨f1, hs1⟩ := HD.out.st; refine (setBuiltin_any _ ls g mp t f1 2 hs1).mono ?_; rintro e w2 ⟨rfl, hs2, hU⟩; have HK := Lib.hid (Kind.num (w := w2) (ls := ls) x g mp _ hs2 (tabV t) (by simp [ikEq, isNil])); have HD := Lib.hid (HD.out.turn hs2 hU hmp); have HM := Lib.hid (HM.out.kept hU (fun k h hf => hFm (h ▸ hf))); clear hs1 hs2 hU)
    | (go_at_call 21; refine (mtOfNumber _ ls _ _ _ _ HK.out HM.out.meta raw HQ.out).mono ?_; rintro e w3 ⟨rfl, d, rfl⟩; have HD := Lib.hid (HD.out.drew d))
    | (go_at_call 20; refine (obsOf_any _ _ _ _ _).mono ?_; rintro e w4 ⟨rfl, hU⟩; have HD := Lib.hid (HD.out.quiet hU); obtain ⟨⟨c0, c1, c2, c3⟩, hz⟩ := HD.out.cells; have z0 := hz 0; have z1 := hz 1; have z2 := hz 2; have z3 := hz 3; clear hU hz))
  refine bodyPost_ret (v := .agg #[.bool q0, .pointer q1, .string q2, .bool q3]) ?_ rfl ⟨rfl, HD.out.fin (by omega) (by omega) hmp _ _ _ _⟩
  have hr : Try.f16.results = #[ResultVar.cell 14 30] := rfl
  simp only [results, hr]
  go_simp

set_option maxHeartbeats 4000000 in
set_option maxRecDepth 100000 in
theorem watchMt3 (w : World) (F : Nat → Prop) (ls g mp t : Nat) (f : Value → Option Value) (T : Tab) (u : Value) (hS : St w ls g mp f) (hFm : ¬ F mp) (hF : ∀ k, F k → k < w.heap.size) (hM : MtAt F w t T u) (x : Nat) (s : ByteArray) (b : Bool) (raw : Bool) (q0 q3 : Bool) (q1 : Option Addr) (q2 : ByteArray)
    (hq : Seen (if raw then tabV t else u) #[.bool q0, .pointer q1, .string q2, .bool q3]) :
    Calls Try.prog 16 #[.pointer (some ⟨ls, 0, none⟩), .int .i64 3, .pointer (some ⟨t, 0, none⟩), .float .f64 x, .string s, .bool b, .bool raw] w (Saw w ls g mp #[.bool q0, .pointer q1, .string q2, .bool q3]) := by
  have HD := Lib.hid (Mid.start hS)
  have HM := Lib.hid (hM.kept ((Upd.refl (fun _ => False) w).alloc (.cells zeroObs 30)) (fun _ h => h.elim))
  have HQ := Lib.hid hq
  have hls := World.block_lt_of_cell? w _ hS.c1
  have hg := World.block_lt_of_cell? w _ hS.c2
  have hmp := hS.mp.lt
  simp only at hls hg
  clear hS hM hq
  go_enter Try.func16, Try.ntmps16
  go_wp2_with (first
    | (go_at_call 19; obtain ⟨f1, hs1⟩ := HD.out.st; refine (setBuiltin_any _ ls g mp t f1 3 hs1).mono ?_; rintro e w2 ⟨rfl, hs2, hU⟩; have HK := Lib.hid (Kind.str (w := w2) (ls := ls) s g mp _ hs2 (tabV t) (by simp [ikEq, isNil])); have HD := Lib.hid (HD.out.turn hs2 hU hmp); have HM := Lib.hid (HM.out.kept hU (fun k h hf => hFm (h ▸ hf))); clear hs1 hs2 hU)
    | (go_at_call 22; refine (mtOfString _ ls _ _ _ _ HK.out HM.out.meta raw HQ.out).mono ?_; rintro e w3 ⟨rfl, d, rfl⟩; have HD := Lib.hid (HD.out.drew d))
    | (go_at_call 20; refine (obsOf_any _ _ _ _ _).mono ?_; rintro e w4 ⟨rfl, hU⟩; have HD := Lib.hid (HD.out.quiet hU); obtain ⟨⟨c0, c1, c2, c3⟩, hz⟩ := HD.out.cells; have z0 := hz 0; have z1 := hz 1; have z2 := hz 2; have z3 := hz 3; clear hU hz))
  refine bodyPost_ret (v := .agg #[.bool q0, .pointer q1, .string q2, .bool q3]) ?_ rfl ⟨rfl, HD.out.fin (by omega) (by omega) hmp _ _ _ _⟩
  have hr : Try.f16.results = #[ResultVar.cell 14 30] := rfl
  simp only [results, hr]
  go_simp

set_option maxHeartbeats 4000000 in
set_option maxRecDepth 100000 in
theorem watchMt4 (w : World) (F : Nat → Prop) (ls g mp t : Nat) (f : Value → Option Value) (T : Tab) (u : Value) (hS : St w ls g mp f) (hFm : ¬ F mp) (hF : ∀ k, F k → k < w.heap.size) (hM : MtAt F w t T u) (x : Nat) (s : ByteArray) (b : Bool) (raw : Bool) (q0 q3 : Bool) (q1 : Option Addr) (q2 : ByteArray)
    (hq : Seen (if raw then tabV t else u) #[.bool q0, .pointer q1, .string q2, .bool q3]) :
    Calls Try.prog 16 #[.pointer (some ⟨ls, 0, none⟩), .int .i64 4, .pointer (some ⟨t, 0, none⟩), .float .f64 x, .string s, .bool b, .bool raw] w (Saw w ls g mp #[.bool q0, .pointer q1, .string q2, .bool q3]) := by
  have HD := Lib.hid (Mid.start hS)
  have HM := Lib.hid (hM.kept ((Upd.refl (fun _ => False) w).alloc (.cells zeroObs 30)) (fun _ h => h.elim))
  have HQ := Lib.hid hq
  have hls := World.block_lt_of_cell? w _ hS.c1
  have hg := World.block_lt_of_cell? w _ hS.c2
  have hmp := hS.mp.lt
  simp only at hls hg
  clear hS hM hq
  go_enter Try.func16, Try.ntmps16
  go_wp2_with (first
    | (go_at_call 19; obtain ⟨f1, hs1⟩ := HD.out.st; refine (setBuiltin_any _ ls g mp t f1 1 hs1).mono ?_; rintro e w2 ⟨rfl, hs2, hU⟩; have HK := Lib.hid (Kind.bool (w := w2) (ls := ls) b g mp _ hs2 (tabV t) (by simp [ikEq, isNil])); have HD := Lib.hid (HD.out.turn hs2 hU hmp); have HM := Lib.hid (HM.out.kept hU (fun k h hf => hFm (h ▸ hf))); clear hs1 hs2 hU)
    | (go_at_call 23; refine (mtOfBool _ ls _ _ _ _ HK.out HM.out.meta raw HQ.out).mono ?_; rintro e w3 ⟨rfl, d, rfl⟩; have HD := Lib.hid (HD.out.drew d))
    | (go_at_call 20; refine (obsOf_any _ _ _ _ _).mono ?_; rintro e w4 ⟨rfl, hU⟩; have HD := Lib.hid (HD.out.quiet hU); obtain ⟨⟨c0, c1, c2, c3⟩, hz⟩ := HD.out.cells; have z0 := hz 0; have z1 := hz 1; have z2 := hz 2; have z3 := hz 3; clear hU hz))
  refine bodyPost_ret (v := .agg #[.bool q0, .pointer q1, .string q2, .bool q3]) ?_ rfl ⟨rfl, HD.out.fin (by omega) (by omega) hmp _ _ _ _⟩
  have hr : Try.f16.results = #[ResultVar.cell 14 30] := rfl
  simp only [results, hr]
  go_simp

set_option maxHeartbeats 4000000 in
set_option maxRecDepth 100000 in
theorem watchOp0 (w : World) (F : Nat → Prop) (ls g mp t : Nat) (f : Value → Option Value) (T : Tab) (u : Value) (hS : St w ls g mp f) (hFm : ¬ F mp) (hF : ∀ k, F k → k < w.heap.size) (hM : MtAt F w t T u) (x : Nat) (s : ByteArray) (b : Bool) (ev : ByteArray) (r : Value) (hr : T.sv ev = r) (q0 q3 : Bool) (q1 : Option Addr) (q2 : ByteArray)
    (hq : Seen r #[.bool q0, .pointer q1, .string q2, .bool q3]) :
    Calls Try.prog 11 #[.pointer (some ⟨ls, 0, none⟩), .int .i64 0, .pointer (some ⟨t, 0, none⟩), .float .f64 x, .string s, .bool b, .string ev] w (Saw w ls g mp #[.bool q0, .pointer q1, .string q2, .bool q3]) := by
  have HD := Lib.hid (Mid.start hS)
  have HM := Lib.hid (hM.kept ((Upd.refl (fun _ => False) w).alloc (.cells zeroObs 30)) (fun _ h => h.elim))
  have HQ := Lib.hid hq
  have HR := Lib.hid hr
  clear hr
  have hls := World.block_lt_of_cell? w _ hS.c1
  have hg := World.block_lt_of_cell? w _ hS.c2
  have hmp := hS.mp.lt
  simp only at hls hg
  clear hS hM hq
  go_enter Try.func11, Try.ntmps11
  go_wp2_with (first
    | (go_at_call 9; refine (newTable_any _).mono ?_; intro e w1 hf; obtain ⟨rfl, hU, cs, hcs, hcs0⟩ := fresh_cell hf; have HD := Lib.hid (HD.out.quiet hU); have HM := Lib.hid (HM.out.kept hU (fun _ h => h.elim)); have HC : Hid (w1.heap[w.heap.size + 1]? = some (.cells cs 87 (0, 0))) := Lib.hid (by simpa using hcs); have HC0 := Lib.hid hcs0; clear hf hU hcs hcs0)
    | (go_at_call 27; refine (setMt_any w1 _ t cs HC.out _ HC0.out).mono ?_; rintro e w2 ⟨rfl, rfl⟩; have HK := Lib.hid (Kind.tab (ls := ls) _ _ (set_cell HC.out HC0.out (v := tabV t))); have HD := Lib.hid (HD.out.setNew (t := w.heap.size + 1) (by omega) hls hg hmp (tabV t)); have HM := Lib.hid (HM.out.kept ((Upd.refl (fun k => k = w.heap.size + 1) w1).setCell (p := ⟨w.heap.size + 1, 0, none⟩) (.inl rfl) (tabV t)) (fun k h hf => by have := hF k hf; omega)))
    | (go_at_call 28; refine (opOfTable _ ls _ _ _ r ev _ HK.out (HM.out.ev ev HR.out) HQ.out).mono ?_; rintro e w3 ⟨rfl, d, rfl⟩; have HD := Lib.hid (HD.out.drew d))
    | (go_at_call 20; refine (obsOf_any _ _ _ _ _).mono ?_; rintro e w4 ⟨rfl, hU⟩; have HD := Lib.hid (HD.out.quiet hU); obtain ⟨⟨c0, c1, c2, c3⟩, hz⟩ := HD.out.cells; have z0 := hz 0; have z1 := hz 1; have z2 := hz 2; have z3 := hz 3; clear hU hz))
  refine bodyPost_ret (v := .agg #[.bool q0, .pointer q1, .string q2, .bool q3]) ?_ rfl ⟨rfl, HD.out.fin (by omega) (by omega) hmp _ _ _ _⟩
  have hr : Try.f11.results = #[ResultVar.cell 14 30] := rfl
  simp only [results, hr]
  go_simp

set_option maxHeartbeats 4000000 in
set_option maxRecDepth 100000 in
theorem watchOp1 (w : World) (F : Nat → Prop) (ls g mp t : Nat) (f : Value → Option Value) (T : Tab) (u : Value) (hS : St w ls g mp f) (hFm : ¬ F mp) (hF : ∀ k, F k → k < w.heap.size) (hM : MtAt F w t T u) (x : Nat) (s : ByteArray) (b : Bool) (ev : ByteArray) (r : Value) (hr : T.sv ev = r) (q0 q3 : Bool) (q1 : Option Addr) (q2 : ByteArray)
    (hq : Seen r #[.bool q0, .pointer q1, .string q2, .bool q3]) :
    Calls Try.prog 11 #[.pointer (some ⟨ls, 0, none⟩), .int .i64 1, .pointer (some ⟨t, 0, none⟩), .float .f64 x, .string s, .bool b, .string ev] w (Saw w ls g mp #[.bool q0, .pointer q1, .string q2, .bool q3]) := by
  have HD := Lib.hid (Mid.start hS)
  have HM := Lib.hid (hM.kept ((Upd.refl (fun _ => False) w).alloc (.cells zeroObs 30)) (fun _ h => h.elim))
  have HQ := Lib.hid hq
  have HR := Lib.hid hr
  clear hr
  have hls := World.block_lt_of_cell? w _ hS.c1
  have hg := World.block_lt_of_cell? w _ hS.c2
  have hmp := hS.mp.lt
  simp only at hls hg
  clear hS hM hq
  go_enter Try.func11, Try.ntmps11
  go_wp2_with (first
    | (go_at_call 29; refine (newUd_none _).mono ?_; rintro e w1 ⟨rfl, -, hU⟩; have HD := Lib.hid (HD.out.quiet hU); have HM := Lib.hid (HM.out.kept hU (fun _ h => h.elim)); clear hU)
    | (go_at_call 30; refine (newUd_some _ _).mono ?_; rintro e w2 ⟨rfl, hc, hU⟩; have HD := Lib.hid (HD.out.quiet hU); have HM := Lib.hid (HM.out.kept hU (fun _ h => h.elim)); have HK := Lib.hid (Kind.ud (ls := ls) _ _ hc); clear hc hU)
    | (go_at_call 31; refine (opOfUserData _ ls _ _ _ r ev _ HK.out (HM.out.ev ev HR.out) HQ.out).mono ?_; rintro e w3 ⟨rfl, d, rfl⟩; have HD := Lib.hid (HD.out.drew d))
    | (go_at_call 20; refine (obsOf_any _ _ _ _ _).mono ?_; rintro e w4 ⟨rfl, hU⟩; have HD := Lib.hid (HD.out.quiet hU); obtain ⟨⟨c0, c1, c2, c3⟩, hz⟩ := HD.out.cells; have z0 := hz 0; have z1 := hz 1; have z2 := hz 2; have z3 := hz 3; clear hU hz))
  refine bodyPost_ret (v := .agg #[.bool q0, .pointer q1, .string q2, .bool q3]) ?_ rfl ⟨rfl, HD.out.fin (by omega) (by omega) hmp _ _ _ _⟩
  have hr : Try.f11.results = #[ResultVar.cell 14 30] := rfl
  simp only [results, hr]
  go_simp

set_option maxHeartbeats 4000000 in
set_option maxRecDepth 100000 in
theorem watchOp2 (w : World) (F : Nat → Prop) (ls g mp t : Nat) (f : Value → Option Value) (T : Tab) (u : Value) (hS : St w ls g mp f) (hFm : ¬ F mp) (hF : ∀ k, F k → k < w.heap.size) (hM : MtAt F w t T u) (x : Nat) (s : ByteArray) (b : Bool) (ev : ByteArray) (r : Value) (hr : T.sv ev = r) (q0 q3 : Bool) (q1 : Option Addr) (q2 : ByteArray)
    (hq : Seen r #[.bool q0, .pointer q1, .string q2, .bool q3]) :
    Calls Try.prog 11 #[.pointer (some ⟨ls, 0, none⟩), .int .i64 2, .pointer (some ⟨t, 0, none⟩), .float .f64 x, .string s, .bool b, .string ev] w (Saw w ls g mp #[.bool q0, .pointer q1, .string q2, .bool q3]) := by
  have HD := Lib.hid (Mid.start hS)
  have HM := Lib.hid (hM.kept ((Upd.refl (fun _ => False) w).alloc (.cells zeroObs 30)) (fun _ h => h.elim))
  have HQ := Lib.hid hq
  have HR := Lib.hid hr
  clear hr
  have hls := World.block_lt_of_cell? w _ hS.c1
  have hg := World.block_lt_of_cell? w _ hS.c2
  have hmp := hS.mp.lt
  simp only at hls hg
  clear hS hM hq
  go_enter Try.func11, Try.ntmps11
  go_wp2_with (first
    | (go_at_call 19; obtain ⟨f1, hs1⟩ := HD.out.st; refine (setBuiltin_any _ ls g mp t f1 2 hs1).mono ?_; rintro e w2 ⟨rfl, hs2, hU⟩; have HK := Lib.hid (Kind.num (w := w2) (ls := ls) x g mp _ hs2 (tabV t) (by simp [ikEq, isNil])); have HD := Lib.hid (HD.out.turn hs2 hU hmp); have HM := Lib.hid (HM.out.kept hU (fun k h hf => hFm (h ▸ hf))); clear hs1 hs2 hU)
    | (go_at_call 32; refine (opOfNumber _ ls _ _ _ r ev _ HK.out (HM.out.ev ev HR.out) HQ.out).mono ?_; rintro e w3 ⟨rfl, d, rfl⟩; have HD := Lib.hid (HD.out.drew d))
    | (go_at_call 20; refine (obsOf_any _ _ _ _ _).mono ?_; rintro e w4 ⟨rfl, hU⟩; have HD := Lib.hid (HD.out.quiet hU); obtain ⟨⟨c0, c1, c2, c3⟩, hz⟩ := HD.out.cells; have z0 := hz 0; have z1 := hz 1; have z2 := hz 2; have z3 := hz 3; clear hU hz))
  refine bodyPost_ret (v := .agg #[.bool q0, .pointer q1, .string q2, .bool q3]) ?_ rfl ⟨rfl, HD.out.fin (by omega) (by omega) hmp _ _ _ _⟩
  have hr : Try.f11.results = #[ResultVar.cell 14 30] := rfl
  simp only [results, hr]
  go_simp

set_option maxHeartbeats 4000000 in
set_option maxRecDepth 100000 in
theorem watchOp3 (w : World) (F : Nat → Prop) (ls g mp t : Nat) (f : Value → Option Value) (T : Tab) (u : Value) (hS : St w ls g mp f) (hFm : ¬ F mp) (hF : ∀ k, F k → k < w.heap.size) (hM : MtAt F w t T u) (x : Nat) (s : ByteArray) (b : Bool) (ev : ByteArray) (r : Value) (hr : T.sv ev = r) (q0 q3 : Bool) (q1 : Option Addr) (q2 : ByteArray)
    (hq : Seen r #[.bool q0, .pointer q1, .string q2, .bool q3]) :
    Calls Try.prog 11 #[.pointer (some ⟨ls, 0, none⟩), .int .i64 3, .pointer (some ⟨t, 0, none⟩), .float .f64 x, .string s, .bool b, .string ev] w (Saw w ls g mp #[.bool q0, .pointer q1, .string q2, .bool q3]) := by
  have HD := Lib.hid (Mid.start hS)
  have HM := Lib.hid (hM.kept ((Upd.refl (fun _ => False) w).alloc (.cells zeroObs 30)) (fun _ h => h.elim))
  have HQ := Lib.hid hq
  have HR := Lib.hid hr
  clear hr
  have hls := World.block_lt_of_cell? w _ hS.c1
  have hg := World.block_lt_of_cell? w _ hS.c2
  have hmp := hS.mp.lt
  simp only at hls hg
  clear hS hM hq
  go_enter Try.func11, Try.ntmps11
  go_wp2_with (first
    | (go_at_call 19; obtain ⟨f1, hs1⟩ := HD.out.st; refine (setBuiltin_any _ ls g mp t f1 3 hs1).mono ?_; rintro e w2 ⟨rfl, hs2, hU⟩; have HK := Lib.hid (Kind.str (w := w2) (ls := ls) s g mp _ hs2 (tabV t) (by simp [ikEq, isNil])); have HD := Lib.hid (HD.out.turn hs2 hU hmp); have HM := Lib.hid (HM.out.kept hU (fun k h hf => hFm (h ▸ hf))); clear hs1 hs2 hU)
    | (go_at_call 33; refine (opOfString _ ls _ _ _ r ev _ HK.out (HM.out.ev ev HR.out) HQ.out).mono ?_; rintro e w3 ⟨rfl, d, rfl⟩; have HD := Lib.hid (HD.out.drew d))
    | (go_at_call 20; refine (obsOf_any _ _ _ _ _).mono ?_; rintro e w4 ⟨rfl, hU⟩; have HD := Lib.hid (HD.out.quiet hU); obtain ⟨⟨c0, c1, c2, c3⟩, hz⟩ := HD.out.cells; have z0 := hz 0; have z1 := hz 1; have z2 := hz 2; have z3 := hz 3; clear hU hz))
  refine bodyPost_ret (v := .agg #[.bool q0, .pointer q1, .string q2, .bool q3]) ?_ rfl ⟨rfl, HD.out.fin (by omega) (by omega) hmp _ _ _ _⟩
  have hr : Try.f11.results = #[ResultVar.cell 14 30] := rfl
  simp only [results, hr]
  go_simp

set_option maxHeartbeats 4000000 in
set_option maxRecDepth 100000 in
theorem watchOp4 (w : World) (F : Nat → Prop) (ls g mp t : Nat) (f : Value → Option Value) (T : Tab) (u : Value) (hS : St w ls g mp f) (hFm : ¬ F mp) (hF : ∀ k, F k → k < w.heap.size) (hM : MtAt F w t T u) (x : Nat) (s : ByteArray) (b : Bool) (ev : ByteArray) (r : Value) (hr : T.sv ev = r) (q0 q3 : Bool) (q1 : Option Addr) (q2 : ByteArray)
    (hq : Seen r #[.bool q0, .pointer q1, .string q2, .bool q3]) :
    Calls Try.prog 11 #[.pointer (some ⟨ls, 0, none⟩), .int .i64 4, .pointer (some ⟨t, 0, none⟩), .float .f64 x, .string s, .bool b, .string ev] w (Saw w ls g mp #[.bool q0, .pointer q1, .string q2, .bool q3]) := by
  have HD := Lib.hid (Mid.start hS)
  have HM := Lib.hid (hM.kept ((Upd.refl (fun _ => False) w).alloc (.cells zeroObs 30)) (fun _ h => h.elim))
  have HQ := Lib.hid hq
  have HR := Lib.hid hr
  clear hr
  have hls := World.block_lt_of_cell? w _ hS.c1
  have hg := World.block_lt_of_cell? w _ hS.c2
  have hmp := hS.mp.lt
  simp only at hls hg
  clear hS hM hq
  go_enter Try.func11, Try.ntmps11
  go_wp2_with (first
    | (go_at_call 19; obtain ⟨f1, hs1⟩ := HD.out.st; refine (setBuiltin_any _ ls g mp t f1 1 hs1).mono ?_; rintro e w2 ⟨rfl, hs2, hU⟩; have HK := Lib.hid (Kind.bool (w := w2) (ls := ls) b g mp _ hs2 (tabV t) (by simp [ikEq, isNil])); have HD := Lib.hid (HD.out.turn hs2 hU hmp); have HM := Lib.hid (HM.out.kept hU (fun k h hf => hFm (h ▸ hf))); clear hs1 hs2 hU)
    | (go_at_call 34; refine (opOfBool _ ls _ _ _ r ev _ HK.out (HM.out.ev ev HR.out) HQ.out).mono ?_; rintro e w3 ⟨rfl, d, rfl⟩; have HD := Lib.hid (HD.out.drew d))
    | (go_at_call 20; refine (obsOf_any _ _ _ _ _).mono ?_; rintro e w4 ⟨rfl, hU⟩; have HD := Lib.hid (HD.out.quiet hU); obtain ⟨⟨c0, c1, c2, c3⟩, hz⟩ := HD.out.cells; have z0 := hz 0; have z1 := hz 1; have z2 := hz 2; have z3 := hz 3; clear hU hz))
  refine bodyPost_ret (v := .agg #[.bool q0, .pointer q1, .string q2, .bool q3]) ?_ rfl ⟨rfl, HD.out.fin (by omega) (by omega) hmp _ _ _ _⟩
  have hr : Try.f11.results = #[ResultVar.cell 14 30] := rfl
  simp only [results, hr]
  go_simp
end Go.Lua
