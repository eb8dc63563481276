/-
  n005_23: zzBuild_b2.
-/
import Derived.Test.YtfkemahinnpgdaaMem
import Derived.StillTailTactics
namespace Go.Lua
open Go.Proofs Go.RowKit Go.Deep
set_option linter.unusedVariables false

/-! ### the lists behind a write -/
section
variable {hs : List HEnt} {p : HEnt}
theorem putK_some {j : Nat} (h : findL (keysOf hs) p.key = some j) : strsOf (putK hs p) = strsOf hs ∧ numsOf (putK hs p) = numsOf hs ∧ txtsOf (putK hs p) = txtsOf hs ∧ valsOf (putK hs p) = (valsOf hs).set j (.int .i64 p.v) ∧ j < hs.length := by
  have e : putK hs p = hs.modify j fun e => { e with v := p.v } := by unfold putK; rw [h]
  have hm : ∀ (f : HEnt → Value), (∀ e, f { e with v := p.v } = f e) → (hs.modify j fun e => { e with v := p.v }).map f = hs.map f := by
    intro f hf
    apply List.ext_getElem?
    intro i
    rw [List.getElem?_map, List.getElem?_map, List.getElem?_modify]
    by_cases h : j = i
    · simp only [h, if_true]
      cases hs[i]? with
      | none => rfl
      | some e => exact congrArg some (hf e)
    · simp only [h, if_false]
      cases hs[i]? <;> rfl
  obtain ⟨k, hk, -⟩ := findL_some h
  have hjl : j < hs.length := by rw [← keysOf_length]; exact (List.getElem?_eq_some_iff.1 hk).1
  rw [e]
  refine ⟨hm _ fun _ => rfl, hm _ fun _ => rfl, hm _ fun _ => rfl, ?_, hjl⟩
  apply List.ext_getElem?
  intro i
  unfold valsOf
  rw [List.getElem?_map, List.getElem?_modify, List.getElem?_set, List.getElem?_map]
  by_cases h : j = i
  · subst h
    simp [hjl]
  · rw [if_neg h]
    cases hs[i]? <;> simp [h]
theorem putK_same (h : findL (keysOf hs) p.key = none) (hv : p.v = 0) : putK hs p = hs := by unfold putK; rw [h]; exact if_pos hv
theorem putK_new (h : findL (keysOf hs) p.key = none) (hv : p.v ≠ 0) : putK hs p = hs ++ [p] := by unfold putK; rw [h]; exact if_neg hv
theorem putK_length : (putK hs p).length ≤ hs.length + 1 := by
  unfold putK
  split
  · rw [List.length_modify]; omega
  · split
    · omega
    · simp
theorem strsOf_app : strsOf (hs ++ [p]) = strsOf hs ++ [.bool p.str] := by simp [strsOf]
theorem numsOf_app : numsOf (hs ++ [p]) = numsOf hs ++ [.int .i64 p.n] := by simp [numsOf]
theorem txtsOf_app : txtsOf (hs ++ [p]) = txtsOf hs ++ [.string p.s] := by simp [txtsOf]
theorem valsOf_app : valsOf (hs ++ [p]) = valsOf hs ++ [.int .i64 p.v] := by simp [valsOf]
end
theorem fidx_some {j : Nat} : fidx (some j) = (j : Int) := rfl
theorem fidx_none : fidx none = -1 := rfl
theorem modAt_len {m : Mod} {ops : List ZOp} : ∀ j, (modAt m ops j).hs.length ≤ m.hs.length + j ∧ (modAt m ops j).arr.length = m.arr.length
  | 0 => ⟨Nat.le_refl _, rfl⟩
  | j + 1 => by
    obtain ⟨h1, h2⟩ := modAt_len (m := m) (ops := ops) j
    unfold modAt
    split
    · rename_i o ho
      unfold Mod.step
      split
      · exact ⟨by show (modAt m ops j).hs.length ≤ _; omega, by show ((modAt m ops j).arr.set _ _).length = _; rw [List.length_set]; exact h2⟩
      · exact ⟨by have := putK_length (hs := (modAt m ops j).hs) (p := o.ent); show (putK _ _).length ≤ _; omega, h2⟩
    · exact ⟨by omega, h2⟩

/-- The greatest array index bound among the first j. -/
def MaxTo (ops : List ZOp) (M : Int) (j : Nat) : Prop := ∀ o ∈ ops.take j, o.inArr → o.n ≤ M
theorem MaxTo.zero (ops : List ZOp) : MaxTo ops 0 0 := by unfold MaxTo; simp
theorem MaxTo.next {ops : List ZOp} {M M' : Int} {j : Nat} {o : ZOp} (h : MaxTo ops M j) (ho : ops[j]? = some o) (hM : M ≤ M') (hs : o.inArr → o.n ≤ M') : MaxTo ops M' (j + 1) := by
  intro x hx
  obtain ⟨hj, rfl⟩ := List.getElem?_eq_some_iff.1 ho
  rw [List.take_succ_eq_append_getElem hj] at hx
  rcases List.mem_append.1 hx with hx | hx
  · exact fun hi => Int.le_trans (h x hx hi) hM
  · rw [List.mem_singleton.1 hx]; exact hs
theorem MaxTo.at {ops : List ZOp} {M : Int} (h : MaxTo ops M ops.length) {j : Nat} {o : ZOp} (ho : ops[j]? = some o) (hi : o.inArr) : o.n ≤ M :=
  h o (by rw [List.take_length]; exact List.mem_of_getElem? ho) hi

theorem kind_made (n : Nat) (h1 : n ≤ 4398046511104) (w : World) : (Instr.makeSlice 25 (.int .i64 n) (.int .i64 n)).run Try.prog w = .ok (.slice (some ⟨w.heap.size, 0, none⟩) n n) (w.alloc (.cells (madeCells #[.int .i64 0] n) 2)) := by
  obtain ⟨i, hi, hz, hs, hby⟩ : ∃ i, Try.prog.info? 2 = some i ∧ i.zero = some (.int .i64 0) ∧ i.size = 1 ∧ i.bytes ≤ 64 := by simpa using inf_v
  have hb : (i.bytes : Int) * n ≤ 281474976710656 := by
    have : (i.bytes : Int) * n ≤ 64 * n := Int.mul_le_mul_of_nonneg_right (by omega) (by omega)
    omega
  have := run_make (P := Try.prog) w 25 2 i (.int .i64 0) Try.underlying25 hi hz .i64 .i64 n n (by omega) (Int.le_refl _) hb (by omega)
  rw [hs, Nat.mul_one] at this
  exact this

theorem mat_some {w0 w : World} {bm : Nat} {md : Mod} {p : HEnt} {jj : Nat} {va vs vn vt vv : Value} (hf : findL (keysOf md.hs) p.key = some jj)
    (h : MAt w0 bm (arrOf md.arr) (strsOf md.hs) (numsOf md.hs) (txtsOf md.hs) ((valsOf md.hs).set jj (.int .i64 p.v)) va vs vn vt vv w) :
    MAt w0 bm (arrOf md.arr) (strsOf (putK md.hs p)) (numsOf (putK md.hs p)) (txtsOf (putK md.hs p)) (valsOf (putK md.hs p)) va vs vn vt vv w := by
  obtain ⟨e1, e2, e3, e4, -⟩ := putK_some hf
  rw [e1, e2, e3, e4]; exact h
theorem mat_same {w0 w : World} {bm : Nat} {md : Mod} {p : HEnt} {va vs vn vt vv : Value} (hf : findL (keysOf md.hs) p.key = none) (hv : p.v = 0)
    (h : MAt w0 bm (arrOf md.arr) (strsOf md.hs) (numsOf md.hs) (txtsOf md.hs) (valsOf md.hs) va vs vn vt vv w) :
    MAt w0 bm (arrOf md.arr) (strsOf (putK md.hs p)) (numsOf (putK md.hs p)) (txtsOf (putK md.hs p)) (valsOf (putK md.hs p)) va vs vn vt vv w := by
  rw [putK_same hf hv]; exact h
theorem mat_new {w0 w : World} {bm : Nat} {md : Mod} {p : HEnt} {va vs vn vt vv : Value} (hf : findL (keysOf md.hs) p.key = none) (hv : p.v ≠ 0)
    (h : MAt w0 bm (arrOf md.arr) (strsOf md.hs ++ [.bool p.str]) (numsOf md.hs ++ [.int .i64 p.n]) (txtsOf md.hs ++ [.string p.s]) (valsOf md.hs ++ [.int .i64 p.v]) va vs vn vt vv w) :
    MAt w0 bm (arrOf md.arr) (strsOf (putK md.hs p)) (numsOf (putK md.hs p)) (txtsOf (putK md.hs p)) (valsOf (putK md.hs p)) va vs vn vt vv w := by
  rw [putK_new hf hv, strsOf_app, numsOf_app, txtsOf_app, valsOf_app]; exact h
/-- The loop's own copy of a write. -/
def OpAt (w : World) (b : Nat) (o : ZOp) : Prop := w.heap[b]? = some (.cells #[.int .u8 o.kind, .int .i64 o.n, .string o.s, .int .i64 o.v] 55 (0, 0))
theorem OpAt.cells {w : World} {b : Nat} {o : ZOp} (h : OpAt w b o) : w.cell? ⟨b, 0, none⟩ = some (.int .u8 o.kind) ∧ w.cell? ⟨b, 1, none⟩ = some (.int .i64 o.n) ∧ w.cell? ⟨b, 2, none⟩ = some (.string o.s) ∧ w.cell? ⟨b, 3, none⟩ = some (.int .i64 o.v) := by
  unfold OpAt at h
  simp [World.cell?, h]
theorem OpAt.lt {w : World} {b : Nat} {o : ZOp} (h : OpAt w b o) : b < w.heap.size := (Array.getElem?_eq_some_iff.1 h).1
theorem OpAt.other {w w' : World} {b : Nat} {o : ZOp} (h : OpAt w b o) (u : Upd (fun _ => False) w w') : OpAt w' b o := (u.block _ h.lt fun h => h).trans h
theorem OpAt.app {w w2 : World} {b bm i : Nat} {o : ZOp} {e : TypeId} {x v' : Value} {xs : List Value} (h : OpAt w b o) (hx : SlE e w x xs) (hne : e ≠ 55) (hg : w.grownBy w2 (blk x)) (hb : b ≠ bm) : OpAt (w2.setCell ⟨bm, i, none⟩ v') b o := by
  refine (Below.heap_setCell _ _ _ _ hb).trans ((hg.block b h.lt fun e' => ?_).trans h)
  obtain ⟨c, hc⟩ := hx.at e'.symm
  unfold OpAt at h
  rw [h] at hc
  cases hc
  exact hne rfl
theorem OpAt.ne {w0 w : World} {b bm : Nat} {o : ZOp} {A S N T V : List Value} {va vs vn vt vv : Value} (h : OpAt w b o) (hm : MAt w0 bm A S N T V va vs vn vt vv w) : b ≠ bm := by
  rintro rfl
  unfold OpAt at h
  have := hm.head
  rw [h] at this
  cases this
theorem MAt.grown {w0 w w2 : World} {bm : Nat} {A S N T V : List Value} {va vs vn vt vv : Value} (h : MAt w0 bm A S N T V va vs vn vt vv w) {e : TypeId} {x : Value} {xs : List Value} (hx : SlE e w x xs) (hne : e ≠ 30) (hg : w.grownBy w2 (blk x)) :
    (w2.cell? ⟨bm, 1, none⟩ = some vs ∧ w2.cell? ⟨bm, 2, none⟩ = some vn ∧ w2.cell? ⟨bm, 3, none⟩ = some vt ∧ w2.cell? ⟨bm, 4, none⟩ = some vv) ∧ ∀ i, w2.frozen? ⟨bm, i, none⟩ = false := by
  have hb : w2.heap[bm]? = some (.cells #[va, vs, vn, vt, vv] 30 (0, 0)) := (hg.block bm h.lt fun e' => not_model hx h.head hne e'.symm rfl).trans h.head
  exact ⟨by simp [World.cell?, hb], fun i => by simp [World.frozen?, hb]⟩
theorem SlE.slot {e : TypeId} {w : World} {g n c : Nat} {xs : List Value} (h : SlE e w (.slice (some ⟨g, 0, none⟩) n c) xs) {i : Nat} {u : Value} (hi : xs[i]? = some u) : w.cell? ⟨g, i, none⟩ = some u ∧ w.frozen? ⟨g, i, none⟩ = false := by
  obtain ⟨p, c', hp, -, -, hg⟩ := h.form
  obtain ⟨g', hg', -, h1, h2⟩ := hg i u hi
  subst hg'
  injection hp with q1 q2 q3
  injection q1 with q1
  injection q1 with q1
  subst q1
  exact ⟨h1, h2⟩
theorem MAt.start (w0 : World) (sz : Nat) (hsz : w0.heap.size = sz) (N : Nat) (hN : N ≤ 65536) :
    MAt w0 (sz + 1) (arrOf (List.replicate N 0)) [] [] [] [] (.slice (some ⟨sz, 0, none⟩) N N) (.slice none 0 0) (.slice none 0 0) (.slice none 0 0) (.slice none 0 0)
      ((w0.alloc (.cells (madeCells #[.int .i64 0] N) 2)).alloc (.cells #[.slice (some ⟨sz, 0, none⟩) N N, .slice none 0 0, .slice none 0 0, .slice none 0 0, .slice none 0 0] 30)) := by
  subst hsz
  have e : arrOf (List.replicate N 0) = List.replicate N (.int .i64 0) := by unfold arrOf; rw [List.map_replicate]
  refine ⟨?_, ⟨?_, .inl ⟨rfl, rfl⟩, .inl ⟨rfl, rfl⟩, .inl ⟨rfl, rfl⟩, .inl ⟨rfl, rfl⟩⟩, fun b _ e => (by cases e), ((Upd.refl _ _).alloc _).alloc _, Nat.le_succ _, fun b hb => ?_, fun b hb => (by cases hb), fun b hb => (by cases hb), fun b hb => (by cases hb), fun b hb => (by cases hb)⟩
  · have := heap_alloc_new (w0.alloc (.cells (madeCells #[.int .i64 0] N) 2)) (.cells #[.slice (some ⟨w0.heap.size, 0, none⟩) N N, .slice none 0 0, .slice none 0 0, .slice none 0 0, .slice none 0 0] 30 (0, 0))
    simpa using this
  · rw [e]
    exact (SlE.made w0 _ N (by unfold maxLen; omega)).kept fun b hb => Below.heap_alloc _ _ _ (by cases hb; simp)
  · cases hb; exact Nat.le_refl _
theorem MV.below {w w' : World} {A S N T V : List Value} {va vs vn vt vv : Value} {B : Nat} (h : MV w A S N T V va vs vn vt vv) (fa : ∀ b, blk va = some b → B ≤ b) (fs : ∀ b, blk vs = some b → B ≤ b) (fn : ∀ b, blk vn = some b → B ≤ b) (ft : ∀ b, blk vt = some b → B ≤ b) (fv : ∀ b, blk vv = some b → B ≤ b)
    (hh : ∀ b, B ≤ b → w'.heap[b]? = w.heap[b]?) : MV w' A S N T V va vs vn vt vv :=
  ⟨h.a.kept fun b hb => hh b (fa b hb), h.s.kept fun b hb => hh b (fs b hb), h.n.kept fun b hb => hh b (fn b hb), h.t.kept fun b hb => hh b (ft b hb), h.v.kept fun b hb => hh b (fv b hb)⟩
theorem end_mm {W0 wr : World} {bm b : Nat} {m : Mod} {va vs vn vt vv : Value} {A S N T V : List Value} (h : MAt W0 bm A S N T V va vs vn vt vv wr) (k : MM wr m va vs vn vt vv) (hb : b < W0.heap.size) (u0 u1 u2 u3 u4 : Value) :
    MM (((((wr.setCell ⟨b, 0, none⟩ u0).setCell ⟨b, 1, none⟩ u1).setCell ⟨b, 2, none⟩ u2).setCell ⟨b, 3, none⟩ u3).setCell ⟨b, 4, none⟩ u4) m va vs vn vt vv :=
  MV.below (B := W0.heap.size) k h.fa h.fs h.fn h.ft h.fv fun c hc => by
    rw [Below.heap_setCell _ _ _ _ (by simp; omega), Below.heap_setCell _ _ _ _ (by simp; omega), Below.heap_setCell _ _ _ _ (by simp; omega), Below.heap_setCell _ _ _ _ (by simp; omega), Below.heap_setCell _ _ _ _ (by simp; omega)]
/-- What the loop carries. -/
def BuildW (w0 : World) (bm : Nat) (m0 : Mod) (ops : List ZOp) (i : Value) (wr : World) : Prop :=
  ∃ (j : Nat) (va vs vn vt vv : Value), j ≤ ops.length ∧ i = .int .i64 j ∧ MAt w0 bm (arrOf (modAt m0 ops j).arr) (strsOf (modAt m0 ops j).hs) (numsOf (modAt m0 ops j).hs) (txtsOf (modAt m0 ops j).hs) (valsOf (modAt m0 ops j).hs) va vs vn vt vv wr

set_option maxRecDepth 100000 in
set_option maxHeartbeats 8000000 in
theorem build_any (w : World) (v : Value) (ops : List ZOp) (h : IsZOps w v ops) (hl : ops.length ≤ 4096) (hN : Hid (ZNears ops ops.length)) :
    Calls Try.prog 11 #[v] w fun e w' => ∃ (M : Nat) (va vs vn vt vv : Value), e = .returned (.agg #[va, vs, vn, vt, vv]) ∧ MM w' (modAt ⟨List.replicate M 0, []⟩ ops ops.length) va vs vn vt vv ∧ Upd (fun _ => False) w w' ∧ M ≤ 65536 ∧ MaxTo ops M ops.length := by
  obtain ⟨p, c, rfl, k, mm, hn, g⟩ := h.1.form
  have hok := h.2
  simp only [List.length_map] at *
  unfold maxLen at mm
  have hxl : (ops.length : Int) ≤ 9223372036854775807 := by omega
  have G := Lib.hid g
  have K := Lib.hid hok
  clear h g hn k mm hok
  go_enter Try.func11, Try.ntmps11
  go_wp2_with fail
  go_loop [3, 4] (fun mv i => ∃ (j : Nat) (M : Int), j ≤ ops.length ∧ i = .int .i64 j ∧ mv = .int .i64 M ∧ 0 ≤ M ∧ M ≤ 65536 ∧ Hid (MaxTo ops M j)) (fun _ i => ops.length - (intOf i).toNat)
  case atStart => exact ⟨0, 0, Nat.zero_le _, rfl, rfl, by omega, by omega, Lib.hid (MaxTo.zero _)⟩
  case round =>
    obtain ⟨j, M, hj, rfl, rfl, hM0, hM1, hMx⟩ := hrel
    by_cases hlt : (j : Int) < ops.length
    · obtain ⟨o, ho⟩ : ∃ o, ops[j]? = some o := ⟨ops[j]'(by omega), by simp⟩
      obtain ⟨a, rfl, d0, d1, -, -⟩ := zop_cells G.out (box_upd w (.cells #[.slice none 0 0, .slice none 0 0, .slice none 0 0, .slice none 0 0, .slice none 0 0] 30)) ho
      obtain ⟨f1, f2⟩ := (K.out o (List.mem_of_getElem? ho)).kind
      have hnear := hN.out.at ho
      have HO := Lib.hid ho
      have CI := Lib.hid (fun W => isArr_any W o.n)
      clear ho
      by_cases k3 : o.kind % 4 = 3
      · have e3 : (o.kind % 4 == 3) = true := by simpa using k3
        by_cases hi : InArr o.n
        · have hb := hnear k3
          rw [decide_eq_true hi] at CI
          by_cases hgt : M < o.n
          · have HM := Lib.hid (hMx.out.next (M' := o.n) HO.out (by omega) (fun _ => Int.le_refl _))
            have hi2 := hi
            unfold InArr at hi2
            have hob : o.n ≤ 65536 := by unfold ZNear at hnear; omega
            have ho1 : 0 ≤ o.n := by omega
            clear hi2 hi k3 hb hnear
            go_wp2_with (go_at_call 32; refine (CI.out _).mono ?_; rintro e w1 ⟨rfl, rfl⟩)
            go_round
            case rel => exact ⟨j + 1, o.n, by omega, by go_num, rfl, ho1, hob, HM⟩
            case measure => simp [intOf]; omega
          · have HM := Lib.hid (hMx.out.next (M' := M) HO.out (by omega) (fun _ => by omega))
            have hi2 := hi
            unfold InArr at hi2
            have ho1 : 0 ≤ o.n := by omega
            clear hi2 hi k3 hb hnear
            go_wp2_with (go_at_call 32; refine (CI.out _).mono ?_; rintro e w1 ⟨rfl, rfl⟩)
            go_round
            case rel => exact ⟨j + 1, M, by omega, by go_num, rfl, hM0, hM1, HM⟩
            case measure => simp [intOf]; omega
        · rw [decide_eq_false hi] at CI
          have HM := Lib.hid (hMx.out.next (M' := M) HO.out (by omega) (fun h => absurd h.2 hi))
          clear hi k3 hnear
          go_wp2_with (go_at_call 32; refine (CI.out _).mono ?_; rintro e w1 ⟨rfl, rfl⟩)
          go_round
          case rel => exact ⟨j + 1, M, by omega, by go_num, rfl, hM0, hM1, HM⟩
          case measure => simp [intOf]; omega
      · have e3 : (o.kind % 4 == 3) = false := by simpa using k3
        have HM := Lib.hid (hMx.out.next (M' := M) HO.out (by omega) (fun h => absurd h.1 k3))
        clear k3 hnear
        go_wp2_with fail
        go_round
        case rel => exact ⟨j + 1, M, by omega, by go_num, rfl, hM0, hM1, HM⟩
        case measure => simp [intOf]; omega
    · obtain rfl : j = ops.length := by omega
      obtain ⟨N, rfl⟩ : ∃ N : Nat, M = N := ⟨M.toNat, by omega⟩
      have hm := kind_made N (by omega)
      go_wp2_with (simp only [hm])
      have HS := Lib.hid (MAt.start (w.alloc (.cells #[.slice none 0 0, .slice none 0 0, .slice none 0 0, .slice none 0 0, .slice none 0 0] 30)) (w.heap.size + 1) (by simp) N (by omega))
      have HW0 := Lib.hid (box_upd w (.cells #[.slice none 0 0, .slice none 0 0, .slice none 0 0, .slice none 0 0, .slice none 0 0] 30))
      have HR0 : Hid ((w.alloc (.cells #[.slice none 0 0, .slice none 0 0, .slice none 0 0, .slice none 0 0, .slice none 0 0] 30)).heap[w.heap.size]? = some (.cells #[.slice none 0 0, .slice none 0 0, .slice none 0 0, .slice none 0 0, .slice none 0 0] 30 (0, 0))) := Lib.hid (heap_alloc_new w _)
      clear hm
      generalize hW0 : w.alloc (.cells #[.slice none 0 0, .slice none 0 0, .slice none 0 0, .slice none 0 0, .slice none 0 0] 30) = W0 at HS HW0 HR0
      go_loopw [6] (BuildW W0 (w.heap.size + 1 + 1) ⟨List.replicate N 0, []⟩ ops) (fun i _ => ops.length - (intOf i).toNat)
      case atStart => exact ⟨0, _, _, _, _, _, Nat.zero_le _, rfl, HS.out⟩
      case round =>
        clear HS
        obtain ⟨j, va, vs, vn, vt, vv, hj2, rfl, hM⟩ := hrel
        by_cases hlt2 : (j : Int) < ops.length
        · obtain ⟨o, ho⟩ : ∃ o, ops[j]? = some o := ⟨ops[j]'(by omega), by simp⟩
          obtain ⟨a, rfl, d0, d1, d2, d3⟩ := zop_cells G.out (none_trans HW0.out hM.upd) ho
          obtain ⟨f1, f2⟩ := (K.out o (List.mem_of_getElem? ho)).kind
          have HST := Lib.hid (modAt_step (m := ⟨List.replicate N 0, []⟩) ho)
          have HMo := Lib.hid (hMx.out.at ho)
          have hlen := modAt_len (m := ⟨List.replicate N 0, []⟩) (ops := ops) j
          generalize hmd : modAt ⟨List.replicate N 0, []⟩ ops j = md at hM HST hlen
          have HMD := Lib.hid hmd
          simp only [List.length_replicate, List.length_nil, Nat.zero_add] at hlen
          obtain ⟨hl1, hl2⟩ := hlen
          have HM := Lib.hid hM
          clear hM hmd ho
          by_cases k3 : o.kind % 4 = 3
          · have e3 : (o.kind % 4 != 3) = false := by simpa using k3
            have hent : o.ent = ⟨false, o.n, ⟨#[]⟩, o.v⟩ := if_pos k3
            by_cases hi : InArr o.n
            · have hia : o.inArr := ⟨k3, hi⟩
              have HST := Lib.hid (HST.out.trans (if_pos hia))
              have hoM := HMo.out hia
              have hi2 := hi
              unfold InArr at hi2
              obtain ⟨nn, hnn⟩ : ∃ nn : Nat, o.n = (nn : Int) + 1 := ⟨(o.n - 1).toNat, by omega⟩
              have hnl : nn < md.arr.length := by omega
              have CI := Lib.hid (fun W => isArr_any W o.n)
              rw [decide_eq_true hi] at CI
              have HNN := Lib.hid hnn
              have hsub : o.n - 1 = (nn : Int) := by omega
              have hn0 : o.n.toNat - 1 = nn := by omega
              have HN0 := Lib.hid hn0
              clear hent hia k3 hi hi2 hn0 hnn
              go_upto_region 12 with (fail)
              have HM := HM.out.alloc (.cells #[.int .u8 o.kind, .int .i64 o.n, .string o.s, .int .i64 o.v] 55)
              have HO : OpAt (wr.alloc (.cells #[.int .u8 o.kind, .int .i64 o.n, .string o.s, .int .i64 o.v] 55)) wr.heap.size o := heap_alloc_new wr _
              clear d0 d1 d2 d3
              generalize wr.alloc (.cells #[.int .u8 o.kind, .int .i64 o.n, .string o.s, .int .i64 o.v] 55) = W at HM HO ⊢
              obtain ⟨b0, b1, b2, b3⟩ := HO.cells
              obtain ⟨c0, c1, c2, c3, c4⟩ := HM.cells
              obtain ⟨pa, ca, rfl, -, -, ga⟩ := HM.mv.a.form
              rw [arrOf_length] at *
              obtain ⟨gg, rfl, hba, k1, k2⟩ := ga nn (.int .i64 (md.arr[nn]'hnl)) (by unfold arrOf; rw [List.getElem?_map, List.getElem?_eq_getElem hnl]; rfl)
              have HS := Lib.hid (HM.set_a hba nn (.int .i64 o.v) (by rw [arrOf_length]; exact hnl))
              clear ga HM HO
              go_wp2_with (first
                | (go_at_call 32; refine (CI.out _).mono ?_; rintro e w1 ⟨rfl, rfl⟩)
                | (simp only [hsub]))
              go_roundw
              case rel => exact ⟨j + 1, _, _, _, _, _, by omega, by go_num, by rw [HST.out, HN0.out]; show MAt _ _ (arrOf (md.arr.set nn o.v)) _ _ _ _ _ _ _ _ _ _; rw [show arrOf (md.arr.set nn o.v) = (arrOf md.arr).set nn (.int .i64 o.v) by unfold arrOf; rw [List.map_set]]; exact HS.out⟩
              case measure => simp [intOf]; omega
            · have hna : ¬ o.inArr := fun h => hi h.2
              have HST := Lib.hid (HST.out.trans (if_neg hna))
              rw [hent] at HST
              have CI := Lib.hid (fun W => isArr_any W o.n)
              rw [decide_eq_false hi] at CI
              clear hent hna k3 hi
              go_upto_region 12 with (fail)
              have HM := HM.out.alloc (.cells #[.int .u8 o.kind, .int .i64 o.n, .string o.s, .int .i64 o.v] 55)
              have HO : OpAt (wr.alloc (.cells #[.int .u8 o.kind, .int .i64 o.n, .string o.s, .int .i64 o.v] 55)) wr.heap.size o := heap_alloc_new wr _
              clear d0 d1 d2 d3
              generalize wr.alloc (.cells #[.int .u8 o.kind, .int .i64 o.n, .string o.s, .int .i64 o.v] 55) = W at HM HO ⊢
              obtain ⟨b0, b1, b2, b3⟩ := HO.cells
              obtain ⟨c0, c1, c2, c3, c4⟩ := HM.cells
              have CF := Lib.hid (findNum_any W md _ _ _ _ _ HM.mv o.n)
              go_upto_region 23 with (go_at_call 32; refine (CI.out _).mono ?_; rintro e w1 ⟨rfl, rfl⟩)
              have HO := Lib.hid HO
              have hnm := HO.out.ne HM
              have HM := Lib.hid HM
              cases hf : findL (keysOf md.hs) (lnum (fofInt o.n)) with
              | some jj =>
                rw [hf, fidx_some] at CF
                obtain ⟨-, -, -, -, hjj⟩ := putK_some (p := ⟨false, o.n, ⟨#[]⟩, o.v⟩) hf
                have HF := Lib.hid hf
                clear hf
                obtain ⟨pv, cv, rfl, -, -, gv⟩ := HM.out.mv.v.form
                rw [valsOf_length] at *
                obtain ⟨gg, rfl, hbv, -, -⟩ := gv jj _ (valsOf_at (List.getElem?_eq_getElem hjj))
                clear gv
                go_upto_region 25 with (go_at_call 34; refine CF.out.mono ?_; rintro e W2 ⟨rfl, hU⟩; have hU := Lib.hid hU)
                obtain ⟨b0, b1, b2, b3⟩ := (HO.out.other hU.out).cells
                have HM2 := HM.out.other hU.out
                obtain ⟨c0, c1, c2, c3, c4⟩ := HM2.cells
                obtain ⟨k1, k2⟩ := HM2.mv.v.slot (valsOf_at (List.getElem?_eq_getElem hjj))
                have HS := Lib.hid (HM2.set_v hbv jj (.int .i64 o.v) (by rw [valsOf_length]; exact hjj))
                clear HM2
                go_wp2_with fail
                go_roundw
                case rel => exact ⟨j + 1, _, _, _, _, _, by omega, by go_num, by rw [HST.out]; exact mat_some (md := md) (p := ⟨false, o.n, ⟨#[]⟩, o.v⟩) HF.out HS.out⟩
                case measure => simp [intOf]; omega
              | none =>
                rw [hf, fidx_none] at CF
                have HF := Lib.hid hf
                clear hf
                by_cases hv0 : o.v = 0
                · have hv1 : (o.v != 0) = false := by simpa using hv0
                  have HV0 := Lib.hid hv0
                  clear hv0
                  go_wp2_with (go_at_call 34; refine CF.out.mono ?_; rintro e W2 ⟨rfl, hU⟩; have hM2 := HM.out.other hU; have hO2 := HO.out.other hU; obtain ⟨b0, b1, b2, b3⟩ := hO2.cells; have HM := Lib.hid hM2; clear hU hM2 hO2)
                  go_roundw
                  case rel => exact ⟨j + 1, _, _, _, _, _, by omega, by go_num, by rw [HST.out]; exact mat_same (md := md) (p := ⟨false, o.n, ⟨#[]⟩, o.v⟩) HF.out HV0.out HM.out⟩
                  case measure => simp [intOf]; omega
                · have hv1 : (o.v != 0) = true := by simpa using hv0
                  have HV0 := Lib.hid hv0
                  clear hv0
                  go_upto_region 27 with (go_at_call 34; refine CF.out.mono ?_; rintro e W2 ⟨rfl, hU⟩; have hM2 := HM.out.other hU; have hO2 := HO.out.other hU; obtain ⟨b0, b1, b2, b3⟩ := hO2.cells; have HM := Lib.hid hM2; have HO := Lib.hid hO2; clear hU hM2 hO2)
                  have hO := HO.out
                  have hM := HM.out
                  obtain ⟨b0, b1, b2, b3⟩ := hO.cells
                  obtain ⟨c0, c1, c2, c3, c4⟩ := hM.cells
                  have HM := Lib.hid hM
                  have HO := Lib.hid hO
                  clear hM hO
                  go_upto_region 28 with (at_builtin; go_must (refine wpList_append_one rfl _ _ 26 (.bool false) rfl Try.underlying26 inf_s rfl rfl (HM.out.alloc (.cells #[.bool false] 4)).mv.s _ _ (.bool false) rfl (cell_new_of (by simp)) rfl (by rw [strsOf_length]; omega) ?_); intro p5 cap5 w5 hs5 hg5 hb5; obtain ⟨⟨k1, k2, k3, k4⟩, kz⟩ := (HM.out.alloc (.cells #[.bool false] 4)).grown (HM.out.alloc (.cells #[.bool false] 4)).mv.s (by decide) hg5; have kk := kz 1; have HA := Lib.hid (And.intro hs5 (And.intro hg5 hb5)); clear hs5 hg5 hb5 kz)
                  have hM := (HM.out.alloc (.cells #[.bool false] 4)).app_s HA.out.1 HA.out.2.1 HA.out.2.2
                  have hO := OpAt.app (i := 1) (v' := .slice p5 ((strsOf md.hs).length + 1) cap5) (HO.out.other (box_upd _ (.cells #[.bool false] 4))) (HM.out.alloc (.cells #[.bool false] 4)).mv.s (by decide) HA.out.2.1 hnm
                  clear b0 b1 b2 b3 c0 c1 c2 c3 c4 k1 k2 k3 k4 kk HA HM HO
                  generalize hWW : w5.setCell _ _ = W3 at hM hO ⊢
                  clear hWW w5
                  obtain ⟨b0, b1, b2, b3⟩ := hO.cells
                  obtain ⟨c0, c1, c2, c3, c4⟩ := hM.cells
                  have HM := Lib.hid hM
                  have HO := Lib.hid hO
                  clear hM hO
                  go_upto_region 29 with (at_builtin; go_must (refine wpList_append_one rfl _ _ 27 (.int .i64 0) rfl Try.underlying27 inf_n rfl rfl (HM.out.alloc (.cells #[.int .i64 o.n] 3)).mv.n _ _ (.int .i64 o.n) rfl (cell_new_of (by simp)) rfl (by rw [numsOf_length]; omega) ?_); intro p5 cap5 w5 hs5 hg5 hb5; obtain ⟨⟨k1, k2, k3, k4⟩, kz⟩ := (HM.out.alloc (.cells #[.int .i64 o.n] 3)).grown (HM.out.alloc (.cells #[.int .i64 o.n] 3)).mv.n (by decide) hg5; have kk := kz 2; have HA := Lib.hid (And.intro hs5 (And.intro hg5 hb5)); clear hs5 hg5 hb5 kz)
                  have hM := (HM.out.alloc (.cells #[.int .i64 o.n] 3)).app_n HA.out.1 HA.out.2.1 HA.out.2.2
                  have hO := OpAt.app (i := 2) (v' := .slice p5 ((numsOf md.hs).length + 1) cap5) (HO.out.other (box_upd _ (.cells #[.int .i64 o.n] 3))) (HM.out.alloc (.cells #[.int .i64 o.n] 3)).mv.n (by decide) HA.out.2.1 hnm
                  clear b0 b1 b2 b3 c0 c1 c2 c3 c4 k1 k2 k3 k4 kk HA HM HO
                  generalize hWW : w5.setCell _ _ = W3 at hM hO ⊢
                  clear hWW w5
                  obtain ⟨b0, b1, b2, b3⟩ := hO.cells
                  obtain ⟨c0, c1, c2, c3, c4⟩ := hM.cells
                  have HM := Lib.hid hM
                  have HO := Lib.hid hO
                  clear hM hO
                  go_upto_region 30 with (at_builtin; go_must (refine wpList_append_one rfl _ _ 28 (.string ⟨#[]⟩) rfl Try.underlying28 inf_t rfl rfl (HM.out.alloc (.cells #[.string ⟨#[]⟩] 9)).mv.t _ _ (.string ⟨#[]⟩) rfl (cell_new_of (by simp)) rfl (by rw [txtsOf_length]; omega) ?_); intro p5 cap5 w5 hs5 hg5 hb5; obtain ⟨⟨k1, k2, k3, k4⟩, kz⟩ := (HM.out.alloc (.cells #[.string ⟨#[]⟩] 9)).grown (HM.out.alloc (.cells #[.string ⟨#[]⟩] 9)).mv.t (by decide) hg5; have kk := kz 3; have HA := Lib.hid (And.intro hs5 (And.intro hg5 hb5)); clear hs5 hg5 hb5 kz)
                  have hM := (HM.out.alloc (.cells #[.string ⟨#[]⟩] 9)).app_t HA.out.1 HA.out.2.1 HA.out.2.2
                  have hO := OpAt.app (i := 3) (v' := .slice p5 ((txtsOf md.hs).length + 1) cap5) (HO.out.other (box_upd _ (.cells #[.string ⟨#[]⟩] 9))) (HM.out.alloc (.cells #[.string ⟨#[]⟩] 9)).mv.t (by decide) HA.out.2.1 hnm
                  clear b0 b1 b2 b3 c0 c1 c2 c3 c4 k1 k2 k3 k4 kk HA HM HO
                  generalize hWW : w5.setCell _ _ = W3 at hM hO ⊢
                  clear hWW w5
                  obtain ⟨b0, b1, b2, b3⟩ := hO.cells
                  obtain ⟨c0, c1, c2, c3, c4⟩ := hM.cells
                  have HM := Lib.hid hM
                  have HO := Lib.hid hO
                  clear hM hO
                  go_wp2_with (at_builtin; go_must (refine wpList_append_one rfl _ _ 25 (.int .i64 0) rfl Try.underlying25 inf_v rfl rfl (HM.out.alloc (.cells #[.int .i64 o.v] 2)).mv.v _ _ (.int .i64 o.v) rfl (cell_new_of (by simp)) rfl (by rw [valsOf_length]; omega) ?_); intro p5 cap5 w5 hs5 hg5 hb5; obtain ⟨⟨k1, k2, k3, k4⟩, kz⟩ := (HM.out.alloc (.cells #[.int .i64 o.v] 2)).grown (HM.out.alloc (.cells #[.int .i64 o.v] 2)).mv.v (by decide) hg5; have kk := kz 4; have HA := Lib.hid (And.intro hs5 (And.intro hg5 hb5)); clear hs5 hg5 hb5 kz)
                  have hM := (HM.out.alloc (.cells #[.int .i64 o.v] 2)).app_v HA.out.1 HA.out.2.1 HA.out.2.2
                  have HM := Lib.hid hM
                  go_roundw
                  case rel => exact ⟨j + 1, _, _, _, _, _, by omega, by go_num, by rw [HST.out]; exact mat_new (md := md) (p := ⟨false, o.n, ⟨#[]⟩, o.v⟩) HF.out HV0.out HM.out⟩
                  case measure => simp [intOf]; omega
          · have e3 : (o.kind % 4 != 3) = true := by simpa using k3
            have hent : o.ent = ⟨true, 0, o.s, o.v⟩ := if_neg k3
            have hna : ¬ o.inArr := fun h => k3 h.1
            have HST := Lib.hid (HST.out.trans (if_neg hna))
            rw [hent] at HST
            clear hent hna k3
            go_upto_region 12 with (fail)
            have HM := HM.out.alloc (.cells #[.int .u8 o.kind, .int .i64 o.n, .string o.s, .int .i64 o.v] 55)
            have HO : OpAt (wr.alloc (.cells #[.int .u8 o.kind, .int .i64 o.n, .string o.s, .int .i64 o.v] 55)) wr.heap.size o := heap_alloc_new wr _
            clear d0 d1 d2 d3
            generalize wr.alloc (.cells #[.int .u8 o.kind, .int .i64 o.n, .string o.s, .int .i64 o.v] 55) = W at HM HO ⊢
            obtain ⟨b0, b1, b2, b3⟩ := HO.cells
            obtain ⟨c0, c1, c2, c3, c4⟩ := HM.cells
            have CF := Lib.hid (findStr_any W md _ _ _ _ _ HM.mv o.s)
            have HO := Lib.hid HO
            have hnm := HO.out.ne HM
            have HM := Lib.hid HM
            cases hf : findL (keysOf md.hs) (lstr o.s) with
            | some jj =>
              rw [hf, fidx_some] at CF
              obtain ⟨-, -, -, -, hjj⟩ := putK_some (p := ⟨true, 0, o.s, o.v⟩) hf
              have HF := Lib.hid hf
              clear hf
              obtain ⟨pv, cv, rfl, -, -, gv⟩ := HM.out.mv.v.form
              rw [valsOf_length] at *
              obtain ⟨gg, rfl, hbv, -, -⟩ := gv jj _ (valsOf_at (List.getElem?_eq_getElem hjj))
              clear gv
              go_upto_region 15 with (go_at_call 33; refine CF.out.mono ?_; rintro e W2 ⟨rfl, hU⟩; have hU := Lib.hid hU)
              obtain ⟨b0, b1, b2, b3⟩ := (HO.out.other hU.out).cells
              have HM2 := HM.out.other hU.out
              obtain ⟨c0, c1, c2, c3, c4⟩ := HM2.cells
              obtain ⟨k1, k2⟩ := HM2.mv.v.slot (valsOf_at (List.getElem?_eq_getElem hjj))
              have HS := Lib.hid (HM2.set_v hbv jj (.int .i64 o.v) (by rw [valsOf_length]; exact hjj))
              clear HM2
              go_wp2_with fail
              go_roundw
              case rel => exact ⟨j + 1, _, _, _, _, _, by omega, by go_num, by rw [HST.out]; exact mat_some (md := md) (p := ⟨true, 0, o.s, o.v⟩) HF.out HS.out⟩
              case measure => simp [intOf]; omega
            | none =>
              rw [hf, fidx_none] at CF
              have HF := Lib.hid hf
              clear hf
              by_cases hv0 : o.v = 0
              · have hv1 : (o.v != 0) = false := by simpa using hv0
                have HV0 := Lib.hid hv0
                clear hv0
                go_wp2_with (go_at_call 33; refine CF.out.mono ?_; rintro e W2 ⟨rfl, hU⟩; have hM2 := HM.out.other hU; have hO2 := HO.out.other hU; obtain ⟨b0, b1, b2, b3⟩ := hO2.cells; have HM := Lib.hid hM2; clear hU hM2 hO2)
                go_roundw
                case rel => exact ⟨j + 1, _, _, _, _, _, by omega, by go_num, by rw [HST.out]; exact mat_same (md := md) (p := ⟨true, 0, o.s, o.v⟩) HF.out HV0.out HM.out⟩
                case measure => simp [intOf]; omega
              · have hv1 : (o.v != 0) = true := by simpa using hv0
                have HV0 := Lib.hid hv0
                clear hv0
                go_upto_region 17 with (go_at_call 33; refine CF.out.mono ?_; rintro e W2 ⟨rfl, hU⟩; have hM2 := HM.out.other hU; have hO2 := HO.out.other hU; obtain ⟨b0, b1, b2, b3⟩ := hO2.cells; have HM := Lib.hid hM2; have HO := Lib.hid hO2; clear hU hM2 hO2)
                have hO := HO.out
                have hM := HM.out
                obtain ⟨b0, b1, b2, b3⟩ := hO.cells
                obtain ⟨c0, c1, c2, c3, c4⟩ := hM.cells
                have HM := Lib.hid hM
                have HO := Lib.hid hO
                clear hM hO
                go_upto_region 18 with (at_builtin; go_must (refine wpList_append_one rfl _ _ 26 (.bool false) rfl Try.underlying26 inf_s rfl rfl (HM.out.alloc (.cells #[.bool true] 4)).mv.s _ _ (.bool true) rfl (cell_new_of (by simp)) rfl (by rw [strsOf_length]; omega) ?_); intro p5 cap5 w5 hs5 hg5 hb5; obtain ⟨⟨k1, k2, k3, k4⟩, kz⟩ := (HM.out.alloc (.cells #[.bool true] 4)).grown (HM.out.alloc (.cells #[.bool true] 4)).mv.s (by decide) hg5; have kk := kz 1; have HA := Lib.hid (And.intro hs5 (And.intro hg5 hb5)); clear hs5 hg5 hb5 kz)
                have hM := (HM.out.alloc (.cells #[.bool true] 4)).app_s HA.out.1 HA.out.2.1 HA.out.2.2
                have hO := OpAt.app (i := 1) (v' := .slice p5 ((strsOf md.hs).length + 1) cap5) (HO.out.other (box_upd _ (.cells #[.bool true] 4))) (HM.out.alloc (.cells #[.bool true] 4)).mv.s (by decide) HA.out.2.1 hnm
                clear b0 b1 b2 b3 c0 c1 c2 c3 c4 k1 k2 k3 k4 kk HA HM HO
                generalize hWW : w5.setCell _ _ = W3 at hM hO ⊢
                clear hWW w5
                obtain ⟨b0, b1, b2, b3⟩ := hO.cells
                obtain ⟨c0, c1, c2, c3, c4⟩ := hM.cells
                have HM := Lib.hid hM
                have HO := Lib.hid hO
                clear hM hO
                go_upto_region 19 with (at_builtin; go_must (refine wpList_append_one rfl _ _ 27 (.int .i64 0) rfl Try.underlying27 inf_n rfl rfl (HM.out.alloc (.cells #[.int .i64 0] 3)).mv.n _ _ (.int .i64 0) rfl (cell_new_of (by simp)) rfl (by rw [numsOf_length]; omega) ?_); intro p5 cap5 w5 hs5 hg5 hb5; obtain ⟨⟨k1, k2, k3, k4⟩, kz⟩ := (HM.out.alloc (.cells #[.int .i64 0] 3)).grown (HM.out.alloc (.cells #[.int .i64 0] 3)).mv.n (by decide) hg5; have kk := kz 2; have HA := Lib.hid (And.intro hs5 (And.intro hg5 hb5)); clear hs5 hg5 hb5 kz)
                have hM := (HM.out.alloc (.cells #[.int .i64 0] 3)).app_n HA.out.1 HA.out.2.1 HA.out.2.2
                have hO := OpAt.app (i := 2) (v' := .slice p5 ((numsOf md.hs).length + 1) cap5) (HO.out.other (box_upd _ (.cells #[.int .i64 0] 3))) (HM.out.alloc (.cells #[.int .i64 0] 3)).mv.n (by decide) HA.out.2.1 hnm
                clear b0 b1 b2 b3 c0 c1 c2 c3 c4 k1 k2 k3 k4 kk HA HM HO
                generalize hWW : w5.setCell _ _ = W3 at hM hO ⊢
                clear hWW w5
                obtain ⟨b0, b1, b2, b3⟩ := hO.cells
                obtain ⟨c0, c1, c2, c3, c4⟩ := hM.cells
                have HM := Lib.hid hM
                have HO := Lib.hid hO
                clear hM hO
                go_upto_region 20 with (at_builtin; go_must (refine wpList_append_one rfl _ _ 28 (.string ⟨#[]⟩) rfl Try.underlying28 inf_t rfl rfl (HM.out.alloc (.cells #[.string o.s] 9)).mv.t _ _ (.string o.s) rfl (cell_new_of (by simp)) rfl (by rw [txtsOf_length]; omega) ?_); intro p5 cap5 w5 hs5 hg5 hb5; obtain ⟨⟨k1, k2, k3, k4⟩, kz⟩ := (HM.out.alloc (.cells #[.string o.s] 9)).grown (HM.out.alloc (.cells #[.string o.s] 9)).mv.t (by decide) hg5; have kk := kz 3; have HA := Lib.hid (And.intro hs5 (And.intro hg5 hb5)); clear hs5 hg5 hb5 kz)
                have hM := (HM.out.alloc (.cells #[.string o.s] 9)).app_t HA.out.1 HA.out.2.1 HA.out.2.2
                have hO := OpAt.app (i := 3) (v' := .slice p5 ((txtsOf md.hs).length + 1) cap5) (HO.out.other (box_upd _ (.cells #[.string o.s] 9))) (HM.out.alloc (.cells #[.string o.s] 9)).mv.t (by decide) HA.out.2.1 hnm
                clear b0 b1 b2 b3 c0 c1 c2 c3 c4 k1 k2 k3 k4 kk HA HM HO
                generalize hWW : w5.setCell _ _ = W3 at hM hO ⊢
                clear hWW w5
                obtain ⟨b0, b1, b2, b3⟩ := hO.cells
                obtain ⟨c0, c1, c2, c3, c4⟩ := hM.cells
                have HM := Lib.hid hM
                have HO := Lib.hid hO
                clear hM hO
                go_wp2_with (at_builtin; go_must (refine wpList_append_one rfl _ _ 25 (.int .i64 0) rfl Try.underlying25 inf_v rfl rfl (HM.out.alloc (.cells #[.int .i64 o.v] 2)).mv.v _ _ (.int .i64 o.v) rfl (cell_new_of (by simp)) rfl (by rw [valsOf_length]; omega) ?_); intro p5 cap5 w5 hs5 hg5 hb5; obtain ⟨⟨k1, k2, k3, k4⟩, kz⟩ := (HM.out.alloc (.cells #[.int .i64 o.v] 2)).grown (HM.out.alloc (.cells #[.int .i64 o.v] 2)).mv.v (by decide) hg5; have kk := kz 4; have HA := Lib.hid (And.intro hs5 (And.intro hg5 hb5)); clear hs5 hg5 hb5 kz)
                have hM := (HM.out.alloc (.cells #[.int .i64 o.v] 2)).app_v HA.out.1 HA.out.2.1 HA.out.2.2
                have HM := Lib.hid hM
                go_roundw
                case rel => exact ⟨j + 1, _, _, _, _, _, by omega, by go_num, by rw [HST.out]; exact mat_new (md := md) (p := ⟨true, 0, o.s, o.v⟩) HF.out HV0.out HM.out⟩
                case measure => simp [intOf]; omega
        · obtain rfl : j = ops.length := by omega
          have hMM : MM wr (modAt ⟨List.replicate N 0, []⟩ ops ops.length) va vs vn vt vv := hM.mv
          obtain ⟨pa, ca, rfl, -, -, -⟩ := hM.mv.a.form
          obtain ⟨ps, cs, rfl, -, -, -⟩ := hM.mv.s.form
          obtain ⟨pn, cn, rfl, -, -, -⟩ := hM.mv.n.form
          obtain ⟨pt, ct, rfl, -, -, -⟩ := hM.mv.t.form
          obtain ⟨pv, cv, rfl, -, -, -⟩ := hM.mv.v.form
          have hlw : w.heap.size < W0.heap.size := (Array.getElem?_eq_some_iff.1 HR0.out).1
          have hR : wr.heap[w.heap.size]? = some (.cells #[.slice none 0 0, .slice none 0 0, .slice none 0 0, .slice none 0 0, .slice none 0 0] 30 (0, 0)) := (hM.upd.block _ hlw fun h => h).trans HR0.out
          have HM := Lib.hid hM
          have HMM := Lib.hid hMM
          obtain ⟨c0, c1, c2, c3, c4⟩ := HM.out.cells
          obtain ⟨r0, r1, r2, r3, r4⟩ : wr.cell? ⟨w.heap.size, 0, none⟩ = some (.slice none 0 0) ∧ wr.cell? ⟨w.heap.size, 1, none⟩ = some (.slice none 0 0) ∧ wr.cell? ⟨w.heap.size, 2, none⟩ = some (.slice none 0 0) ∧ wr.cell? ⟨w.heap.size, 3, none⟩ = some (.slice none 0 0) ∧ wr.cell? ⟨w.heap.size, 4, none⟩ = some (.slice none 0 0) := by simp [World.cell?, hR]
          obtain ⟨z0, z1, z2, z3, z4⟩ : wr.frozen? ⟨w.heap.size, 0, none⟩ = false ∧ wr.frozen? ⟨w.heap.size, 1, none⟩ = false ∧ wr.frozen? ⟨w.heap.size, 2, none⟩ = false ∧ wr.frozen? ⟨w.heap.size, 3, none⟩ = false ∧ wr.frozen? ⟨w.heap.size, 4, none⟩ = false := by simp [World.frozen?, hR]
          have HLW := Lib.hid hlw
          clear hM hMM hR hlw
          generalize (arrOf (modAt ⟨List.replicate N 0, []⟩ ops ops.length).arr).length = l0 at *
          generalize (strsOf (modAt ⟨List.replicate N 0, []⟩ ops ops.length).hs).length = l1 at *
          generalize (numsOf (modAt ⟨List.replicate N 0, []⟩ ops ops.length).hs).length = l2 at *
          generalize (txtsOf (modAt ⟨List.replicate N 0, []⟩ ops ops.length).hs).length = l3 at *
          generalize (valsOf (modAt ⟨List.replicate N 0, []⟩ ops ops.length).hs).length = l4 at *
          go_wp2_with fail
          refine bodyPost_ret (v := .agg #[.slice pa l0 ca, .slice ps l1 cs, .slice pn l2 cn, .slice pt l3 ct, .slice pv l4 cv]) ?_ rfl ⟨N, _, _, _, _, _, rfl, ?_, ?_, by omega, hMx.out⟩
          · have hr : Try.f11.results = #[ResultVar.cell 2 30] := rfl
            simp only [results, hr]
            go_simp
          · exact end_mm HM.out HMM.out HLW.out _ _ _ _ _
          · exact ((((((none_trans HW0.out HM.out.upd).setCell (.inr (Nat.le_refl _)) _).setCell (.inr (Nat.le_refl _)) _).setCell (.inr (Nat.le_refl _)) _).setCell (.inr (Nat.le_refl _)) _).setCell (.inr (Nat.le_refl _)) _)
end Go.Lua
