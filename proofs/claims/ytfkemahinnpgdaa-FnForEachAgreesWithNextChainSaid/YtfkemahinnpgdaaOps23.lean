/-
  n005_23: scripts of writes: how they come in, and what a table holds behind them.
-/
import Derived.Test.YtfkemahinnpgdaaKeyI
import Derived.Test.YtfkemahinnpgdaaStructs
import Derived.Test.YtfkemahinnpgdaaHas
import Derived.Test.YtfkemahinnpgdaaVal
namespace Go.Lua
open Go.Proofs Go.RowKit Go.Deep
set_option linter.unusedVariables false

/-- The law's end: true, and what lay there stands. -/
def Fine (w : World) (e : Ending) (w' : World) : Prop := e = .returned (.bool true) ∧ Below w.heap.size w w'
/-- It answers no, or yes and P; it changes nothing. -/
def YnIf (P : Prop) (w : World) (e : Ending) (w' : World) : Prop := w = w' ∧ (e = .returned (.bool false) ∨ (e = .returned (.bool true) ∧ P))
def NoIf (P : Prop) (w : World) (e : Ending) (w' : World) : Prop := w = w' ∧ (e = .returned (.bool true) ∨ (e = .returned (.bool false) ∧ P))

structure ZOp where
  kind : Int
  n : Int
  s : ByteArray
  v : Int
def ZOp.cells (o : ZOp) : List Value := [.int .u8 o.kind, .int .i64 o.n, .string o.s, .int .i64 o.v]
def ZOp.ok (o : ZOp) : Prop := (Lit.int .u8 o.kind).wf = true ∧ (Lit.int .i64 o.n).wf = true ∧ o.s.size ≤ maxLen ∧ (Lit.int .i64 o.v).wf = true
def IsZOps (w : World) (v : Value) (ops : List ZOp) : Prop := IsAggs w v 4 (ops.map ZOp.cells) ∧ ∀ o ∈ ops, ZOp.ok o
theorem ZOp.ok.kind {o : ZOp} (h : ZOp.ok o) : 0 ≤ o.kind ∧ o.kind ≤ 255 := by
  have := h.1
  simpa [Lit.wf, IntKind.min, IntKind.max, IntKind.signed, IntKind.bits] using this

theorem isl_ZZOp_b2 {H : Type} {enc : TypeId × Value → H} {W : World} {base0 : Nat} {r : Reach} {v : Value} {d : DataW H} {ps : List MemPlace} (hval : Value.okWide Try.prog W r base0 22 v)
    (h : DataW.Trod enc Try.prog W 0 (fun _ => true) true 22 v d ps) : ∃ ops, IsZOps W v ops := by
  obtain ⟨ops, h1, h2⟩ := isl_fields Try.underlying22 Try.underlying55 (by kernel_rfl) (by kernel_rfl) hval h ZOp.cells ZOp.ok (fun cs hl hf => by
    obtain ⟨u0, c0, f0⟩ := hf 0 _ rfl
    obtain ⟨u1, c1, f1⟩ := hf 1 _ rfl
    obtain ⟨u2, c2, f2⟩ := hf 2 _ rfl
    obtain ⟨u3, c3, f3⟩ := hf 3 _ rfl
    obtain ⟨b, rfl, hb⟩ := f0.int Try.underlying5
    obtain ⟨h, rfl, hh⟩ := f1.int Try.underlying3
    obtain ⟨s, rfl, hs⟩ := f2.string Try.underlying9
    obtain ⟨n, rfl, hn⟩ := f3.int Try.underlying2
    refine ⟨⟨b, h, s, n⟩, ?_, hb, hh, hs, hn⟩
    match cs, hl with
    | [a, b, c, d], _ => simp at c0 c1 c2 c3; subst c0 c1 c2 c3; rfl)
  exact ⟨ops, h1, h2⟩

theorem zop_cells {w wr : World} {p : Option Addr} {ops : List ZOp} (g : ∀ i r, (ops.map ZOp.cells)[i]? = some r → ∃ a, p = some a ∧ ∀ j u, r[j]? = some u → w.cell? ((a.add (i * 4)).add j) = some u) (u : Upd (fun _ => False) w wr) {j : Nat} {o : ZOp} (h : ops[j]? = some o) :
    ∃ a, p = some a ∧ wr.cell? (a.add (j * 4)) = some (.int .u8 o.kind) ∧ wr.cell? ⟨(a.add (j * 4)).block, (a.add (j * 4)).off + 1, none⟩ = some (.int .i64 o.n) ∧
      wr.cell? ⟨(a.add (j * 4)).block, (a.add (j * 4)).off + 2, none⟩ = some (.string o.s) ∧ wr.cell? ⟨(a.add (j * 4)).block, (a.add (j * 4)).off + 3, none⟩ = some (.int .i64 o.v) := by
  obtain ⟨a, ha, hc⟩ := g j _ (by rw [List.getElem?_map, h]; rfl)
  exact ⟨a, ha, old_at u (hc 0 _ rfl), old_at u (hc 1 _ rfl), old_at u (hc 2 _ rfl), old_at u (hc 3 _ rfl)⟩

theorem bytes_comm (a b : ByteArray) : (a == b) = (b == a) := by
  rw [Bool.eq_iff_iff, bytes_beq, bytes_beq]
  exact eq_comm
/-- In the walk's spelling. -/
theorem bytes_list (a b : ByteArray) : (a == b) = (a.toList == b.toList) := by
  rw [Bool.eq_iff_iff, bytes_beq, beq_iff_eq]
  refine ⟨fun h => by rw [h], fun h => ?_⟩
  rw [ByteArray.toList_eq, ByteArray.toList_eq] at h
  exact ByteArray.ext (Array.toList_inj.1 h)

/-- One write. -/
def Tab.stepZ (T : Tab) (o : ZOp) : Tab := if o.kind % 4 = 3 then T.setKey o.n (val o.v) else T.setStr o.s (val o.v)
def opsT (T0 : Tab) (ops : List ZOp) : Nat → Tab
  | 0 => T0
  | j + 1 => match ops[j]? with
    | some o => (opsT T0 ops j).stepZ o
    | none => opsT T0 ops j
theorem opsT_step {T0 : Tab} {ops : List ZOp} {j : Nat} {o : ZOp} (h : ops[j]? = some o) : opsT T0 ops (j + 1) = (opsT T0 ops j).stepZ o := by
  show (match ops[j]? with | some o => _ | none => _) = _
  rw [h]
/-- The last number written under the string s among the first j writes. -/
def lastZ (ops : List ZOp) (s : ByteArray) : Nat → Int
  | 0 => 0
  | j + 1 => match ops[j]? with
    | some o => if o.kind % 4 ≠ 3 ∧ (o.s == s) = true then o.v else lastZ ops s j
    | none => lastZ ops s j
theorem lastZ_step {ops : List ZOp} {s : ByteArray} {j : Nat} {o : ZOp} (h : ops[j]? = some o) : lastZ ops s (j + 1) = if o.kind % 4 ≠ 3 ∧ (o.s == s) = true then o.v else lastZ ops s j := by
  show (match ops[j]? with | some o => _ | none => _) = _
  rw [h]
theorem lastZ_fit {ops : List ZOp} (h : ∀ o ∈ ops, ZOp.ok o) (s : ByteArray) : ∀ j, Is64 (lastZ ops s j)
  | 0 => by unfold lastZ Is64; omega
  | j + 1 => by
    unfold lastZ
    split
    · rename_i o ho
      split
      · exact is64_of_wf (h o (List.mem_of_getElem? ho)).2.2.2
      · exact lastZ_fit h s j
    · exact lastZ_fit h s j
theorem opsT_sv {T0 : Tab} {ops : List ZOp} {s : ByteArray} (h0 : T0.sv s = lnil) : ∀ j, (opsT T0 ops j).sv s = val (lastZ ops s j)
  | 0 => h0
  | j + 1 => by
    have ih := opsT_sv (ops := ops) h0 j
    unfold opsT lastZ
    split
    · rename_i o ho
      unfold Tab.stepZ
      by_cases hk : o.kind % 4 = 3
      · rw [if_pos hk, sv_setKey, if_neg (fun h => h.1 hk)]; exact ih
      · rw [if_neg hk, sv_setStr _ _ (lvOk_val _), bytes_comm]
        by_cases hs : (o.s == s) = true
        · rw [if_pos hs, if_pos ⟨hk, hs⟩]
        · rw [if_neg hs, if_neg (fun h => hs h.2)]; exact ih
    · exact ih

/-- What the checks leave. -/
def ZNear (o : ZOp) : Prop := o.kind % 4 = 3 → ¬ (65536 < o.n ∧ o.n < 67108864)
def ZNears (ops : List ZOp) (j : Nat) : Prop := ∀ o ∈ ops.take j, ZNear o
theorem ZNears.zero (ops : List ZOp) : ZNears ops 0 := by unfold ZNears; simp
theorem ZNears.next {ops : List ZOp} {j : Nat} {o : ZOp} (h : ZNears ops j) (ho : ops[j]? = some o) (hs : ZNear o) : ZNears ops (j + 1) := by
  intro x hx
  obtain ⟨hj, rfl⟩ := List.getElem?_eq_some_iff.1 ho
  rw [List.take_succ_eq_append_getElem hj] at hx
  rcases List.mem_append.1 hx with hx | hx
  · exact h x hx
  · rw [List.mem_singleton.1 hx]; exact hs
theorem ZNears.at {ops : List ZOp} (h : ZNears ops ops.length) {j : Nat} {o : ZOp} (ho : ops[j]? = some o) : ZNear o :=
  h o (by rw [List.take_length]; exact List.mem_of_getElem? ho)
def ZShort (ops : List ZOp) (j : Nat) : Prop := ∀ o ∈ ops.take j, o.s.size ≤ 1048576
theorem ZShort.zero (ops : List ZOp) : ZShort ops 0 := by unfold ZShort; simp
theorem ZShort.next {ops : List ZOp} {j : Nat} {o : ZOp} (h : ZShort ops j) (ho : ops[j]? = some o) (hs : o.s.size ≤ 1048576) : ZShort ops (j + 1) := by
  intro x hx
  obtain ⟨hj, rfl⟩ := List.getElem?_eq_some_iff.1 ho
  rw [List.take_succ_eq_append_getElem hj] at hx
  rcases List.mem_append.1 hx with hx | hx
  · exact h x hx
  · rw [List.mem_singleton.1 hx]; exact hs
theorem ZShort.at {ops : List ZOp} (h : ZShort ops ops.length) {j : Nat} {o : ZOp} (ho : ops[j]? = some o) : o.s.size ≤ 1048576 :=
  h o (by rw [List.take_length]; exact List.mem_of_getElem? ho)

theorem Ok.stepZ {T : Tab} {n : Nat} (h : Ok T n) {o : ZOp} (ho : ZNear o) : Ok (T.stepZ o) (n + 1) := by
  unfold Tab.stepZ
  split
  · rename_i hk
    exact h.setKey _ (ho hk) (lvOk_val _)
  · exact h.setStr _ _
theorem opsT_ok {T0 : Tab} {n : Nat} (h0 : Ok T0 n) {ops : List ZOp} (h : ZNears ops ops.length) : ∀ j, Ok (opsT T0 ops j) (n + j)
  | 0 => h0
  | j + 1 => by
    unfold opsT
    split
    · rename_i o ho
      exact (opsT_ok h0 h j).stepZ (h.at ho)
    · exact (opsT_ok h0 h j).more (by omega)
end Go.Lua
