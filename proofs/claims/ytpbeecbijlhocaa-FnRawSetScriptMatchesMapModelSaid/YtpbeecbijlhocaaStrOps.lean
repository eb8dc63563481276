/-
  n005_156: scripts of writes under strings: how they come in, and what a table holds behind them.
-/
import Derived.Test.YtpbeecbijlhocaaBase
namespace Go.Lua
open Go.Proofs Go.RowKit Go.Deep
set_option linter.unusedVariables false

/-- A write under a string. -/
abbrev SOp := ByteArray × Int
def SOp.cells (o : SOp) : List Value := [.string o.1, .int .i64 o.2]
def SOp.ok (o : SOp) : Prop := o.1.size ≤ maxLen ∧ (Lit.int .i64 o.2).wf = true
def IsSOps (w : World) (v : Value) (ops : List SOp) : Prop := IsAggs w v 2 (ops.map SOp.cells) ∧ ∀ o ∈ ops, SOp.ok o

theorem isl_StrOp {H : Type} {enc : TypeId × Value → H} {W : World} {base0 : Nat} {r : Reach} {v : Value} {d : DataW H} {ps : List MemPlace} (hval : Value.okWide Try.prog W r base0 49 v)
    (h : DataW.Trod enc Try.prog W 0 (fun _ => true) true 49 v d ps) : ∃ ops, IsSOps W v ops := by
  obtain ⟨ops, h1, h2⟩ := isl_fields Try.underlying49 Try.underlying52 (by kernel_rfl) (by kernel_rfl) hval h SOp.cells SOp.ok (fun cs hl hf => by
    obtain ⟨u0, c0, f0⟩ := hf 0 _ rfl
    obtain ⟨u1, c1, f1⟩ := hf 1 _ rfl
    obtain ⟨s, rfl, hs⟩ := f0.string Try.underlying9
    obtain ⟨n, rfl, hn⟩ := f1.int Try.underlying2
    refine ⟨(s, n), ?_, hs, hn⟩
    match cs, hl with
    | [a, b], _ => simp at c0 c1; subst c0 c1; rfl)
  exact ⟨ops, h1, h2⟩

/-- The last number written under s among the first writes; 0 if none. -/
def lastS (ops : List SOp) (s : ByteArray) : Nat → Int
  | 0 => 0
  | j + 1 => match ops[j]? with
    | some o => if o.1 == s then o.2 else lastS ops s j
    | none => lastS ops s j
/-- The table behind the first writes, from a table T0. -/
def strT (T0 : Tab) (ops : List SOp) : Nat → Tab
  | 0 => T0
  | j + 1 => match ops[j]? with
    | some o => (strT T0 ops j).setStr o.1 (val o.2)
    | none => strT T0 ops j

theorem bytes_comm (a b : ByteArray) : (a == b) = (b == a) := by
  rw [Bool.eq_iff_iff, bytes_beq, bytes_beq]
  exact eq_comm
/-- In the walk's spelling. -/
theorem bytes_list (a b : ByteArray) : (a == b) = (a.toList == b.toList) := by
  rw [Bool.eq_iff_iff, bytes_beq, beq_iff_eq]
  refine ⟨fun h => by rw [h], fun h => ?_⟩
  rw [ByteArray.toList_eq, ByteArray.toList_eq] at h
  exact ByteArray.ext (Array.toList_inj.1 h)
theorem strT_sv (T0 : Tab) (ops : List SOp) (s : ByteArray) (h0 : T0.sv s = lnil) : ∀ j, (strT T0 ops j).sv s = val (lastS ops s j)
  | 0 => h0
  | j + 1 => by
    have ih := strT_sv T0 ops s h0 j
    unfold strT lastS
    split
    · rw [sv_setStr _ _ (lvOk_val _), bytes_comm]
      split
      · rfl
      · exact ih
    · exact ih
theorem strT_arr (T0 : Tab) (ops : List SOp) : ∀ j, (strT T0 ops j).arr = T0.arr
  | 0 => rfl
  | j + 1 => by
    unfold strT
    split
    · rw [(setStr_frame _ _ _).2.1]; exact strT_arr T0 ops j
    · exact strT_arr T0 ops j
theorem strT_ok {T0 : Tab} {n : Nat} (h : Ok T0 n) (ops : List SOp) : ∀ j, Ok (strT T0 ops j) (n + j)
  | 0 => h
  | j + 1 => by
    unfold strT
    split
    · exact (strT_ok h ops j).setStr _ _
    · exact (strT_ok h ops j).more (by omega)
theorem strT_step {T0 : Tab} {ops : List SOp} {j : Nat} {o : SOp} (h : ops[j]? = some o) : strT T0 ops (j + 1) = (strT T0 ops j).setStr o.1 (val o.2) := by
  show (match ops[j]? with | some o => _ | none => _) = _
  rw [h]
theorem lastS_step {ops : List SOp} {s : ByteArray} {j : Nat} {o : SOp} (h : ops[j]? = some o) : lastS ops s (j + 1) = if o.1 == s then o.2 else lastS ops s j := by
  show (match ops[j]? with | some o => _ | none => _) = _
  rw [h]
theorem lastS_here {ops : List SOp} {j : Nat} {o : SOp} (h : ops[j]? = some o) : lastS ops o.1 (j + 1) = o.2 := by
  rw [lastS_step h, if_pos ((bytes_beq _ _).2 rfl)]
theorem lastS_fit {ops : List SOp} (h : ∀ o ∈ ops, SOp.ok o) (s : ByteArray) : ∀ j, Is64 (lastS ops s j)
  | 0 => by unfold lastS Is64; omega
  | j + 1 => by
    unfold lastS
    split
    · rename_i o ho
      split
      · exact is64_of_wf (h o (List.mem_of_getElem? ho)).2
      · exact lastS_fit h s j
    · exact lastS_fit h s j

/-- The cells of write j, readable later on too. -/
theorem sop_cells {w wr : World} {p : Option Addr} {ops : List SOp} (g : ∀ i r, (ops.map SOp.cells)[i]? = some r → ∃ a, p = some a ∧ ∀ j u, r[j]? = some u → w.cell? ((a.add (i * 2)).add j) = some u) (u : Upd (fun _ => False) w wr) {j : Nat} {o : SOp} (h : ops[j]? = some o) :
    ∃ a, p = some a ∧ wr.cell? (a.add (j * 2)) = some (.string o.1) ∧ wr.cell? ⟨(a.add (j * 2)).block, (a.add (j * 2)).off + 1, none⟩ = some (.int .i64 o.2) := by
  obtain ⟨a, ha, hc⟩ := g j _ (by rw [List.getElem?_map, h]; rfl)
  exact ⟨a, ha, old_at u (hc 0 _ rfl), old_at u (hc 1 _ rfl)⟩

/-- No string is long. -/
def Short (ops : List SOp) (j : Nat) : Prop := ∀ o ∈ ops.take j, o.1.size ≤ 1048576
theorem Short.next {ops : List SOp} {j : Nat} {o : SOp} (h : Short ops j) (ho : ops[j]? = some o) (hs : o.1.size ≤ 1048576) : Short ops (j + 1) := by
  intro x hx
  obtain ⟨hj, rfl⟩ := List.getElem?_eq_some_iff.1 ho
  rw [List.take_succ_eq_append_getElem hj] at hx
  rcases List.mem_append.1 hx with hx | hx
  · exact h x hx
  · rw [List.mem_singleton.1 hx]; exact hs
theorem Short.at {ops : List SOp} {n : Nat} (h : Short ops n) {j : Nat} {o : SOp} (hj : j < n) (ho : ops[j]? = some o) : o.1.size ≤ 1048576 := by
  refine h o (List.mem_of_getElem? (i := j) ?_)
  rw [List.getElem?_take, if_pos hj]
  exact ho
end Go.Lua
