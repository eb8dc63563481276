/-
  n005_156: scripts of stores under integer keys.
-/
import Derived.Test.YtpbeecbijlhocaaBase
import Derived.Test.YtpbeecbijlhocaaKeyI
import Derived.Test.YtpbeecbijlhocaaBord
namespace Go.Lua
open Go.Proofs Go.RowKit Go.Deep
set_option linter.unusedVariables false

/-- A store under an integer key. -/
abbrev IOp := Int × Int
def IOp.cells (o : IOp) : List Value := [.int .i64 o.1, .int .i64 o.2]
def IOp.ok (o : IOp) : Prop := (Lit.int .i64 o.1).wf = true ∧ (Lit.int .i64 o.2).wf = true
def IsIOps (w : World) (v : Value) (ops : List IOp) : Prop := IsAggs w v 2 (ops.map IOp.cells) ∧ ∀ o ∈ ops, IOp.ok o

theorem isl_IntOp {H : Type} {enc : TypeId × Value → H} {W : World} {base0 : Nat} {r : Reach} {v : Value} {d : DataW H} {ps : List MemPlace} (hval : Value.okWide Try.prog W r base0 53 v)
    (h : DataW.Trod enc Try.prog W 0 (fun _ => true) true 53 v d ps) : ∃ ops, IsIOps W v ops := by
  obtain ⟨ops, h1, h2⟩ := isl_fields Try.underlying53 Try.underlying56 (by kernel_rfl) (by kernel_rfl) hval h IOp.cells IOp.ok (fun cs hl hf => by
    obtain ⟨u0, c0, f0⟩ := hf 0 _ rfl
    obtain ⟨u1, c1, f1⟩ := hf 1 _ rfl
    obtain ⟨s, rfl, hs⟩ := f0.int Try.underlying3
    obtain ⟨n, rfl, hn⟩ := f1.int Try.underlying2
    refine ⟨(s, n), ?_, hs, hn⟩
    match cs, hl with
    | [a, b], _ => simp at c0 c1; subst c0 c1; rfl)
  exact ⟨ops, h1, h2⟩
theorem iop_cells {w wr : World} {p : Option Addr} {ops : List IOp} (g : ∀ i r, (ops.map IOp.cells)[i]? = some r → ∃ a, p = some a ∧ ∀ j u, r[j]? = some u → w.cell? ((a.add (i * 2)).add j) = some u) (u : Upd (fun _ => False) w wr) {j : Nat} {o : IOp} (h : ops[j]? = some o) :
    ∃ a, p = some a ∧ wr.cell? (a.add (j * 2)) = some (.int .i64 o.1) ∧ wr.cell? ⟨(a.add (j * 2)).block, (a.add (j * 2)).off + 1, none⟩ = some (.int .i64 o.2) := by
  obtain ⟨a, ha, hc⟩ := g j _ (by rw [List.getElem?_map, h]; rfl)
  exact ⟨a, ha, old_at u (hc 0 _ rfl), old_at u (hc 1 _ rfl)⟩

/-- The last number stored under a key whose double is q's. -/
def lastI (ops : List IOp) (q : Int) : Nat → Int
  | 0 => 0
  | j + 1 => match ops[j]? with
    | some o => if feq (fofInt o.1) (fofInt q) then o.2 else lastI ops q j
    | none => lastI ops q j
def intT (ops : List IOp) : Nat → Tab
  | 0 => newTab 0 0
  | j + 1 => match ops[j]? with
    | some o => (intT ops j).setKey o.1 (val o.2)
    | none => intT ops j
theorem intT_step {ops : List IOp} {j : Nat} {o : IOp} (h : ops[j]? = some o) : intT ops (j + 1) = (intT ops j).setKey o.1 (val o.2) := by
  show (match ops[j]? with | some o => _ | none => _) = _
  rw [h]
theorem lastI_step {ops : List IOp} {q : Int} {j : Nat} {o : IOp} (h : ops[j]? = some o) : lastI ops q (j + 1) = if feq (fofInt o.1) (fofInt q) then o.2 else lastI ops q j := by
  show (match ops[j]? with | some o => _ | none => _) = _
  rw [h]
theorem lastI_here {ops : List IOp} {j : Nat} {o : IOp} (h : ops[j]? = some o) (ho : IOp.ok o) : lastI ops o.1 (j + 1) = o.2 := by
  rw [lastI_step h, if_pos (feq_fof_self (by have := is64_of_wf ho.1; unfold Is64 at this; omega))]
theorem lastI_fit {ops : List IOp} (h : ∀ o ∈ ops, IOp.ok o) (q : Int) : ∀ j, Is64 (lastI ops q j)
  | 0 => by unfold lastI Is64; omega
  | j + 1 => by
    unfold lastI
    split
    · rename_i o ho
      split
      · exact is64_of_wf (h o (List.mem_of_getElem? ho)).2
      · exact lastI_fit h q j
    · exact lastI_fit h q j
theorem intT_iv {ops : List IOp} (h : ∀ o ∈ ops, IOp.ok o) {q : Int} (hq : Is64 q) : ∀ j, (intT ops j).iv q = val (lastI ops q j)
  | 0 => iv_new 0 0 q
  | j + 1 => by
    have ih := intT_iv h hq j
    unfold intT lastI
    split
    · rename_i o ho
      rw [iv_setKey _ (is64_of_wf (h o (List.mem_of_getElem? ho)).1) hq (lvOk_val _)]
      split
      · rfl
      · exact ih
    · exact ih
/-- No key lies behind the checked bound. -/
def Near (ops : List IOp) (j : Nat) : Prop := ∀ o ∈ ops.take j, ¬ (65536 < o.1 ∧ o.1 < 67108864)
theorem Near.next {ops : List IOp} {j : Nat} {o : IOp} (h : Near ops j) (ho : ops[j]? = some o) (hs : ¬ (65536 < o.1 ∧ o.1 < 67108864)) : Near ops (j + 1) := by
  intro x hx
  obtain ⟨hj, rfl⟩ := List.getElem?_eq_some_iff.1 ho
  rw [List.take_succ_eq_append_getElem hj] at hx
  rcases List.mem_append.1 hx with hx | hx
  · exact h x hx
  · rw [List.mem_singleton.1 hx]; exact hs
theorem Near.at {ops : List IOp} (h : Near ops ops.length) {j : Nat} {o : IOp} (ho : ops[j]? = some o) : ¬ (65536 < o.1 ∧ o.1 < 67108864) :=
  h o (by rw [List.take_length]; exact List.mem_of_getElem? ho)
theorem intT_ok {ops : List IOp} (h : Near ops ops.length) : ∀ j, Ok (intT ops j) j
  | 0 => Ok.new 0 0
  | j + 1 => by
    unfold intT
    split
    · rename_i o ho
      exact (intT_ok h j).setKey _ (h.at ho) (lvOk_val _)
    · exact (intT_ok h j).more (by omega)
/-- A slot that reads something was stored. -/
theorem intT_key {ops : List IOp} {q : Int} : ∀ {j : Nat}, (intT ops j).av q ≠ lnil → ∃ i o, i < j ∧ ops[i]? = some o ∧ o.1 = q ∧ InArr q
  | 0, h => absurd (av_new 0 0 q) h
  | j + 1, h => by
    unfold intT at h
    split at h
    · rename_i o ho
      rw [av_setKey] at h
      split at h
      · rename_i hq
        exact ⟨j, o, by omega, ho, hq.2.symm, hq.2 ▸ hq.1⟩
      · obtain ⟨i, o2, h1, h2⟩ := intT_key h
        exact ⟨i, o2, by omega, h2⟩
    · obtain ⟨i, o2, h1, h2⟩ := intT_key h
      exact ⟨i, o2, by omega, h2⟩

/-- mx is the greatest array key among the first q that holds something. -/
structure MaxOf (ops : List IOp) (T : Tab) (q : Nat) (mx : Int) : Prop where
  lo : 0 ≤ mx
  hi : mx ≤ 65536
  here : mx = 0 ∨ T.av mx ≠ lnil
  top : ∀ i o, i < q → ops[i]? = some o → InArr o.1 → T.av o.1 ≠ lnil → o.1 ≤ mx
theorem MaxOf.zero (ops : List IOp) (T : Tab) : MaxOf ops T 0 0 := ⟨by omega, by omega, .inl rfl, fun i o h => by omega⟩
theorem MaxOf.keep {ops : List IOp} {T : Tab} {q : Nat} {mx : Int} (h : MaxOf ops T q mx) {o : IOp} (ho : ops[q]? = some o) (hx : InArr o.1 → T.av o.1 ≠ lnil → o.1 ≤ mx) : MaxOf ops T (q + 1) mx :=
  ⟨h.lo, h.hi, h.here, fun i o' hi ho' h1 h2 => by
    rcases Nat.lt_or_ge i q with hlt | hge
    · exact h.top i o' hlt ho' h1 h2
    · obtain rfl : i = q := by omega
      rw [ho] at ho'
      cases ho'
      exact hx h1 h2⟩
theorem MaxOf.take {ops : List IOp} {T : Tab} {q : Nat} {mx : Int} (h : MaxOf ops T q mx) {o : IOp} (ho : ops[q]? = some o) (h1 : InArr o.1) (hn : ¬ (65536 < o.1 ∧ o.1 < 67108864)) (h2 : T.av o.1 ≠ lnil) (h3 : mx < o.1) : MaxOf ops T (q + 1) o.1 :=
  ⟨by have := h1.1; omega, by have := h1.2; omega, .inr h2, fun i o' hi ho' q1 q2 => by
    rcases Nat.lt_or_ge i q with hlt | hge
    · have := h.top i o' hlt ho' q1 q2
      omega
    · obtain rfl : i = q := by omega
      rw [ho] at ho'
      cases ho'
      omega⟩
theorem MaxOf.border {ops : List IOp} {mx : Int} (h : MaxOf ops (intT ops ops.length) ops.length mx) {n : Nat} (hok : Ok (intT ops ops.length) n) : border ((intT ops ops.length).arr.getD []) = mx.toNat := by
  have h0 := h.lo
  refine hok.border (fun k hk => ?_) ?_
  · by_cases hn : (intT ops ops.length).av k = lnil
    · exact hn
    · obtain ⟨i, o, h1, h2, h3, h4⟩ := intT_key hn
      subst h3
      have := h.top i o h1 h2 h4 hn
      omega
  · rcases h.here with h1 | h1
    · left; omega
    · right
      rw [show ((mx.toNat : Nat) : Int) = mx by omega]
      exact h1
end Go.Lua
