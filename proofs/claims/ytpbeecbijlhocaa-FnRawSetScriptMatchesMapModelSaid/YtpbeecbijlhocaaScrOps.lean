/-
  n005_156: scripts of RawSet under strings, whole numbers and halves.
-/
import Derived.Test.YtpbeecbijlhocaaBase
import Derived.Test.YtpbeecbijlhocaaHalf
import Derived.Test.YtpbeecbijlhocaaStrOps
import Derived.Test.YtpbeecbijlhocaaInArr
namespace Go.Lua
open Go.Proofs Go.RowKit Go.Deep
set_option linter.unusedVariables false

structure KOp where
  str : Bool
  half : Int
  s : ByteArray
  v : Int
def KOp.cells (o : KOp) : List Value := [.bool o.str, .int .i32 o.half, .string o.s, .int .i64 o.v]
def KOp.ok (o : KOp) : Prop := (Lit.int .i32 o.half).wf = true ∧ o.s.size ≤ maxLen ∧ (Lit.int .i64 o.v).wf = true
def IsKOps (w : World) (v : Value) (ops : List KOp) : Prop := IsAggs w v 4 (ops.map KOp.cells) ∧ ∀ o ∈ ops, KOp.ok o
theorem KOp.ok.fit {o : KOp} (h : KOp.ok o) : -2147483648 ≤ o.half ∧ o.half ≤ 2147483647 := by
  have := h.1
  simpa [Lit.wf, IntKind.min, IntKind.max, IntKind.signed, IntKind.bits] using this

theorem isl_SetOp {H : Type} {enc : TypeId × Value → H} {W : World} {base0 : Nat} {r : Reach} {v : Value} {d : DataW H} {ps : List MemPlace} (hval : Value.okWide Try.prog W r base0 22 v)
    (h : DataW.Trod enc Try.prog W 0 (fun _ => true) true 22 v d ps) : ∃ ops, IsKOps W v ops := by
  obtain ⟨ops, h1, h2⟩ := isl_fields Try.underlying22 Try.underlying25 (by kernel_rfl) (by kernel_rfl) hval h KOp.cells KOp.ok (fun cs hl hf => by
    obtain ⟨u0, c0, f0⟩ := hf 0 _ rfl
    obtain ⟨u1, c1, f1⟩ := hf 1 _ rfl
    obtain ⟨u2, c2, f2⟩ := hf 2 _ rfl
    obtain ⟨u3, c3, f3⟩ := hf 3 _ rfl
    obtain ⟨b, rfl⟩ := f0.bool Try.underlying4
    obtain ⟨h, rfl, hh⟩ := f1.int Try.underlying21
    obtain ⟨s, rfl, hs⟩ := f2.string Try.underlying9
    obtain ⟨n, rfl, hn⟩ := f3.int Try.underlying2
    refine ⟨⟨b, h, s, n⟩, ?_, hh, hs, hn⟩
    match cs, hl with
    | [a, b, c, d], _ => simp at c0 c1 c2 c3; subst c0 c1 c2 c3; rfl)
  exact ⟨ops, h1, h2⟩

theorem kop_cells {w wr : World} {p : Option Addr} {ops : List KOp} (g : ∀ i r, (ops.map KOp.cells)[i]? = some r → ∃ a, p = some a ∧ ∀ j u, r[j]? = some u → w.cell? ((a.add (i * 4)).add j) = some u) (u : Upd (fun _ => False) w wr) {j : Nat} {o : KOp} (h : ops[j]? = some o) :
    ∃ a, p = some a ∧ wr.cell? (a.add (j * 4)) = some (.bool o.str) ∧ wr.cell? ⟨(a.add (j * 4)).block, (a.add (j * 4)).off + 1, none⟩ = some (.int .i32 o.half) ∧
      wr.cell? ⟨(a.add (j * 4)).block, (a.add (j * 4)).off + 2, none⟩ = some (.string o.s) ∧ wr.cell? ⟨(a.add (j * 4)).block, (a.add (j * 4)).off + 3, none⟩ = some (.int .i64 o.v) := by
  obtain ⟨a, ha, hc⟩ := g j _ (by rw [List.getElem?_map, h]; rfl)
  exact ⟨a, ha, old_at u (hc 0 _ rfl), old_at u (hc 1 _ rfl), old_at u (hc 2 _ rfl), old_at u (hc 3 _ rfl)⟩

def Tab.setK (T : Tab) (o : KOp) : Tab := if o.str then T.setStr o.s (val o.v) else if HalfIn o.half then T.setArr (o.half / 2) (val o.v) else T.setNum (halfW o.half) (val o.v)
def Tab.getK (T : Tab) (o : KOp) : Value := if o.str then T.sv o.s else if HalfIn o.half then T.av (o.half / 2) else T.nv (halfW o.half)
def sameK (a b : KOp) : Bool := if a.str != b.str then false else if a.str then a.s == b.s else a.half == b.half

theorem getK_setK (T : Tab) {a b : KOp} (ha : KOp.ok a) (hb : KOp.ok b) : (T.setK a).getK b = if sameK a b then val a.v else T.getK b := by
  unfold Tab.setK Tab.getK sameK
  have fa := ha.fit
  have fb := hb.fit
  cases hx : a.str <;> cases hy : b.str
  · simp only [Bool.false_eq_true, if_false, bne_self_eq_false]
    by_cases h1 : HalfIn a.half
    · rw [if_pos h1]
      by_cases h2 : HalfIn b.half
      · rw [if_pos h2, if_pos h2, av_setArr _ _ h1.2.1]
        by_cases he : a.half = b.half
        · rw [he, if_pos rfl, if_pos (by simp)]
        · rw [if_neg (by have := h1.1; have := h2.1; omega), if_neg (by simpa using he)]
      · rw [if_neg h2, if_neg h2, nv_setArr, if_neg (by simp; intro e; exact h2 (e ▸ h1))]
    · rw [if_neg h1]
      by_cases h2 : HalfIn b.half
      · rw [if_pos h2, if_pos h2, av_setNum, if_neg (by simp; intro e; exact h1 (e ▸ h2))]
      · rw [if_neg h2, if_neg h2, nv_setNum _ _ (lvOk_val _), half_feq fb fa]
        by_cases he : a.half = b.half
        · rw [he]
        · rw [beq_false_of_ne he, beq_false_of_ne (Ne.symm he)]
  · simp only [Bool.false_eq_true, if_false, if_true]
    split
    · rw [sv_setArr]; rfl
    · rw [sv_setNum]; rfl
  · simp only [Bool.false_eq_true, if_false, if_true]
    split
    · rw [av_setStr]; rfl
    · rw [nv_setStr]; rfl
  · simp only [if_true, bne_self_eq_false, Bool.false_eq_true, if_false]
    rw [sv_setStr _ _ (lvOk_val _), bytes_comm]

def lastK (ops : List KOp) (q : KOp) : Nat → Int
  | 0 => 0
  | j + 1 => match ops[j]? with
    | some o => if sameK o q then o.v else lastK ops q j
    | none => lastK ops q j
def keyT (ops : List KOp) : Nat → Tab
  | 0 => newTab 0 0
  | j + 1 => match ops[j]? with
    | some o => (keyT ops j).setK o
    | none => keyT ops j
theorem keyT_step {ops : List KOp} {j : Nat} {o : KOp} (h : ops[j]? = some o) : keyT ops (j + 1) = (keyT ops j).setK o := by
  show (match ops[j]? with | some o => _ | none => _) = _
  rw [h]
theorem lastK_step {ops : List KOp} {q : KOp} {j : Nat} {o : KOp} (h : ops[j]? = some o) : lastK ops q (j + 1) = if sameK o q then o.v else lastK ops q j := by
  show (match ops[j]? with | some o => _ | none => _) = _
  rw [h]
theorem sameK_self (o : KOp) : sameK o o = true := by
  unfold sameK
  simp only [bne_self_eq_false, Bool.false_eq_true, if_false]
  split
  · exact (bytes_beq _ _).2 rfl
  · simp
theorem lastK_here {ops : List KOp} {j : Nat} {o : KOp} (h : ops[j]? = some o) : lastK ops o (j + 1) = o.v := by
  rw [lastK_step h, if_pos (sameK_self o)]
theorem lastK_fit {ops : List KOp} (h : ∀ o ∈ ops, KOp.ok o) (q : KOp) : ∀ j, Is64 (lastK ops q j)
  | 0 => by unfold lastK Is64; omega
  | j + 1 => by
    unfold lastK
    split
    · rename_i o ho
      split
      · exact is64_of_wf (h o (List.mem_of_getElem? ho)).2.2
      · exact lastK_fit h q j
    · exact lastK_fit h q j
theorem getK_new (q : KOp) : (newTab 0 0).getK q = lnil := by
  unfold Tab.getK
  split
  · exact sv_new ..
  · split
    · exact av_new ..
    · rfl
theorem keyT_get {ops : List KOp} (h : ∀ o ∈ ops, KOp.ok o) {q : KOp} (hq : KOp.ok q) : ∀ j, (keyT ops j).getK q = val (lastK ops q j)
  | 0 => getK_new q
  | j + 1 => by
    have ih := keyT_get h hq j
    unfold keyT lastK
    split
    · rename_i o ho
      rw [getK_setK _ (h o (List.mem_of_getElem? ho)) hq]
      split
      · rfl
      · exact ih
    · exact ih
/-- What the checks leave of a step's key. -/
def KNear (o : KOp) : Prop := o.str = false → o.half % 2 = 0 → ¬ (65536 < o.half / 2 ∧ o.half / 2 < 67108864)
def Nears (ops : List KOp) (j : Nat) : Prop := ∀ o ∈ ops.take j, KNear o
theorem Nears.next {ops : List KOp} {j : Nat} {o : KOp} (h : Nears ops j) (ho : ops[j]? = some o) (hs : KNear o) : Nears ops (j + 1) := by
  intro x hx
  obtain ⟨hj, rfl⟩ := List.getElem?_eq_some_iff.1 ho
  rw [List.take_succ_eq_append_getElem hj] at hx
  rcases List.mem_append.1 hx with hx | hx
  · exact h x hx
  · rw [List.mem_singleton.1 hx]; exact hs
theorem Nears.at {ops : List KOp} (h : Nears ops ops.length) {j : Nat} {o : KOp} (ho : ops[j]? = some o) : KNear o :=
  h o (by rw [List.take_length]; exact List.mem_of_getElem? ho)
theorem Ok.setK {T : Tab} {n : Nat} (h : Ok T n) {o : KOp} (ho : KNear o) : Ok (T.setK o) (n + 1) := by
  unfold Tab.setK
  split
  · exact h.setStr _ _
  · rename_i hs
    split
    · rename_i hi
      have := ho (by simpa using hs) hi.1
      have h1 := hi.2
      unfold InArr at h1
      exact (h.setArr _ (by omega) (lvOk_val _)).more (by omega)
    · exact h.setNum _ _
theorem keyT_ok {ops : List KOp} (h : Nears ops ops.length) : ∀ j, Ok (keyT ops j) j
  | 0 => Ok.new 0 0
  | j + 1 => by
    unfold keyT
    split
    · rename_i o ho
      exact (keyT_ok h j).setK (h.at ho)
    · exact (keyT_ok h j).more (by omega)
def KShort (ops : List KOp) (j : Nat) : Prop := ∀ o ∈ ops.take j, o.s.size ≤ 1048576
theorem KShort.next {ops : List KOp} {j : Nat} {o : KOp} (h : KShort ops j) (ho : ops[j]? = some o) (hs : o.s.size ≤ 1048576) : KShort ops (j + 1) := by
  intro x hx
  obtain ⟨hj, rfl⟩ := List.getElem?_eq_some_iff.1 ho
  rw [List.take_succ_eq_append_getElem hj] at hx
  rcases List.mem_append.1 hx with hx | hx
  · exact h x hx
  · rw [List.mem_singleton.1 hx]; exact hs
theorem KShort.at {ops : List KOp} {n : Nat} (h : KShort ops n) {j : Nat} {o : KOp} (hj : j < n) (ho : ops[j]? = some o) : o.s.size ≤ 1048576 := by
  refine h o (List.mem_of_getElem? (i := j) ?_)
  rw [List.getElem?_take, if_pos hj]
  exact ho

theorem half_even_words {h : Int} (hb : -2147483648 ≤ h ∧ h ≤ 2147483647) (he : h % 2 = 0) : (h.tmod 2 == 0) = true ∧ wrap64 (wrap32 (h.tdiv 2)) = h / 2 := by
  have hd : (2 : Int) ∣ h := ⟨h / 2, by omega⟩
  refine ⟨?_, ?_⟩
  · rw [Int.tmod_eq_zero_of_dvd hd]; rfl
  · rw [Int.tdiv_eq_ediv_of_dvd hd]
    unfold wrap64 wrap32
    omega
theorem half_odd_words {h : Int} (ho : h % 2 ≠ 0) : (h.tmod 2 == 0) = false := by
  refine beq_false_of_ne fun hh => ho ?_
  have := Int.dvd_of_tmod_eq_zero hh
  omega
/-- h / 2 as Go computes it. -/
theorem run_half {P : Program} {h : Int} (hb : -2147483648 ≤ h ∧ h ≤ 2147483647) (t : TypeId) (w : World) : (binOp .quo t (.float .f64 (floatOfInt .f64 h)) (.float .f64 4611686018427387904)).run P w = .ok (.float .f64 (halfW h)) w := by
  have hq : FloatKind.f64.format.div (fofInt h) 4611686018427387904 = some (halfW h) := (half_of hb).1
  have e : floatOfInt .f64 h = fofInt h := rfl
  simp [binOp, Op.floatArith, e, hq]
/-- RawSet under a half. -/
theorem rawSet_half (w : World) (t : Nat) (T : Tab) (F : Nat → Prop) (h : TabAt w t T F) {n : Nat} (hk : Ok T n) (hn : n ≤ 1000000) {o : KOp} (ho : KOp.ok o) (hs : o.str = false) :
    Calls Try.prog 35 #[.pointer (some ⟨t, 0, none⟩), lnum (halfW o.half), val o.v] w (UpdTo F w t (T.setK o)) := by
  have hl := hk.alen
  unfold Tab.setK
  rw [if_neg (by simp [hs])]
  by_cases hi : HalfIn o.half
  · rw [if_pos hi]
    obtain ⟨tv, xv, he⟩ := val_iface o.v
    rw [he]
    exact rawSet_arr w t T F h (by omega) _ _ hi.2.1 hi.2.2 (half_in ho.fit hi) tv xv
  · rw [if_neg hi]
    exact rawSet_hash w t T F h (hk.wf hn) _ (half_out ho.fit hi) _ (lvOk_val _)
theorem rawSet_kstr (w : World) (t : Nat) (T : Tab) (F : Nat → Prop) (h : TabAt w t T F) {n : Nat} (hk : Ok T n) (hn : n ≤ 1000000) {o : KOp} (hs : o.str = true) :
    Calls Try.prog 35 #[.pointer (some ⟨t, 0, none⟩), lstr o.s, val o.v] w (UpdTo F w t (T.setK o)) := by
  unfold Tab.setK
  rw [if_pos hs]
  exact rawSet_str w t T F h (hk.wf hn) o.s _ (lvOk_val _)

/-- sameSetKeyB3: it makes memory of its own. -/
theorem sameSetKey_any (w : World) (a b : KOp) : Calls Try.prog 14 #[.agg #[.bool a.str, .int .i32 a.half, .string a.s, .int .i64 a.v], .agg #[.bool b.str, .int .i32 b.half, .string b.s, .int .i64 b.v]] w
    fun e w' => e = .returned (.bool (sameK a b)) ∧ Upd (fun _ => False) w w' := by
  obtain ⟨sa, ha, ca, va⟩ := a
  obtain ⟨sb, hb, cb, vb⟩ := b
  have hU : Hid (∀ o1 o2, Upd (fun _ => False) w ((w.alloc o1).alloc o2)) := Lib.hid fun o1 o2 => ((Upd.refl _ w).alloc _).alloc _
  cases sa <;> cases sb
  · go_enter Try.func14, Try.ntmps14
    go_wp2
    go_ret
    exact ⟨rfl, hU.out _ _⟩
  · go_enter Try.func14, Try.ntmps14
    go_wp2
    go_ret
    exact ⟨rfl, hU.out _ _⟩
  · go_enter Try.func14, Try.ntmps14
    go_wp2
    go_ret
    exact ⟨rfl, hU.out _ _⟩
  · go_enter Try.func14, Try.ntmps14
    go_wp2
    go_ret
    refine ⟨?_, hU.out _ _⟩
    rw [show sameK ⟨true, ha, ca, va⟩ ⟨true, hb, cb, vb⟩ = (ca == cb) from rfl, bytes_list]
    rfl
end Go.Lua
