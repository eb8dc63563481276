/-
  n005_23: ForEach's callback: two slices of LValues that grow, each behind a pointer.
-/
import Derived.Test.YtfkemahinnpgdaaMem
import Derived.Maps.RangeRun
namespace Go.Lua
open Go.Proofs Go.RowKit Go.Deep
set_option linter.unusedVariables false

structure Acc2 (N : Nat) (w : World) (ba : Nat) (va : Value) (xs : List Value) (bb : Nat) (vb : Value) (ys : List Value) : Prop where
  ha : w.heap[ba]? = some (.cells #[va] 35 (0, 0))
  hb : w.heap[bb]? = some (.cells #[vb] 35 (0, 0))
  ne : ba ≠ bb
  sa : SlE 40 w va xs
  sb : SlE 40 w vb ys
  na : ∀ b, blk va = some b → N ≤ b
  nb : ∀ b, blk vb = some b → N ≤ b
  ap : ∀ b, blk va = some b → blk vb ≠ some b
  hN : N ≤ w.heap.size
def Tch (N : Nat) (w : World) (ba bb : Nat) (b : Nat) : Prop := b = ba ∨ b = bb ∨ (N ≤ b ∧ ∃ c, w.heap[b]? = some (.cells c 40 (0, 0)))
section
variable {N ba bb : Nat} {w w1 w2 w3 : World} {va vb : Value} {xs ys : List Value}
theorem Tch.trans (h : Upd (Tch N w1 ba bb) w1 w2) (k : Upd (Tch N w2 ba bb) w2 w3) : Upd (Tch N w1 ba bb) w1 w3 :=
  ⟨k.os.trans h.os, k.tape.trans h.tape, k.output.trans h.output, Nat.le_trans h.size k.size, fun i hi hn => by
    have e := h.block i hi hn
    exact (k.block i (Nat.lt_of_lt_of_le hi h.size) (fun q => hn (by unfold Tch at *; rw [e] at q; exact q))).trans e⟩
theorem Tch.swap (h : Upd (Tch N w bb ba) w w1) : Upd (Tch N w ba bb) w w1 := h.mono fun k _ q => by
  rcases q with q | q | q
  · exact .inr (.inl q)
  · exact .inl q
  · exact .inr (.inr q)
theorem Acc2.swap (h : Acc2 N w ba va xs bb vb ys) : Acc2 N w bb vb ys ba va xs := ⟨h.hb, h.ha, h.ne.symm, h.sb, h.sa, h.nb, h.na, fun b h1 h2 => h.ap b h2 h1, h.hN⟩
theorem Acc2.off (h : Acc2 N w ba va xs bb vb ys) : blk va ≠ some ba ∧ blk va ≠ some bb := by
  constructor
  · intro e
    obtain ⟨cur, hc⟩ := h.sa.at e
    rw [h.ha] at hc
    injection hc with hc
    injection hc with h1 h2 h3
    exact absurd h2 (by decide)
  · intro e
    obtain ⟨cur, hc⟩ := h.sa.at e
    rw [h.hb] at hc
    injection hc with hc
    injection hc with h1 h2 h3
    exact absurd h2 (by decide)
theorem Acc2.kept (h : Acc2 N w ba va xs bb vb ys) (u : Upd (fun k => ∃ bm s c0 cl, w.heap[k]? = some (.mapIter bm s c0 cl)) w w1) : Acc2 N w1 ba va xs bb vb ys := by
  have hk : ∀ (b : Nat) (c : Array Value) (e : TypeId) (f : Nat × Nat), w.heap[b]? = some (Obj.cells c e f) → w1.heap[b]? = w.heap[b]? := fun b c e f hb => u.block b (Array.getElem?_eq_some_iff.1 hb).1 (by
    rintro ⟨bm, s, c0, cl, q⟩
    rw [hb] at q
    cases q)
  exact ⟨(hk _ _ _ _ h.ha).trans h.ha, (hk _ _ _ _ h.hb).trans h.hb, h.ne, h.sa.kept (fun b hb => by obtain ⟨c, hc⟩ := h.sa.at hb; exact hk _ _ _ _ hc), h.sb.kept (fun b hb => by obtain ⟨c, hc⟩ := h.sb.at hb; exact hk _ _ _ _ hc), h.na, h.nb, h.ap, Nat.le_trans h.hN u.size⟩
theorem Acc2.other (h : Acc2 N w ba va xs bb vb ys) (u : Upd (fun _ => False) w w1) : Acc2 N w1 ba va xs bb vb ys := h.kept (u.mono fun k _ q => q.elim)
theorem Acc2.cells (h : Acc2 N w ba va xs bb vb ys) : w.cell? ⟨ba, 0, none⟩ = some va ∧ w.frozen? ⟨ba, 0, none⟩ = false := by
  simp [World.cell?, World.frozen?, h.ha]
theorem SlE.alloc {e : TypeId} (h : SlE e w va xs) (o : Obj) : SlE e (w.alloc o) va xs := h.kept fun b hb => Below.heap_alloc w o b (h.lt hb)
theorem Acc2.grown (h : Acc2 N w ba va xs bb vb ys) (o : Obj) (g : (w.alloc o).grownBy w1 (blk va)) : w1.cell? ⟨ba, 0, none⟩ = some va ∧ w1.frozen? ⟨ba, 0, none⟩ = false := by
  have hla : ba < w.heap.size := (Array.getElem?_eq_some_iff.1 h.ha).1
  have e : w1.heap[ba]? = some (.cells #[va] 35 (0, 0)) := ((g.block ba (by simp; omega) (fun e => h.off.1 e.symm)).trans (Below.heap_alloc w o ba hla)).trans h.ha
  simp [World.cell?, World.frozen?, e]
theorem Acc2.push (h : Acc2 N w ba va xs bb vb ys) (o : Obj) {v' u : Value} (g : (w.alloc o).grownBy w1 (blk va)) (hs : SlE 40 w1 v' (xs ++ [u])) (hv : blk v' = blk va ∨ blk v' = some (w.alloc o).heap.size) :
    Acc2 N (w1.setCell ⟨ba, 0, none⟩ v') ba v' (xs ++ [u]) bb vb ys ∧ Upd (Tch N w ba bb) w (w1.setCell ⟨ba, 0, none⟩ v') := by
  have hla : ba < w.heap.size := (Array.getElem?_eq_some_iff.1 h.ha).1
  have hlb : bb < w.heap.size := (Array.getElem?_eq_some_iff.1 h.hb).1
  have hsz : (w.alloc o).heap.size = w.heap.size + 1 := by simp
  obtain ⟨hnA, hnB⟩ := h.off
  have hold : ∀ b, b < w.heap.size → blk va ≠ some b → w1.heap[b]? = w.heap[b]? := fun b hb hne => (g.block b (by omega) (fun e => hne e.symm)).trans (Below.heap_alloc w o b hb)
  have hset : ∀ b, b ≠ ba → (w1.setCell ⟨ba, 0, none⟩ v').heap[b]? = w1.heap[b]? := fun b hb => Below.heap_setCell w1 ⟨ba, 0, none⟩ v' b hb
  have ha1 := (hold ba hla hnA).trans h.ha
  have hv' : ∀ b, blk v' = some b → blk va = some b ∨ w.heap.size < b := by
    intro b hb
    rcases hv with q | q
    · exact .inl (q ▸ hb)
    · rw [q] at hb
      injection hb with hb
      exact .inr (by omega)
  have hnv : blk v' ≠ some ba := fun e => (hv' ba e).elim hnA (fun q => by omega)
  have hg := g.size
  have hh := h.hN
  refine ⟨⟨by rw [head_setCell ha1]; simp, (hset bb h.ne.symm).trans ((hold bb hlb hnB).trans h.hb), h.ne, hs.kept (fun b hb => hset b (fun e => hnv (e ▸ hb))),
    h.sb.kept (fun b hb => ?_), fun b hb => (hv' b hb).elim (h.na b) (fun q => by omega), h.nb, fun b hb hb2 => (hv' b hb).elim (fun q => h.ap b q hb2) (fun q => by have := h.sb.lt hb2; omega), by simp; omega⟩, ?_⟩
  · have hne : b ≠ ba := fun e => h.swap.off.2 (e ▸ hb)
    exact (hset b hne).trans (hold b (h.sb.lt hb) (fun q => h.ap b q hb))
  · refine ⟨g.os, g.tape, g.output, by simp; omega, fun k hk hn => ?_⟩
    have hne : k ≠ ba := fun e => hn (.inl e)
    refine (hset k hne).trans (hold k hk fun q => hn (.inr (.inr ⟨h.na k q, h.sa.at q⟩)))
end
theorem inf_lv : (Try.prog.info? 40).map (fun i => (i.zero, i.size, decide (i.bytes ≤ 64))) = some (some .nilIface, 1, true) := by kernel_rfl

set_option maxHeartbeats 2000000 in
theorem push_any (w : World) (N ba bb : Nat) (va : Value) (xs : List Value) (vb : Value) (ys : List Value) (h : Acc2 N w ba va xs bb vb ys) (hx : xs.length < 999999999) (hy : ys.length < 999999999) (tk : TypeId) (xk : Value) (tv : TypeId) (xv : Value) :
    Calls Try.prog 40 #[.iface tk xk, .iface tv xv, .pointer (some ⟨ba, 0, none⟩), .pointer (some ⟨bb, 0, none⟩)] w fun e w' => e = .returned (.tuple #[]) ∧ (∃ va' vb', Acc2 N w' ba va' (xs ++ [.iface tk xk]) bb vb' (ys ++ [.iface tv xv])) ∧ Upd (Tch N w ba bb) w w' := by
  obtain ⟨pa, ca, rfl, -⟩ := h.sa.form
  obtain ⟨pb, cb, rfl, -⟩ := h.sb.form
  obtain ⟨c0, f0⟩ := h.cells
  obtain ⟨c1, f1⟩ := h.swap.cells
  have H := Lib.hid h
  clear h
  go_enter Try.func40, Try.ntmps40
  go_upto_region 1 with (at_builtin; go_must (refine wpList_append_one rfl _ _ 35 .nilIface rfl Try.underlying35 inf_lv rfl rfl (H.out.sa.alloc (.cells #[.iface tk xk] 40)) _ _ (.iface tk xk) rfl (cell_new_of (by simp)) rfl (by omega) ?_); intro p5 cap5 w5 hs5 hg5 hb5; obtain ⟨k0, z0⟩ := H.out.grown _ hg5; have HA := Lib.hid (And.intro hs5 (And.intro hg5 hb5)); clear hs5 hg5 hb5)
  have hP := H.out.push _ HA.out.2.1 HA.out.1 HA.out.2.2
  clear k0 z0 HA c0 f0 c1 f1
  generalize hWW : w5.setCell _ _ = W3 at hP ⊢
  clear hWW w5
  have HU := Lib.hid hP.2
  have HS := Lib.hid hP.1.swap
  clear hP H
  obtain ⟨c1, f1⟩ := HS.out.cells
  go_wp2_with (at_builtin; go_must (refine wpList_append_one rfl _ _ 35 .nilIface rfl Try.underlying35 inf_lv rfl rfl (HS.out.sa.alloc (.cells #[.iface tv xv] 40)) _ _ (.iface tv xv) rfl (cell_new_of (by simp)) rfl (by omega) ?_); intro p6 cap6 w6 hs6 hg6 hb6; obtain ⟨k0, z0⟩ := HS.out.grown _ hg6; have HA := Lib.hid (And.intro hs6 (And.intro hg6 hb6)); clear hs6 hg6 hb6)
  have hP := HS.out.push _ HA.out.2.1 HA.out.1 HA.out.2.2

  go_end0
  exact ⟨rfl, ⟨_, _, hP.1.swap⟩, Tch.trans HU.out (Tch.swap hP.2)⟩

/-- zzEqLV: two values that are not nil. -/
theorem eqLV_lk (w : World) {a b : Value} (ha : IsLK a) (hb : IsLK b) : Calls Try.prog 31 #[a, b] w fun e w' => e = .returned (.bool (lkEq a b)) ∧ w = w' := by
  rcases ha with ⟨x, rfl, -⟩ | ⟨s, rfl⟩ <;> rcases hb with ⟨y, rfl, -⟩ | ⟨u, rfl⟩
  · have he := lv_num x y w
    rw [lkEq_num]
    go_enter Try.func31, Try.ntmps31
    go_wp2
    go_ret
    exact ⟨rfl, rfl⟩
  · go_enter Try.func31, Try.ntmps31
    go_wp2
    go_ret
    exact ⟨rfl, rfl⟩
  · go_enter Try.func31, Try.ntmps31
    go_wp2
    go_ret
    exact ⟨rfl, rfl⟩
  · rw [lkEq_str]
    go_enter Try.func31, Try.ntmps31
    go_wp2
    go_ret
    exact ⟨rfl, rfl⟩
end Go.Lua
