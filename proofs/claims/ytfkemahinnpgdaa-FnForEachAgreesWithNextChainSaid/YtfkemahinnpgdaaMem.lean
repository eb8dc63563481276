/-
  n005_23: the model while it is built: five slices in a struct's cells (printed by mkmem.py).
-/
import Derived.Test.YtfkemahinnpgdaaMod
namespace Go.Lua
open Go.Proofs Go.RowKit Go.Deep
set_option linter.unusedVariables false

structure MAt (w0 : World) (bm : Nat) (A S N T V : List Value) (va vs vn vt vv : Value) (w : World) : Prop where
  head : w.heap[bm]? = some (.cells #[va, vs, vn, vt, vv] 30 (0, 0))
  mv : MV w A S N T V va vs vn vt vv
  av : ∀ b, blk va = some b → blk vv ≠ some b
  upd : Upd (fun _ => False) w0 w
  fm : w0.heap.size ≤ bm
  fa : ∀ b, blk va = some b → w0.heap.size ≤ b
  fs : ∀ b, blk vs = some b → w0.heap.size ≤ b
  fn : ∀ b, blk vn = some b → w0.heap.size ≤ b
  ft : ∀ b, blk vt = some b → w0.heap.size ≤ b
  fv : ∀ b, blk vv = some b → w0.heap.size ≤ b
theorem not_model {e : TypeId} {w : World} {v : Value} {xs : List Value} {bm : Nat} {cs : Array Value} (h : SlE e w v xs) (hm : w.heap[bm]? = some (.cells cs 30 (0, 0))) (hne : e ≠ 30) {b : Nat} (hb : blk v = some b) : b ≠ bm := by
  rintro rfl
  obtain ⟨c, hc⟩ := h.at hb
  rw [hm] at hc
  cases hc
  exact hne rfl
section
variable {w0 w w' w2 : World} {bm : Nat} {A S N T V : List Value} {va vs vn vt vv v' u : Value}
theorem MAt.cells (h : MAt w0 bm A S N T V va vs vn vt vv w) : w.cell? ⟨bm, 0, none⟩ = some va ∧ w.cell? ⟨bm, 1, none⟩ = some vs ∧ w.cell? ⟨bm, 2, none⟩ = some vn ∧ w.cell? ⟨bm, 3, none⟩ = some vt ∧ w.cell? ⟨bm, 4, none⟩ = some vv := by
  simp [World.cell?, h.head]
theorem MAt.thaw (h : MAt w0 bm A S N T V va vs vn vt vv w) (i : Nat) : w.frozen? ⟨bm, i, none⟩ = false := by simp [World.frozen?, h.head]
theorem MAt.lt (h : MAt w0 bm A S N T V va vs vn vt vv w) : bm < w.heap.size := (Array.getElem?_eq_some_iff.1 h.head).1
theorem MAt.other (h : MAt w0 bm A S N T V va vs vn vt vv w) (k : Upd (fun _ => False) w w') : MAt w0 bm A S N T V va vs vn vt vv w' :=
  { h with head := (k.block _ h.lt fun h => h).trans h.head, mv := h.mv.other k, upd := none_trans h.upd k }
theorem MAt.drewN (h : MAt w0 bm A S N T V va vs vn vt vv w) (d : Nat) : MAt w0 bm A S N T V va vs vn vt vv (w.drewN d) := h.other ((Upd.refl _ _).drewN d)
theorem MAt.alloc (h : MAt w0 bm A S N T V va vs vn vt vv w) (o : Obj) : MAt w0 bm A S N T V va vs vn vt vv (w.alloc o) := h.other ((Upd.refl _ _).alloc o)

theorem MAt.app_s (h : MAt w0 bm A S N T V va vs vn vt vv w) (hs : SlE 4 w2 v' (S ++ [u])) (hg : w.grownBy w2 (blk vs)) (hb : blk v' = blk vs ∨ blk v' = some w.heap.size) :
    MAt w0 bm A (S ++ [u]) N T V va v' vn vt vv (w2.setCell ⟨bm, 1, none⟩ v') := by
  have hbm : blk vs ≠ some bm := fun e => not_model h.mv.s h.head (by decide) e rfl
  have hlt := h.lt
  have hne : ∀ b, b < w.heap.size → blk vs ≠ some b → w2.heap[b]? = w.heap[b]? := fun b hb hn => hg.block b hb fun e => hn e.symm
  have hh2 : w2.heap[bm]? = some (.cells #[va, vs, vn, vt, vv] 30 (0, 0)) := (hne bm hlt hbm).trans h.head
  have hv' : blk v' ≠ some bm := by
    rcases hb with e | e
    · rw [e]; exact hbm
    · rw [e]; intro q; cases q; omega
  have hk : ∀ b, b < w.heap.size → blk vs ≠ some b → b ≠ bm → (w2.setCell ⟨bm, 1, none⟩ v').heap[b]? = w.heap[b]? := fun b hb hn hm => (Below.heap_setCell w2 ⟨bm, 1, none⟩ v' b hm).trans (hne b hb hn)
  have hf : ∀ b, blk v' = some b → w0.heap.size ≤ b := by
    intro b hb'
    rcases hb with e | e
    · exact h.fs b (e ▸ hb')
    · rw [e] at hb'; cases hb'; exact h.upd.size
  refine ⟨by rw [head_setCell hh2]; simp, ⟨h.mv.a.kept fun b hb' => hk b (h.mv.a.lt hb') (h.mv.a.apart h.mv.s (by decide) hb') (not_model h.mv.a h.head (by decide) hb'), hs.kept fun b hb' => Below.heap_setCell _ _ _ _ (fun e => hv' (by rw [hb', e])), h.mv.n.kept fun b hb' => hk b (h.mv.n.lt hb') (h.mv.n.apart h.mv.s (by decide) hb') (not_model h.mv.n h.head (by decide) hb'), h.mv.t.kept fun b hb' => hk b (h.mv.t.lt hb') (h.mv.t.apart h.mv.s (by decide) hb') (not_model h.mv.t h.head (by decide) hb'), h.mv.v.kept fun b hb' => hk b (h.mv.v.lt hb') (h.mv.v.apart h.mv.s (by decide) hb') (not_model h.mv.v h.head (by decide) hb')⟩, h.av, (none_grown h.upd hg fun b e => h.fs b e).setCell (.inr h.fm) _, h.fm, h.fa, hf, h.fn, h.ft, h.fv⟩

theorem MAt.app_n (h : MAt w0 bm A S N T V va vs vn vt vv w) (hs : SlE 3 w2 v' (N ++ [u])) (hg : w.grownBy w2 (blk vn)) (hb : blk v' = blk vn ∨ blk v' = some w.heap.size) :
    MAt w0 bm A S (N ++ [u]) T V va vs v' vt vv (w2.setCell ⟨bm, 2, none⟩ v') := by
  have hbm : blk vn ≠ some bm := fun e => not_model h.mv.n h.head (by decide) e rfl
  have hlt := h.lt
  have hne : ∀ b, b < w.heap.size → blk vn ≠ some b → w2.heap[b]? = w.heap[b]? := fun b hb hn => hg.block b hb fun e => hn e.symm
  have hh2 : w2.heap[bm]? = some (.cells #[va, vs, vn, vt, vv] 30 (0, 0)) := (hne bm hlt hbm).trans h.head
  have hv' : blk v' ≠ some bm := by
    rcases hb with e | e
    · rw [e]; exact hbm
    · rw [e]; intro q; cases q; omega
  have hk : ∀ b, b < w.heap.size → blk vn ≠ some b → b ≠ bm → (w2.setCell ⟨bm, 2, none⟩ v').heap[b]? = w.heap[b]? := fun b hb hn hm => (Below.heap_setCell w2 ⟨bm, 2, none⟩ v' b hm).trans (hne b hb hn)
  have hf : ∀ b, blk v' = some b → w0.heap.size ≤ b := by
    intro b hb'
    rcases hb with e | e
    · exact h.fn b (e ▸ hb')
    · rw [e] at hb'; cases hb'; exact h.upd.size
  refine ⟨by rw [head_setCell hh2]; simp, ⟨h.mv.a.kept fun b hb' => hk b (h.mv.a.lt hb') (h.mv.a.apart h.mv.n (by decide) hb') (not_model h.mv.a h.head (by decide) hb'), h.mv.s.kept fun b hb' => hk b (h.mv.s.lt hb') (h.mv.s.apart h.mv.n (by decide) hb') (not_model h.mv.s h.head (by decide) hb'), hs.kept fun b hb' => Below.heap_setCell _ _ _ _ (fun e => hv' (by rw [hb', e])), h.mv.t.kept fun b hb' => hk b (h.mv.t.lt hb') (h.mv.t.apart h.mv.n (by decide) hb') (not_model h.mv.t h.head (by decide) hb'), h.mv.v.kept fun b hb' => hk b (h.mv.v.lt hb') (h.mv.v.apart h.mv.n (by decide) hb') (not_model h.mv.v h.head (by decide) hb')⟩, h.av, (none_grown h.upd hg fun b e => h.fn b e).setCell (.inr h.fm) _, h.fm, h.fa, h.fs, hf, h.ft, h.fv⟩

theorem MAt.app_t (h : MAt w0 bm A S N T V va vs vn vt vv w) (hs : SlE 9 w2 v' (T ++ [u])) (hg : w.grownBy w2 (blk vt)) (hb : blk v' = blk vt ∨ blk v' = some w.heap.size) :
    MAt w0 bm A S N (T ++ [u]) V va vs vn v' vv (w2.setCell ⟨bm, 3, none⟩ v') := by
  have hbm : blk vt ≠ some bm := fun e => not_model h.mv.t h.head (by decide) e rfl
  have hlt := h.lt
  have hne : ∀ b, b < w.heap.size → blk vt ≠ some b → w2.heap[b]? = w.heap[b]? := fun b hb hn => hg.block b hb fun e => hn e.symm
  have hh2 : w2.heap[bm]? = some (.cells #[va, vs, vn, vt, vv] 30 (0, 0)) := (hne bm hlt hbm).trans h.head
  have hv' : blk v' ≠ some bm := by
    rcases hb with e | e
    · rw [e]; exact hbm
    · rw [e]; intro q; cases q; omega
  have hk : ∀ b, b < w.heap.size → blk vt ≠ some b → b ≠ bm → (w2.setCell ⟨bm, 3, none⟩ v').heap[b]? = w.heap[b]? := fun b hb hn hm => (Below.heap_setCell w2 ⟨bm, 3, none⟩ v' b hm).trans (hne b hb hn)
  have hf : ∀ b, blk v' = some b → w0.heap.size ≤ b := by
    intro b hb'
    rcases hb with e | e
    · exact h.ft b (e ▸ hb')
    · rw [e] at hb'; cases hb'; exact h.upd.size
  refine ⟨by rw [head_setCell hh2]; simp, ⟨h.mv.a.kept fun b hb' => hk b (h.mv.a.lt hb') (h.mv.a.apart h.mv.t (by decide) hb') (not_model h.mv.a h.head (by decide) hb'), h.mv.s.kept fun b hb' => hk b (h.mv.s.lt hb') (h.mv.s.apart h.mv.t (by decide) hb') (not_model h.mv.s h.head (by decide) hb'), h.mv.n.kept fun b hb' => hk b (h.mv.n.lt hb') (h.mv.n.apart h.mv.t (by decide) hb') (not_model h.mv.n h.head (by decide) hb'), hs.kept fun b hb' => Below.heap_setCell _ _ _ _ (fun e => hv' (by rw [hb', e])), h.mv.v.kept fun b hb' => hk b (h.mv.v.lt hb') (h.mv.v.apart h.mv.t (by decide) hb') (not_model h.mv.v h.head (by decide) hb')⟩, h.av, (none_grown h.upd hg fun b e => h.ft b e).setCell (.inr h.fm) _, h.fm, h.fa, h.fs, h.fn, hf, h.fv⟩

theorem MAt.app_v (h : MAt w0 bm A S N T V va vs vn vt vv w) (hs : SlE 2 w2 v' (V ++ [u])) (hg : w.grownBy w2 (blk vv)) (hb : blk v' = blk vv ∨ blk v' = some w.heap.size) :
    MAt w0 bm A S N T (V ++ [u]) va vs vn vt v' (w2.setCell ⟨bm, 4, none⟩ v') := by
  have hbm : blk vv ≠ some bm := fun e => not_model h.mv.v h.head (by decide) e rfl
  have hlt := h.lt
  have hne : ∀ b, b < w.heap.size → blk vv ≠ some b → w2.heap[b]? = w.heap[b]? := fun b hb hn => hg.block b hb fun e => hn e.symm
  have hh2 : w2.heap[bm]? = some (.cells #[va, vs, vn, vt, vv] 30 (0, 0)) := (hne bm hlt hbm).trans h.head
  have hv' : blk v' ≠ some bm := by
    rcases hb with e | e
    · rw [e]; exact hbm
    · rw [e]; intro q; cases q; omega
  have hk : ∀ b, b < w.heap.size → blk vv ≠ some b → b ≠ bm → (w2.setCell ⟨bm, 4, none⟩ v').heap[b]? = w.heap[b]? := fun b hb hn hm => (Below.heap_setCell w2 ⟨bm, 4, none⟩ v' b hm).trans (hne b hb hn)
  have hf : ∀ b, blk v' = some b → w0.heap.size ≤ b := by
    intro b hb'
    rcases hb with e | e
    · exact h.fv b (e ▸ hb')
    · rw [e] at hb'; cases hb'; exact h.upd.size
  have hav : ∀ b, blk va = some b → blk v' ≠ some b := by
    intro b hb' e
    rcases hb with q | q
    · exact h.av b hb' (q ▸ e)
    · rw [q] at e; cases e; have := h.mv.a.lt hb'; omega
  refine ⟨by rw [head_setCell hh2]; simp, ⟨h.mv.a.kept fun b hb' => hk b (h.mv.a.lt hb') (h.av b hb') (not_model h.mv.a h.head (by decide) hb'), h.mv.s.kept fun b hb' => hk b (h.mv.s.lt hb') (h.mv.s.apart h.mv.v (by decide) hb') (not_model h.mv.s h.head (by decide) hb'), h.mv.n.kept fun b hb' => hk b (h.mv.n.lt hb') (h.mv.n.apart h.mv.v (by decide) hb') (not_model h.mv.n h.head (by decide) hb'), h.mv.t.kept fun b hb' => hk b (h.mv.t.lt hb') (h.mv.t.apart h.mv.v (by decide) hb') (not_model h.mv.t h.head (by decide) hb'), hs.kept fun b hb' => Below.heap_setCell _ _ _ _ (fun e => hv' (by rw [hb', e]))⟩, hav, (none_grown h.upd hg fun b e => h.fv b e).setCell (.inr h.fm) _, h.fm, h.fa, h.fs, h.fn, h.ft, hf⟩

theorem MAt.set_a (h : MAt w0 bm A S N T V va vs vn vt vv w) {g : Nat} (hb : blk va = some g) (i : Nat) (u : Value) (hi : i < A.length) :
    MAt w0 bm (A.set i u) S N T V va vs vn vt vv (w.setCell ⟨g, i, none⟩ u) := by
  have hbm : bm ≠ g := fun e => not_model h.mv.a h.head (by decide) hb e.symm
  exact ⟨(Below.heap_setCell _ _ _ _ hbm).trans h.head, ⟨h.mv.a.set hb i u hi, h.mv.s.kept fun b hb' => Below.heap_setCell _ _ _ _ (fun e => h.mv.s.apart h.mv.a (by decide) hb' (by rw [hb, e])), h.mv.n.kept fun b hb' => Below.heap_setCell _ _ _ _ (fun e => h.mv.n.apart h.mv.a (by decide) hb' (by rw [hb, e])), h.mv.t.kept fun b hb' => Below.heap_setCell _ _ _ _ (fun e => h.mv.t.apart h.mv.a (by decide) hb' (by rw [hb, e])), h.mv.v.kept fun b hb' => Below.heap_setCell _ _ _ _ (fun e => h.av g hb (by rw [hb', e]))⟩, h.av, h.upd.setCell (.inr (h.fa g hb)) _, h.fm, h.fa, h.fs, h.fn, h.ft, h.fv⟩

theorem MAt.set_v (h : MAt w0 bm A S N T V va vs vn vt vv w) {g : Nat} (hb : blk vv = some g) (i : Nat) (u : Value) (hi : i < V.length) :
    MAt w0 bm A S N T (V.set i u) va vs vn vt vv (w.setCell ⟨g, i, none⟩ u) := by
  have hbm : bm ≠ g := fun e => not_model h.mv.v h.head (by decide) hb e.symm
  exact ⟨(Below.heap_setCell _ _ _ _ hbm).trans h.head, ⟨h.mv.a.kept fun b hb' => Below.heap_setCell _ _ _ _ (fun e => h.av b hb' (by rw [hb, e])), h.mv.s.kept fun b hb' => Below.heap_setCell _ _ _ _ (fun e => h.mv.s.apart h.mv.v (by decide) hb' (by rw [hb, e])), h.mv.n.kept fun b hb' => Below.heap_setCell _ _ _ _ (fun e => h.mv.n.apart h.mv.v (by decide) hb' (by rw [hb, e])), h.mv.t.kept fun b hb' => Below.heap_setCell _ _ _ _ (fun e => h.mv.t.apart h.mv.v (by decide) hb' (by rw [hb, e])), h.mv.v.set hb i u hi⟩, h.av, h.upd.setCell (.inr (h.fv g hb)) _, h.fm, h.fa, h.fs, h.fn, h.ft, h.fv⟩
theorem inf_s : (Try.prog.info? 4).map (fun i => (i.zero, i.size, decide (i.bytes ≤ 64))) = some (some (.bool false), 1, true) := by kernel_rfl
theorem inf_n : (Try.prog.info? 3).map (fun i => (i.zero, i.size, decide (i.bytes ≤ 64))) = some (some (.int .i64 0), 1, true) := by kernel_rfl
theorem inf_t : (Try.prog.info? 9).map (fun i => (i.zero, i.size, decide (i.bytes ≤ 64))) = some (some (.string ⟨#[]⟩), 1, true) := by kernel_rfl
theorem inf_v : (Try.prog.info? 2).map (fun i => (i.zero, i.size, decide (i.bytes ≤ 64))) = some (some (.int .i64 0), 1, true) := by kernel_rfl
end
end Go.Lua
