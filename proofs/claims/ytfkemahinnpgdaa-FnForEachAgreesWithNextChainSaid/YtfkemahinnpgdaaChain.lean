/-
  n005_23: the table behind a script stands to the model; what Next answers, told by the model.
-/
import Derived.Test.YtfkemahinnpgdaaNextA
import Derived.Test.YtfkemahinnpgdaaApply
namespace Go.Lua
open Go.Proofs Go.RowKit Go.Deep
set_option linter.unusedVariables false

theorem feq_self_fof {n : Int} (h : Is64 n) : feq (fofInt n) (fofInt n) = true := feq_fof_self (by unfold Is64 at h; omega)
theorem ent_isk {o : ZOp} (h : ZOp.ok o) : IsLK o.ent.key := by
  unfold ZOp.ent
  split
  · exact .inl ⟨_, rfl, feq_self_fof (is64_of_wf h.2.1)⟩
  · exact .inr ⟨_, rfl⟩
theorem Rel.stepZ {m : Mod} {T : Tab} (h : Rel m T) {o : ZOp} (ho : ZOp.ok o) (hM : o.inArr → o.n ≤ m.arr.length) : Rel (m.step o) (T.stepZ o) := by
  unfold Mod.step Tab.stepZ
  by_cases hk : o.kind % 4 = 3
  · rw [if_pos hk]
    unfold Tab.setKey
    by_cases hi : InArr o.n
    · have hia : o.inArr := ⟨hk, hi⟩
      rw [if_pos hia, if_pos hi]
      exact ⟨h.h.frame _ _, h.a.set o.n hi.1 (hM ⟨hk, hi⟩) o.v⟩
    · have hia : ¬ o.inArr := fun q => hi q.2
      rw [if_neg hia, if_neg hi]
      have hent : o.ent = ⟨false, o.n, ⟨#[]⟩, o.v⟩ := if_pos hk
      rw [hent]
      have hp := putNum T (fofInt o.n) (val o.v)
      exact ⟨h.h.put ⟨false, o.n, ⟨#[]⟩, o.v⟩ (.inl ⟨_, rfl, feq_self_fof (is64_of_wf ho.2.1)⟩) hp, h.a.frame hp.arr⟩
  · have hia : ¬ o.inArr := fun q => hk q.1
    rw [if_neg hk, if_neg hia]
    have hent : o.ent = ⟨true, 0, o.s, o.v⟩ := if_neg hk
    rw [hent]
    have hp := putStr T o.s (val o.v)
    exact ⟨h.h.put ⟨true, 0, o.s, o.v⟩ (.inr ⟨_, rfl⟩) hp, h.a.frame hp.arr⟩
/-- Of the model's hash keys: a number key is no array key; the numbers fit. -/
def HOk (hs : List HEnt) : Prop := ∀ e ∈ hs, (e.str = false → Is64 e.n ∧ ¬ InArr e.n) ∧ Is64 e.v
def AOk (A : List Int) : Prop := ∀ a ∈ A, Is64 a
theorem is64_zero : Is64 0 := by unfold Is64; omega
theorem putK_ok {hs : List HEnt} (h : HOk hs) {p : HEnt} (hp : (p.str = false → Is64 p.n ∧ ¬ InArr p.n) ∧ Is64 p.v) : HOk (putK hs p) := by
  unfold putK
  split
  · intro e he
    obtain ⟨j, hj, rfl⟩ := List.mem_iff_getElem.1 he
    rw [List.getElem_modify]
    split
    · exact ⟨(h _ (List.getElem_mem _)).1, hp.2⟩
    · exact h _ (List.getElem_mem _)
  · split
    · exact h
    · intro e he
      rcases List.mem_append.1 he with he | he
      · exact h e he
      · rw [List.mem_singleton.1 he]; exact hp
theorem step_ok {m : Mod} (h1 : HOk m.hs) (h2 : AOk m.arr) {o : ZOp} (ho : ZOp.ok o) : HOk (m.step o).hs ∧ AOk (m.step o).arr := by
  have hv := is64_of_wf ho.2.2.2
  unfold Mod.step
  split
  · refine ⟨h1, fun a ha => ?_⟩
    rcases List.mem_or_eq_of_mem_set ha with q | rfl
    · exact h2 a q
    · exact hv
  · rename_i hi
    refine ⟨putK_ok h1 ?_, h2⟩
    unfold ZOp.ent
    split
    · rename_i hk
      exact ⟨fun _ => ⟨is64_of_wf ho.2.1, fun q => hi ⟨hk, q⟩⟩, hv⟩
    · exact ⟨fun q => (by cases q), hv⟩
theorem modAt_ok {m : Mod} (h1 : HOk m.hs) (h2 : AOk m.arr) {ops : List ZOp} (h : ∀ o ∈ ops, ZOp.ok o) : ∀ j, HOk (modAt m ops j).hs ∧ AOk (modAt m ops j).arr
  | 0 => ⟨h1, h2⟩
  | j + 1 => by
    obtain ⟨i1, i2⟩ := modAt_ok h1 h2 h j
    unfold modAt
    split
    · rename_i o ho
      exact step_ok i1 i2 (h o (List.mem_of_getElem? ho))
    · exact ⟨i1, i2⟩
theorem rel_ops {m : Mod} {T : Tab} (h0 : Rel m T) {ops : List ZOp} (h : ∀ o ∈ ops, ZOp.ok o) (hM : ∀ o ∈ ops, o.inArr → o.n ≤ m.arr.length) (hlen : ∀ j, (modAt m ops j).arr.length = m.arr.length) : ∀ j, Rel (modAt m ops j) (opsT T ops j)
  | 0 => h0
  | j + 1 => by
    have ih := rel_ops h0 h hM hlen j
    unfold modAt opsT
    cases ho : ops[j]? with
    | some o => exact ih.stepZ (h o (List.mem_of_getElem? ho)) fun q => by rw [hlen j]; exact hM o (List.mem_of_getElem? ho) q
    | none => exact ih

/-- The table, with what its walks need. -/
structure Full (m : Mod) (T : Tab) : Prop where
  rel : Rel m T
  hok : HOk m.hs
  aok : AOk m.arr
  ok : ∃ n, n ≤ 10000 ∧ Ok T n
theorem live_lv (v : Int) : LvOk ((live v).getD lnil) := by rw [live_getD]; exact lvOk_val v
theorem hsv_at {hs : List HEnt} {T : Tab} (h : RelH hs T) {j : Nat} {e : HEnt} (he : hs[j]? = some e) : T.hv e.key = live e.v := by
  have hk : (keysOf hs)[j]? = some e.key := by unfold keysOf; rw [List.getElem?_map, he]; rfl
  have hq := h.isk e.key (List.mem_of_getElem? hk)
  rw [h.hash _ hq]
  unfold hsv
  rw [findL_at hk (lk_self hq) h.apart, Option.bind_some, he]
  rfl
theorem Full.nx {m : Mod} {T : Tab} (h : Full m T) : Nx T := by
  obtain ⟨n, hn, ho⟩ := h.ok
  refine ⟨ho.lv, ho.alen, fun q hq => ?_, fun k hk => ?_, fun j k hk => ?_, by have := ho.keys; omega, fun hk q hq => ?_, h.rel.h.dstr⟩
  · unfold Tab.hvD
    rw [h.rel.h.hash q hq]
    unfold hsv
    cases findL (keysOf m.hs) q with
    | none => exact .inl rfl
    | some j =>
      cases hj : m.hs[j]? with
      | none => simp [hj]; exact .inl rfl
      | some e => simp only [Option.bind_some, hj]; exact live_lv e.v
  · rw [h.rel.h.keys] at hk; exact h.rel.h.isk k hk
  · rw [h.rel.h.keys] at hk
    have hq := h.rel.h.isk k (List.mem_of_getElem? hk)
    rw [h.rel.h.index k hq, findL_at hk (lk_self hq) h.rel.h.apart]
    rfl
  · rw [h.rel.h.hash q hq]
    unfold hsv
    rw [← h.rel.h.keys, hk]
    rfl

/-- Next at k answers r, wherever the table lies. -/
def Ans (T : Tab) (k : Value) (r : Value × Value) : Prop := (∃ t x, k = .iface t x) ∧ ∀ (w : World) (t : Nat) (F : Nat → Prop), TabAt w t T F → Calls Try.prog 22 #[.pointer (some ⟨t, 0, none⟩), k] w (Nexts w r)
theorem ans_start {T : Tab} (h : Nx T) : Ans T lnil (T.nextA 0) := by
  refine ⟨⟨_, _, rfl⟩, fun w t F hT => ?_⟩
  cases ha : T.arr with
  | none => exact next_none_nil w t T F hT h 0 rfl (by decide) (Nat.zero_le _) ha _ rfl
  | some xs => exact next_some_nil w t T F hT h 0 rfl (by decide) (Nat.zero_le _) xs ha _ rfl
theorem ans_arr {T : Tab} (h : Nx T) {i : Nat} (h1 : 1 ≤ i) (h2 : i ≤ (T.arr.getD []).length) : Ans T (lnum (fofInt i)) (T.nextA i) := by
  refine ⟨⟨_, _, rfl⟩, fun w t F hT => ?_⟩
  have := h.alen
  cases ha : T.arr with
  | none => exact next_none_num w t T F hT h i h1 (by omega) h2 ha _ rfl
  | some xs => exact next_some_num w t T F hT h i h1 (by omega) h2 xs ha _ rfl
theorem Full.ans_key {m : Mod} {T : Tab} (h : Full m T) {j : Nat} {e : HEnt} (he : m.hs[j]? = some e) : Ans T e.key (T.nextH (j + 1)) := by
  have hk : (T.keys.getD [])[j]? = some e.key := by rw [h.rel.h.keys]; unfold keysOf; rw [List.getElem?_map, he]; rfl
  have hn := h.nx
  have hok := (h.hok e (List.mem_of_getElem? he)).1
  cases hs : e.str with
  | true =>
    have hkey : e.key = lstr e.s := if_pos hs
    rw [hkey] at hk ⊢
    exact ⟨⟨_, _, rfl⟩, fun w t F hT => next_str w t T F hT hn e.s j hk _ rfl⟩
  | false =>
    have hkey : e.key = lnum (fofInt e.n) := if_neg (by rw [hs]; simp)
    obtain ⟨h64, hna⟩ := hok hs
    rw [hkey] at hk ⊢
    refine ⟨⟨_, _, rfl⟩, fun w t F hT => ?_⟩
    unfold Is64 at h64
    unfold InArr at hna
    rcases Int.lt_trichotomy e.n 0 with q | q | q
    · exact next_neg w t T F hT hn e.n (by omega) q j hk _ rfl
    · rw [q] at hk ⊢
      have h00 : fofInt 0 = 0 := by decide
      rw [h00] at hk ⊢
      exact next_zero w t T F hT hn 0 j hk _ rfl
    · exact next_big w t T F hT hn e.n (by omega) (by omega) j hk _ rfl

/-! ### the chain, by the model -/
theorem getAt_succ (xs : List Value) (i : Nat) : getAt xs ((i : Int) + 1) = (xs[i]?).getD lnil := by
  unfold getAt
  rw [if_pos (by omega)]
  have : ((i : Int) + 1).toNat - 1 = i := by omega
  rw [this]
theorem val_lnil {v : Int} (h : val v = lnil) : v = 0 := by
  by_cases h0 : v = 0
  · exact h0
  · rw [val_num h0] at h; cases h
section
variable {m : Mod} {T : Tab} (h : Full m T)
include h
theorem Full.nextA_zero {i : Nat} (hi : i < m.arr.length) (h0 : m.arr.getD i 0 = 0) : T.nextA i = T.nextA (i + 1) := by
  have ha := h.rel.a.at' i hi
  rw [getAt_succ, h0, val_zero] at ha
  cases hx : (T.arr.getD [])[i]? with
  | none =>
    rw [nextA_end (List.getElem?_eq_none_iff.1 hx), nextA_end (Nat.le_succ_of_le (List.getElem?_eq_none_iff.1 hx))]
  | some u =>
    rw [hx] at ha
    exact nextA_nil (hx.trans (congrArg some ha))
theorem Full.nextA_some {i : Nat} (hi : i < m.arr.length) {a : Int} (ha0 : m.arr.getD i 0 = a) (h0 : a ≠ 0) : T.nextA i = (lnum (fofInt ((i : Int) + 1)), lnum (fofInt a)) ∧ i < (T.arr.getD []).length := by
  have ha := h.rel.a.at' i hi
  rw [getAt_succ, ha0, val_num h0] at ha
  cases hx : (T.arr.getD [])[i]? with
  | none => rw [hx] at ha; cases ha
  | some u =>
    rw [hx] at ha
    have ha : u = lnum (fofInt a) := ha
    subst ha
    exact ⟨nextA_live hx (by simp [isNil]), (List.getElem?_eq_some_iff.1 hx).1⟩
theorem Full.nextA_full : T.nextA m.arr.length = T.nextH 0 := nextA_end h.rel.a.len
theorem Full.nextH_zero {j : Nat} {e : HEnt} (he : m.hs[j]? = some e) (h0 : e.v = 0) : T.nextH j = T.nextH (j + 1) := by
  have hk : (T.keys.getD [])[j]? = some e.key := by rw [h.rel.h.keys]; unfold keysOf; rw [List.getElem?_map, he]; rfl
  refine nextH_nil hk ?_
  unfold Tab.hvD
  rw [hsv_at h.rel.h he, live_getD, h0, val_zero]
theorem Full.nextH_some {j : Nat} {e : HEnt} (he : m.hs[j]? = some e) (h0 : e.v ≠ 0) : T.nextH j = (e.key, lnum (fofInt e.v)) := by
  have hk : (T.keys.getD [])[j]? = some e.key := by rw [h.rel.h.keys]; unfold keysOf; rw [List.getElem?_map, he]; rfl
  refine nextH_live hk ?_ (v := lnum (fofInt e.v)) (by simp [isNil])
  unfold Tab.hvD
  rw [hsv_at h.rel.h he, live_getD, val_num h0]
theorem Full.nextH_full : T.nextH m.hs.length = (lnil, lnil) := nextH_end (by rw [h.rel.h.keys, keysOf_length]; exact Nat.le_refl _)
end
theorem Ans.cast {T : Tab} {k : Value} {r r' : Value × Value} (h : Ans T k r) (e : r = r') : Ans T k r' := e ▸ h
end Go.Lua
