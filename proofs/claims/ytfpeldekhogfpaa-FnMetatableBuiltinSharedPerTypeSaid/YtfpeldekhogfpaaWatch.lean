/-
  The observers: zzObserveMetatable and zzObserveMetaOp1.
-/
import Derived.Test.YtfpeldekhogfpaaEnv
namespace Go.Lua
open Go.Proofs Go.RowKit
set_option linter.unusedVariables false

/-- The table behind a metatable, in blocks from B on, and its lock. -/
inductive LockIs (T : Tab) (t : Nat) : Value → Prop
  | free (hs : T.sv lockKey = lnil) : LockIs T t (tabV t)
  | str (s : ByteArray) (hs : T.sv lockKey = lstr s) : LockIs T t (lstr s)
  | tab (l : Nat) (hs : T.sv lockKey = tabV l) : LockIs T t (tabV l)
structure MtAt (F : Nat → Prop) (w : World) (t : Nat) (T : Tab) (u : Value) : Prop where
  tab : TabAt w t T F
  lock : LockIs T t u
theorem MtAt.kept {F : Nat → Prop} {w w' : World} {t : Nat} {T : Tab} {u : Value} {G : Nat → Prop} (h : MtAt F w t T u) (hu : Upd G w w') (hg : ∀ k, G k → ¬ F k) : MtAt F w' t T u := by
  obtain ⟨⟨va, vd, vs, vk, vi, hT⟩, hl⟩ := h
  exact ⟨(hT.kept fun k hk hf => hu.block k hk fun hx => hg k hx hf).at, hl⟩
theorem MtAt.meta {F : Nat → Prop} {w : World} {t : Nat} {T : Tab} {u : Value} (h : MtAt F w t T u) : Meta w (tabV t) u := by
  obtain ⟨ht, hl⟩ := h
  cases hl with
  | free hs => exact .free t T _ ht hs
  | str s hs => exact .lockS t T _ ht s hs
  | tab l hs => exact .lockT t T _ ht l hs
theorem MtAt.ev {F : Nat → Prop} {w : World} {t : Nat} {T : Tab} {u : Value} (h : MtAt F w t T u) (ev : ByteArray) {r : Value} (hs : T.sv ev = r) : Ev w (tabV t) u ev r := .tab t u T _ h.tab h.meta ev r hs

/-- An observation: q, the state stands, only the map of metatables has turned. -/
def Saw (w : World) (ls g mp : Nat) (q : Array Value) (e : Ending) (w' : World) : Prop := e = .returned (.agg q) ∧ (∃ f, St w' ls g mp f) ∧ Upd (fun k => k = mp) w w'
theorem none_mp {w w' : World} {mp : Nat} (h : None w w') : Upd (fun k => k = mp) w w' := h.mono fun k _ hk => hk.elim
theorem fresh_cell {w w1 : World} {a b : Int} {e : Ending} (hf : Fresh w a b e w1) : e = .returned (.pointer (some ⟨w.heap.size, 0, none⟩)) ∧ None w w1 ∧ ∃ cs, w1.heap[w.heap.size]? = some (.cells cs 87 (0, 0)) ∧ cs[0]? = some lnil := by
  obtain ⟨he, va, vs, hT, hU, -, -⟩ := hf
  exact ⟨he, hU, _, hT.head, rfl⟩
theorem set_cell {w : World} {t : Nat} {cs : Array Value} {u v : Value} (h : w.heap[t]? = some (.cells cs 87 (0, 0))) (hc : cs[0]? = some u) : (w.setCell ⟨t, 0, none⟩ v).cell? ⟨t, 0, none⟩ = some v := by
  have := head_setCell h 0 v
  have hlt : 0 < cs.size := (Array.getElem?_eq_some_iff.1 hc).1
  simp [World.cell?, this, hlt]
theorem none_drewN {w w' : World} (h : None w w') (n : Nat) : None w (w'.drewN n) := h.drewN n
theorem St.drewN {w : World} {ls g mp : Nat} {f : Value → Option Value} (h : St w ls g mp f) (n : Nat) : St (w.drewN n) ls g mp f := h.kept ((Upd.refl _ w).drewN n)
end Go.Lua
