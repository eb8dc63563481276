/-
  What a table reads behind a store: plain facts, with no program in sight.
-/
import Derived.Test.YtfpeldekhogfpaaNew
import Derived.Test.YtfpeldekhogfpaaRead
namespace Go.Lua
open Go.Proofs Go.RowKit
set_option linter.unusedVariables false
/-- What a string key reads; what a number key reads in the hash; what slot k reads. -/
def Tab.sv (T : Tab) (s : ByteArray) : Value := (mget T.sdict (.string s)).getD lnil
theorem ready_frame (T : Tab) : T.ready.mt = T.mt ∧ T.ready.arr = T.arr ∧ T.ready.dict = T.dict ∧ T.ready.sdict = T.sdict := by
  unfold Tab.ready
  split <;> exact ⟨rfl, rfl, rfl, rfl⟩
theorem noteKey_frame (T : Tab) (k : Value) : (T.noteKey k).mt = T.mt ∧ (T.noteKey k).arr = T.arr ∧ (T.noteKey k).dict = T.dict ∧ (T.noteKey k).sdict = T.sdict := by
  unfold Tab.noteKey
  split <;> exact ⟨rfl, rfl, rfl, rfl⟩
theorem setStr_frame (T : Tab) (s : ByteArray) (v : Value) : (T.setStr s v).mt = T.mt ∧ (T.setStr s v).arr = T.arr ∧ (T.setStr s v).dict = T.dict := by
  obtain ⟨a, b, c, d⟩ := ready_frame { T with sdict := some (mget T.sdict) }
  unfold Tab.setStr
  simp only
  split
  · exact ⟨a, b, c⟩
  · obtain ⟨e, f, g, h⟩ := noteKey_frame { ({ T with sdict := some (mget T.sdict) } : Tab).ready with sdict := some fun q => if skEq q (.string s) then some v else mget T.sdict q } (lstr s)
    exact ⟨e.trans a, f.trans b, g.trans c⟩
theorem setStr_sdict (T : Tab) (s : ByteArray) (v : Value) : (T.setStr s v).sdict = some fun q => if skEq q (.string s) then (if isNil v then none else some v) else mget T.sdict q := by
  unfold Tab.setStr
  simp only
  split
  · simp [*]
  · rw [(noteKey_frame _ _).2.2.2]
theorem LvOk.back {v : Value} (h : LvOk v) : (if isNil v then none else some v : Option Value).getD lnil = v := by
  split
  · rename_i hn; exact ((h.nil_iff).1 hn).symm
  · rfl

theorem sv_setStr (T : Tab) (s : ByteArray) {v : Value} (hv : LvOk v) (u : ByteArray) : (T.setStr s v).sv u = if u == s then v else T.sv u := by
  unfold Tab.sv
  rw [setStr_sdict]
  show (if (u == s) = true then _ else _ : Option Value).getD lnil = _
  split
  · exact hv.back
  · rfl
theorem ready_keys (T : Tab) (n : Nat) (h1 : T.keys ≠ none → T.k2i ≠ none) (h2 : (T.keys.getD []).length ≤ n) : T.ready.keys ≠ none ∧ T.ready.k2i ≠ none ∧ (T.ready.keys.getD []).length ≤ n := by
  obtain ⟨mt, arr, dict, sdict, keys, k2i⟩ := T
  cases keys with
  | none => exact ⟨by simp [Tab.ready], by simp [Tab.ready], Nat.zero_le _⟩
  | some ks => exact ⟨by simp [Tab.ready], h1 (by simp), h2⟩
theorem noteKey_keys (T : Tab) (k : Value) (n : Nat) (h1 : T.k2i ≠ none) (h2 : (T.keys.getD []).length ≤ n) : (T.noteKey k).k2i ≠ none ∧ ((T.noteKey k).keys.getD []).length ≤ n + 1 := by
  unfold Tab.noteKey
  split
  · exact ⟨h1, by omega⟩
  · exact ⟨by simp, by simpa using h2⟩

theorem sv_new (a b : Int) (s : ByteArray) : (newTab a b).sv s = lnil := by unfold Tab.sv newTab; simp only; split <;> rfl
end Go.Lua
