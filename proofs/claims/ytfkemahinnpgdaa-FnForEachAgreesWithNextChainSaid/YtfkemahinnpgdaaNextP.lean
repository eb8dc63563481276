/-
  n005_23: what Next answers, told by the table's plain readings; the facts that its walk takes.
-/
import Derived.Test.YtfkemahinnpgdaaRel
import Derived.Test.YtfkemahinnpgdaaRawGet
import Derived.Test.YtfkemahinnpgdaaBase
namespace Go.Lua
open Go.Proofs Go.RowKit Go.Deep
set_option linter.unusedVariables false

section
variable {P : Program} {kt : TypeId} {IsK : Value → Prop} {eq : Value → Value → Bool} {w : World} {ops : Array Oper} {rest : List Oper} {o : Oper} {a : Act} {Q : Exit → Act → World → Prop}
/-- A look-up of the value alone. -/
theorem wpList_lookup1_mp (K : KeyLaw P kt IsK eq) (hgd : o.guard = none) (m x : Operand) (t e : TypeId) (ho : o.op = .lookup t m x false) (ht : P.underlying t = some (.map kt e)) (z : Value) (hz : ∀ w, (zeroValue e).run P w = .ok z w) (r : Nat) (f : Value → Option Value) (hm : a.eval m = .map (some r)) (h : MapAt IsK eq w r f)
    (k : Value) (hx : a.eval x = k) (hk : IsK k) (y : Option Value) (hy : f k = y) (hK : wpList P ops Q rest (a.put o.dst (y.getD z)) w) : wpList P ops Q (o :: rest) a w := by
  refine wpList_plain hgd fun K' hK' => ?_
  have hr := h.lookup K ht hz hk false
  rw [hy] at hr
  simp only [Bool.false_eq_true, if_false] at hr
  unfold Oper.wp
  simp [execOp, ho, hm, hx, hr, Result.andThen]
  exact hK' _ _ hK
end
/-- A map's length: none exactly where it holds nothing. -/
theorem MpAt.len2 {IsK : Value → Prop} {eq : Value → Value → Bool} {w : World} {v : Value} {o : Option (Value → Option Value)} (h : MpAt IsK eq w v o) (hs : ∀ q, IsK q → eq q q = true) :
    ∃ n : Nat, (∀ (P : Program) (t ty k e : TypeId), P.underlying t = some (.map k e) → (Builtin.len_ #[t] ty #[v]).run P w = .ok (.int .i64 n) w) ∧ (n = 0 ↔ ∀ q, IsK q → mget o q = none) := by
  cases o with
  | none =>
    rw [show v = _ from h]
    refine ⟨0, fun P t ty k e ht => ?_, fun _ _ _ => rfl, fun _ => rfl⟩
    simp [Builtin.len_, run_underlying ht, goInt]
  | some f =>
    obtain ⟨r, rfl, es, c, hb, hg, hf⟩ := h
    refine ⟨es.size, fun P t ty k e ht => ?_, ?_, ?_⟩
    · simp [Builtin.len_, run_underlying ht, Go.MapKept.run_getObj_map hb, goInt]
    · intro hz q hq
      have : es.toList = [] := List.eq_nil_of_length_eq_zero (by simpa using hz)
      rw [← show mlook eq es.toList q = mget (some f) q from hf q hq, this, mlook_nil]
    · intro hn
      cases hes : es.toList with
      | nil => simpa using congrArg List.length hes
      | cons x l =>
        have hk : IsK x.key := hg.keys x (by rw [hes]; exact .head _)
        have h1 := hf x.key hk
        rw [hes, mlook_cons, if_pos (hs _ hk), ← show mget (some f) x.key = f x.key from rfl, hn _ hk] at h1
        cases h1

/-! ### the plain answer -/
def Tab.hvD (T : Tab) (q : Value) : Value := (T.hv q).getD lnil
def nextHF (T : Tab) : List Value → Value × Value
  | [] => (lnil, lnil)
  | k :: r => if isNil (T.hvD k) then nextHF T r else (k, T.hvD k)
def Tab.nextH (T : Tab) (i : Nat) : Value × Value := nextHF T ((T.keys.getD []).drop i)
def nextAF (T : Tab) : List Value → Nat → Value × Value
  | [], _ => T.nextH 0
  | v :: r, i => if isNil v then nextAF T r (i + 1) else (lnum (fofInt ((i : Int) + 1)), v)
def Tab.nextA (T : Tab) (i : Nat) : Value × Value := nextAF T ((T.arr.getD []).drop i) i
section
variable {T : Tab} {i : Nat} {k v : Value}
theorem nextH_end (h : (T.keys.getD []).length ≤ i) : T.nextH i = (lnil, lnil) := by
  unfold Tab.nextH; rw [List.drop_eq_nil_of_le h]; rfl
theorem nextH_at (h : (T.keys.getD [])[i]? = some k) : T.nextH i = if isNil (T.hvD k) then T.nextH (i + 1) else (k, T.hvD k) := by
  obtain ⟨hi, rfl⟩ := List.getElem?_eq_some_iff.1 h
  unfold Tab.nextH
  rw [List.drop_eq_getElem_cons hi]
  rfl
theorem nextH_nil (h : (T.keys.getD [])[i]? = some k) (hn : T.hvD k = lnil) : T.nextH i = T.nextH (i + 1) := by
  rw [nextH_at h, hn]; rfl
theorem nextH_live (h : (T.keys.getD [])[i]? = some k) (hv : T.hvD k = v) (hn : isNil v = false) : T.nextH i = (k, v) := by
  rw [nextH_at h, hv, hn]; rfl
theorem nextA_end (h : (T.arr.getD []).length ≤ i) : T.nextA i = T.nextH 0 := by
  unfold Tab.nextA; rw [List.drop_eq_nil_of_le h]; rfl
theorem nextA_at (h : (T.arr.getD [])[i]? = some v) : T.nextA i = if isNil v then T.nextA (i + 1) else (lnum (fofInt ((i : Int) + 1)), v) := by
  obtain ⟨hi, rfl⟩ := List.getElem?_eq_some_iff.1 h
  unfold Tab.nextA
  rw [List.drop_eq_getElem_cons hi]
  rfl
theorem nextA_nil (h : (T.arr.getD [])[i]? = some lnil) : T.nextA i = T.nextA (i + 1) := by
  rw [nextA_at h]; rfl
theorem nextA_live (h : (T.arr.getD [])[i]? = some v) (hn : isNil v = false) : T.nextA i = (lnum (fofInt ((i : Int) + 1)), v) := by
  rw [nextA_at h, hn]; rfl
end
/-- What the walk needs of the table. -/
structure Nx (T : Tab) : Prop where
  lv : ∀ u ∈ T.arr.getD [], LvOk u
  alen : (T.arr.getD []).length ≤ 65536
  hlv : ∀ q, IsLK q → LvOk (T.hvD q)
  isk : ∀ k ∈ T.keys.getD [], IsLK k
  idx : ∀ (j : Nat) (k : Value), (T.keys.getD [])[j]? = some k → mget T.k2i k = some (.int .i64 j)
  klen : (T.keys.getD []).length ≤ 1000000
  emp : T.keys.getD [] = [] → ∀ q, IsLK q → T.hv q = none
  dstr : ∀ s, mget T.dict (lstr s) = none
theorem all_nil_next {T : Tab} (h : ∀ q, IsLK q → T.hv q = none) : ∀ (ks : List Value), (∀ k ∈ ks, IsLK k) → nextHF T ks = (lnil, lnil)
  | [], _ => rfl
  | k :: r, hk => by
    unfold nextHF
    have : T.hvD k = lnil := by unfold Tab.hvD; rw [h k (hk k (.head _))]; rfl
    rw [this, if_pos (show isNil lnil = true from rfl)]
    exact all_nil_next h r fun x hx => hk x (.tail _ hx)
theorem Nx.none_next {T : Tab} (h : Nx T) (hd : ∀ q, IsLK q → mget T.dict q = none) (hs : ∀ q, IsSK q → mget T.sdict q = none) : T.nextH 0 = (lnil, lnil) := by
  refine all_nil_next (fun q hq => ?_) _ (by simpa using h.isk)
  rcases hq with ⟨x, rfl, hx⟩ | ⟨s, rfl⟩
  · exact hd _ (.inl ⟨x, rfl, hx⟩)
  · exact hs _ ⟨s, rfl⟩
/-- Nothing among the keys: nothing in the hash parts. -/
theorem Nx.empty {T : Tab} (h : Nx T) (hk : T.keys.getD [] = []) : (∀ q, IsLK q → mget T.dict q = none) ∧ ∀ q, IsSK q → mget T.sdict q = none := by
  refine ⟨fun q hq => ?_, fun q hq => ?_⟩
  · rcases hq with ⟨x, rfl, hx⟩ | ⟨s, rfl⟩
    · exact h.emp hk _ (.inl ⟨x, rfl, hx⟩)
    · exact h.dstr s
  · obtain ⟨s, rfl⟩ := hq
    exact h.emp hk _ (.inr ⟨s, rfl⟩)
/-- It answers r; at most some draws are made. -/
def Nexts (w : World) (r : Value × Value) (e : Ending) (w' : World) : Prop := e = .returned (.tuple #[r.1, r.2]) ∧ ∃ d, w' = w.drewN d
/-- Where the walk's ways meet: the key's index is j, and the rest of the keys from behind it answers r. -/
def CutN (w : World) (T : Tab) (r : Value × Value) (k : Value) (wc : World) : Prop :=
  ∃ (j : Nat) (ks : List Value) (ki : Value → Option Value), IsLK k ∧ T.keys = some ks ∧ T.k2i = some ki ∧ ki k = some (.int .i64 j) ∧ j < ks.length ∧ T.nextH (j + 1) = r ∧ ∃ d, wc = w.drewN d
theorem Nx.cut {T : Tab} (h : Nx T) (w : World) {k : Value} {j : Nat} (hk : (T.keys.getD [])[j]? = some k) (r : Value × Value) (hr : T.nextH (j + 1) = r) (d : Nat) : CutN w T r k (w.drewN d) := by
  have hi := h.idx j k hk
  have hm := h.isk k (List.mem_of_getElem? hk)
  obtain ⟨mt, arr, dict, sdict, keys, k2i⟩ := T
  cases keys with
  | none => cases hk
  | some ks =>
    cases k2i with
    | none => cases hi
    | some ki => exact ⟨j, ks, ki, hm, rfl, rfl, hi, (List.getElem?_eq_some_iff.1 hk).1, hr, d, rfl⟩
theorem rawGetH_hv (w : World) (t : Nat) (T : Tab) (F : Nat → Prop) (h : TabAt w t T F) (q : Value) (hq : IsLK q) {u : Value} (hu : T.hvD q = u) : Calls Try.prog 26 #[.pointer (some ⟨t, 0, none⟩), q] w fun e w' => e = .returned u ∧ w = w' := by
  subst hu
  rcases hq with ⟨x, rfl, hx⟩ | ⟨s, rfl⟩
  · exact rawGetH_num w t T F h x (Lib.hid hx)
  · exact rawGetH_str w t T F h s
end Go.Lua
