/-
  RawSetString and RawSetH: the hash parts, the list of keys and its index.
-/
import Derived.Test.YtfkemahinnpgdaaRead
import Derived.Maps.OwnOps
import Derived.Maps.OwnSet
import Derived.Deep.DeepCutAuto
import Derived.StillTailTactics
namespace Go.Lua
open Go.Proofs Go.RowKit
set_option linter.unusedVariables false

section
variable {P : Program} {kt : TypeId} {IsK : Value → Prop} {eq : Value → Value → Bool} {w : World} {ops : Array Oper} {rest : List Oper} {o : Oper} {a : Act} {Q : Exit → Act → World → Prop}

theorem wpList_mapUpdate_mp (K : KeyLaw P kt IsK eq) (hgd : o.guard = none) (m x v : Operand) (t e : TypeId) (ho : o.op = .mapUpdate t m x v) (ht : P.underlying t = some (.map kt e)) (r : Nat) (f : Value → Option Value) (hm : a.eval m = .map (some r)) (h : MapAt IsK eq w r f)
    (k u : Value) (hx : a.eval x = k) (hk : IsK k) (hv : a.eval v = u) (hK : ∀ w', MapAt IsK eq w' r (fun q => if eq q k then some u else f q) → w.grownBy w' (some r) → wpList P ops Q rest (a.put o.dst undef) w') : wpList P ops Q (o :: rest) a w := by
  refine wpList_plain hgd fun K' hK' => ?_
  obtain ⟨w', hr, h1, h2, -⟩ := h.update K ht hk u
  unfold Oper.wp
  simp [execOp, ho, hm, hx, hv, hr, Result.andThen]
  exact hK' _ _ (hK w' h1 h2)

theorem wpList_delete_mp (K : KeyLaw P kt IsK eq) (hgd : o.guard = none) (m x : Operand) (t t2 e : TypeId) (ho : o.op = .call { callee := .builtin .delete, args := #[m, x], argTypes := #[t, t2] }) (ht : P.underlying t = some (.map kt e)) (r : Nat) (f : Value → Option Value) (hm : a.eval m = .map (some r)) (h : MapAt IsK eq w r f)
    (k : Value) (hx : a.eval x = k) (hk : IsK k) (hK : ∀ w', MapAt IsK eq w' r (fun q => if eq q k then none else f q) → w.grownBy w' (some r) → wpList P ops Q rest (a.put o.dst (.tuple #[])) w') : wpList P ops Q (o :: rest) a w := by
  refine wpList_plain hgd fun K' hK' => ?_
  obtain ⟨w', hr, h1, h2, -⟩ := h.delete K ht hk o.type t2
  unfold Oper.wp
  simp [execOp, ho, resolve, invoke, builtin, hm, hx, hr, Result.andThen]
  exact hK' _ _ (hK w' h1 h2)

theorem wpList_lookup_mp (K : KeyLaw P kt IsK eq) (hgd : o.guard = none) (m x : Operand) (t e : TypeId) (ho : o.op = .lookup t m x true) (ht : P.underlying t = some (.map kt e)) (z : Value) (hz : ∀ w, (zeroValue e).run P w = .ok z w) (r : Nat) (f : Value → Option Value) (hm : a.eval m = .map (some r)) (h : MapAt IsK eq w r f)
    (k : Value) (hx : a.eval x = k) (hk : IsK k) (y : Option Value) (hy : f k = y) (hK : wpList P ops Q rest (a.put o.dst (.tuple #[y.getD z, .bool y.isSome])) w) : wpList P ops Q (o :: rest) a w := by
  refine wpList_plain hgd fun K' hK' => ?_
  have hr := h.lookup K ht hz hk true
  rw [hy] at hr
  simp only [if_true] at hr
  unfold Oper.wp
  simp [execOp, ho, hm, hx, hr, Result.andThen]
  exact hK' _ _ hK
end

/-- What a map field holds; a nil one nothing. -/
def mget (o : Option (Value → Option Value)) : Value → Option Value := o.getD fun _ => none

/-- The list of keys and its index are there. -/
def Tab.ready (T : Tab) : Tab := match T.keys with
  | none => { T with keys := some [], k2i := some fun _ => none }
  | some _ => T

/-- k is put behind the keys, if it is not among them. -/
def Tab.noteKey (T : Tab) (k : Value) : Tab := if (mget T.k2i k).isSome then T else
  { T with k2i := some (fun q => if lkEq q k then some (.int .i64 (T.keys.getD []).length) else mget T.k2i q), keys := some (T.keys.getD [] ++ [k]) }

def Tab.setStr (T : Tab) (s : ByteArray) (v : Value) : Tab :=
  let T1 := ({ T with sdict := some (mget T.sdict) } : Tab).ready
  if isNil v then { T1 with sdict := some fun q => if skEq q (.string s) then none else mget T.sdict q }
  else ({ T1 with sdict := some fun q => if skEq q (.string s) then some v else mget T.sdict q } : Tab).noteKey (lstr s)

/-- Where there is a list of keys there is an index, with room for more. -/
def Tab.Wf (T : Tab) : Prop := (T.keys ≠ none → T.k2i ≠ none) ∧ (T.keys.getD []).length < 1073741824

/-- The table at t holds T' now, nothing else has turned. -/
def Step (F : Nat → Prop) (w : World) (t : Nat) (T' : Tab) (w' : World) : Prop := TabAt w' t T' (Fw F w) ∧ Upd F w w'

theorem Step.then {F : Nat → Prop} {w w1 w2 : World} {t : Nat} {T1 T2 : Tab} (h : Step F w t T1 w1) {va vd vs vk vi : Value} (h2 : TabV w2 t T2 (Fw (Fw F w) w1) va vd vs vk vi) (u : Upd (Fw F w) w1 w2) : Step F w t T2 w2 :=
  ⟨(h2.mono fun k _ hk => Fw_Fw h.2.size hk).at, h.2.trans u⟩

theorem MpAt.form {IsK : Value → Prop} {eq : Value → Value → Bool} {w : World} {v : Value} {o : Option (Value → Option Value)} (h : MpAt IsK eq w v o) : ∃ r, v = .map r ∧ (r = none ↔ o = none) := by
  cases o with
  | none => exact ⟨none, h, by simp⟩
  | some f => obtain ⟨r, rfl, -⟩ := h; exact ⟨some r, rfl, by simp⟩
theorem SlAt.form {w : World} {v : Value} {o : Option (List Value)} (h : SlAt w v o) : ∃ a n c, v = .slice a n c ∧ (a = none ↔ o = none) := by
  cases o with
  | none => exact ⟨none, 0, 0, h, by simp⟩
  | some xs => obtain ⟨g, c, cur, rfl, -⟩ := h; exact ⟨_, _, _, rfl, by simp⟩

theorem Tab.ready_form (mt : Value) (arr : Option (List Value)) (dict sdict : Option (Value → Option Value)) (keys : Option (List Value)) (k2i : Option (Value → Option Value)) (h : keys ≠ none → k2i ≠ none) (hl : (keys.getD []).length < 1073741824) :
    ∃ ks ki, ({ mt := mt, arr := arr, dict := dict, sdict := sdict, keys := keys, k2i := k2i } : Tab).ready = { mt := mt, arr := arr, dict := dict, sdict := sdict, keys := some ks, k2i := some ki } ∧ ks.length < 1073741824 := by
  cases keys with
  | none => exact ⟨[], fun _ => none, rfl, by decide⟩
  | some ks =>
    cases k2i with
    | none => exact absurd rfl (h (by simp))
    | some ki => exact ⟨ks, ki, rfl, hl⟩

set_option maxHeartbeats 1000000 in
theorem rawSetString_any (w : World) (t : Nat) (T : Tab) (F : Nat → Prop) (h : TabAt w t T F) (hwf : T.Wf) (s : ByteArray) (v : Value) (hv : LvOk v) :
    Calls Try.prog 29 #[.pointer (some ⟨t, 0, none⟩), .string s, v] w (UpdTo F w t (T.setStr s v)) := by
  obtain ⟨va, vd, vs, vk, vi, hT⟩ := h
  obtain ⟨mt, arr, dict, sdict, keys, k2i⟩ := T
  have hlt := hT.lt
  obtain ⟨rs, rfl, hrs⟩ := hT.sdict.form
  have c3 := hT.cells.2.2.2.1
  have f3 := hT.thaw 3
  go_enter Try.func29, Try.ntmps29
  go_upto_if 13 with (fail)
  go_cut [] (Step F w t { mt := mt, arr := arr, dict := dict, sdict := some (mget sdict), keys := keys, k2i := k2i })
  case first =>
    cases rs with
    | none =>
      obtain rfl : sdict = none := hrs.1 rfl
      obtain ⟨q1, q2⟩ := hT.make_sdict
      have Q := Lib.hid (And.intro q1.at q2)
      clear q1 q2 hT hrs
      go_wp2_with fail
      go_meet
      case rel => exact Q.out
    | some r =>
      obtain ⟨f, rfl⟩ : ∃ f, sdict = some f := by
        cases sdict with
        | none => exact absurd (hrs.2 rfl) (by simp)
        | some f => exact ⟨f, rfl⟩
      have Q : Hid (Step F w t { mt := mt, arr := arr, dict := dict, sdict := some (mget (some f)), keys := keys, k2i := k2i } w) := ⟨(hT.mono fun k _ hk => (Fw.of hk : Fw F w k)).at, Upd.refl F w⟩
      clear hT hrs
      go_wp2_with fail
      go_meet
      case rel => exact Q.out
  case rest =>
    clear c3 f3 hT hrs
    obtain ⟨⟨va, vd, vs, vk, vi, hT⟩, hU⟩ := hcut
    have hlt := hT.lt
    obtain ⟨ak, nk, ck, rfl, hak⟩ := hT.keys.form
    have c4 := hT.cells.2.2.2.2.1
    have f4 := hT.thaw 4
    have f5 := hT.thaw 5
    have c5 := hT.cells.2.2.2.2.2
    go_upto_if 22 with (fail)
    go_cut [] (Step F w t ({ mt := mt, arr := arr, dict := dict, sdict := some (mget sdict), keys := keys, k2i := k2i } : Tab).ready)
    case first =>
      cases ak with
      | none =>
        obtain rfl : keys = none := hak.1 rfl
        obtain ⟨q1, q2⟩ := hT.make_keys2
        have Q : Hid (Step F w t ({ mt := mt, arr := arr, dict := dict, sdict := some (mget sdict), keys := none, k2i := k2i } : Tab).ready _) := Step.then ⟨hT.at, hU⟩ q1 q2
        clear q1 q2 hT hU hak
        go_wp2_with fail
        go_meet
        case rel => exact Q.out
      | some b =>
        obtain ⟨ks, rfl⟩ : ∃ ks, keys = some ks := by
          cases keys with
          | none => exact absurd (hak.2 rfl) (by simp)
          | some ks => exact ⟨ks, rfl⟩
        have Q : Hid (Step F w t ({ mt := mt, arr := arr, dict := dict, sdict := some (mget sdict), keys := some ks, k2i := k2i } : Tab).ready wc) := ⟨hT.at, hU⟩
        clear hT hU hak
        go_wp2_with fail
        go_meet
        case rel => exact Q.out
    case rest =>
      clear c4 f4 c5 f5 hT hU hak hlt
      obtain ⟨ks, ki, hready, hkl⟩ := Tab.ready_form mt arr dict (some (mget sdict)) keys k2i hwf.1 hwf.2
      rw [hready] at hcut
      have hset : ∀ u, ({ mt := mt, arr := arr, dict := dict, sdict := sdict, keys := keys, k2i := k2i } : Tab).setStr s u = if isNil u then { mt := mt, arr := arr, dict := dict, sdict := some (fun q => if skEq q (.string s) then none else mget sdict q), keys := some ks, k2i := some ki }
          else ({ mt := mt, arr := arr, dict := dict, sdict := some (fun q => if skEq q (.string s) then some u else mget sdict q), keys := some ks, k2i := some ki } : Tab).noteKey (lstr s) := by
        intro u
        unfold Tab.setStr
        simp only [hready]
      have Hset := Lib.hid hset
      clear hset hready
      obtain ⟨⟨va, vd, vs, vk, vi, hT⟩, hU⟩ := hcut
      have hlt := hT.lt
      obtain ⟨r, rfl, hr⟩ := hT.sdict
      have c3 := hT.cells.2.2.2.1
      have Hl := Lib.hid hkl
      clear hkl hwf
      rcases hv with rfl | ⟨tv, xv, rfl, htv⟩
      · go_wp2_with (at_delete; go_must (refine wpList_delete_mp sk_law rfl _ _ _ _ _ rfl Try.underlying69 r _ rfl hr (.string s) rfl ⟨s, rfl⟩ ?_); intro w1 hm1 hg1)
        go_end0
        obtain ⟨q1, q2⟩ := hT.sdictTurn hm1 hg1
        have Q := Step.then ⟨hT.at, hU⟩ (q1.mono fun k _ hk => Fw.of hk) (q2.mono fun k _ hk => hk)
        have hs := (Hset.out lnil).trans (if_pos (show isNil lnil = true from rfl))
        exact ⟨rfl, hs ▸ Q⟩
      · cases hk : ki (lstr s) with
        | none =>
          have Hk := Lib.hid hk
          clear hk
          go_wp2_with (first
            | (at_mapUpdate; go_must (refine wpList_mapUpdate_mp sk_law rfl _ _ _ _ _ rfl Try.underlying69 r _ rfl hr (.string s) (.iface tv xv) rfl ⟨s, rfl⟩ rfl ?_); intro w1 hm1 hg1; obtain ⟨q1, q2⟩ := hT.sdictTurn hm1 hg1; obtain ⟨ri, e1, hi⟩ := q1.k2i; subst e1; have d5 := q1.cells.2.2.2.2.2)
            | (at_lookup; go_must (refine wpList_lookup_mp lk_law rfl _ _ _ _ rfl Try.underlying70 (.int .i64 0) zero_int ri _ rfl hi (lstr s) rfl (lk_str s) none Hk.out ?_)))
          obtain ⟨ri2, e2, hi2⟩ := q1.k2i
          cases e2
          obtain ⟨g4, cap4, rfl, -, -, -, -⟩ := q1.keys.cell
          have d4 := q1.cells.2.2.2.2.1
          have d3 := q1.thaw 4
          go_still_tail 11, (by kernel_rfl)
          have qd := q1.drew
          change wpList _ _ _ _ _ w1.drew
          go_wp2_with (first
            | (at_mapUpdate; go_must (refine wpList_mapUpdate_mp lk_law rfl _ _ _ _ _ rfl Try.underlying70 ri _ rfl (hi2.of_heap rfl) (lstr s) _ rfl (lk_str s) rfl ?_); intro w2 hm2 hg2; obtain ⟨p1, p2⟩ := qd.k2iTurn hm2 hg2; have p3 := p1.cells.2.2.2.2.1)
            | (at_builtin; go_must (refine wpList_append_lv rfl _ _ rfl (.slice (some ⟨g4, 0, none⟩) _ cap4) (some ks) ks rfl rfl (p1.alloc _).keys _ _ (lstr s) rfl (cell_new_of (by simp)) rfl (by have := Hl.out; omega) ?_); intro g5 cap5 w3 hs3 hg3 hb3 hso3; obtain ⟨e5, e6⟩ := (p1.alloc _).grown_keys hg3))
          go_end0
          obtain ⟨r1, r2⟩ := (p1.alloc _).append_keys hs3 hg3 hb3 hso3
          have hu3 := (((hU.trans q2).drew.trans p2).alloc (.cells #[lstr s] 40))
          have Q : Step F w t _ _ := ⟨(r1.mono fun k _ hk => Fw_Fw hu3.size hk).at, hu3.trans r2⟩
          have hs := (Hset.out (.iface tv xv)).trans (if_neg (by rw [LvOk.not_nil htv]; simp))
          unfold Tab.noteKey at hs
          rw [if_neg (by simp [mget, Hk.out])] at hs
          exact ⟨rfl, hs ▸ Q⟩
        | some y =>
          have Hk := Lib.hid hk
          clear hk
          go_wp2_with (first
            | (at_mapUpdate; go_must (refine wpList_mapUpdate_mp sk_law rfl _ _ _ _ _ rfl Try.underlying69 r _ rfl hr (.string s) (.iface tv xv) rfl ⟨s, rfl⟩ rfl ?_); intro w1 hm1 hg1; obtain ⟨q1, q2⟩ := hT.sdictTurn hm1 hg1; obtain ⟨ri, e1, hi⟩ := q1.k2i; subst e1; have d5 := q1.cells.2.2.2.2.2)
            | (at_lookup; go_must (refine wpList_lookup_mp lk_law rfl _ _ _ _ rfl Try.underlying70 (.int .i64 0) zero_int ri _ rfl hi (lstr s) rfl (lk_str s) (some y) Hk.out ?_)))
          go_end0
          have Q := Step.then ⟨hT.at, hU⟩ (q1.mono fun k _ hk => Fw.of hk) (q2.mono fun k _ hk => hk)
          have hs := (Hset.out (.iface tv xv)).trans (if_neg (by rw [LvOk.not_nil htv]; simp))
          unfold Tab.noteKey at hs
          rw [if_pos (by simp [mget, Hk.out])] at hs
          exact ⟨rfl, hs ▸ Q⟩
end Go.Lua
