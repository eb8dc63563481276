/-
  RawSetH: a number key goes to the hash part for other keys, a string key to RawSetString.
-/
import Derived.Test.YtfkemahinnpgdaaHash
namespace Go.Lua
open Go.Proofs Go.RowKit
set_option linter.unusedVariables false

theorem MpAt.len {IsK : Value → Prop} {eq : Value → Value → Bool} {w : World} {v : Value} {o : Option (Value → Option Value)} (h : MpAt IsK eq w v o) : ∃ n : Nat, ∀ (P : Program) (t ty k e : TypeId), P.underlying t = some (.map k e) → (Builtin.len_ #[t] ty #[v]).run P w = .ok (.int .i64 n) w := by
  cases o with
  | none =>
    rw [show v = _ from h]
    refine ⟨0, fun P t ty k e ht => ?_⟩
    simp [Builtin.len_, run_underlying ht, goInt]
  | some f =>
    obtain ⟨r, rfl, es, c, hb, -⟩ := h
    refine ⟨es.size, fun P t ty k e ht => ?_⟩
    simp [Builtin.len_, run_underlying ht, Go.MapKept.run_getObj_map hb, goInt]
theorem wpList_len_mp {w : World} {ops : Array Oper} {rest : List Oper} {o : Oper} {a : Act} {Q : Exit → Act → World → Prop} (hgd : o.guard = none) (m : Operand) (v : Value) (ho : o.op = .call { callee := .builtin .len, args := #[m], argTypes := #[69] }) (n : Nat) (hm : a.eval m = v)
    (h : ∀ (P : Program) (t ty k e : TypeId), P.underlying t = some (.map k e) → (Builtin.len_ #[t] ty #[v]).run P w = .ok (.int .i64 n) w) (hK : wpList Try.prog ops Q rest (a.put o.dst (.int .i64 n)) w) : wpList Try.prog ops Q (o :: rest) a w := by
  refine wpList_plain hgd fun K' hK' => ?_
  have hr := h Try.prog 69 o.type _ _ Try.underlying69
  unfold Oper.wp
  simp [execOp, ho, resolve, invoke, builtin, hm, hr, Result.andThen]
  exact hK' _ _ hK

def Tab.setNum (T : Tab) (x : Nat) (v : Value) : Tab :=
  let T1 := ({ T with dict := some (mget T.dict) } : Tab).ready
  if isNil v then { T1 with dict := some fun q => if lkEq q (lnum x) then none else mget T.dict q }
  else ({ T1 with dict := some fun q => if lkEq q (lnum x) then some v else mget T.dict q } : Tab).noteKey (lnum x)

set_option maxRecDepth 100000 in
set_option maxHeartbeats 1000000 in
theorem rawSetH_num (w : World) (t : Nat) (T : Tab) (F : Nat → Prop) (h : TabAt w t T F) (hwf : T.Wf) (x : Nat) (HXX : Hid (feq x x = true)) (v : Value) (hv : LvOk v) :
    Calls Try.prog 38 #[.pointer (some ⟨t, 0, none⟩), lnum x, v] w (UpdTo F w t (T.setNum x v)) := by
  obtain ⟨va, vd, vs, vk, vi, hT⟩ := h
  obtain ⟨mt, arr, dict, sdict, keys, k2i⟩ := T
  have hlt := hT.lt
  obtain ⟨rs, rfl, hrs⟩ := hT.dict.form
  obtain ⟨ls, rfl, hls⟩ := hT.sdict.form
  have c2 := hT.cells.2.2.1
  have c3 := hT.cells.2.2.2.1
  have f2 := hT.thaw 2
  go_enter Try.func38, Try.ntmps38
  go_upto_if 24 with (fail)
  go_cut [] (Step F w t { mt := mt, arr := arr, dict := some (mget dict), sdict := sdict, keys := keys, k2i := k2i })
  case first =>
    cases rs with
    | none =>
      obtain rfl : dict = none := hrs.1 rfl
      obtain ⟨q1, q2⟩ := hT.make_dict
      have hlen := hT.sdict.len
      have Q := Lib.hid (And.intro q1.at q2)
      clear q1 q2 hT hrs
      obtain ⟨nl, hlen⟩ := hlen
      go_wp2_with (at_len; go_must (refine wpList_len_mp rfl _ _ rfl _ rfl hlen ?_))
      go_meet
      case rel => exact Q.out
    | some r =>
      obtain ⟨f, rfl⟩ : ∃ f, dict = some f := by
        cases dict with
        | none => exact absurd (hrs.2 rfl) (by simp)
        | some f => exact ⟨f, rfl⟩
      have Q : Hid (Step F w t { mt := mt, arr := arr, dict := some (mget (some f)), sdict := sdict, keys := keys, k2i := k2i } w) := ⟨(hT.mono fun k _ hk => (Fw.of hk : Fw F w k)).at, Upd.refl F w⟩
      clear hT hrs
      go_wp2_with fail
      go_meet
      case rel => exact Q.out
  case rest =>
    clear c2 c3 f2 hT hrs hls
    obtain ⟨⟨va, vd, vs, vk, vi, hT⟩, hU⟩ := hcut
    have hlt := hT.lt
    obtain ⟨ak, nk, ck, rfl, hak⟩ := hT.keys.form
    have c4 := hT.cells.2.2.2.2.1
    have f4 := hT.thaw 4
    have f5 := hT.thaw 5
    have c5 := hT.cells.2.2.2.2.2
    go_upto_if 38 with (fail)
    go_cut [] (Step F w t ({ mt := mt, arr := arr, dict := some (mget dict), sdict := sdict, keys := keys, k2i := k2i } : Tab).ready)
    case first =>
      cases ak with
      | none =>
        obtain rfl : keys = none := hak.1 rfl
        obtain ⟨q1, q2⟩ := hT.make_keys2
        have Q : Hid (Step F w t ({ mt := mt, arr := arr, dict := some (mget dict), sdict := sdict, keys := none, k2i := k2i } : Tab).ready _) := Step.then ⟨hT.at, hU⟩ q1 q2
        clear q1 q2 hT hU hak
        go_wp2_with fail
        go_meet
        case rel => exact Q.out
      | some b =>
        obtain ⟨ks, rfl⟩ : ∃ ks, keys = some ks := by
          cases keys with
          | none => exact absurd (hak.2 rfl) (by simp)
          | some ks => exact ⟨ks, rfl⟩
        have Q : Hid (Step F w t ({ mt := mt, arr := arr, dict := some (mget dict), sdict := sdict, keys := some ks, k2i := k2i } : Tab).ready wc) := ⟨hT.at, hU⟩
        clear hT hU hak
        go_wp2_with fail
        go_meet
        case rel => exact Q.out
    case rest =>
      clear c4 f4 c5 f5 hT hU hak hlt
      obtain ⟨ks, ki, hready, hkl⟩ := Tab.ready_form mt arr (some (mget dict)) sdict keys k2i hwf.1 hwf.2
      rw [hready] at hcut
      have hset : ∀ u, ({ mt := mt, arr := arr, dict := dict, sdict := sdict, keys := keys, k2i := k2i } : Tab).setNum x u = if isNil u then { mt := mt, arr := arr, dict := some (fun q => if lkEq q (lnum x) then none else mget dict q), sdict := sdict, keys := some ks, k2i := some ki }
          else ({ mt := mt, arr := arr, dict := some (fun q => if lkEq q (lnum x) then some u else mget dict q), sdict := sdict, keys := some ks, k2i := some ki } : Tab).noteKey (lnum x) := by
        intro u
        unfold Tab.setNum
        simp only [hready]
      have Hset := Lib.hid hset
      clear hset hready
      obtain ⟨⟨va, vd, vs, vk, vi, hT⟩, hU⟩ := hcut
      have hlt := hT.lt
      obtain ⟨r, rfl, hr⟩ := hT.dict
      have c2 := hT.cells.2.2.1
      have Hl := Lib.hid hkl
      clear hkl hwf
      rcases hv with rfl | ⟨tv, xv, rfl, htv⟩
      · go_wp2_with (at_delete; go_must (refine wpList_delete_mp lk_law rfl _ _ _ _ _ rfl Try.underlying68 r _ rfl hr (lnum x) rfl (lk_num HXX) ?_); intro w1 hm1 hg1)
        go_end0
        obtain ⟨q1, q2⟩ := hT.dictTurn hm1 hg1
        have Q := Step.then ⟨hT.at, hU⟩ (q1.mono fun k _ hk => Fw.of hk) (q2.mono fun k _ hk => hk)
        have hs := (Hset.out lnil).trans (if_pos (show isNil lnil = true from rfl))
        exact ⟨rfl, hs ▸ Q⟩
      · cases hk : ki (lnum x) with
        | none =>
          have Hk := Lib.hid hk
          clear hk
          go_wp2_with (first
            | (at_mapUpdate; go_must (refine wpList_mapUpdate_mp lk_law rfl _ _ _ _ _ rfl Try.underlying68 r _ rfl hr (lnum x) (.iface tv xv) rfl (lk_num HXX) rfl ?_); intro w1 hm1 hg1; obtain ⟨q1, q2⟩ := hT.dictTurn hm1 hg1; obtain ⟨ri, e1, hi⟩ := q1.k2i; subst e1; have d5 := q1.cells.2.2.2.2.2)
            | (at_lookup; go_must (refine wpList_lookup_mp lk_law rfl _ _ _ _ rfl Try.underlying70 (.int .i64 0) zero_int ri _ rfl hi (lnum x) rfl (lk_num HXX) none Hk.out ?_)))
          obtain ⟨ri2, e2, hi2⟩ := q1.k2i
          cases e2
          obtain ⟨g4, cap4, rfl, -, -, -, -⟩ := q1.keys.cell
          have d4 := q1.cells.2.2.2.2.1
          have d3 := q1.thaw 4
          go_still_tail 10, (by kernel_rfl)
          have qd := q1.drew
          change wpList _ _ _ _ _ w1.drew
          go_wp2_with (first
            | (at_mapUpdate; go_must (refine wpList_mapUpdate_mp lk_law rfl _ _ _ _ _ rfl Try.underlying70 ri _ rfl (hi2.of_heap rfl) (lnum x) _ rfl (lk_num HXX) rfl ?_); intro w2 hm2 hg2; obtain ⟨p1, p2⟩ := qd.k2iTurn hm2 hg2; have p3 := p1.cells.2.2.2.2.1)
            | (at_builtin; go_must (refine wpList_append_lv rfl _ _ rfl (.slice (some ⟨g4, 0, none⟩) _ cap4) (some ks) ks rfl rfl (p1.alloc _).keys _ _ (lnum x) rfl (cell_new_of (by simp)) rfl (by have := Hl.out; omega) ?_); intro g5 cap5 w3 hs3 hg3 hb3 hso3; obtain ⟨e5, e6⟩ := (p1.alloc _).grown_keys hg3))
          go_end0
          obtain ⟨r1, r2⟩ := (p1.alloc _).append_keys hs3 hg3 hb3 hso3
          have hu3 := (((hU.trans q2).drew.trans p2).alloc (.cells #[lnum x] 40))
          have Q : Step F w t _ _ := ⟨(r1.mono fun k _ hk => Fw_Fw hu3.size hk).at, hu3.trans r2⟩
          have hs := (Hset.out (.iface tv xv)).trans (if_neg (by rw [LvOk.not_nil htv]; simp))
          unfold Tab.noteKey at hs
          rw [if_neg (by simp [mget, Hk.out])] at hs
          exact ⟨rfl, hs ▸ Q⟩
        | some y =>
          have Hk := Lib.hid hk
          clear hk
          go_wp2_with (first
            | (at_mapUpdate; go_must (refine wpList_mapUpdate_mp lk_law rfl _ _ _ _ _ rfl Try.underlying68 r _ rfl hr (lnum x) (.iface tv xv) rfl (lk_num HXX) rfl ?_); intro w1 hm1 hg1; obtain ⟨q1, q2⟩ := hT.dictTurn hm1 hg1; obtain ⟨ri, e1, hi⟩ := q1.k2i; subst e1; have d5 := q1.cells.2.2.2.2.2)
            | (at_lookup; go_must (refine wpList_lookup_mp lk_law rfl _ _ _ _ rfl Try.underlying70 (.int .i64 0) zero_int ri _ rfl hi (lnum x) rfl (lk_num HXX) (some y) Hk.out ?_)))
          go_end0
          have Q := Step.then ⟨hT.at, hU⟩ (q1.mono fun k _ hk => Fw.of hk) (q2.mono fun k _ hk => hk)
          have hs := (Hset.out (.iface tv xv)).trans (if_neg (by rw [LvOk.not_nil htv]; simp))
          unfold Tab.noteKey at hs
          rw [if_pos (by simp [mget, Hk.out])] at hs
          exact ⟨rfl, hs ▸ Q⟩

set_option maxHeartbeats 400000 in
theorem rawSetH_str (w : World) (t : Nat) (T : Tab) (F : Nat → Prop) (h : TabAt w t T F) (hwf : T.Wf) (s : ByteArray) (v : Value) (hv : LvOk v) :
    Calls Try.prog 38 #[.pointer (some ⟨t, 0, none⟩), lstr s, v] w (UpdTo F w t (T.setStr s v)) := by
  have H := Lib.hid (rawSetString_any w t T F h hwf s v hv)
  clear h hwf
  have hv2 := hv
  rcases hv2 with rfl | ⟨tv, xv, rfl, htv⟩
  all_goals
    go_enter Try.func38, Try.ntmps38
    go_wp2_with (go_at_call 29; refine H.out.mono ?_; rintro e w1 ⟨rfl, hq⟩)
    exact bodyPost_ret (v := .tuple #[]) (results_none rfl _ _ _) rfl ⟨rfl, hq⟩
end Go.Lua
