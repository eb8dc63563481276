/-
  Insert: the list with v put in at a place; beyond the end the slot is filled up to; a place below 1 goes into the hash.
-/
import Derived.Test.YtpbeecbijlhocaaSet
import Derived.Test.YtpbeecbijlhocaaRemove
namespace Go.Lua
open Go.Proofs Go.RowKit
set_option linter.unusedVariables false

/-- The table behind Insert(i, v). -/
def Tab.insert (T : Tab) (i : Int) (v : Value) : Tab :=
  if ((T.arr.getD []).length : Int) < i then { T with arr := some (setAt (T.arr.getD []) (i.toNat - 1) v) }
  else if i ≤ 0 then ({ T with arr := some (T.arr.getD []) } : Tab).setNum (fofInt i) v
  else { T with arr := some ((T.arr.getD []).take (i.toNat - 1) ++ v :: (T.arr.getD []).drop (i.toNat - 1)) }

theorem UpdTo.after {F : Nat → Prop} {w w1 w' : World} {t : Nat} {T : Tab} {e : Ending} (u : Upd F w w1) (h : UpdTo (Fw F w) w1 t T e w') : UpdTo F w t T e w' := by
  obtain ⟨h1, ⟨va, vd, vs, vk, vi, h2⟩, h3⟩ := h
  exact ⟨h1, (h2.mono fun k _ hk => Fw_Fw u.size hk).at, u.under h3 fun k hk => hk⟩

theorem arrKey_ofInt {i : Int} (h1 : i ≤ 0) (h2 : -(2 ^ 53) ≤ i) : arrKey (fofInt i) = false := by
  obtain ⟨v, hv, h3, -, -⟩ := fkey_ofInt i (by omega)
  have := h3 (by omega)
  unfold arrKey
  rw [hv, this]
  have hu : (0 : Int) ≤ unit := by omega
  have : i * (unit : Int) ≤ 0 := Int.mul_nonpos_of_nonpos_of_nonneg h1 hu
  simp
  intro h
  omega

theorem moved_up {xs : List Value} {v : Value} {j : Nat} (hj : j < xs.length) : (moved (xs ++ [lnil]) (j + 1) j (xs.length - j)).set j v = xs.take j ++ v :: xs.drop j := by
  unfold moved
  have e1 : (xs ++ [lnil]).take (j + 1) = xs.take j ++ [xs[j]] := by
    rw [List.take_append_of_le_length (by omega), List.take_succ_eq_append_getElem hj]
  have e2 : ((xs ++ [lnil]).drop j).take (xs.length - j) = xs.drop j := by
    rw [List.drop_append_of_le_length (by omega)]
    exact List.take_left' (by simp)
  have e3 : (xs ++ [lnil]).drop (j + 1 + (xs.length - j)) = [] := List.drop_eq_nil_of_le (by simp; omega)
  have e4 : (xs.take j).length = j := by simp; omega
  rw [e1, e2, e3, List.append_nil, List.append_assoc, List.set_append_right _ _ (by omega), e4]
  simp

set_option maxHeartbeats 1000000 in
theorem insert_any (w : World) (t : Nat) (T : Tab) (F : Nat → Prop) (h : TabAt w t T F) (hwf : T.Wf) (hok : ∀ u ∈ T.arr.getD [], LvOk u) (hl : (T.arr.getD []).length < 1073741824) (i : Int) (hi1 : -(2 ^ 53) ≤ i) (hi2 : i < 67108864) (v : Value) (hv : LvOk v) :
    Calls Try.prog 23 #[.pointer (some ⟨t, 0, none⟩), .int .i64 i, v] w (UpdTo F w t (T.insert i v)) := by
  obtain ⟨va, vd, vs, vk, vi, hT⟩ := h
  obtain ⟨mt, arr, dict, sdict, keys, k2i⟩ := T
  have hlt := hT.lt
  obtain ⟨ak, nk, ck, rfl, hak⟩ := hT.arr.form
  have c1 := hT.cells.2.1
  have f1 := hT.thaw 1
  obtain ⟨xs, hxs⟩ : ∃ xs, xs = arr.getD [] := ⟨_, rfl⟩
  go_enter Try.func23, Try.ntmps23
  go_upto_if 10 with (fail)
  go_cut [] (Step F w t { mt := mt, arr := some xs, dict := dict, sdict := sdict, keys := keys, k2i := k2i })
  case first =>
    cases arr with
    | none =>
      obtain rfl : xs = [] := hxs
      obtain ⟨rfl, rfl, rfl⟩ : ak = none ∧ nk = 0 ∧ ck = 0 := by
        have := hT.arr
        change Value.slice ak nk ck = .slice none 0 0 at this
        cases this
        exact ⟨rfl, rfl, rfl⟩
      obtain ⟨q1, q2⟩ := hT.make_arr2 32 (by decide)
      have Q := Lib.hid (And.intro q1.at q2)
      clear q1 q2 hT hl hok hak
      go_wp2_with fail
      go_meet
      case rel => exact Q.out
    | some ys =>
      obtain rfl : xs = ys := hxs
      obtain ⟨g, cap, e0, -, -, -, -⟩ := hT.arr.cell
      cases e0
      have Q : Hid (Step F w t { mt := mt, arr := some xs, dict := dict, sdict := sdict, keys := keys, k2i := k2i } w) := ⟨(hT.mono fun k _ hk => (Fw.of hk : Fw F w k)).at, Upd.refl F w⟩
      clear hT hl hok hak
      go_wp2_with fail
      go_meet
      case rel => exact Q.out
  case rest =>
    clear c1 f1 hT hlt hak
    obtain ⟨hA, hU⟩ := hcut
    have hins : Hid (({ mt := mt, arr := arr, dict := dict, sdict := sdict, keys := keys, k2i := k2i } : Tab).insert i v = if (xs.length : Int) < i then { mt := mt, arr := some (setAt xs (i.toNat - 1) v), dict := dict, sdict := sdict, keys := keys, k2i := k2i }
      else if i ≤ 0 then ({ mt := mt, arr := some xs, dict := dict, sdict := sdict, keys := keys, k2i := k2i } : Tab).setNum (fofInt i) v
      else { mt := mt, arr := some (xs.take (i.toNat - 1) ++ v :: xs.drop (i.toNat - 1)), dict := dict, sdict := sdict, keys := keys, k2i := k2i }) := by
      subst hxs
      exact Lib.hid rfl
    simp only [← hxs] at hl hok
    clear hxs
    have hA2 := hA
    obtain ⟨va, vd, vs, vk, vi, hT⟩ := hA2
    have hlt := hT.lt
    have c1 := hT.cells.2.1
    have f1 := hT.thaw 1
    have hsl := hT.arr
    obtain ⟨g, cap, rfl, hcap, hcm, hcell, hfr⟩ := hsl.cell
    clear hcell hfr
    by_cases h1 : (xs.length : Int) < i
    · have hins := Lib.hid (hins.out.trans (if_pos h1))
      obtain ⟨tv, xv, rfl⟩ : ∃ tv xv, v = .iface tv xv := by
        rcases hv with rfl | ⟨tv, xv, rfl, -⟩
        · exact ⟨_, _, rfl⟩
        · exact ⟨_, _, rfl⟩
      have C := Lib.hid (rawSetInt_arr wc t { mt := mt, arr := some xs, dict := dict, sdict := sdict, keys := keys, k2i := k2i } (Fw F w) hA i (by omega) hi2 hl tv xv)
      clear hT hA hok hwf
      go_wp2_with fail
      go_call C.out as e w' hq
      obtain ⟨he, hq1, hq2⟩ := UpdTo.after hU hq
      subst he
      go_wp2_with fail
      exact bodyPost_ret (v := .tuple #[]) (results_none rfl _ _ _) rfl ⟨rfl, hins.out ▸ hq1, hq2⟩
    · have hins := Lib.hid (hins.out.trans (if_neg h1))
      by_cases h2 : i ≤ 0
      · have hins := Lib.hid (hins.out.trans (if_pos h2))
        have C := Lib.hid (rawSet_hash wc t { mt := mt, arr := some xs, dict := dict, sdict := sdict, keys := keys, k2i := k2i } (Fw F w) hA hwf (fofInt i) (arrKey_ofInt h2 hi1) v hv)
        clear hT hA hok hwf
        go_wp2_with fail
        go_call C.out as e w' hq
        obtain ⟨he, hq1, hq2⟩ := UpdTo.after hU hq
        subst he
        go_wp2_with fail
        exact bodyPost_ret (v := .tuple #[]) (results_none rfl _ _ _) rfl ⟨rfl, hins.out ▸ hq1, hq2⟩
      · have hins := Lib.hid (hins.out.trans (if_neg h2))
        obtain ⟨j, hj⟩ : ∃ j : Nat, i - 1 = j := ⟨(i - 1).toNat, by omega⟩
        clear hA hwf
        obtain ⟨tv, xv, rfl⟩ : ∃ tv xv, v = .iface tv xv := by
          rcases hv with rfl | ⟨tv, xv, rfl, -⟩
          · exact ⟨_, _, rfl⟩
          · exact ⟨_, _, rfl⟩
        have hjl : j < xs.length := by omega
        have hx53 : xs.length ≤ 1099511627776 := by omega
        have H1 : Hid (∀ u ∈ xs ++ [lnil], u.oneCell' = true) := by
          intro u hu
          rcases List.mem_append.1 hu with hu | hu
          · exact (hok u hu).one
          · rw [List.mem_singleton.1 hu]; rfl
        have Hm := Lib.hid (moved_up (v := .iface tv xv) hjl)
        have hjt : i.toNat - 1 = j := by omega
        rw [hjt] at hins
        clear hok
        go_wp2_with (at_builtin; go_must (refine wpList_append_lv rfl _ _ rfl (.slice (some ⟨g, 0, none⟩) xs.length cap) (some xs) xs rfl rfl (hT.alloc _).arr _ _ lnil rfl (by simp) rfl (by omega) ?_); intro g1 cap1 w1 hs1 hg1 hb1 hso1; obtain ⟨e1, e2⟩ := (hT.alloc _).grown_arr hg1)
        obtain ⟨hT1, hU1⟩ := (hT.alloc _).append_arr hs1 hg1 hb1 hso1
        have hsz : w.heap.size ≤ (wc.alloc (.cells #[lnil] 35)).heap.size := by have := hU.size; simp; omega
        have hT1 := hT1.mono fun k _ hk => Fw_Fw hsz hk
        have hU1 := (hU.alloc _).under hU1 fun k hk => hk
        clear hT hU hg1 hb1 hso1 hs1 e1 e2 c1 f1 hsl hcap hcm hlt
        obtain ⟨g2, cap2, e2, hcap1, hcm1, -, -⟩ := hT1.arr.cell
        simp only [Value.slice.injEq, Option.some.injEq, Addr.mk.injEq] at e2
        obtain ⟨⟨rfl, -, -⟩, -, rfl⟩ := e2
        have hsl := hT1.arr
        generalize w1.setCell ⟨t, 1, none⟩ (Value.slice (some ⟨g1, 0, none⟩) (xs.length + 1) cap1) = W at *
        have d1 := hT1.cells.2.1
        have d2 := hT1.thaw 1
        have Hs := Lib.hid hsl
        rw [List.length_append] at hcap1
        simp only [List.length_singleton] at hcap1
        unfold maxLen at hcm1
        have q1 : j ≤ xs.length + 1 := by omega
        have q2 : j + 1 ≤ xs.length + 1 := by omega
        have q3 : ¬ cap1 = j := by omega
        have q9 : (j : Int) + 1 ≤ (xs.length : Int) + 1 := by omega
        have q4 : ¬ cap1 = j + 1 := by omega
        have q10 : (j : Int) ≤ (xs.length : Int) + 1 := by omega
        have q5 : IntKind.i64.wrap ((j : Int) + 1) = (j : Int) + 1 := IntWalk.i64_in _ (by omega)
        have q6 : (0 : Int) ≤ (j : Int) + 1 := by omega
        have q7 : ((j : Int) + 1).toNat = j + 1 := by omega
        have q8 : xs.length - j = Nat.min (xs.length + 1 - j) (xs.length - j) := by show xs.length - j = min _ _; omega
        have Q8 := Lib.hid q8
        have r1 : j + 1 + (xs.length - j) ≤ (xs ++ [lnil]).length := by simp; omega
        have r2 : j + (xs.length - j) ≤ (xs ++ [lnil]).length := by simp; omega
        clear q8 hsl
        go_region_law (refine step_move_lv rfl (.tmp 52) (.tmp 58) rfl (Hs.out.of_heap fun _ _ => rfl) H1.out (j + 1) j _ _ _ _ (xs.length - j) rfl rfl Q8.out r1 r2 ?_; intro w2 hs1 hg1)
        all_goals
          obtain ⟨hT2, hU2⟩ := hT1.drew.row hs1 hg1
          have hml : (moved (xs ++ [lnil]) (j + 1) j (xs.length - j)).length = xs.length + 1 := by unfold moved; simp; omega
          obtain ⟨y, hy⟩ : ∃ y, (moved (xs ++ [lnil]) (j + 1) j (xs.length - j))[j]? = some y := ⟨(moved (xs ++ [lnil]) (j + 1) j (xs.length - j))[j]'(by rw [hml]; omega), by simp⟩
          obtain ⟨g2, cap2, e2, -, -, d3, d4⟩ := hs1.cell
          simp only [Value.slice.injEq, Option.some.injEq, Addr.mk.injEq] at e2
          obtain ⟨⟨rfl, -, -⟩, -, rfl⟩ := e2
          have p1 := hT2.cells.2.1
          have p2 := hT2.thaw 1
          have p5 := d3 j y hy
          have p6 := d4 j
          obtain ⟨hT3, hU3⟩ := hT2.setElem rfl j (.iface tv xv) (by rw [hml]; omega)
          rw [Hm.out, ← hins.out] at hT3
          have HT3 := Lib.hid hT3.at
          have HU : Hid (Upd F w _) := (hU1.drew.under hU2 fun k hk => hk).under hU3 fun k hk => hk
          clear hT1 hU1 hT2 hU2 hT3 hU3 hs1 hg1 hy d3 d4 d1 d2 q1 q2 q3 q4 q5 q6 q7 q9 q10 r1 r2 hml
          go_wp2
          go_end0
          exact ⟨rfl, HT3.out, HU.out⟩
end Go.Lua
