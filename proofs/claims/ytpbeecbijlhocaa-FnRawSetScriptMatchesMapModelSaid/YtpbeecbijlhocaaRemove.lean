/-
  Remove: the slot at a place is taken out; the last one for a place below 1; nothing beyond the end.
-/
import Derived.Test.YtpbeecbijlhocaaAppend
import Derived.Laws.CopyRow
import Derived.Laws.IdiomCopy
import Derived.Deep.RegionLaw
import Derived.IntWalk
namespace Go.Lua
open Go.Proofs Go.RowKit
set_option linter.unusedVariables false

/-- m slots from s on, laid over the slots from d on. -/
def moved (ys : List Value) (d s m : Nat) : List Value := ys.take d ++ (ys.drop s).take m ++ ys.drop (d + m)

theorem LvOk.one {v : Value} (h : LvOk v) : v.oneCell' = true := by
  rcases h with rfl | ⟨t, x, rfl, -⟩ <;> rfl

theorem lv_one : (Try.prog.info? 35).map (·.size) = some 1 := by kernel_rfl

theorem take_three {α : Type} {A B C : List α} {n : Nat} (h : A.length + B.length ≤ n) : (A ++ B ++ C).take n = A ++ B ++ C.take (n - (A.length + B.length)) := by
  rw [List.take_append, List.take_of_length_le (by simp; omega), List.length_append]

/-- 'copy(xs[d:], xs[s:])' within one row. -/
theorem run_move_lv {w : World} {g n cap : Nat} {ys : List Value} (h : SlAt w (.slice (some ⟨g, 0, none⟩) n cap) (some ys)) (hok : ∀ u ∈ ys, u.oneCell' = true) (d s dl sl dc sc m : Nat) (hm : m = Nat.min sl dl) (hd : d + m ≤ ys.length) (hs : s + m ≤ ys.length) (ty : TypeId) :
    ∃ w', (Builtin.copy_ #[60, 60] ty #[.slice (some ⟨g, d, none⟩) dl dc, .slice (some ⟨g, s, none⟩) sl sc]).run Try.prog w = .ok (goInt m) w' ∧
      SlAt w' (.slice (some ⟨g, 0, none⟩) n cap) (some (moved ys d s m)) ∧ w.grownBy w' (some g) := by
  obtain ⟨g', cap', cur, e, hg, h1, h2, h3, h4⟩ := h
  cases e
  have hcl : ((ys.drop s).take m).length = m := by simp; omega
  have hsrc : ∀ j v, ((ys.drop s).take m)[j]? = some v → w.cell? ((⟨g, s, none⟩ : Addr).add j) = some v := by
    intro j v hv
    rw [List.getElem?_take] at hv
    split at hv
    · rename_i hj
      rw [List.getElem?_drop, ← h4, List.getElem?_take] at hv
      split at hv
      · have hadd : (⟨g, s, none⟩ : Addr).add j = ⟨g, s + j, none⟩ := by unfold Addr.add; split <;> simp_all
        rw [hadd]
        simpa [World.cell?, hg] using hv
      · cases hv
    · cases hv
  have hr := run_copy_row (P := Try.prog) w 60 60 ty 35 g d dl dc ⟨g, s, none⟩ sl sc cur 35 ((ys.drop s).take m) Try.underlying60 lv_one hg (by rw [hcl, hm]) hsrc (by rw [hcl, h3]; omega) (fun v hv => hok v (List.mem_of_mem_drop (List.mem_of_mem_take hv)))
  rw [hcl] at hr
  have hml : (moved ys d s m).length = ys.length := by simp [moved]; omega
  refine ⟨_, hr, ⟨g, cap, _, by rw [hml], setRow_heap w g cur _ _ _ hg, by rw [hml]; exact h1, h2, ?_, ?_⟩, ⟨rfl, rfl, rfl, by simp [World.setRow], fun k _ hk => setRow_other w g k _ (fun e => hk (by rw [e]))⟩⟩
  · simp only [List.size_toArray, List.length_append, List.length_take, List.length_drop, Array.length_toList, hcl]
    omega
  · rw [hml]
    unfold moved
    have e1 : cur.toList.take d = ys.take d := by rw [← h4, List.take_take]; congr 1; omega
    have e2 : (cur.toList.drop (d + m)).take (ys.length - (d + m)) = ys.drop (d + m) := by
      conv => rhs; rw [← h4]
      rw [List.drop_take]
    have hdl : (ys.take d).length = d := by simp; omega
    rw [e1, take_three (by rw [hdl, hcl]; exact hd), hdl, hcl, e2]

theorem step_move_lv {ops : Array Oper} {o : Oper} {a : Act} {w : World} {K : Act → World → Prop} {Q : Exit → Act → World → Prop} {E : Prop} (hgd : o.guard = none) (x y : Operand)
    (ho : o.op = .call { callee := .builtin .copy, args := #[x, y], argTypes := #[60, 60] })
    {g n cap : Nat} {ys : List Value} (h : SlAt w (.slice (some ⟨g, 0, none⟩) n cap) (some ys)) (hok : ∀ u ∈ ys, u.oneCell' = true) (d s dl sl dc sc m : Nat) (hx : a.eval x = .slice (some ⟨g, d, none⟩) dl dc) (hy : a.eval y = .slice (some ⟨g, s, none⟩) sl sc)
    (hm : m = Nat.min sl dl) (hd : d + m ≤ ys.length) (hs : s + m ≤ ys.length)
    (hK : ∀ w', SlAt w' (.slice (some ⟨g, 0, none⟩) n cap) (some (moved ys d s m)) → w.grownBy w' (some g) → K (a.put o.dst (goInt m)) w') :
    if Region.wanted o (yielded ops a.tmps) = true then Oper.wp Try.prog o a w K Q else E := by
  have hw : Region.wanted o (yielded ops a.tmps) = true := by simp [Region.wanted, hgd]
  rw [if_pos hw]
  obtain ⟨w', hr, h2, h3⟩ := run_move_lv h hok d s dl sl dc sc m hm hd hs o.type
  unfold Oper.wp
  simp [execOp, ho, resolve, invoke, builtin, hx, hy, hr, Result.andThen]
  exact hK w' h2 h3

/-- The array's own row has turned, its header has not. -/
theorem TabV.row {w w' : World} {t : Nat} {T : Tab} {F : Nat → Prop} {va vd vs vk vi : Value} {ys : List Value} (h : TabV w t T F va vd vs vk vi) (hs : SlAt w' va (some ys)) (hg : w.grownBy w' (blk va)) :
    TabV w' t { T with arr := some ys } F va vd vs vk vi ∧ Upd F w w' := by
  have hne : ∀ k, k < w.heap.size → blk va ≠ some k → w'.heap[k]? = w.heap[k]? := fun k hk hn => hg.block k hk fun e => hn e.symm
  have hma : ∀ b es c, w.heap[b]? = some (.map es c) → blk va ≠ some b := fun b es c hx e => by
    obtain ⟨c2, e2, f2, hy⟩ := h.arr.is_cells e
    rw [hx] at hy; cases hy
  have hm : ∀ {IsK eq v o}, MpAt IsK eq w v o → MpAt IsK eq w' v o := fun {IsK eq v o} hm => hm.of_heap fun b hb => hne b (hm.lt b hb) (by obtain ⟨es, c, hx⟩ := hm.is_map hb; exact hma b es c hx)
  exact ⟨{ h with
    head := (hne t h.lt h.ta).trans h.head
    arr := hs
    dict := hm h.dict
    sdict := hm h.sdict
    keys := h.keys.of_heap fun b hb => hne b (h.keys.lt b hb) fun e => h.ak b e hb
    k2i := hm h.k2i }, Upd.of_grownBy hg fun k hk => h.fa k hk⟩

/-- A shorter header over the same row. -/
theorem SlAt.cut {w : World} {g n cap : Nat} {xs : List Value} (h : SlAt w (.slice (some ⟨g, 0, none⟩) n cap) (some xs)) (k : Nat) (hk : k ≤ xs.length) : SlAt w (.slice (some ⟨g, 0, none⟩) k cap) (some (xs.take k)) := by
  obtain ⟨g', cap', cur, e, hg, h1, h2, h3, h4⟩ := h
  cases e
  have hl : (xs.take k).length = k := by simp; omega
  refine ⟨g, cap, cur, by rw [hl], hg, by rw [hl]; omega, h2, h3, ?_⟩
  rw [hl, ← h4, List.take_take]
  congr 1
  omega

theorem TabV.cutArr {w : World} {t : Nat} {T : Tab} {F : Nat → Prop} {g n cap : Nat} {vd vs vk vi : Value} {xs l2 : List Value} (h : TabV w t T F (.slice (some ⟨g, 0, none⟩) n cap) vd vs vk vi) (hx : T.arr = some xs) (k : Nat) (hk : k ≤ xs.length) (hl : xs.take k = l2) :
    TabV (w.setCell ⟨t, 1, none⟩ (.slice (some ⟨g, 0, none⟩) k cap)) t { T with arr := some l2 } F (.slice (some ⟨g, 0, none⟩) k cap) vd vs vk vi ∧ Upd F w (w.setCell ⟨t, 1, none⟩ (.slice (some ⟨g, 0, none⟩) k cap)) := by
  subst hl
  have ha := h.arr
  rw [hx] at ha
  exact ⟨h.storeArr (ha.cut k hk) h.fa h.ta h.ak, (Upd.refl F w).setCell (.inl h.ft) _⟩

theorem moved_cut {xs : List Value} {i n : Nat} (hn : xs.length = n + 1) (hi : i < n) {u : Value} : ((moved xs i (i + 1) (n - i)).set n u).take n = xs.eraseIdx i := by
  rw [List.take_set_of_le (Nat.le_refl n), List.eraseIdx_eq_take_drop_succ]
  unfold moved
  have h1 : (xs.take i).length = i := by simp; omega
  have h2 : ((xs.drop (i + 1)).take (n - i)).length = n - i := by simp; omega
  have h3 : (xs.take i ++ (xs.drop (i + 1)).take (n - i)).length = n := by rw [List.length_append, h1, h2]; omega
  rw [List.take_left' h3]
  congr 1
  exact List.take_of_length_le (by simp; omega)

/-- What Remove hands back, and what it leaves. -/
def removeAt (xs : List Value) (pos : Int) : Value × List Value :=
  if xs = [] ∨ pos = -9223372036854775808 ∨ (xs.length : Int) < pos then (lnil, xs)
  else if pos < 1 ∨ pos = xs.length then (xs.getLastD lnil, xs.dropLast)
  else ((xs[pos.toNat - 1]?).getD lnil, xs.eraseIdx (pos.toNat - 1))

/-- It returns u; the table holds T'; nothing else has turned. -/
def GivesTo (F : Nat → Prop) (w : World) (t : Nat) (u : Value) (T' : Tab) (e : Ending) (w' : World) : Prop := e = .returned u ∧ TabAt w' t T' (Fw F w) ∧ Upd F w w'

set_option maxHeartbeats 400000 in
theorem remove_none (w : World) (t : Nat) (T : Tab) (F : Nat → Prop) (h : TabAt w t T F) (hx : T.arr.getD [] = []) (pos : Int) (hp : Is64 pos) :
    Calls Try.prog 22 #[.pointer (some ⟨t, 0, none⟩), .int .i64 pos] w (GivesTo F w t lnil T) := by
  obtain ⟨va, vd, vs, vk, vi, hT⟩ := h
  have c1 := hT.cells.2.1
  have hsl := hT.arr
  have hTT := (hT.mono fun k _ hk => (Fw.of hk : Fw F w k)).at
  cases ha : T.arr with
  | none =>
    rw [ha] at hsl
    obtain rfl : va = .slice none 0 0 := hsl
    clear hx ha hT
    go_enter Try.func22, Try.ntmps22
    go_wp2
    go_ret
    exact ⟨rfl, hTT, Upd.refl F w⟩
  | some xs =>
    rw [ha] at hsl hx
    obtain rfl : xs = [] := hx
    obtain ⟨g, cap, rfl, hcap, hcm, hcell, hfr⟩ := hsl.cell
    clear ha hT hsl hcell hfr
    go_enter Try.func22, Try.ntmps22
    go_wp2
    go_ret
    exact ⟨rfl, hTT, Upd.refl F w⟩

set_option maxHeartbeats 1000000 in
theorem remove_some (w : World) (t : Nat) (T : Tab) (F : Nat → Prop) (xs : List Value) (h : TabAt w t T F) (hx : T.arr = some xs) (hne : xs ≠ []) (hok : ∀ u ∈ xs, LvOk u) (pos : Int) (hp : Is64 pos) :
    Calls Try.prog 22 #[.pointer (some ⟨t, 0, none⟩), .int .i64 pos] w (GivesTo F w t (removeAt xs pos).1 { T with arr := some (removeAt xs pos).2 }) := by
  obtain ⟨va, vd, vs, vk, vi, hT⟩ := h
  obtain ⟨mt, arr, dict, sdict, keys, k2i⟩ := T
  obtain rfl : arr = some xs := hx
  obtain ⟨hp1, hp2⟩ := hp
  have c1 := hT.cells.2.1
  have f1 := hT.thaw 1
  have hsl := hT.arr
  have hlt := hT.lt
  obtain ⟨g, cap, rfl, hcap, hcm, hcell, hfr⟩ := hsl.cell
  obtain ⟨n, hn⟩ : ∃ n, xs.length = n + 1 := ⟨xs.length - 1, by have := List.length_pos_iff.2 hne; omega⟩
  have Hc := Lib.hid hcell
  have Ho := Lib.hid hok
  have Hf := Lib.hid hfr
  have Hs := Lib.hid hsl
  have hne0 : ((xs.length : Int) == 0) = false := beq_false_of_ne (by omega)
  have hxl : (xs.length : Int) ≤ 9223372036854775807 := by unfold maxLen at hcm; omega
  have hq : (xs.length : Int) - 1 = n := by omega
  have Hn := Lib.hid hn
  have Hne := Lib.hid hne
  clear hcell hok hfr hsl hcm hn hne
  by_cases h1 : pos = -9223372036854775808 ∨ (xs.length : Int) < pos
  · have hr : removeAt xs pos = (lnil, xs) := by unfold removeAt; rw [if_pos (.inr h1)]
    rw [hr]
    have hTT := (hT.mono fun k _ hk => (Fw.of hk : Fw F w k)).at
    rcases h1 with rfl | h1
    · have hw : wrap64 (-9223372036854775809) = 9223372036854775807 := by kernel_rfl
      go_enter Try.func22, Try.ntmps22
      go_wp2
      go_ret
      exact ⟨rfl, hTT, Upd.refl F w⟩
    · go_enter Try.func22, Try.ntmps22
      go_wp2
      go_ret
      exact ⟨rfl, hTT, Upd.refl F w⟩
  · have h2 : pos ≠ -9223372036854775808 := fun e => h1 (.inl e)
    have h3 : pos ≤ xs.length := by omega
    clear h1
    by_cases h4 : pos < 1 ∨ pos = xs.length
    · have hr : removeAt xs pos = (xs.getLastD lnil, xs.dropLast) := by
        unfold removeAt
        rw [if_neg (by rintro (e | e | e); exact Hne.out e; exact h2 e; omega), if_pos h4]
      rw [hr]
      obtain ⟨u, hu⟩ : ∃ u, xs[n]? = some u := ⟨xs[n]'(by have := Hn.out; omega), by simp⟩
      have hic := Hc.out n u hu
      have hlast : xs.getLastD lnil = u := by
        rw [List.getLastD_eq_getLast?, List.getLast?_eq_getElem?, Hn.out]
        simp [hu]
      rw [hlast]
      have Fin := Lib.hid ((hT.mono fun k _ hk => (Fw.of hk : Fw F w k)).cutArr rfl n (by have := Hn.out; omega) (l2 := xs.dropLast) (by rw [List.dropLast_eq_take, Hn.out]; rfl))
      have Fin2 := Lib.hid (hT.cutArr rfl n (by have := Hn.out; omega) (l2 := xs.dropLast) (by rw [List.dropLast_eq_take, Hn.out]; rfl))
      have hnc : (n : Int) ≤ cap := by omega
      clear hu hlast hr
      rcases h4 with h4 | h4
      · have h5 : ¬ pos - 1 = n := by omega
        go_enter Try.func22, Try.ntmps22
        go_wp2
        go_ret
        exact ⟨rfl, Fin.out.1.at, Fin2.out.2⟩
      · have h5 : pos - 1 = n := by omega
        clear h4
        go_enter Try.func22, Try.ntmps22
        go_wp2
        go_ret
        exact ⟨rfl, Fin.out.1.at, Fin2.out.2⟩
    · obtain ⟨i, hi⟩ : ∃ i : Nat, pos - 1 = i := ⟨(pos - 1).toNat, by omega⟩
      have hin : i < n := by omega
      have hr : removeAt xs pos = ((xs[i]?).getD lnil, xs.eraseIdx i) := by
        unfold removeAt
        rw [if_neg (by rintro (e | e | e); exact Hne.out e; exact h2 e; omega), if_neg h4]
        have e : pos.toNat - 1 = i := by omega
        rw [e]
      rw [hr]
      obtain ⟨u, hu⟩ : ∃ u, xs[i]? = some u := ⟨xs[i]'(by have := Hn.out; omega), by simp⟩
      have hic := Hc.out i u hu
      have hlast : (xs[i]?).getD lnil = u := by rw [hu]; rfl
      rw [hlast]
      have hne1 : ((i : Int) == (n : Int)) = false := beq_false_of_ne (by omega)
      clear hu hlast hr h4 h2
      have H1 : Hid (∀ u ∈ xs, u.oneCell' = true) := fun u hu => (Ho.out u hu).one
      have hnn := Hn.out
      have q1 : i ≤ xs.length := by omega
      have q2 : i + 1 ≤ xs.length := by omega
      have q3 : ¬ cap = i := by omega
      have q9 : (i : Int) + 1 ≤ (xs.length : Int) := by omega
      have q4 : ¬ cap = i + 1 := by omega
      have q5 : IntKind.i64.wrap ((i : Int) + 1) = (i : Int) + 1 := IntWalk.i64_in _ (by omega)
      have q6 : (0 : Int) ≤ (i : Int) + 1 := by omega
      have q7 : ((i : Int) + 1).toNat = i + 1 := by omega
      have q8 : n - i = Nat.min (xs.length - (i + 1)) (xs.length - i) := by show n - i = min (xs.length - (i + 1)) (xs.length - i); omega
      have Q8 := Lib.hid q8
      have r1 : i + (n - i) ≤ xs.length := by omega
      have r2 : i + 1 + (n - i) ≤ xs.length := by omega
      clear hnn q8
      go_enter Try.func22, Try.ntmps22
      go_wp2
      go_region_law (refine step_move_lv rfl (.tmp 37) (.tmp 44) rfl (Hs.out.of_heap fun _ _ => rfl) H1.out i (i + 1) _ _ _ _ (n - i) rfl rfl Q8.out r1 r2 ?_; intro w1 hs1 hg1)
      all_goals
        obtain ⟨hT1, hU1⟩ := hT.drew.row hs1 hg1
        have hml : (moved xs i (i + 1) (n - i)).length = xs.length := by unfold moved; simp; omega
        obtain ⟨y, hy⟩ : ∃ y, (moved xs i (i + 1) (n - i))[n]? = some y := ⟨(moved xs i (i + 1) (n - i))[n]'(by rw [hml, Hn.out]; omega), by simp⟩
        have d1 := hT1.cells.2.1
        have d2 := hT1.thaw 1
        obtain ⟨g2, cap2, e2, -, -, d3, d4⟩ := hs1.cell
        simp only [Value.slice.injEq, Option.some.injEq, Addr.mk.injEq] at e2
        obtain ⟨⟨rfl, -, -⟩, -, rfl⟩ := e2
        have d5 := d3 n y hy
        have d6 := d4 n
        have hgt : g ≠ t := fun e => hT.ta (by rw [e]; rfl)
        obtain ⟨hT2, hU2⟩ := hT1.setElem rfl n .nilIface (by rw [hml, Hn.out]; omega)
        obtain ⟨hT3, hU3⟩ := hT2.cutArr rfl n (by rw [List.length_set, hml, Hn.out]; omega) (l2 := xs.eraseIdx i) (moved_cut (by have := Hn.out; omega) (by have := Hn.out; omega))
        have HT3 := Lib.hid hT3
        have HU : Hid (Upd F w _) := (((Upd.refl F w).drew).trans (hU1.mono fun k _ hk => .inl hk)).trans (((hU2.mono fun k _ hk => Fw.of hk).trans (hU3.mono fun k _ hk => .inl (.inl hk))))
        clear hT1 hU1 hy d3 d4 hT2 hU2 hT3 hU3 hs1 hg1 q1 q2 q3 q4 q5 q6 q7 q9 r1 r2 hml
        go_wp2
        go_ret
        exact ⟨rfl, (HT3.out.mono fun k _ hk => Fw.of hk).at, HU.out⟩

theorem remove_any (w : World) (t : Nat) (T : Tab) (F : Nat → Prop) (h : TabAt w t T F) (hok : ∀ u ∈ T.arr.getD [], LvOk u) (pos : Int) (hp : Is64 pos) :
    Calls Try.prog 22 #[.pointer (some ⟨t, 0, none⟩), .int .i64 pos] w fun e w' => ∃ o, o.getD [] = (removeAt (T.arr.getD []) pos).2 ∧ GivesTo F w t (removeAt (T.arr.getD []) pos).1 { T with arr := o } e w' := by
  by_cases hx : T.arr.getD [] = []
  · refine (remove_none w t T F h hx pos hp).mono fun e w' q => ⟨T.arr, ?_, ?_⟩
    · rw [hx]; rfl
    · have : removeAt (T.arr.getD []) pos = (lnil, []) := by rw [hx]; rfl
      rw [this]
      exact q
  · cases ha : T.arr with
    | none => rw [ha] at hx; exact absurd rfl hx
    | some xs =>
      rw [ha] at hx hok
      exact (remove_some w t T F xs h ha hx hok pos hp).mono fun e w' q => ⟨_, rfl, q⟩
end Go.Lua
