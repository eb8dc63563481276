/-
  n005_73: the statements' own list model: zzModelAppend, zzModelInsert, zzModel.
-/
import Derived.Test.YtcnjdmbcofodnaaModel2
namespace Go.Lua
open Go.Proofs Go.RowKit
set_option linter.unusedVariables false

set_option maxHeartbeats 400000 in
theorem modelAppend_any (w : World) (v : Value) (ms : List Int) (hs : IsInts .i32 w v ms) (hl : ms.length ≤ 900000) (x : Int) (hx : -2147483648 ≤ x ∧ x ≤ 2147483647) :
    Calls Try.prog 54 #[v, .int .i32 x] w (ModTo w (appM ms x)) := by
  have CB := Lib.hid (border_any w v ms hs (by omega))
  have hb := bord_le ms
  have CS := Lib.hid (setAt_model w v ms hs (by omega) ((bord ms : Int) + 1) (by omega) x hx)
  rw [show ((bord ms : Int) + 1).toNat - 1 = bord ms by omega] at CS
  have HS := Lib.hid hs
  obtain ⟨p, c, rfl, hc, m, hn, g⟩ := hs.1.form
  simp only [List.length_map] at *
  clear hs hn g
  by_cases h0 : x = 0
  · subst h0
    have HA : Hid (appM ms 0 = ms) := Lib.hid (if_pos rfl)
    go_enter Try.func54, Try.ntmps54
    go_wp2_with fail
    go_ret
    exact ⟨_, rfl, HA.out.symm ▸ HS.out, Upd.refl _ _⟩
  · have hx0 : (x == 0) = false := beq_false_of_ne h0
    have HA : Hid (appM ms x = setM ms (bord ms) x) := Lib.hid (if_neg h0)
    clear h0
    go_enter Try.func54, Try.ntmps54
    go_wp2_with (first
      | (go_at_call 23; refine CB.out.mono ?_; rintro e w1 ⟨rfl, rfl⟩)
      | (go_at_call 67; refine CS.out.mono ?_; rintro e w1 ⟨v', rfl, h1, h2⟩))
    go_ret
    exact ⟨_, rfl, HA.out.symm ▸ h1, h2⟩

theorem i32Info : (Try.prog.info? 21).map (fun i => (i.zero, i.size, i.bytes)) = some (some (.int .i32 0), 1, 4) := by kernel_rfl

/-- 'append(out, u)' where there is room: the row's next place is stored. -/
theorem run_append_32 {w : World} {b q : Nat} {cs : List Value} (h : RowAt w b 21 cs) (hq : q < cs.length) {a : Addr} {c : Nat} {u : Value} (hu : w.cell? a = some u) (h1 : u.oneCell' = true) (ty : TypeId) :
    ∃ w', (Builtin.append_ #[24, 24] ty #[.slice (some ⟨b, 0, none⟩) q cs.length, .slice (some a) 1 c]).run Try.prog w = .ok (.slice (some ⟨b, 0, none⟩) (q + 1) cs.length) w' ∧ RowAt w' b 21 (cs.set q u) ∧ Upd (fun k => k = b) w w' := by
  obtain ⟨i, hi, hz, hs, hby⟩ : ∃ i, Try.prog.info? 21 = some i ∧ i.zero = some (.int .i32 0) ∧ i.size = 1 ∧ i.bytes = 4 := by simpa using i32Info
  have hnews : ∀ j x, [u][j]? = some x → w.cell? (a.add j) = some x := by
    intro j x hx
    cases j with
    | zero => simp at hx; subst hx; simpa [Addr.add] using hu
    | succ j => simp at hx
  have hln : [u].length = 1 * i.size := by rw [hs]; rfl
  have hr := run_append_room (P := Try.prog) w 24 ty 21 i Try.underlying24 hi b q cs.length cs.toArray h a 1 c [u] hln hnews (by simpa using h1) (by omega) (by rw [hs]; simp; omega)
  refine ⟨_, hr, ?_, ⟨rfl, rfl, rfl, by simp [World.setRow], fun k _ hk => setRow_other w b k _ hk⟩⟩
  unfold RowAt
  rw [setRow_heap w b cs.toArray _ _ _ h, hs]
  congr 2
  simp only [Nat.mul_one, List.length_singleton, List.append_assoc, List.singleton_append]
  rw [List.set_eq_take_append_cons_drop, if_pos hq]

theorem wpList_append_32 {w : World} {ops : Array Oper} {rest : List Oper} {o : Oper} {a : Act} {Q : Exit → Act → World → Prop} (hgd : o.guard = none) (s x : Operand)
    (ho : o.op = .call { callee := .builtin .append, args := #[s, x], argTypes := #[24, 24] })
    (b q cap : Nat) (cs : List Value) (hcap : cs.length = cap) (hs : a.eval s = .slice (some ⟨b, 0, none⟩) q cap) (h : RowAt w b 21 cs) (hq : q < cap) (ad : Addr) (c : Nat) (u : Value) (hx : a.eval x = .slice (some ad) 1 c) (hu : w.cell? ad = some u) (h1 : u.oneCell' = true)
    (hK : ∀ w', RowAt w' b 21 (cs.set q u) → Upd (fun k => k = b) w w' →
      wpList Try.prog ops Q rest (a.put o.dst (.slice (some ⟨b, 0, none⟩) (q + 1) cap)) w') : wpList Try.prog ops Q (o :: rest) a w := by
  subst hcap
  refine wpList_plain hgd fun K hK' => ?_
  obtain ⟨w', hr, h2, h3⟩ := run_append_32 h hq (c := c) hu h1 o.type
  unfold Oper.wp execOp
  simp only [ho, resolve, invoke, builtin, Sem.run_bind, Sem.run_pure, Result.andThen_ok, List.map_toArray, List.map_cons, List.map_nil, hs, hx, hr]
  exact hK' _ _ (hK w' h2 h3)
theorem partly_length {xs : List Value} {z : Value} {j : Nat} (h : j ≤ xs.length) : (partly xs z j).length = xs.length := by simp [partly]; omega
theorem RowAt.alloc {w : World} {b : Nat} {e : TypeId} {cs : List Value} (h : RowAt w b e cs) (o : Obj) : RowAt (w.alloc o) b e cs := h.of_heap (Below.heap_alloc w o b h.lt)
theorem Upd.row {w wr w' : World} {b : Nat} (h : Upd (fun _ => False) w wr) (o : Obj) (k : Upd (fun k => k = b) (wr.alloc o) w') (hb : w.heap.size ≤ b) : Upd (fun _ => False) w w' := (h.alloc o).under k fun i hi => by subst hi; exact .inr hb

theorem made32_cap (n : Int) (h0 : 0 ≤ n) (h1 : n ≤ 4398046511104) (w : World) : (Instr.makeSlice 24 (.int .i64 0) (.int .i64 n)).run Try.prog w = .ok (.slice (some ⟨w.heap.size, 0, none⟩) 0 n.toNat) (w.alloc (.cells (madeCells #[.int .i32 0] n.toNat) 21)) := by
  obtain ⟨i, hi, hz, hs, hby⟩ : ∃ i, Try.prog.info? 21 = some i ∧ i.zero = some (.int .i32 0) ∧ i.size = 1 ∧ i.bytes = 4 := by simpa using i32Info
  have := run_make (P := Try.prog) w 24 21 i (.int .i32 0) Try.underlying24 hi hz .i64 .i64 0 n (Int.le_refl _) h0 (by rw [hby]; omega) (by omega)
  rw [hs, Nat.mul_one] at this
  exact this

def InsW (w : World) (b N d : Nat) (ys : List Value) (lo hi : Nat) (out k : Value) (wr : World) : Prop :=
  ∃ q : Nat, lo ≤ q ∧ q ≤ hi ∧ k = .int .i64 q ∧ out = .slice (some ⟨b, 0, none⟩) (q + d) N ∧ RowAt wr b 21 (partly ys (.int .i32 0) (q + d)) ∧ Upd (fun _ => False) w wr

set_option maxHeartbeats 2000000 in
theorem modelInsert_any (w : World) (v : Value) (ms : List Int) (hs : IsInts .i32 w v ms) (hl : ms.length ≤ 900000) (i : Int) (hi : -900000 ≤ i ∧ i ≤ 900000) (x : Int) (hx : -2147483648 ≤ x ∧ x ≤ 2147483647) :
    Calls Try.prog 55 #[v, .int .i64 i, .int .i32 x] w (ModTo w (insM ms i x)) := by
  have HS := Lib.hid hs
  by_cases h1 : i ≤ 0
  · have HA : Hid (insM ms i x = ms) := Lib.hid (by unfold insM; rw [if_pos h1])
    obtain ⟨p, c, rfl, hc, m, hn, g⟩ := hs.1.form
    simp only [List.length_map] at *
    clear hs hn g
    go_enter Try.func55, Try.ntmps55
    go_wp2_with fail
    go_ret
    exact ⟨_, rfl, HA.out.symm ▸ HS.out, Upd.refl _ _⟩
  by_cases h2 : (ms.length : Int) < i
  · have HA : Hid (insM ms i x = setM ms (i.toNat - 1) x) := Lib.hid (by unfold insM; rw [if_neg h1, if_pos h2])
    have CS := Lib.hid (setAt_model w v ms hs (by omega) i (by omega) x hx)
    obtain ⟨p, c, rfl, hc, m, hn, g⟩ := hs.1.form
    simp only [List.length_map] at *
    clear hs hn g
    go_enter Try.func55, Try.ntmps55
    go_wp2_with (first
      | (go_at_call 67; refine CS.out.mono ?_; rintro e w1 ⟨v', rfl, g1, g2⟩))
    go_ret
    exact ⟨_, rfl, HA.out.symm ▸ g1, g2⟩
  obtain ⟨j, hj⟩ : ∃ j : Nat, i - 1 = j := ⟨(i - 1).toNat, by omega⟩
  have hij : i.toNat - 1 = j := by omega
  have HA : Hid (insM ms i x = ms.take j ++ x :: ms.drop j) := Lib.hid (by unfold insM; rw [if_neg h1, if_neg h2, hij])
  have hwf : Hid (∀ z ∈ insM ms i x, (Lit.int .i32 z).wf = true) := Lib.hid (wf32 (insM_fit (fit32 hs.2) i x hx))
  obtain ⟨p, c, rfl, hc, m, hn, g⟩ := hs.1.form
  simp only [List.length_map] at *
  unfold maxLen at m
  have G := Lib.hid g
  clear hs hn g hij
  have hjl : j < ms.length := by omega
  obtain ⟨ys, hys⟩ : ∃ ys, ys = vals32 (ms.take j ++ x :: ms.drop j) := ⟨_, rfl⟩
  have hyl : ys.length = ms.length + 1 := by rw [hys]; unfold vals32; simp; omega
  have y1 : Hid (∀ (q : Nat) z, q < j → ms[q]? = some z → ys[q]? = some (.int .i32 z)) := by
    refine Lib.hid fun q z hq hz => ?_
    rw [hys]; unfold vals32
    rw [List.getElem?_map, List.getElem?_append_left (by simp; omega), List.getElem?_take, if_pos hq, hz]; rfl
  have y2 : Hid (ys[j]? = some (.int .i32 x)) := by
    refine Lib.hid ?_
    rw [hys]; unfold vals32
    rw [List.getElem?_map, List.getElem?_append_right (by simp; omega)]
    simp [Nat.min_eq_left (Nat.le_of_lt hjl)]
  have y3 : Hid (∀ (q : Nat) z, j ≤ q → ms[q]? = some z → ys[q + 1]? = some (.int .i32 z)) := by
    refine Lib.hid fun q z hq hz => ?_
    rw [hys]; unfold vals32
    rw [List.getElem?_map, List.getElem?_append_right (by simp; omega)]
    have e4 : (ms.take j).length = j := by simp; omega
    rw [e4, show q + 1 - j = (q - j) + 1 by omega, List.getElem?_cons_succ, List.getElem?_drop, show j + (q - j) = q by omega, hz]; rfl
  have HY := Lib.hid hys
  have HL := Lib.hid hyl
  have hm := made32_cap ((ms.length : Int) + 1) (by omega) (by omega)
  rw [show ((ms.length : Int) + 1).toNat = ms.length + 1 by omega] at hm
  clear hys hyl
  go_enter Try.func55, Try.ntmps55
  go_wp2_with (simp only [hm])
  go_loopw [7, 8] (InsW w w.heap.size (ms.length + 1) 0 ys 0 j) (fun _ k _ => ((j : Int) - intOf k).toNat)
  case atStart => exact ⟨0, Nat.le_refl _, Nat.zero_le _, rfl, rfl, by rw [partly_zero, HL.out]; exact RowAt.new w _ _ _, (Upd.refl _ w).alloc _⟩
  case round =>
    clear hm
    obtain ⟨q, -, hq, rfl, rfl, hr, hu⟩ := hrel
    have hpl := Lib.hid ((partly_length (z := .int .i32 0) (show q ≤ ys.length by rw [HL.out]; omega)).trans HL.out)
    by_cases hlt : (q : Int) < j
    · obtain ⟨z, hz⟩ : ∃ z, ms[q]? = some z := ⟨ms[q]'(by omega), by simp⟩
      obtain ⟨a, rfl, hcell⟩ := G.out q (.int .i32 z) (by simp [hz])
      have hc2 := old_cell hu hcell
      have hyz := Lib.hid (y1.out q z (by omega) hz)
      have hqm : (q : Int) < ms.length := by omega
      have HR := Lib.hid hr
      have Hu := Lib.hid hu
      clear hr hu hcell hz
      go_wp2_with (at_builtin; go_must (refine wpList_append_32 rfl _ _ rfl w.heap.size q (ms.length + 1) _ hpl.out rfl (HR.out.alloc _) (by omega) _ _ (.int .i32 z) rfl (cell_new_of (by simp)) rfl ?_); intro w1 hr1 hu1)
      go_roundw
      case rel => exact ⟨q + 1, Nat.zero_le _, by omega, by go_num, rfl, by have q1 := hr1; rw [partly_set _ hyz.out] at q1; exact q1, Hu.out.row _ hu1 (Nat.le_refl _)⟩
      case measure => exact meas (by omega)
    · have hqj : q = j := by omega
      subst hqj
      have HR := Lib.hid hr
      have Hu := Lib.hid hu
      clear hr hu
      go_wp2_with (at_builtin; go_must (refine wpList_append_32 rfl _ _ rfl w.heap.size q (ms.length + 1) _ hpl.out rfl (HR.out.alloc _) (by omega) _ _ (.int .i32 x) rfl (cell_new_of (by simp)) rfl ?_); intro w1 hr1 hu1)
      have hu2 := Hu.out.row _ hu1 (Nat.le_refl _)
      rw [partly_set _ y2.out] at hr1
      clear HR Hu hpl hu1
      go_loopw [7, 9] (InsW w w.heap.size (ms.length + 1) 1 ys q ms.length) (fun _ k _ => ((ms.length : Int) - intOf k).toNat)
      case atStart => exact ⟨q, Nat.le_refl _, by omega, rfl, rfl, hr1, hu2⟩
      case round =>
        clear hr1 hu2
        obtain ⟨r, hqr, hrl, rfl, rfl, hr, hu⟩ := hrel
        have hpl := Lib.hid ((partly_length (z := .int .i32 0) (show r + 1 ≤ ys.length by rw [HL.out]; omega)).trans HL.out)
        by_cases hlt2 : (r : Int) < ms.length
        · obtain ⟨z, hz⟩ : ∃ z, ms[r]? = some z := ⟨ms[r]'(by omega), by simp⟩
          obtain ⟨a, rfl, hcell⟩ := G.out r (.int .i32 z) (by simp [hz])
          have hc2 := old_cell hu hcell
          have hyz := Lib.hid (y3.out r z hqr hz)
          have HR := Lib.hid hr
          have Hu := Lib.hid hu
          clear hr hu hcell hz
          go_wp2_with (at_builtin; go_must (refine wpList_append_32 rfl _ _ rfl w.heap.size (r + 1) (ms.length + 1) _ hpl.out rfl (HR.out.alloc _) (by omega) _ _ (.int .i32 z) rfl (cell_new_of (by simp)) rfl ?_); intro w2 hr2 hu2)
          go_roundw
          case rel => exact ⟨r + 1, by omega, by omega, by go_num, rfl, by have q1 := hr2; rw [partly_set _ hyz.out] at q1; exact q1, Hu.out.row _ hu2 (Nat.le_refl _)⟩
          case measure => exact meas (by omega)
        · have hre : r = ms.length := by omega
          subst hre
          have hp := partly_full ys (.int .i32 0)
          rw [HL.out] at hp
          rw [hp] at hr
          have hfin := hr.isSl HL.out (by unfold maxLen; omega)
          rw [HY.out] at hfin
          have HF := Lib.hid hfin
          have Hu := Lib.hid hu
          clear hr hu hp hfin
          go_wp2_with fail
          go_ret
          refine ⟨_, rfl, ⟨?_, hwf.out⟩, Hu.out⟩
          rw [HA.out]
          exact HF.out
end Go.Lua
