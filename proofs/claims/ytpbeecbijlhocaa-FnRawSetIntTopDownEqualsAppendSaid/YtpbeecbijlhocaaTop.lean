/-
  n005_156: FnRawSetIntTopDownEqualsAppend.
-/
import Derived.Test.YtpbeecbijlhocaaFill
namespace Go.Lua
open Go.Proofs Go.RowKit
set_option linter.unusedVariables false

set_option maxHeartbeats 1000000 in
theorem bytes_top (w : World) (p : Option Addr) (n c : Nat) (h : n ≤ maxLen) : Calls Try.prog 26 #[.slice p n c] w (Yn w) := by
  unfold maxLen at h
  go_enter Try.func26, Try.ntmps26
  go_wp2
  all_goals (go_ret; first | exact ⟨rfl, .inl rfl⟩ | exact ⟨rfl, .inr rfl⟩)

/-- The slots behind i hold the list's. -/
structure Td (xs : List Int) (i : Nat) (T : Tab) : Prop where
  ok : Ok T 0
  av : ∀ k : Int, T.av k = if (i : Int) < k then val (atM xs k) else lnil
theorem Td.start (xs : List Int) : Td xs xs.length (newTab 0 0) := ⟨Ok.new 0 0, fun k => by
  rw [av_new]
  split
  · rename_i h
    rw [atM_far h]; rfl
  · rfl⟩
theorem Td.next {xs : List Int} {i : Nat} {T : Tab} (h : Td xs (i + 1) T) {x : Int} (hx : xs[i]? = some x) (hi : i < 65536) : Td xs i (T.setArr ((i : Int) + 1) (val x)) := by
  refine ⟨h.ok.setArr _ (by omega) (lvOk_val _), fun k => ?_⟩
  rw [av_setArr _ _ (by omega), h.av]
  by_cases hk : k = (i : Int) + 1
  · rw [if_pos hk, if_pos (by omega), hk, atM_succ hx]
  · rw [if_neg hk]
    by_cases h2 : (i : Int) + 1 < k
    · rw [if_pos (by omega), if_pos (by omega)]
    · rw [if_neg (by omega), if_neg (by omega)]
/-- The table reads as the list. -/
structure Full (xs : List Int) (T : Tab) : Prop where
  ok : Ok T 0
  av : ∀ k : Int, T.av k = val (atM xs k)
theorem Td.full {xs : List Int} {T : Tab} (h : Td xs 0 T) : Full xs T := ⟨h.ok, fun k => by
  rw [h.av]
  split
  · rfl
  · rw [atM_low _ (by omega)]; rfl⟩
theorem val_ne {v : Int} (h : v ≠ 0) : val v ≠ lnil := by
  rw [val_num h]
  intro e
  injection e with e1 e2
  revert e1
  decide
def NoZero (xs : List Int) (j : Nat) : Prop := ∀ u ∈ xs.take j, u ≠ 0
theorem NoZero.next {xs : List Int} {j : Nat} {x : Int} (h : NoZero xs j) (hx : xs[j]? = some x) (h0 : x ≠ 0) : NoZero xs (j + 1) := by
  obtain ⟨hj, rfl⟩ := List.getElem?_eq_some_iff.1 hx
  intro u hu
  rw [List.take_succ_eq_append_getElem hj] at hu
  rcases List.mem_append.1 hu with hu | hu
  · exact h u hu
  · rw [List.mem_singleton.1 hu]; exact h0
theorem NoZero.at {xs : List Int} (h : NoZero xs xs.length) {j : Nat} {x : Int} (hx : xs[j]? = some x) : x ≠ 0 :=
  h x (by rw [List.take_length]; exact List.mem_of_getElem? hx)
theorem Full.border {xs : List Int} {T : Tab} (h : Full xs T) (hz : NoZero xs xs.length) : border (T.arr.getD []) = xs.length := by
  refine h.ok.border (fun k hk => by rw [h.av, atM_far hk]; rfl) ?_
  by_cases h0 : xs.length = 0
  · exact .inl h0
  · right
    rw [h.av]
    obtain ⟨x, hx⟩ : ∃ x, xs[xs.length - 1]? = some x := ⟨xs[xs.length - 1]'(by omega), by simp⟩
    have := atM_succ hx
    rw [show ((xs.length - 1 : Nat) : Int) + 1 = (xs.length : Int) by omega] at this
    rw [this]
    exact val_ne (hz.at hx)
theorem Fl.append {xs : List Int} {j : Nat} {T : Tab} (h : Fl xs j T) (hz : NoZero xs xs.length) (hj : j ≤ xs.length) (v : Value) : ({ T with arr := some (appendTo (T.arr.getD []) v) } : Tab) = T.setArr ((j : Int) + 1) v := by
  have hb : Go.Lua.border (T.arr.getD []) = j := by
    rw [h.arr, border_vals]
    have hl : (xs.take j).length = j := by simp; omega
    refine bord_is (fun k hk => atM_far (by omega)) ?_
    by_cases h0 : j = 0
    · exact .inl h0
    · right
      obtain ⟨x, hx⟩ : ∃ x, xs[j - 1]? = some x := ⟨xs[j - 1]'(by omega), by simp⟩
      have := atM_succ (xs := xs.take j) (j := j - 1) (x := x) (by rw [List.getElem?_take, if_pos (by omega)]; exact hx)
      rw [show ((j - 1 : Nat) : Int) + 1 = (j : Int) by omega] at this
      rw [this]
      exact hz.at hx
  unfold appendTo Tab.setArr
  rw [hb, show ((j : Int) + 1).toNat - 1 = j by omega]

def TopW (w : World) (t1 t2 : Nat) (xs : List Int) (i : Value) (wr : World) : Prop := ∃ m : Nat, m ≤ xs.length ∧ i = .int .i64 (m : Int) ∧ ∃ T, Td xs m T ∧ Two w t1 T t2 (newTab 0 0) wr
def TopW2 (w : World) (t1 : Nat) (T1 : Tab) (t2 : Nat) (xs : List Int) (i : Value) (wr : World) : Prop := ∃ j : Nat, j ≤ xs.length ∧ i = .int .i64 j ∧ ∃ T, Fl xs j T ∧ Two w t1 T1 t2 T wr
def TopW3 (w : World) (t1 : Nat) (T1 : Tab) (t2 : Nat) (T2 : Tab) (n : Nat) (i : Value) (wr : World) : Prop := ∃ j : Nat, j ≤ n ∧ i = .int .i64 j ∧ Two w t1 T1 t2 T2 wr

set_option maxRecDepth 100000 in
set_option maxHeartbeats 4000000 in
theorem top_walk (w : World) (v : Value) (xs : List Int) (h : IsInts .i64 w v xs) : Calls Try.prog 5 #[v] w (Fine w) := by
  obtain ⟨p, c, rfl, k, m, hn, g⟩ := h.1.form
  have hwf := h.2
  simp only [List.length_map] at *
  have CB := Lib.hid (bytes_top w p xs.length c (Nat.le_trans k m))
  unfold maxLen at m
  have G := Lib.hid g
  have K := Lib.hid hwf
  clear h g hn hwf
  go_enter Try.func5, Try.ntmps5
  go_wp2_with (first
    | (go_at_call 26; refine CB.out.mono ?_; rintro e w1 ⟨rfl, rfl | rfl⟩))
  all_goals first | (go_ret; exact ⟨rfl, Below.refl _ _⟩) | skip
  go_loop [3] (fun i => ∃ j : Nat, j ≤ xs.length ∧ i = .int .i64 j ∧ Hid (NoZero xs j)) (fun i => (xs.length - intOf i).toNat)
  case atStart => exact ⟨0, Nat.zero_le _, rfl, Lib.hid (by unfold NoZero; simp)⟩
  case round =>
    obtain ⟨j, hj, rfl, hz⟩ := hrel
    by_cases hlt : (j : Int) < xs.length
    · obtain ⟨x, hx⟩ : ∃ x, xs[j]? = some x := ⟨xs[j]'(by omega), by simp⟩
      obtain ⟨a, rfl, hc⟩ := G.out j (.int .i64 x) (by simp [hx])
      have HX := Lib.hid hx
      clear hx
      by_cases h0 : x = 0
      · have e0 : (x == 0) = true := by simpa using h0
        clear h0
        go_wp2
        go_ret
        exact ⟨rfl, Below.refl _ _⟩
      · have e0 : (x == 0) = false := by simpa using h0
        have H0 := Lib.hid h0
        clear h0
        go_wp2
        go_round
        case rel => exact ⟨j + 1, by omega, by go_num, Lib.hid (hz.out.next HX.out H0.out)⟩
        case measure => exact meas (by omega)
    · have hje : j = xs.length := by omega
      subst hje
      have HZ := hz
      clear hz
      go_wp2_with (first
        | (go_at_call 11; refine (new_any w).mono ?_; intro e w1 hf; obtain ⟨rfl, hR⟩ := Has.fresh hf; clear hf)
        | (go_at_call 11; refine (new_any w1).mono ?_; intro e w2 hf; obtain ⟨rfl, hR2⟩ := Two.make hR hf; clear hf hR))
      go_loopw [7] (TopW w w.heap.size w1.heap.size xs) (fun i _ => (intOf i).toNat)
      case atStart => exact ⟨xs.length, Nat.le_refl _, rfl, _, Td.start xs, hR2⟩
      case round =>
        clear hR2
        obtain ⟨m, hm, rfl, T, hF, hH⟩ := hrel
        by_cases hlt : 1 ≤ (m : Int)
        · obtain ⟨q, rfl⟩ : ∃ q, m = q + 1 := ⟨m - 1, by omega⟩
          clear hlt
          obtain ⟨x, hx⟩ : ∃ x, xs[q]? = some x := ⟨xs[q]'(by omega), by simp⟩
          obtain ⟨a, rfl, hc⟩ := G.out q (.int .i64 x) (by simp [hx])
          have d0 := old_at hH.upd hc
          obtain ⟨F1, hT1, hst⟩ := hH.step1
          have D := Lib.hid (set_slot wr _ _ _ hT1 ((q : Int) + 1) (by omega) (by omega) (by have := hF.ok.alen; omega) x)
          have HF := Lib.hid (hF.next hx (by omega))
          have HS := Lib.hid hst
          clear hx hH hF hc hT1 hst
          go_wp2_with (first
            | (go_at_call 21; refine D.out.mono ?_; intro e w3 hu; obtain ⟨rfl, hR⟩ := HS.out _ _ _ hu; clear hu))
          go_roundw
          case rel => exact ⟨q, by omega, by go_num, _, HF.out, hR⟩
          case measure => simp [intOf]
        · have hm0 : m = 0 := by omega
          have HU1 : Hid (Full xs T) := Lib.hid (by rw [hm0] at hF; exact hF.full)
          clear hF hm0
          go_wp2_with fail
          go_loopw [8] (TopW2 w w.heap.size T w1.heap.size xs) (fun i _ => (xs.length - intOf i).toNat)
          case atStart => exact ⟨0, Nat.zero_le _, rfl, _, Fl.start xs, hH⟩
          case round =>
            clear hH
            obtain ⟨j, hj, rfl, T2, hF, hH⟩ := hrel
            by_cases hlt : (j : Int) < xs.length
            · obtain ⟨x, hx⟩ : ∃ x, xs[j]? = some x := ⟨xs[j]'(by omega), by simp⟩
              obtain ⟨a, rfl, hc⟩ := G.out j (.int .i64 x) (by simp [hx])
              have d0 := old_at hH.upd hc
              have hx0 := HZ.out.at hx
              obtain ⟨F2, hT2, hst⟩ := hH.step2
              have D := append_any wr _ _ _ hT2 hF.ok.lv (by have := hF.ok.alen; omega) 31 (.float .f64 (fofInt x)) (by decide)
              rw [hF.append HZ.out hj, show (Value.iface 31 (.float .f64 (fofInt x))) = val x from (val_num hx0).symm] at D
              rw [val_num hx0] at D
              have D := Lib.hid D
              have HF := hF.next hx (by omega)
              rw [val_num hx0] at HF
              have HF := Lib.hid HF
              have HS := Lib.hid hst
              clear hx hH hF hc hT2 hst hx0
              go_wp2_with (first
                | (go_at_call 27; refine D.out.mono ?_; intro e w3 hu; obtain ⟨rfl, hR⟩ := HS.out _ _ _ hu; clear hu))
              go_roundw
              case rel => exact ⟨j + 1, by omega, by go_num, _, HF.out, hR⟩
              case measure => exact meas (by omega)
            · have hje : j = xs.length := by omega
              subst hje
              have HU2 : Full xs T2 := ⟨hF.ok, hF.av⟩
              have HU2 := Lib.hid HU2
              clear hF
              go_wp2_with fail
              go_loopw [9] (TopW3 w w.heap.size T w1.heap.size T2 xs.length) (fun i _ => (xs.length - intOf i).toNat)
              case atStart => exact ⟨0, Nat.zero_le _, rfl, hH⟩
              case round =>
                clear hH
                obtain ⟨j, hj, rfl, hH⟩ := hrel
                by_cases hlt : (j : Int) < xs.length
                · obtain ⟨y, hy⟩ : ∃ y, xs[j]? = some y := ⟨xs[j]'(by omega), by simp⟩
                  obtain ⟨a, rfl, hc⟩ := G.out j (.int .i64 y) (by simp [hy])
                  have d0 := old_at hH.upd hc
                  have C1 := Lib.hid (fun q => (hH.drewN q).fst.choose_spec.getInt ((j : Int) + 1) (by unfold Is64; omega) ((HU1.out.av _).trans (by rw [atM_succ hy])))
                  have C2 := Lib.hid (fun q => (hH.drewN q).snd.choose_spec.getInt ((j : Int) + 1) (by unfold Is64; omega) ((HU2.out.av _).trans (by rw [atM_succ hy])))
                  have C3 := Lib.hid (same_yes · y (is64_of_wf (K.out y (List.mem_of_getElem? hy))))
                  have HH := Lib.hid hH
                  clear hy hH hc
                  go_wp2_with fail
                  go_quiet ((first
                    | (go_at_call 19; with_reducible exact quiet_left (C1.out _))
                    | (go_at_call 19; with_reducible exact quiet_left (C2.out _))
                    | (go_at_call 15; with_reducible exact quiet_left (C3.out _))))
                  go_wp2_with fail
                  go_roundw
                  case rel => exact ⟨j + 1, by omega, by go_num, HH.out.drewN _⟩
                  case measure => exact meas (by omega)
                · have z0 : atM xs ((xs.length : Int) + 1) = 0 := atM_far (by omega)
                  have C1 := Lib.hid (hH.fst.choose_spec.getInt ((xs.length : Int) + 1) (by unfold Is64; omega) ((HU1.out.av _).trans (by rw [z0])))
                  have C2 := Lib.hid (hH.snd.choose_spec.getInt ((xs.length : Int) + 1) (by unfold Is64; omega) ((HU2.out.av _).trans (by rw [z0])))
                  have C3 := Lib.hid (same_yes wr 0 (by unfold Is64; omega))
                  have C4 := Lib.hid (hH.fst.choose_spec.maxN HU1.out.ok (HU1.out.border HZ.out))
                  have C5 := Lib.hid (hH.snd.choose_spec.maxN HU2.out.ok (HU2.out.border HZ.out))
                  have C6 := Lib.hid (hH.fst.choose_spec.len HU1.out.ok (HU1.out.border HZ.out))
                  have C7 := Lib.hid (hH.snd.choose_spec.len HU2.out.ok (HU2.out.border HZ.out))
                  have HB := Lib.hid (none_below hH.upd)
                  clear hH z0
                  go_wp2_with (first
                    | (go_at_call 19; with_reducible refine C1.out.mono ?_; rintro e w2 ⟨rfl, rfl⟩)
                    | (go_at_call 19; with_reducible refine C2.out.mono ?_; rintro e w2 ⟨rfl, rfl⟩)
                    | (go_at_call 15; with_reducible refine C3.out.mono ?_; rintro e w2 ⟨rfl, rfl⟩)
                    | (go_at_call 24; with_reducible refine C4.out.mono ?_; rintro e w2 ⟨rfl, rfl⟩)
                    | (go_at_call 24; with_reducible refine C5.out.mono ?_; rintro e w2 ⟨rfl, rfl⟩)
                    | (go_at_call 28; with_reducible refine C6.out.mono ?_; rintro e w2 ⟨rfl, rfl⟩)
                    | (go_at_call 28; with_reducible refine C7.out.mono ?_; rintro e w2 ⟨rfl, rfl⟩))
                  go_ret
                  exact ⟨rfl, HB.out⟩
end Go.Lua
