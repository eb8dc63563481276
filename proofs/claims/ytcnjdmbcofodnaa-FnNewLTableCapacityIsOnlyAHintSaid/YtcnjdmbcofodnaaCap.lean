/-
  n005_61: FnNewLTableCapacityIsOnlyAHint.
-/
import Derived.Test.YtcnjdmbcofodnaaCapP
namespace Go.Lua
open Go.Proofs Go.RowKit
set_option linter.unusedVariables false

def CapFine (w : World) (e : Ending) (w' : World) : Prop := e = .returned (.bool true) ∧ Below w.heap.size w w'
def CapAsks (w : World) (e : Ending) (w' : World) : Prop := w = w' ∧ (e = .returned (.bool false) ∨ e = .returned (.bool true))
set_option maxHeartbeats 400000 in
theorem bytes_cap (w : World) (v1 v2 : Value) (ks : List Int) (fs : List Nat) (h1 : IsInts .i64 w v1 ks) (h2 : IsFloats w v2 fs) (a h : Int) :
    Calls Try.prog 35 #[.int .i64 a, .int .i64 h, v1, v2] w (CapAsks w) := by
  obtain ⟨p, q, rfl, k, m, -, -⟩ := IsSl.form h1.1
  obtain ⟨p2, q2, rfl, k2, m2, -, -⟩ := IsSl.form h2.1
  simp only [List.length_map] at *
  unfold maxLen at m m2
  clear h1 h2
  go_enter Try.func35, Try.ntmps35
  go_wp2
  all_goals (go_ret; first | exact ⟨rfl, .inl rfl⟩ | exact ⟨rfl, .inr rfl⟩)

def KNear (ks : List Int) (j : Nat) : Prop := ∀ k ∈ ks.take j, k ≤ 65536
theorem KNear.zero (ks : List Int) : KNear ks 0 := by unfold KNear; simp
theorem KNear.next {ks : List Int} {j : Nat} {k : Int} (h : KNear ks j) (ho : ks[j]? = some k) (hs : k ≤ 65536) : KNear ks (j + 1) := by
  intro x hx
  obtain ⟨hj, rfl⟩ := List.getElem?_eq_some_iff.1 ho
  rw [List.take_succ_eq_append_getElem hj] at hx
  rcases List.mem_append.1 hx with hx | hx
  · exact h x hx
  · rw [List.mem_singleton.1 hx]; exact hs
theorem KNear.at {ks : List Int} (h : KNear ks ks.length) {j : Nat} {k : Int} (ho : ks[j]? = some k) : k ≤ 65536 :=
  h k (by rw [List.take_length]; exact List.mem_of_getElem? ho)

/-- The value of step j. -/
def capX (fs : List Nat) (j : Nat) : Nat := if fs.length = 0 then fofInt j else fs.getD (j % fs.length) 0
def capTab (T0 : Tab) (ks : List Int) (fs : List Nat) : Nat → Tab
  | 0 => T0
  | j + 1 => match ks[j]? with
    | some k => (capTab T0 ks fs j).capStep k (capX fs j)
    | none => capTab T0 ks fs j
theorem capTab_step {T0 : Tab} {ks : List Int} {fs : List Nat} {j : Nat} {k : Int} (h : ks[j]? = some k) : capTab T0 ks fs (j + 1) = (capTab T0 ks fs j).capStep k (capX fs j) := by
  show (match ks[j]? with | some k => _ | none => _) = _
  rw [h]
theorem capTab_ok {T0 : Tab} {ks : List Int} {fs : List Nat} (h0 : CapOk T0 0) (hk : KNear ks ks.length) : ∀ j, CapOk (capTab T0 ks fs j) j
  | 0 => h0
  | j + 1 => by
    have ih := capTab_ok (fs := fs) h0 hk j
    unfold capTab
    split
    · rename_i k hj
      exact ih.step k (hk.at hj) _
    · exact ⟨ih.index, Nat.le_succ_of_le ih.keys, by have := ih.alen; omega, ih.num, ih.dict⟩
theorem capTab_same {T1 T2 : Tab} {ks : List Int} {fs : List Nat} (h : Same T1 T2) : ∀ j, Same (capTab T1 ks fs j) (capTab T2 ks fs j)
  | 0 => h
  | j + 1 => by
    have ih := capTab_same (ks := ks) (fs := fs) h j
    unfold capTab
    split
    · exact ih.step _ _
    · exact ih
def CapC (w0 : World) (t1 t2 : Nat) (T1 T2 : Tab) (ks : List Int) (fs : List Nat) (i : Value) (wr : World) : Prop :=
  ∃ j : Nat, j ≤ ks.length ∧ i = .int .i64 j ∧ Two w0 t1 (capTab T1 ks fs j) t2 (capTab T2 ks fs j) wr
theorem Two.app {w0 w : World} {t1 t2 n : Nat} {T1 T2 : Tab} (h : Two w0 t1 T1 t2 T2 w) (ho : CapOk T1 n) (hn : n ≤ 1000000) (x : Nat) :
    Calls Try.prog 39 #[.pointer (some ⟨t1, 0, none⟩), .float .f64 x] w fun e w' => e = .returned (.tuple #[]) ∧ Two w0 t1 (T1.capStep 0 x) t2 T2 w' := by
  obtain ⟨F1, hT, hs⟩ := h.step1
  exact (capAppend_any hT ho hn x).mono fun e w' hu => hs _ _ _ hu
theorem Two.app2 {w0 w : World} {t1 t2 n : Nat} {T1 T2 : Tab} (h : Two w0 t1 T1 t2 T2 w) (ho : CapOk T2 n) (hn : n ≤ 1000000) (x : Nat) :
    Calls Try.prog 39 #[.pointer (some ⟨t2, 0, none⟩), .float .f64 x] w fun e w' => e = .returned (.tuple #[]) ∧ Two w0 t1 T1 t2 (T2.capStep 0 x) w' :=
  (h.swap.app ho hn x).mono fun e w' hu => ⟨hu.1, hu.2.swap⟩
theorem Two.put {w0 w : World} {t1 t2 n : Nat} {T1 T2 : Tab} (h : Two w0 t1 T1 t2 T2 w) (ho : CapOk T1 n) (hn : n ≤ 1000000) (k : Int) (hk : k ≠ 0) (x : Nat) :
    Calls Try.prog 40 #[.pointer (some ⟨t1, 0, none⟩), .int .i64 k, .float .f64 x] w fun e w' => e = .returned (.tuple #[]) ∧ Two w0 t1 (T1.capStep k x) t2 T2 w' := by
  obtain ⟨F1, hT, hs⟩ := h.step1
  exact (capSet_any hT ho hn k hk x).mono fun e w' hu => hs _ _ _ hu
theorem Two.put2 {w0 w : World} {t1 t2 n : Nat} {T1 T2 : Tab} (h : Two w0 t1 T1 t2 T2 w) (ho : CapOk T2 n) (hn : n ≤ 1000000) (k : Int) (hk : k ≠ 0) (x : Nat) :
    Calls Try.prog 40 #[.pointer (some ⟨t2, 0, none⟩), .int .i64 k, .float .f64 x] w fun e w' => e = .returned (.tuple #[]) ∧ Two w0 t1 T1 t2 (T2.capStep k x) w' :=
  (h.swap.put ho hn k hk x).mono fun e w' hu => ⟨hu.1, hu.2.swap⟩

/-- A reading: the number x, and whether there is one. -/
def Rd (w : World) (x : Nat) (b : Bool) (e : Ending) (w' : World) : Prop := e = .returned (.tuple #[.float .f64 x, .bool b]) ∧ w = w'
section
variable {w : World} {t1 t2 n : Nat} {T1 T2 : Tab} {F1 F2 : Nat → Prop}
theorem both_get (h1 : TabAt w t1 T1 F1) (h2 : TabAt w t2 T2 F2) (o1 : CapOk T1 n) (o2 : CapOk T2 n) (hs : Same T1 T2) (k : Int) (hk : Is64 k) :
    ∃ x b, Calls Try.prog 42 #[.pointer (some ⟨t1, 0, none⟩), .int .i64 k] w (Rd w x b) ∧ Calls Try.prog 42 #[.pointer (some ⟨t2, 0, none⟩), .int .i64 k] w (Rd w x b) := by
  have C1 := capGet_any h1 o1 k hk
  have C2 := capGet_any h2 o2 k hk
  rw [← hs.arr] at C2
  have hv : NumOk (getAt (T1.arr.getD []) k) := by
    unfold getAt
    split
    · cases hx : (T1.arr.getD [])[k.toNat - 1]? with
      | none => exact .inl rfl
      | some u => exact o1.num u (List.mem_of_getElem? hx)
    · exact .inl rfl
  obtain ⟨x, b, hxb⟩ := rdN_form hv
  rw [hxb] at C1 C2
  exact ⟨x, b, C1, C2⟩
theorem both_getH (h1 : TabAt w t1 T1 F1) (h2 : TabAt w t2 T2 F2) (o1 : CapOk T1 n) (o2 : CapOk T2 n) (hs : Same T1 T2) (k : Int) :
    ∃ x b, Calls Try.prog 44 #[.pointer (some ⟨t1, 0, none⟩), .int .i64 k] w (Rd w x b) ∧ Calls Try.prog 44 #[.pointer (some ⟨t2, 0, none⟩), .int .i64 k] w (Rd w x b) := by
  have C1 := capGetH_any h1 o1 k
  have C2 := capGetH_any h2 o2 k
  rw [← hs.nv] at C2
  obtain ⟨x, b, hxb⟩ := rdN_form (o1.dict (fofInt k))
  rw [hxb] at C1 C2
  exact ⟨x, b, C1, C2⟩
end

set_option maxRecDepth 100000 in
set_option maxHeartbeats 8000000 in
theorem cap_in (w : World) (v1 v2 : Value) (ks : List Int) (fs : List Nat) (h1 : IsInts .i64 w v1 ks) (h2 : IsFloats w v2 fs) (a h : Int) (hg : Hid (ks.length ≤ 65536 ∧ fs.length ≤ 65536 ∧ a ≤ 65536 ∧ h ≤ 65536)) :
    Calls Try.prog 9 #[.int .i64 a, .int .i64 h, v1, v2] w (CapFine w) := by
  have CB := Lib.hid (bytes_cap w v1 v2 ks fs h1 h2 a h)
  have H1 := Lib.hid h1
  have H2 := Lib.hid h2
  obtain ⟨p, q, rfl, k, m, -, g1⟩ := IsSl.form h1.1
  obtain ⟨p2, q2, rfl, k2, m2, -, g2⟩ := IsSl.form h2.1
  simp only [List.length_map] at *
  unfold maxLen at m m2
  obtain ⟨l1, l2, l3, l4⟩ := hg.out
  have G1 := Lib.hid g1
  have W1 := Lib.hid h1.2
  clear h1 h2 g1 g2
  go_enter Try.func9, Try.ntmps9
  go_wp2_with (go_at_call 35; refine CB.out.mono ?_; rintro e w1 ⟨rfl, rfl | rfl⟩)
  all_goals first | (go_ret; exact ⟨rfl, Below.refl _ _⟩) | skip
  go_loop [9] (fun i => ∃ j : Nat, j ≤ ks.length ∧ i = .int .i64 j ∧ Hid (KNear ks j)) (fun i => ks.length - (intOf i).toNat)
  case atStart => exact ⟨0, Nat.zero_le _, rfl, Lib.hid (KNear.zero _)⟩
  case round =>
    obtain ⟨j, hj, rfl, hK⟩ := hrel
    by_cases hlt : (j : Int) < ks.length
    · obtain ⟨z, hz⟩ : ∃ z, ks[j]? = some z := ⟨ks[j]'(by omega), by simp⟩
      obtain ⟨ad, rfl, hc⟩ := G1.out j (.int .i64 z) (by simp [hz])
      have HZ := Lib.hid hz
      clear hz
      by_cases hbig : z > 65536
      · go_wp2
        go_ret
        exact ⟨rfl, Below.refl _ _⟩
      · go_wp2
        go_round
        case rel => exact ⟨j + 1, by omega, by go_num, Lib.hid (hK.out.next HZ.out (by omega))⟩
        case measure => simp [intOf]; omega
    · obtain rfl : j = ks.length := by omega
      go_wp2_with (first
        | (go_at_call 36; refine (capCloneI_any _ _ _ H1.out.1 (by simp; omega) (fun u hu => by obtain ⟨y, -, rfl⟩ := List.mem_map.1 hu; exact ⟨y, rfl⟩)).mono ?_; rintro e w2 ⟨vk, rfl, hVK, hUK⟩; have HUK := Lib.hid hUK; obtain ⟨pk, ck, rfl, -, hmk, -, hgk⟩ := hVK.form; simp only [List.length_map]; have GK := Lib.hid hgk; clear hVK hUK hgk)
        | (go_at_call 37; refine (capCloneF_any _ _ _ (H2.out.1.below (none_below HUK.out) (Nat.le_refl _)) (by simp; omega) (fun u hu => by obtain ⟨y, -, rfl⟩ := List.mem_map.1 hu; exact ⟨y, rfl⟩)).mono ?_; rintro e w3 ⟨vf, rfl, hVF, hUF⟩; have HUF := Lib.hid hUF; obtain ⟨pf, cf, rfl, -, hmf, -, hgf⟩ := hVF.form; simp only [List.length_map]; have GF := Lib.hid hgf; clear hVF hUF hgf))
      have OK1 := Lib.hid (capTab_ok (fs := fs) (CapOk.new a h) hK.out)
      have OK2 := Lib.hid (capTab_ok (fs := fs) (CapOk.new 0 0) hK.out)
      have SM := Lib.hid (capTab_same (ks := ks) (fs := fs) (Same.new a h 0 0))
      have hkl : (ks.length : Int) ≤ 65536 := by omega
      go_loop [10, 11] (fun mv i => ∃ (j : Nat) (M : Int), j ≤ ks.length ∧ i = .int .i64 j ∧ mv = .int .i64 M ∧ 0 ≤ M ∧ M ≤ 65536) (fun _ i => ks.length - (intOf i).toNat)
      case atStart => exact ⟨0, 0, Nat.zero_le _, rfl, rfl, by omega, by omega⟩
      case round =>
        obtain ⟨j, M, hj2, rfl, rfl, hM0, hM1⟩ := hrel
        by_cases hlt2 : (j : Int) < ks.length
        · obtain ⟨z, hz⟩ : ∃ z, ks[j]? = some z := ⟨ks[j]'(by omega), by simp⟩
          obtain ⟨ad, rfl, hc⟩ := GK.out j (.int .i64 z) (by simp [hz])
          have d := old_at HUF.out hc
          have hz2 := hK.out.at hz
          clear hz hc
          by_cases hb : M < z
          · go_wp2_with fail
            go_round
            case rel => exact ⟨j + 1, z, by omega, by go_num, rfl, by omega, by omega⟩
            case measure => simp [intOf]; omega
          · go_wp2_with fail
            go_round
            case rel => exact ⟨j + 1, M, by omega, by go_num, rfl, by omega, by omega⟩
            case measure => simp [intOf]; omega
        · obtain rfl : j = ks.length := by omega
          go_wp2_with (first
            | (go_at_call 38; refine (capNew_any _ a h l3 l4).mono ?_; intro e w4 hf; obtain ⟨rfl, hT⟩ := Has.fresh hf; have HT := Lib.hid hT; clear hf hT)
            | (go_at_call 38; refine (capNew_any _ 0 0 (by decide) (by decide)).mono ?_; intro e w5 hf; obtain ⟨rfl, hT⟩ := Two.make HT.out hf; have HTT := Lib.hid hT; clear hf hT HT))
          go_loopw [14] (CapC w3 w3.heap.size w4.heap.size (newTab a h) (newTab 0 0) ks fs) (fun i _ => ks.length - (intOf i).toNat)
          case atStart => exact ⟨0, Nat.zero_le _, rfl, HTT.out⟩
          case round =>
            clear HTT
            obtain ⟨j, hj3, rfl, hTw⟩ := hrel
            by_cases hlt3 : (j : Int) < ks.length
            · obtain ⟨z, hz⟩ : ∃ z, ks[j]? = some z := ⟨ks[j]'(by omega), by simp⟩
              obtain ⟨ad, rfl, hc⟩ := GK.out j (.int .i64 z) (by simp [hz])
              have hc := old_at HUF.out hc
              have d := old_at hTw.upd hc
              have HC := Lib.hid hc
              have S1 := Lib.hid (capTab_step (T0 := newTab a h) (fs := fs) hz)
              have S2 := Lib.hid (capTab_step (T0 := newTab 0 0) (fs := fs) hz)
              have O1 := Lib.hid (OK1.out j)
              have O2 := Lib.hid (OK2.out j)
              have HTw := Lib.hid hTw
              have hj6 : j ≤ 1000000 := by omega
              have hx : (fs.length = 0 ∧ capX fs j = fofInt j) ∨ (0 < fs.length ∧ ∃ x, fs[j % fs.length]? = some x ∧ capX fs j = x) := by
                unfold capX
                by_cases h0 : fs.length = 0
                · exact .inl ⟨h0, if_pos h0⟩
                · have hlt4 : j % fs.length < fs.length := Nat.mod_lt _ (by omega)
                  exact .inr ⟨by omega, _, List.getElem?_eq_getElem hlt4, by rw [if_neg h0, List.getD_eq_getElem?_getD, List.getElem?_eq_getElem hlt4]; rfl⟩
              rcases hx with ⟨hf0, hx⟩ | ⟨hf0, x, hfx, hx⟩
              · have hx : capX fs j = floatOfInt .f64 (j : Int) := hx
                have hf1 : decide (0 < fs.length) = false := decide_eq_false (by omega)
                clear hf0
                have S1 : Hid (capTab (newTab a h) ks fs (j + 1) = (capTab (newTab a h) ks fs j).capStep z (floatOfInt .f64 (j : Int))) := Lib.hid (hx ▸ S1.out)
                have S2 : Hid (capTab (newTab 0 0) ks fs (j + 1) = (capTab (newTab 0 0) ks fs j).capStep z (floatOfInt .f64 (j : Int))) := Lib.hid (hx ▸ S2.out)
                by_cases hz0 : z = 0
                · subst hz0
                  clear hz hc hx hTw
                  go_wp2_with (first
                    | (go_at_call 39; (with_reducible refine (HTw.out.app O1.out hj6 (floatOfInt .f64 (j : Int))).mono ?_); intro e w6 hs; obtain ⟨rfl, hT⟩ := hs; have HT6 := Lib.hid hT; clear hT)
                    | (go_at_call 39; (with_reducible refine (HT6.out.app2 O2.out hj6 (floatOfInt .f64 (j : Int))).mono ?_); intro e w7 hs; obtain ⟨rfl, hT⟩ := hs; have HT7 := Lib.hid hT; clear hT))
                  go_roundw
                  case rel => exact ⟨j + 1, by omega, by go_num, by rw [S1.out, S2.out]; exact HT7.out⟩
                  case measure => simp [intOf]; omega
                · have hz1 : (z == 0) = false := beq_false_of_ne hz0
                  clear hz hc hx hTw
                  go_wp2_with (first
                    | (go_at_call 40; (with_reducible refine (HTw.out.put O1.out hj6 z hz0 (floatOfInt .f64 (j : Int))).mono ?_); intro e w6 hs; obtain ⟨rfl, hT⟩ := hs; have d6 := old_at hT.upd HC.out; have HT6 := Lib.hid hT; clear hT)
                    | (go_at_call 40; (with_reducible refine (HT6.out.put2 O2.out hj6 z hz0 (floatOfInt .f64 (j : Int))).mono ?_); intro e w7 hs; obtain ⟨rfl, hT⟩ := hs; have HT7 := Lib.hid hT; clear hT))
                  go_roundw
                  case rel => exact ⟨j + 1, by omega, by go_num, by rw [S1.out, S2.out]; exact HT7.out⟩
                  case measure => simp [intOf]; omega
              · have S1 : Hid (capTab (newTab a h) ks fs (j + 1) = (capTab (newTab a h) ks fs j).capStep z x) := Lib.hid (hx ▸ S1.out)
                have S2 : Hid (capTab (newTab 0 0) ks fs (j + 1) = (capTab (newTab 0 0) ks fs j).capStep z x) := Lib.hid (hx ▸ S2.out)
                obtain ⟨pa, rfl, hcf⟩ := GF.out (j % fs.length) (.float .f64 x) (by simp [hfx])
                have df := old_at hTw.upd hcf
                have hml : j % fs.length < fs.length := Nat.mod_lt _ hf0
                have hmod : (j : Int).tmod fs.length = ((j % fs.length : Nat) : Int) := by rw [Int.tmod_eq_emod_of_nonneg (by omega)]; rfl
                generalize hMM : j % fs.length = mm at hmod hml df hcf hfx
                clear hMM hcf hfx
                by_cases hz0 : z = 0
                · subst hz0
                  clear hz hc hx hTw
                  go_wp2_with (first
                    | (go_at_call 39; (with_reducible refine (HTw.out.app O1.out hj6 x).mono ?_); intro e w6 hs; obtain ⟨rfl, hT⟩ := hs; have HT6 := Lib.hid hT; clear hT)
                    | (go_at_call 39; (with_reducible refine (HT6.out.app2 O2.out hj6 x).mono ?_); intro e w7 hs; obtain ⟨rfl, hT⟩ := hs; have HT7 := Lib.hid hT; clear hT)
                    | (simp only [hmod]))
                  go_roundw
                  case rel => exact ⟨j + 1, by omega, by go_num, by rw [S1.out, S2.out]; exact HT7.out⟩
                  case measure => simp [intOf]; omega
                · have hz1 : (z == 0) = false := beq_false_of_ne hz0
                  clear hz hc hx hTw
                  go_wp2_with (first
                    | (go_at_call 40; (with_reducible refine (HTw.out.put O1.out hj6 z hz0 x).mono ?_); intro e w6 hs; obtain ⟨rfl, hT⟩ := hs; have d6 := old_at hT.upd HC.out; have HT6 := Lib.hid hT; clear hT)
                    | (go_at_call 40; (with_reducible refine (HT6.out.put2 O2.out hj6 z hz0 x).mono ?_); intro e w7 hs; obtain ⟨rfl, hT⟩ := hs; have HT7 := Lib.hid hT; clear hT)
                    | (simp only [hmod]))
                  go_roundw
                  case rel => exact ⟨j + 1, by omega, by go_num, by rw [S1.out, S2.out]; exact HT7.out⟩
                  case measure => simp [intOf]; omega
            · obtain rfl : j = ks.length := by omega
              obtain ⟨F1, hT1⟩ := hTw.fst
              obtain ⟨F2, hT2⟩ := hTw.snd
              have hsm := SM.out ks.length
              have o1 := OK1.out ks.length
              have o2 := OK2.out ks.length
              have L1 := len_any wr _ _ _ hT1 o1.lv
              have L2 := len_any wr _ _ _ hT2 o2.lv
              have M1 := maxN_any wr _ _ _ hT1 o1.lv
              have M2 := maxN_any wr _ _ _ hT2 o2.lv
              have A1 := capLen_any hT1
              have A2 := capLen_any hT2
              rw [← hsm.arr] at L2 M2 A2
              generalize border ((capTab (newTab a h) ks fs ks.length).arr.getD []) = bd at L1 L2 M1 M2
              generalize ((capTab (newTab a h) ks fs ks.length).arr.getD []).length = al at A1 A2
              have L1 := Lib.hid L1
              have L2 := Lib.hid L2
              have M1 := Lib.hid M1
              have M2 := Lib.hid M2
              have A1 := Lib.hid A1
              have A2 := Lib.hid A2
              have RG := Lib.hid (fun k hk => both_get hT1 hT2 o1 o2 hsm k hk)
              have RH := Lib.hid (fun k => both_getH hT1 hT2 o1 o2 hsm k)
              have HTw := Lib.hid hTw
              have hUT := Lib.hid hTw.upd
              clear hTw hT1 hT2 hsm o1 o2
              go_wp2_with (first
                | (go_at_call 19; first | ((with_reducible refine L1.out.mono ?_); rintro e w6 ⟨rfl, rfl⟩) | ((with_reducible refine L2.out.mono ?_); rintro e w6 ⟨rfl, rfl⟩))
                | (go_at_call 20; first | ((with_reducible refine M1.out.mono ?_); rintro e w6 ⟨rfl, rfl⟩) | ((with_reducible refine M2.out.mono ?_); rintro e w6 ⟨rfl, rfl⟩))
                | (go_at_call 41; first | ((with_reducible refine A1.out.mono ?_); rintro e w6 ⟨rfl, rfl⟩) | ((with_reducible refine A2.out.mono ?_); rintro e w6 ⟨rfl, rfl⟩)))
              go_loop [17] (fun i => ∃ k : Int, -1 ≤ k ∧ k ≤ M + ks.length + 3 ∧ i = .int .i64 k) (fun i => (M + ks.length + 3 - intOf i).toNat)
              case atStart => exact ⟨-1, by omega, by omega, rfl⟩
              case round =>
                obtain ⟨k, hk0, hk1, rfl⟩ := hrel
                by_cases hle : k ≤ M + ks.length + 2
                · obtain ⟨x, b, C1, C2⟩ := RG.out k (by unfold Is64; omega)
                  have C1 := Lib.hid C1
                  have C2 := Lib.hid C2
                  have CS := Lib.hid (sameF_yes wr x)
                  cases b
                  all_goals
                    go_wp2_with (first
                      | (go_at_call 42; first | ((with_reducible refine C1.out.mono ?_); rintro e w6 ⟨rfl, rfl⟩) | ((with_reducible refine C2.out.mono ?_); rintro e w6 ⟨rfl, rfl⟩))
                      | (go_at_call 43; refine CS.out.mono ?_; rintro e w6 ⟨rfl, rfl⟩))
                    go_round
                    case rel => exact ⟨k + 1, by omega, by omega, rfl⟩
                    case measure => simp [intOf]; omega
                · go_wp2_with fail
                  go_loop [22] (fun i => ∃ j : Nat, j ≤ ks.length ∧ i = .int .i64 j) (fun i => ks.length - (intOf i).toNat)
                  case atStart => exact ⟨0, Nat.zero_le _, rfl⟩
                  case round =>
                    obtain ⟨j, hj5, rfl⟩ := hrel
                    by_cases hlt5 : (j : Int) < ks.length
                    · obtain ⟨z, hz⟩ : ∃ z, ks[j]? = some z := ⟨ks[j]'(by omega), by simp⟩
                      obtain ⟨ad, rfl, hc⟩ := GK.out j (.int .i64 z) (by simp [hz])
                      have d := old_at hUT.out (old_at HUF.out hc)
                      clear hz hc
                      by_cases hpos : 0 < z
                      · go_wp2_with fail
                        go_round
                        case rel => exact ⟨j + 1, by omega, by go_num⟩
                        case measure => simp [intOf]; omega
                      · obtain ⟨x, b, C1, C2⟩ := RH.out z
                        have C1 := Lib.hid C1
                        have C2 := Lib.hid C2
                        have CS := Lib.hid (sameF_yes wr x)
                        cases b
                        all_goals
                          go_wp2_with (first
                            | (go_at_call 44; first | ((with_reducible refine C1.out.mono ?_); rintro e w6 ⟨rfl, rfl⟩) | ((with_reducible refine C2.out.mono ?_); rintro e w6 ⟨rfl, rfl⟩))
                            | (go_at_call 43; refine CS.out.mono ?_; rintro e w6 ⟨rfl, rfl⟩))
                          go_round
                          case rel => exact ⟨j + 1, by omega, by go_num⟩
                          case measure => simp [intOf]; omega
                    · go_wp2_with fail
                      go_ret
                      exact ⟨rfl, none_below (none_trans HUK.out (none_trans HUF.out hUT.out))⟩
set_option maxRecDepth 100000 in
set_option maxHeartbeats 2000000 in
theorem cap_out (w : World) (v1 v2 : Value) (ks : List Int) (fs : List Nat) (h1 : IsInts .i64 w v1 ks) (h2 : IsFloats w v2 fs) (a h : Int) (hq : ks.length > 65536 ∨ fs.length > 65536 ∨ 65536 < a ∨ 65536 < h) :
    Calls Try.prog 9 #[.int .i64 a, .int .i64 h, v1, v2] w (CapFine w) := by
  have CB := Lib.hid (bytes_cap w v1 v2 ks fs h1 h2 a h)
  obtain ⟨p, q, rfl, k, m, -, -⟩ := IsSl.form h1.1
  obtain ⟨p2, q2, rfl, k2, m2, -, -⟩ := IsSl.form h2.1
  simp only [List.length_map] at *
  unfold maxLen at m m2
  clear h1 h2
  rcases hq with hq | hq | hq | hq
  all_goals
    go_enter Try.func9, Try.ntmps9
    go_wp2_with (go_at_call 35; refine CB.out.mono ?_; rintro e w1 ⟨rfl, rfl | rfl⟩)
    all_goals (go_ret; exact ⟨rfl, Below.refl _ _⟩)
theorem cap_walk (w : World) (a : Int) (ha : (Lit.int .i64 a).wf = true) (h : Int) (hh : (Lit.int .i64 h).wf = true) (v1 : Value) (ks : List Int) (h1 : IsInts .i64 w v1 ks) (v2 : Value) (fs : List Nat) (h2 : IsFloats w v2 fs) :
    Calls Try.prog 9 #[.int .i64 a, .int .i64 h, v1, v2] w (CapFine w) := by
  by_cases hq : ks.length > 65536 ∨ fs.length > 65536 ∨ 65536 < a ∨ 65536 < h
  · exact cap_out w v1 v2 ks fs h1 h2 a h hq
  · exact cap_in w v1 v2 ks fs h1 h2 a h (Lib.hid (by omega))
end Go.Lua
