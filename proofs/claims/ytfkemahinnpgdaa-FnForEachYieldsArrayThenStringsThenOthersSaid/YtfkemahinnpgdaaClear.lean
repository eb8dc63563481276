/-
  n005_23: FnNextClearingVisitedKeysKeepsTraversal.
-/
import Derived.Test.YtfkemahinnpgdaaNextL
namespace Go.Lua
open Go.Proofs Go.RowKit Go.Deep
set_option linter.unusedVariables false

theorem Full.clear_arr {m : Mod} {T : Tab} (h : Full m T) {j : Nat} (hj : j < m.arr.length) (hl : m.arr.length ≤ 65536) : Full ⟨m.arr.set j 0, m.hs⟩ (T.setArr ((j : Int) + 1) lnil) := by
  obtain ⟨n, hn, ho⟩ := h.ok
  have hs := h.rel.a.set ((j : Int) + 1) (by omega) (by omega) 0
  rw [val_zero, show ((j : Int) + 1).toNat - 1 = j by omega] at hs
  refine ⟨⟨h.rel.h.frame _ _, hs⟩, h.hok, fun a ha => ?_, ⟨n, hn, ho.setArr _ (by omega) (.inl rfl)⟩⟩
  rcases List.mem_or_eq_of_mem_set ha with q | rfl
  · exact h.aok a q
  · exact is64_zero
def clr (hs : List HEnt) (j : Nat) : List HEnt := hs.modify j fun e => { e with v := 0 }
def Tab.clearK (T : Tab) (e : HEnt) : Tab := if e.str then T.setStr e.s lnil else T.setNum (fofInt e.n) lnil
theorem Full.clear_key {m : Mod} {T : Tab} (h : Full m T) {j : Nat} {e : HEnt} (he : m.hs[j]? = some e) (hl : m.hs.length ≤ 4096) : Full ⟨m.arr, clr m.hs j⟩ (T.clearK e) := by
  obtain ⟨n, hn, ho⟩ := h.ok
  have hk := keysOf_at he
  have hq := h.rel.h.isk e.key (List.mem_of_getElem? hk)
  have hf := findL_at hk (lk_self hq) h.rel.h.apart
  have hkey : ({ e with v := 0 } : HEnt).key = e.key := rfl
  have hput : putK m.hs { e with v := 0 } = clr m.hs j := by unfold putK; rw [hkey, hf]; rfl
  have hP : PutK T (T.clearK e) e.key (val 0) := by
    rw [val_zero]
    unfold Tab.clearK
    cases hs : e.str with
    | true => rw [key_str hs, if_pos rfl]; exact putStr T e.s lnil
    | false => rw [key_num hs, if_neg (by simp)]; exact putNum T (fofInt e.n) lnil
  have hR : RelH (clr m.hs j) (T.clearK e) := hput ▸ h.rel.h.put { e with v := 0 } hq hP
  have hO : Ok (T.clearK e) (n + 1) := by
    unfold Tab.clearK
    split
    · exact ho.setStr _ _
    · exact ho.setNum _ _
  refine ⟨⟨hR, h.rel.a.frame hP.arr⟩, ?_, h.aok, ⟨4096, by omega, ⟨hO.index, ?_, hO.alen, hO.lv⟩⟩⟩
  · have := putK_ok h.hok (p := { e with v := 0 }) ⟨(h.hok e (List.mem_of_getElem? he)).1, is64_zero⟩
    rwa [hput] at this
  · rw [hR.keys, keysOf_length]
    unfold clr
    rw [List.length_modify]
    exact hl
theorem clr_at {hs : List HEnt} {j : Nat} {e : HEnt} (he : hs[j]? = some e) : (clr hs j)[j]? = some { e with v := 0 } := by
  unfold clr
  rw [List.getElem?_modify, he]
  simp
theorem clr_ne {hs : List HEnt} {j x : Nat} (h : j ≠ x) : (clr hs j)[x]? = hs[x]? := by
  unfold clr
  rw [List.getElem?_modify]
  simp [h]
/-- The first j are cleared, the rest is as it was. -/
def ClA (A A' : List Int) (j : Nat) : Prop := A'.length = A.length ∧ (∀ x, x < j → A'.getD x 0 = 0) ∧ ∀ x, j ≤ x → A'.getD x 0 = A.getD x 0
def ClH (H H' : List HEnt) (j : Nat) : Prop := H'.length = H.length ∧ (∀ x e, x < j → H'[x]? = some e → e.v = 0) ∧ ∀ x, j ≤ x → H'[x]? = H[x]?
theorem ClA.start (A : List Int) : ClA A A 0 := ⟨rfl, fun x hx => by omega, fun _ _ => rfl⟩
theorem ClH.start (H : List HEnt) : ClH H H 0 := ⟨rfl, fun x e hx => by omega, fun _ _ => rfl⟩
theorem ClA.skip {A A' : List Int} {j : Nat} (h : ClA A A' j) (h0 : A.getD j 0 = 0) : ClA A A' (j + 1) :=
  ⟨h.1, fun x hx => by
    by_cases e : x = j
    · subst e; rw [h.2.2 x (Nat.le_refl _)]; exact h0
    · exact h.2.1 x (by omega), fun x hx => h.2.2 x (by omega)⟩
theorem ClA.set {A A' : List Int} {j : Nat} (h : ClA A A' j) : ClA A (A'.set j 0) (j + 1) := by
  refine ⟨by rw [List.length_set]; exact h.1, fun x hx => ?_, fun x hx => ?_⟩
  · rw [List.getD_eq_getElem?_getD, List.getElem?_set]
    by_cases e : j = x
    · rw [if_pos e]; split <;> rfl
    · rw [if_neg e, ← List.getD_eq_getElem?_getD]; exact h.2.1 x (by omega)
  · rw [List.getD_eq_getElem?_getD, List.getElem?_set, if_neg (by omega), ← List.getD_eq_getElem?_getD]
    exact h.2.2 x (by omega)
theorem ClH.skip {H H' : List HEnt} {j : Nat} (h : ClH H H' j) (h0 : ∀ e, H[j]? = some e → e.v = 0) : ClH H H' (j + 1) :=
  ⟨h.1, fun x e hx he => by
    by_cases q : x = j
    · subst q; rw [h.2.2 x (Nat.le_refl _)] at he; exact h0 e he
    · exact h.2.1 x e (by omega) he, fun x hx => h.2.2 x (by omega)⟩
theorem ClH.set {H H' : List HEnt} {j : Nat} (h : ClH H H' j) : ClH H (clr H' j) (j + 1) := by
  refine ⟨by unfold clr; rw [List.length_modify]; exact h.1, fun x e hx he => ?_, fun x hx => ?_⟩
  · by_cases q : x = j
    · subst q
      cases hx2 : H'[x]? with
      | none => unfold clr at he; rw [List.getElem?_modify, hx2] at he; cases he
      | some e' => rw [clr_at hx2] at he; cases he; rfl
    · rw [clr_ne (fun e => q e.symm)] at he; exact h.2.1 x e (by omega) he
  · rw [clr_ne (by omega)]; exact h.2.2 x (by omega)
theorem Full.all_zero {m : Mod} {T : Tab} (h : Full m T) (hA : ∀ x, x < m.arr.length → m.arr.getD x 0 = 0) (hH : ∀ x e, x < m.hs.length → m.hs[x]? = some e → e.v = 0) : T.nextA 0 = (lnil, lnil) := by
  have h1 : ∀ i, i ≤ m.arr.length → T.nextA 0 = T.nextA i := by
    intro i
    induction i with
    | zero => intro _; rfl
    | succ i ih => intro hi; rw [ih (by omega)]; exact h.nextA_zero (by omega) (hA i (by omega))
  have h2 : ∀ i, i ≤ m.hs.length → T.nextH 0 = T.nextH i := by
    intro i
    induction i with
    | zero => intro _; rfl
    | succ i ih =>
      intro hi
      rw [ih (by omega)]
      have he : m.hs[i]? = some (m.hs[i]'(by omega)) := List.getElem?_eq_getElem _
      exact h.nextH_zero he (hH i _ (by omega) he)
  rw [h1 _ (Nat.le_refl _), h.nextA_full, h2 _ (Nat.le_refl _), h.nextH_full]
theorem setArr_len (T : Tab) (j : Nat) (v : Value) : j + 1 ≤ ((T.setArr ((j : Int) + 1) v).arr.getD []).length := by
  show _ ≤ (setAt _ _ _).length
  rw [setAt_length, show ((j : Int) + 1).toNat - 1 = j by omega]
  omega
theorem mm_str {w : World} {m : Mod} {p : Option Addr} {c : Nat} {va vn vt vv : Value} (h : MM w m va (.slice p m.hs.length c) vn vt vv) {j : Nat} {e : HEnt} (he : m.hs[j]? = some e) : ∃ g, p = some ⟨g, 0, none⟩ ∧ w.cell? ⟨g, j, none⟩ = some (.bool e.str) := by
  obtain ⟨p', c', e', -, -, hg⟩ := h.s.form
  injection e' with e1 e2 e3
  subst e1
  obtain ⟨g, hp, -, hc, -⟩ := hg j _ (strsOf_at he)
  exact ⟨g, hp, hc⟩
theorem mm_num {w : World} {m : Mod} {p : Option Addr} {c : Nat} {va vs vt vv : Value} (h : MM w m va vs (.slice p m.hs.length c) vt vv) {j : Nat} {e : HEnt} (he : m.hs[j]? = some e) : ∃ g, p = some ⟨g, 0, none⟩ ∧ w.cell? ⟨g, j, none⟩ = some (.int .i64 e.n) := by
  obtain ⟨p', c', e', -, -, hg⟩ := h.n.form
  injection e' with e1 e2 e3
  subst e1
  obtain ⟨g, hp, -, hc, -⟩ := hg j _ (numsOf_at he)
  exact ⟨g, hp, hc⟩
theorem mm_txt {w : World} {m : Mod} {p : Option Addr} {c : Nat} {va vs vn vv : Value} (h : MM w m va vs vn (.slice p m.hs.length c) vv) {j : Nat} {e : HEnt} (he : m.hs[j]? = some e) : ∃ g, p = some ⟨g, 0, none⟩ ∧ w.cell? ⟨g, j, none⟩ = some (.string e.s) := by
  obtain ⟨p', c', e', -, -, hg⟩ := h.t.form
  injection e' with e1 e2 e3
  subst e1
  obtain ⟨g, hp, -, hc, -⟩ := hg j _ (txtsOf_at he)
  exact ⟨g, hp, hc⟩
/-- A turn of the table leaves the model where it lies. -/
theorem Lay.step {w0 w w' : World} {t bm : Nat} {m : Mod} {T T' : Tab} {va vs vn vt vv : Value} {e : Ending} (h : Lay w0 w t bm m T va vs vn vt vv) (hm : w0.heap[bm]? = some (.cells #[va, vs, vn, vt, vv] 30 (0, 0))) (hmm : MM w0 m va vs vn vt vv)
    (u : UpdTo (fun k => w0.heap.size ≤ k) w t T' e w') : e = .returned (.tuple #[]) ∧ Lay w0 w' t bm m T' va vs vn vt vv :=
  ⟨(h.has.step u).1, Lay.of (h.has.step u).2 hm hmm⟩
def ClearW1 (w0 : World) (t bm : Nat) (m : Mod) (va vs vn vt vv : Value) (k i : Value) (wr : World) : Prop :=
  ∃ (j : Nat) (A : List Int) (T : Tab), j ≤ m.arr.length ∧ i = .int .i64 j ∧ ClA m.arr A j ∧ Full ⟨A, m.hs⟩ T ∧ Ans T k (T.nextA j) ∧ Lay w0 wr t bm m T va vs vn vt vv
def ClearW2 (w0 : World) (t bm : Nat) (m : Mod) (A : List Int) (va vs vn vt vv : Value) (k i : Value) (wr : World) : Prop :=
  ∃ (j : Nat) (H : List HEnt) (T : Tab), j ≤ m.hs.length ∧ i = .int .i64 j ∧ ClH m.hs H j ∧ Full ⟨A, H⟩ T ∧ Ans T k (T.nextH j) ∧ Lay w0 wr t bm m T va vs vn vt vv

set_option maxRecDepth 100000 in
set_option maxHeartbeats 4000000 in
theorem clear_walk (w : World) (v : Value) (ops : List ZOp) (h : IsZOps w v ops) : Calls Try.prog 7 #[v] w (Fine w) := by
  have CB := Lib.hid (bytes_clear w v ops h)
  have H0 := Lib.hid h
  clear h
  go_enter Try.func7, Try.ntmps7
  go_upto_region 6 with (first
    | (go_at_call 27; refine CB.out.mono ?_; rintro e w1 ⟨rfl, rfl | ⟨rfl, HS⟩⟩)
    | (go_at_call 10; refine (tooBig_any _ _ ops H0.out HS 0 (by decide) (by decide)).mono ?_; rintro e w1 ⟨rfl, rfl | ⟨rfl, hl, HN⟩⟩)
    | (go_at_call 11; refine (build_any _ _ ops H0.out hl HN).mono ?_; rintro e w2 ⟨M, va, vs, vn, vt, vv, rfl, hmm, hu, hM1, hM2⟩; have HF := Lib.hid (full_ops H0.out.2 hl HN.out hM2); have HU := Lib.hid hu; have hlen := modAt_len (m := ⟨List.replicate M 0, []⟩) (ops := ops) ops.length; generalize modAt ⟨List.replicate M 0, []⟩ ops ops.length = m at HF hmm hlen; obtain ⟨pa, ca, ps, cs, pn, cn, pt, ct, pv, cv, rfl, rfl, rfl, rfl, rfl⟩ := mm_forms hmm; have HMM := Lib.hid hmm; have hml : m.hs.length ≤ 4096 ∧ m.arr.length ≤ 65536 := ⟨by have := hlen.1; simp at this; omega, by rw [hlen.2]; simpa using hM1⟩; have HML := Lib.hid hml; clear hmm hu hM1 hM2 hlen hml))
  all_goals first | (go_ret; exact ⟨rfl, Below.refl _ _⟩) | skip
  have HH := Lib.hid (heap_alloc_new w2 (.cells #[.slice pa m.arr.length ca, .slice ps m.hs.length cs, .slice pn m.hs.length cn, .slice pt m.hs.length ct, .slice pv m.hs.length cv] 30))
  have HU3 := Lib.hid (box_upd w2 (.cells #[.slice pa m.arr.length ca, .slice ps m.hs.length cs, .slice pn m.hs.length cn, .slice pt m.hs.length ct, .slice pv m.hs.length cv] 30))
  generalize w2.alloc (.cells #[.slice pa m.arr.length ca, .slice ps m.hs.length cs, .slice pn m.hs.length cn, .slice pt m.hs.length ct, .slice pv m.hs.length cv] 30) = w3 at HH HU3 ⊢
  have HMM3 := Lib.hid (MV.other HMM.out HU3.out)
  have HZ3 := Lib.hid (H0.out.kept (none_trans HU.out HU3.out))
  obtain ⟨hl1, hl2⟩ := HML.out
  generalize w2.heap.size = bm at HH ⊢
  go_wp2_with (first
    | (go_at_call 12; refine (new_any _).mono ?_; intro e w4 hf; obtain ⟨rfl, hR⟩ := Has.fresh hf; have HR := Lib.hid hR; clear hf hR)
    | (go_at_call 13; refine (apply_any _ w3 _ _ HR.out 0 (Ok.new 0 0) (by omega) _ ops HZ3.out hl HN).mono ?_; rintro e w5 ⟨rfl, hR2⟩; have HL := Lib.hid (Lay.of hR2 HH.out HMM3.out); clear hR2))
  generalize opsT (newTab 0 0) ops ops.length = T at HF HL
  have HA := Lib.hid (ans_start HF.out.nx)
  go_loopw [5, 6] (ClearW1 w3 w3.heap.size bm m (.slice pa m.arr.length ca) (.slice ps m.hs.length cs) (.slice pn m.hs.length cn) (.slice pt m.hs.length ct) (.slice pv m.hs.length cv)) (fun _ i _ => m.arr.length - (intOf i).toNat)
  case atStart => exact ⟨0, m.arr, T, Nat.zero_le _, rfl, ClA.start _, HF.out, HA.out, HL.out⟩
  case round =>
    clear HL HA HF
    obtain ⟨j, A, T, hj, rfl, hC, hF, hA, hL⟩ := hrel
    obtain ⟨tk, xk, rfl⟩ := hA.1
    have HF := Lib.hid hF
    have HCL := Lib.hid hC
    have HA := Lib.hid hA
    have HL := Lib.hid hL
    have hal : A.length = m.arr.length := hC.1
    have HAL := Lib.hid hal
    clear hA hL hF hC hal
    obtain ⟨c0, c1, c2, c3, c4⟩ := HL.out.cells
    by_cases hlt : (j : Int) < m.arr.length
    · have hjl : j < m.arr.length := by omega
      obtain ⟨g, rfl, hc⟩ := mm_arr HL.out.mm hjl
      generalize ha : m.arr.getD j 0 = a at hc
      have haA : A.getD j 0 = a := (HCL.out.2.2 j (Nat.le_refl _)).trans ha
      have hjA : j < A.length := HAL.out ▸ hjl
      have h64 : Is64 a := haA ▸ aok_at HF.out.aok j
      by_cases h0 : a = 0
      · subst h0
        have HA := Lib.hid (HA.out.cast (HF.out.nextA_zero hjA haA))
        have HC2 := Lib.hid (HCL.out.skip ha)
        clear ha haA hjA
        go_wp2_with fail
        go_roundw
        case rel => exact ⟨j + 1, A, T, by omega, by go_num, HC2.out, HF.out, HA.out, HL.out⟩
        case measure => simp [intOf]; omega
      · obtain ⟨hs1, hs2⟩ := HF.out.nextA_some hjA haA h0
        have hne : (a == 0) = false := beq_false_of_ne h0
        have CN := Lib.hid (HA.out.2 wr _ _ HL.out.has.1)
        rw [hs1] at CN
        have HF2 := Lib.hid (HF.out.clear_arr hjA (by rw [HAL.out]; exact hl2))
        have HC2 := Lib.hid (HCL.out.set)
        have HNX := Lib.hid (ans_arr HF2.out.nx (i := j + 1) (by omega) (setArr_len T j lnil))
        have K1 : Hid (∀ W, Calls Try.prog 15 #[lnum (fofInt ((j : Int) + 1)), .float .f64 (floatOfInt .f64 ((j : Int) + 1))] W fun e w' => e = .returned (.bool true) ∧ W = w') := Lib.hid fun W => numIs_self W (by unfold Is64; omega)
        have K2 := Lib.hid (fun W => numIs_self W h64)
        have HXX : Hid (feq (fofInt ((j : Int) + 1)) (fofInt ((j : Int) + 1)) = true) := Lib.hid (feq_self_fof (by unfold Is64; omega))
        have HKEY : Hid (T.setKey ((j : Int) + 1) lnil = T.setArr ((j : Int) + 1) lnil) := Lib.hid (if_pos ⟨by omega, by omega⟩)
        clear ha haA hjA h0 hs1 hs2 h64
        go_wp2_with (first
          | (go_at_call 22; refine CN.out.mono ?_; rintro e w6 ⟨rfl, d, hw⟩; have HL := Lib.hid (hw ▸ HL.out.drewN d); obtain ⟨c0, c1, c2, c3, c4⟩ := HL.out.cells; have hc : w6.cell? ⟨g, j, none⟩ = some (.int .i64 a) := (by rw [hw]; exact hc); clear hw)
          | (go_at_call 15; first | ((with_reducible refine (K1.out _).mono ?_); rintro e w7 ⟨rfl, rfl⟩) | ((with_reducible refine (K2.out _).mono ?_); rintro e w7 ⟨rfl, rfl⟩))
          | (go_at_call 28; refine (rawSetInt_key _ _ T _ HL.out.has.1 HF.out.ok.choose_spec.2 (Nat.le_trans HF.out.ok.choose_spec.1 (by decide)) _ HXX lnil (.inl rfl)).mono ?_; intro e w8 hu; obtain ⟨rfl, hL2⟩ := HL.out.step HH.out HMM3.out hu; rw [HKEY.out] at hL2; have HL := Lib.hid hL2; clear hu hL2))
        go_roundw
        case rel => exact ⟨j + 1, _, _, by omega, by go_num, HC2.out, HF2.out, HNX.out, HL.out⟩
        case measure => simp [intOf]; omega
    · obtain rfl : j = m.arr.length := by omega
      have hAz : ∀ x, x < A.length → A.getD x 0 = 0 := fun x hx => HCL.out.2.1 x (by rw [← HAL.out]; exact hx)
      have HAZ := Lib.hid hAz
      have hn := HF.out.nextA_full
      change T.nextA A.length = _ at hn
      rw [HAL.out] at hn
      have HA := Lib.hid (HA.out.cast hn)
      clear hAz hn
      go_wp2_with fail
      go_loopw [5, 9] (ClearW2 w3 w3.heap.size bm m A (.slice pa m.arr.length ca) (.slice ps m.hs.length cs) (.slice pn m.hs.length cn) (.slice pt m.hs.length ct) (.slice pv m.hs.length cv)) (fun _ i _ => m.hs.length - (intOf i).toNat)
      case atStart => exact ⟨0, m.hs, T, Nat.zero_le _, rfl, ClH.start _, HF.out, HA.out, HL.out⟩
      case round =>
        clear HL HA HF c0 c1 c2 c3 c4
        obtain ⟨j, H, T, hj, rfl, hC, hF, hA, hL⟩ := hrel
        obtain ⟨tk, xk, rfl⟩ := hA.1
        have HF := Lib.hid hF
        have HCH := Lib.hid hC
        have HA := Lib.hid hA
        have HL := Lib.hid hL
        have hhl : H.length = m.hs.length := hC.1
        have HHL := Lib.hid hhl
        clear hA hL hF hC hhl
        obtain ⟨c0, c1, c2, c3, c4⟩ := HL.out.cells
        by_cases hlt : (j : Int) < m.hs.length
        · obtain ⟨en, hen⟩ : ∃ en, m.hs[j]? = some en := ⟨m.hs[j]'(by omega), by simp⟩
          have henH : H[j]? = some en := (HCH.out.2.2 j (Nat.le_refl _)).trans hen
          obtain ⟨g, rfl, hc⟩ := mm_val HL.out.mm hen
          have h64 := (HF.out.hok en (List.mem_of_getElem? henH)).2
          have hek : IsLK en.key := HF.out.rel.h.isk _ (List.mem_of_getElem? (keysOf_at henH))
          by_cases h0 : en.v = 0
          · have HA := Lib.hid (HA.out.cast (HF.out.nextH_zero henH h0))
            have HC2 := Lib.hid (HCH.out.skip (fun e he => by rw [hen] at he; cases he; exact h0))
            rw [h0] at hc
            clear h0 h64 hen henH hek
            go_wp2_with fail
            go_roundw
            case rel => exact ⟨j + 1, H, T, by omega, by go_num, HC2.out, HF.out, HA.out, HL.out⟩
            case measure => simp [intOf]; omega
          · have hne : (en.v == 0) = false := beq_false_of_ne h0
            obtain ⟨gs, rfl, hcs⟩ := mm_str HL.out.mm hen
            obtain ⟨gn, rfl, hcn⟩ := mm_num HL.out.mm hen
            obtain ⟨gt, rfl, hct⟩ := mm_txt HL.out.mm hen
            have CN := Lib.hid (HA.out.2 wr _ _ HL.out.has.1)
            rw [HF.out.nextH_some henH h0] at CN
            have HF2 := Lib.hid (HF.out.clear_key henH (by rw [HHL.out]; exact hl1))
            have HNX : Hid (Ans (T.clearK en) en.key ((T.clearK en).nextH (j + 1))) := Lib.hid (HF2.out.ans_key (e := { en with v := 0 }) (clr_at henH))
            have HC2 := Lib.hid HCH.out.set
            have HEN := Lib.hid hen
            have HEK := Lib.hid hek
            have HES := Lib.hid (entIs_self hek h64)
            have hnum := (HF.out.hok en (List.mem_of_getElem? henH)).1
            obtain ⟨te, xe, hke⟩ := HNX.out.1
            cases hst : en.str
            · obtain ⟨q1, q2⟩ := hnum hst
              have HXX : Hid (feq (fofInt en.n) (fofInt en.n) = true) := Lib.hid (feq_self_fof q1)
              have HKEY : Hid (T.setKey en.n lnil = T.clearK en) := Lib.hid (by unfold Tab.setKey Tab.clearK; rw [if_neg q2, hst]; rfl)
              rw [hst] at hcs
              generalize hkk : en.key = kk at CN HNX HEK HES hke
              subst hke
              clear h0 h64 hen henH hek hkk hnum q1 q2 hct
              go_wp2_with (first
                | (go_at_call 22; refine CN.out.mono ?_; rintro e w6 ⟨rfl, d, hw⟩; have HL := Lib.hid (hw ▸ HL.out.drewN d); obtain ⟨c0, c1, c2, c3, c4⟩ := HL.out.cells; have hcs : w6.cell? ⟨gs, j, none⟩ = some (.bool false) := (by rw [hw]; exact hcs); have hcn : w6.cell? ⟨gn, j, none⟩ = some (.int .i64 en.n) := (by rw [hw]; exact hcn); clear hw hc)
                | (go_at_call 16; refine (hashIs_any _ m _ _ _ _ _ HL.out.mm j en HEN.out _ HEK.out (fofInt en.v)).mono ?_; rintro e w7 ⟨rfl, hU⟩; rw [HES.out]; have HL := Lib.hid (HL.out.other hU); obtain ⟨c0, c1, c2, c3, c4⟩ := HL.out.cells; have hcs := old_at hU hcs; have hcn := old_at hU hcn; clear hU)
                | (go_at_call 28; refine (rawSetInt_key _ _ T _ HL.out.has.1 HF.out.ok.choose_spec.2 (Nat.le_trans HF.out.ok.choose_spec.1 (by decide)) _ HXX lnil (.inl rfl)).mono ?_; intro e w8 hu; obtain ⟨rfl, hL2⟩ := HL.out.step HH.out HMM3.out hu; rw [HKEY.out] at hL2; have HL := Lib.hid hL2; clear hu hL2))
              go_roundw
              case rel => exact ⟨j + 1, _, _, by omega, by go_num, HC2.out, HF2.out, HNX.out, HL.out⟩
              case measure => simp [intOf]; omega
            · have HKEY : Hid (T.setStr en.s lnil = T.clearK en) := Lib.hid (by unfold Tab.clearK; rw [hst]; rfl)
              rw [hst] at hcs
              generalize hkk : en.key = kk at CN HNX HEK HES hke
              subst hke
              clear h0 h64 hen henH hek hkk hnum hcn
              go_wp2_with (first
                | (go_at_call 22; refine CN.out.mono ?_; rintro e w6 ⟨rfl, d, hw⟩; have HL := Lib.hid (hw ▸ HL.out.drewN d); obtain ⟨c0, c1, c2, c3, c4⟩ := HL.out.cells; have hcs : w6.cell? ⟨gs, j, none⟩ = some (.bool true) := (by rw [hw]; exact hcs); have hct : w6.cell? ⟨gt, j, none⟩ = some (.string en.s) := (by rw [hw]; exact hct); clear hw hc)
                | (go_at_call 16; refine (hashIs_any _ m _ _ _ _ _ HL.out.mm j en HEN.out _ HEK.out (fofInt en.v)).mono ?_; rintro e w7 ⟨rfl, hU⟩; rw [HES.out]; have HL := Lib.hid (HL.out.other hU); obtain ⟨c0, c1, c2, c3, c4⟩ := HL.out.cells; have hcs := old_at hU hcs; have hct := old_at hU hct; clear hU)
                | (go_at_call 29; refine (rawSetString_any _ _ T _ HL.out.has.1 (HF.out.ok.choose_spec.2.wf (Nat.le_trans HF.out.ok.choose_spec.1 (by decide))) en.s lnil (.inl rfl)).mono ?_; intro e w8 hu; obtain ⟨rfl, hL2⟩ := HL.out.step HH.out HMM3.out hu; rw [HKEY.out] at hL2; have HL := Lib.hid hL2; clear hu hL2))
              go_roundw
              case rel => exact ⟨j + 1, _, _, by omega, by go_num, HC2.out, HF2.out, HNX.out, HL.out⟩
              case measure => simp [intOf]; omega
        · obtain rfl : j = m.hs.length := by omega
          have CN := Lib.hid (HA.out.2 wr _ _ HL.out.has.1)
          have hn := HF.out.nextH_full
          change T.nextH H.length = _ at hn
          rw [HHL.out] at hn
          rw [hn] at CN
          have hz := HF.out.all_zero HAZ.out (fun x e hx he => HCH.out.2.1 x e (by rw [← HHL.out]; exact hx) he)
          have HS0 := (ans_start HF.out.nx).cast hz
          have HS0 := Lib.hid HS0
          clear hn hz
          go_wp2_with (first
            | (go_at_call 22; first | ((with_reducible refine CN.out.mono ?_); rintro e w6 ⟨rfl, d, hw⟩; have HL := Lib.hid (hw ▸ HL.out.drewN d); clear hw CN) | (refine (HS0.out.2 _ _ _ HL.out.has.1).mono ?_; rintro e w6 ⟨rfl, d, hw⟩; have HL := Lib.hid (hw ▸ HL.out.drewN d); clear hw))
            | (go_at_call 23; refine (isNil_yes _).mono ?_; rintro e w7 ⟨rfl, rfl⟩))
          go_ret
          exact ⟨rfl, none_below (none_trans HU.out (none_trans HU3.out HL.out.has.2))⟩
end Go.Lua
