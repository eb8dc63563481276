/-
  n005_23: FnNextWalksArrayThenInsertionOrder.
-/
import Derived.Test.YtfkemahinnpgdaaBytes23
namespace Go.Lua
open Go.Proofs Go.RowKit Go.Deep
set_option linter.unusedVariables false

/-- Behind the script: the table and the model's own block. -/
structure Lay (w0 : World) (w : World) (t bm : Nat) (m : Mod) (T : Tab) (va vs vn vt vv : Value) : Prop where
  has : Has w0 t T w
  head : w.heap[bm]? = some (.cells #[va, vs, vn, vt, vv] 30 (0, 0))
  mm : MM w m va vs vn vt vv
section
variable {w0 w w' : World} {t bm : Nat} {m : Mod} {T : Tab} {va vs vn vt vv : Value}
theorem Lay.other (h : Lay w0 w t bm m T va vs vn vt vv) (u : Upd (fun _ => False) w w') : Lay w0 w' t bm m T va vs vn vt vv :=
  ⟨h.has.other u, (u.block _ (Array.getElem?_eq_some_iff.1 h.head).1 fun h => h).trans h.head, MV.other h.mm u⟩
theorem Lay.cells (h : Lay w0 w t bm m T va vs vn vt vv) : w.cell? ⟨bm, 0, none⟩ = some va ∧ w.cell? ⟨bm, 1, none⟩ = some vs ∧ w.cell? ⟨bm, 2, none⟩ = some vn ∧ w.cell? ⟨bm, 3, none⟩ = some vt ∧ w.cell? ⟨bm, 4, none⟩ = some vv := by
  simp [World.cell?, h.head]
theorem Lay.drewN (h : Lay w0 w t bm m T va vs vn vt vv) (d : Nat) : Lay w0 (w.drewN d) t bm m T va vs vn vt vv := h.other ((Upd.refl _ _).drewN d)
theorem Lay.of (h : Has w0 t T w) {bm : Nat} (hm : w0.heap[bm]? = some (.cells #[va, vs, vn, vt, vv] 30 (0, 0))) (hmm : MM w0 m va vs vn vt vv) : Lay w0 w t bm m T va vs vn vt vv :=
  ⟨h, (h.2.block _ (Array.getElem?_eq_some_iff.1 hm).1 fun h => h).trans hm, MV.other hmm h.2⟩
end
/-- The model's slices, spelled. -/
theorem mm_forms {w : World} {m : Mod} {va vs vn vt vv : Value} (h : MM w m va vs vn vt vv) : ∃ pa ca ps cs pn cn pt ct pv cv, va = .slice pa m.arr.length ca ∧ vs = .slice ps m.hs.length cs ∧ vn = .slice pn m.hs.length cn ∧ vt = .slice pt m.hs.length ct ∧ vv = .slice pv m.hs.length cv := by
  obtain ⟨pa, ca, h1, -⟩ := h.a.form
  obtain ⟨ps, cs, h2, -⟩ := h.s.form
  obtain ⟨pn, cn, h3, -⟩ := h.n.form
  obtain ⟨pt, ct, h4, -⟩ := h.t.form
  obtain ⟨pv, cv, h5, -⟩ := h.v.form
  rw [arrOf_length] at h1
  rw [strsOf_length] at h2
  rw [numsOf_length] at h3
  rw [txtsOf_length] at h4
  rw [valsOf_length] at h5
  exact ⟨_, _, _, _, _, _, _, _, _, _, h1, h2, h3, h4, h5⟩
theorem IsZOps.kept {w w' : World} {v : Value} {ops : List ZOp} (h : IsZOps w v ops) (u : Upd (fun _ => False) w w') : IsZOps w' v ops := ⟨h.1.below (none_below u) (Nat.le_refl _), h.2⟩
/-- A slot of the array's, a slot of the numbers', as they lie in memory. -/
theorem mm_arr {w : World} {m : Mod} {p : Option Addr} {c : Nat} {vs vn vt vv : Value} (h : MM w m (.slice p m.arr.length c) vs vn vt vv) {j : Nat} (hj : j < m.arr.length) : ∃ g, p = some ⟨g, 0, none⟩ ∧ w.cell? ⟨g, j, none⟩ = some (.int .i64 (m.arr.getD j 0)) := by
  obtain ⟨p', c', e, -, -, hg⟩ := h.a.form
  injection e with e1 e2 e3
  subst e1
  obtain ⟨g, hp, -, hc, -⟩ := hg j (.int .i64 (m.arr.getD j 0)) (by unfold arrOf; rw [List.getElem?_map, List.getD_eq_getElem?_getD, List.getElem?_eq_getElem hj]; rfl)
  exact ⟨g, hp, hc⟩
theorem mm_val {w : World} {m : Mod} {p : Option Addr} {c : Nat} {va vs vn vt : Value} (h : MM w m va vs vn vt (.slice p m.hs.length c)) {j : Nat} {e : HEnt} (he : m.hs[j]? = some e) : ∃ g, p = some ⟨g, 0, none⟩ ∧ w.cell? ⟨g, j, none⟩ = some (.int .i64 e.v) := by
  obtain ⟨p', c', e', -, -, hg⟩ := h.v.form
  injection e' with e1 e2 e3
  subst e1
  obtain ⟨g, hp, -, hc, -⟩ := hg j _ (valsOf_at he)
  exact ⟨g, hp, hc⟩
theorem aok_at {A : List Int} (h : AOk A) (j : Nat) : Is64 (A.getD j 0) := by
  rw [List.getD_eq_getElem?_getD]
  cases hx : A[j]? with
  | none => exact is64_zero
  | some a => exact h a (List.mem_of_getElem? hx)
/-- A number is itself. -/
theorem numIs_self (W : World) {n : Int} (h : Is64 n) : Calls Try.prog 15 #[lnum (fofInt n), .float .f64 (floatOfInt .f64 n)] W fun e w' => e = .returned (.bool true) ∧ W = w' := by
  have C : Calls Try.prog 15 #[lnum (fofInt n), .float .f64 (floatOfInt .f64 n)] W fun e w' => e = .returned (.bool (feq (fofInt n) (fofInt n))) ∧ W = w' := numIs_any W (fofInt n) (fofInt n)
  rwa [feq_self_fof h] at C
theorem entIs_self {e : HEnt} (hk : IsLK e.key) (hv : Is64 e.v) : entIs e e.key (fofInt e.v) = true := by
  unfold entIs
  rw [lk_self hk, feq_self_fof hv]
  rfl
def NextW1 (w0 : World) (t bm : Nat) (m : Mod) (T : Tab) (va vs vn vt vv : Value) (k i : Value) (wr : World) : Prop :=
  ∃ j : Nat, j ≤ m.arr.length ∧ i = .int .i64 j ∧ Ans T k (T.nextA j) ∧ Lay w0 wr t bm m T va vs vn vt vv
def NextW2 (w0 : World) (t bm : Nat) (m : Mod) (T : Tab) (va vs vn vt vv : Value) (k i : Value) (wr : World) : Prop :=
  ∃ j : Nat, j ≤ m.hs.length ∧ i = .int .i64 j ∧ Ans T k (T.nextH j) ∧ Lay w0 wr t bm m T va vs vn vt vv

set_option maxRecDepth 100000 in
set_option maxHeartbeats 4000000 in
theorem next_walk (w : World) (v : Value) (ops : List ZOp) (h : IsZOps w v ops) : Calls Try.prog 5 #[v] w (Fine w) := by
  have CB := Lib.hid (bytes_next w v ops h)
  have H0 := Lib.hid h
  clear h
  go_enter Try.func5, Try.ntmps5
  go_upto_region 6 with (first
    | (go_at_call 21; refine CB.out.mono ?_; rintro e w1 ⟨rfl, rfl | ⟨rfl, HS⟩⟩)
    | (go_at_call 10; refine (tooBig_any _ _ ops H0.out HS 0 (by decide) (by decide)).mono ?_; rintro e w1 ⟨rfl, rfl | ⟨rfl, hl, HN⟩⟩)
    | (go_at_call 11; refine (build_any _ _ ops H0.out hl HN).mono ?_; rintro e w2 ⟨M, va, vs, vn, vt, vv, rfl, hmm, hu, hM1, hM2⟩; have HF := Lib.hid (full_ops H0.out.2 hl HN.out hM2); have HU := Lib.hid hu; have hlen := modAt_len (m := ⟨List.replicate M 0, []⟩) (ops := ops) ops.length; generalize modAt ⟨List.replicate M 0, []⟩ ops ops.length = m at HF hmm hlen; obtain ⟨pa, ca, ps, cs, pn, cn, pt, ct, pv, cv, rfl, rfl, rfl, rfl, rfl⟩ := mm_forms hmm; have HMM := Lib.hid hmm; have hml : m.hs.length ≤ 4096 ∧ m.arr.length ≤ 65536 := ⟨by have := hlen.1; simp at this; omega, by rw [hlen.2]; simpa using hM1⟩; have HML := Lib.hid hml; clear hmm hu hM1 hM2 hlen hml))
  all_goals first | (go_ret; exact ⟨rfl, Below.refl _ _⟩) | skip
  have HH := Lib.hid (heap_alloc_new w2 (.cells #[.slice pa m.arr.length ca, .slice ps m.hs.length cs, .slice pn m.hs.length cn, .slice pt m.hs.length ct, .slice pv m.hs.length cv] 30))
  have HU3 := Lib.hid (box_upd w2 (.cells #[.slice pa m.arr.length ca, .slice ps m.hs.length cs, .slice pn m.hs.length cn, .slice pt m.hs.length ct, .slice pv m.hs.length cv] 30))
  generalize w2.alloc (.cells #[.slice pa m.arr.length ca, .slice ps m.hs.length cs, .slice pn m.hs.length cn, .slice pt m.hs.length ct, .slice pv m.hs.length cv] 30) = w3 at HH HU3 ⊢
  have HMM3 := Lib.hid (MV.other HMM.out HU3.out)
  have HZ3 := Lib.hid (H0.out.kept (none_trans HU.out HU3.out))
  obtain ⟨hl1, hl2⟩ := HML.out
  generalize w2.heap.size = bm at HH ⊢
  go_wp2_with (first
    | (go_at_call 12; refine (new_any _).mono ?_; intro e w4 hf; obtain ⟨rfl, hR⟩ := Has.fresh hf; have HR := Lib.hid hR; clear hf hR)
    | (go_at_call 13; refine (apply_any _ w3 _ _ HR.out 0 (Ok.new 0 0) (by omega) _ ops HZ3.out hl HN).mono ?_; rintro e w5 ⟨rfl, hR2⟩; have HL := Lib.hid (Lay.of hR2 HH.out HMM3.out); clear hR2))
  generalize opsT (newTab 0 0) ops ops.length = T at HF HL
  have HA := Lib.hid (ans_start HF.out.nx)
  have ⟨tz, xz, hz⟩ := HA.out.1
  go_loopw [5, 6] (NextW1 w3 w3.heap.size bm m T (.slice pa m.arr.length ca) (.slice ps m.hs.length cs) (.slice pn m.hs.length cn) (.slice pt m.hs.length ct) (.slice pv m.hs.length cv)) (fun _ i _ => m.arr.length - (intOf i).toNat)
  case atStart => exact ⟨0, Nat.zero_le _, rfl, HA.out, HL.out⟩
  case round =>
    clear HL HA hz
    obtain ⟨j, hj, rfl, hA, hL⟩ := hrel
    obtain ⟨tk, xk, rfl⟩ := hA.1
    have HA := Lib.hid hA
    have HL := Lib.hid hL
    clear hA hL
    obtain ⟨c0, c1, c2, c3, c4⟩ := HL.out.cells
    by_cases hlt : (j : Int) < m.arr.length
    · have hjl : j < m.arr.length := by omega
      obtain ⟨g, rfl, hc⟩ := mm_arr HL.out.mm hjl
      generalize ha : m.arr.getD j 0 = a at hc
      have h64 : Is64 a := ha ▸ aok_at HF.out.aok j
      by_cases h0 : a = 0
      · subst h0
        have HA := Lib.hid (HA.out.cast (HF.out.nextA_zero hjl ha))
        clear ha
        go_wp2_with fail
        go_roundw
        case rel => exact ⟨j + 1, by omega, by go_num, HA.out, HL.out⟩
        case measure => simp [intOf]; omega
      · obtain ⟨hs1, hs2⟩ := HF.out.nextA_some hjl ha h0
        have hne : (a == 0) = false := beq_false_of_ne h0
        have CN := Lib.hid (HA.out.2 wr _ _ HL.out.has.1)
        rw [hs1] at CN
        have HNX := Lib.hid (ans_arr HF.out.nx (i := j + 1) (by omega) hs2)
        have K1 : Hid (∀ W, Calls Try.prog 15 #[lnum (fofInt ((j : Int) + 1)), .float .f64 (floatOfInt .f64 ((j : Int) + 1))] W fun e w' => e = .returned (.bool true) ∧ W = w') := Lib.hid fun W => numIs_self W (by unfold Is64; omega)
        have K2 := Lib.hid (fun W => numIs_self W h64)
        clear ha h0 hs1 hs2 h64
        go_wp2_with (first
          | (go_at_call 22; refine CN.out.mono ?_; rintro e w6 ⟨rfl, d, hw⟩; have HL := Lib.hid (hw ▸ HL.out.drewN d); obtain ⟨c0, c1, c2, c3, c4⟩ := HL.out.cells; have hc : w6.cell? ⟨g, j, none⟩ = some (.int .i64 a) := (by rw [hw]; exact hc); clear hw)
          | (go_at_call 15; first | ((with_reducible refine (K1.out _).mono ?_); rintro e w7 ⟨rfl, rfl⟩) | ((with_reducible refine (K2.out _).mono ?_); rintro e w7 ⟨rfl, rfl⟩)))
        go_roundw
        case rel => exact ⟨j + 1, by omega, by go_num, HNX.out, HL.out⟩
        case measure => simp [intOf]; omega
    · obtain rfl : j = m.arr.length := by omega
      have HA := Lib.hid (HA.out.cast HF.out.nextA_full)
      go_wp2_with fail
      go_loopw [5, 9] (NextW2 w3 w3.heap.size bm m T (.slice pa m.arr.length ca) (.slice ps m.hs.length cs) (.slice pn m.hs.length cn) (.slice pt m.hs.length ct) (.slice pv m.hs.length cv)) (fun _ i _ => m.hs.length - (intOf i).toNat)
      case atStart => exact ⟨0, Nat.zero_le _, rfl, HA.out, HL.out⟩
      case round =>
        clear HL HA c0 c1 c2 c3 c4
        obtain ⟨j, hj, rfl, hA, hL⟩ := hrel
        obtain ⟨tk, xk, rfl⟩ := hA.1
        have HA := Lib.hid hA
        have HL := Lib.hid hL
        clear hA hL
        obtain ⟨c0, c1, c2, c3, c4⟩ := HL.out.cells
        by_cases hlt : (j : Int) < m.hs.length
        · obtain ⟨en, hen⟩ : ∃ en, m.hs[j]? = some en := ⟨m.hs[j]'(by omega), by simp⟩
          obtain ⟨g, rfl, hc⟩ := mm_val HL.out.mm hen
          have h64 := (HF.out.hok en (List.mem_of_getElem? hen)).2
          have hek : IsLK en.key := HF.out.rel.h.isk _ (List.mem_of_getElem? (keysOf_at hen))
          by_cases h0 : en.v = 0
          · have HA := Lib.hid (HA.out.cast (HF.out.nextH_zero hen h0))
            rw [h0] at hc
            clear h0 h64 hen hek
            go_wp2_with fail
            go_roundw
            case rel => exact ⟨j + 1, by omega, by go_num, HA.out, HL.out⟩
            case measure => simp [intOf]; omega
          · have hne : (en.v == 0) = false := beq_false_of_ne h0
            have CN := Lib.hid (HA.out.2 wr _ _ HL.out.has.1)
            rw [HF.out.nextH_some hen h0] at CN
            have HNX := Lib.hid (HF.out.ans_key hen)
            have HEN := Lib.hid hen
            have HEK := Lib.hid hek
            have HES := Lib.hid (entIs_self hek h64)
            obtain ⟨te, xe, hke⟩ := HNX.out.1
            generalize hkk : en.key = kk at CN HNX HEK HES hke
            subst hke
            clear h0 h64 hen hek hkk
            go_wp2_with (first
              | (go_at_call 22; refine CN.out.mono ?_; rintro e w6 ⟨rfl, d, hw⟩; have HL := Lib.hid (hw ▸ HL.out.drewN d); obtain ⟨c0, c1, c2, c3, c4⟩ := HL.out.cells; clear hw hc)
              | (go_at_call 16; refine (hashIs_any _ m _ _ _ _ _ HL.out.mm j en HEN.out _ HEK.out (fofInt en.v)).mono ?_; rintro e w7 ⟨rfl, hU⟩; rw [HES.out]; have HL := Lib.hid (HL.out.other hU); clear hU))
            go_roundw
            case rel => exact ⟨j + 1, by omega, by go_num, HNX.out, HL.out⟩
            case measure => simp [intOf]; omega
        · obtain rfl : j = m.hs.length := by omega
          have CN := Lib.hid (HA.out.2 wr _ _ HL.out.has.1)
          rw [HF.out.nextH_full] at CN
          go_wp2_with (first
            | (go_at_call 22; refine CN.out.mono ?_; rintro e w6 ⟨rfl, d, hw⟩; have HL := Lib.hid (hw ▸ HL.out.drewN d); clear hw)
            | (go_at_call 23; refine (isNil_yes _).mono ?_; rintro e w7 ⟨rfl, rfl⟩))
          go_ret
          exact ⟨rfl, none_below (none_trans HU.out (none_trans HU3.out HL.out.has.2))⟩
end Go.Lua
