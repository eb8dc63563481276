/-
  n005_23: (*LTable).ForEach with the callback that collects the pairs.
-/
import Derived.Test.YtfkemahinnpgdaaEachT
namespace Go.Lua
open Go.Proofs Go.RowKit Go.Deep
set_option linter.unusedVariables false

def alive (T : Tab) : List (Value × Value) := aliveTo (T.arr.getD []) (T.arr.getD []).length
def FArr (w0 : World) (N ba bb : Nat) (T : Tab) (wc : World) : Prop := FSt w0 N ba bb wc (alive T)
def FStr (w0 : World) (N ba bb : Nat) (T : Tab) (wc : World) : Prop := ∃ SL, PairsOf T.hv IsStrK SL ∧ FSt w0 N ba bb wc (alive T ++ SL)
set_option maxRecDepth 100000 in
set_option maxHeartbeats 4000000 in
theorem forEach_any (w : World) (t : Nat) (T : Tab) (F : Nat → Prop) (hT0 : TabAt w t T F) (hFE : FE T) (N ba bb : Nat) (hF : ∀ k, F k → k < N) (hba : N ≤ ba) (hbb : N ≤ bb) (h0 : FSt w N ba bb w []) :
    Calls Try.prog 39 #[.pointer (some ⟨t, 0, none⟩), .func (.func 40) #[] #[.pointer (some ⟨ba, 0, none⟩), .pointer (some ⟨bb, 0, none⟩)]] w fun e w' => e = .returned (.tuple #[]) ∧
      ∃ SL NL, PairsOf T.hv IsStrK SL ∧ PairsOf T.hv IsNumK NL ∧ FSt w N ba bb w' (alive T ++ SL ++ NL) := by
  obtain ⟨va, vd, vs, vk, vi, hT⟩ := hT0
  have HT := Lib.hid hT
  have HF := Lib.hid hFE
  have HN := Lib.hid (And.intro hF (And.intro hba hbb))
  have H0 := Lib.hid h0
  clear hT hFE hF hba hbb h0
  go_enter Try.func39, Try.ntmps39
  obtain ⟨pa, la, ca, rfl⟩ : ∃ p n c, va = .slice p n c := by
    have h1 := HT.out.arr
    cases ha : T.arr with
    | none => rw [ha] at h1; exact ⟨_, _, _, h1⟩
    | some xs => rw [ha] at h1; obtain ⟨g, cap, cur, h2, -⟩ := h1; exact ⟨_, _, _, h2⟩
  have c1 := HT.out.cells.2.1
  go_upto_if 14 with (fail)
  go_cut [4, 5] (fun _ _ wc => FArr w N ba bb T wc)
  case first =>
    cases ha : T.arr with
    | none =>
      have h1 := HT.out.arr
      rw [ha] at h1
      cases h1
      have HR : Hid (FArr w N ba bb T w) := Lib.hid (by unfold FArr alive; rw [ha]; exact H0.out)
      clear ha
      go_wp2_with fail
      go_meet
      case rel => exact HR.out
    | some xs =>
      have h1 := HT.out.arr
      rw [ha] at h1
      obtain ⟨g, cap, hva, hcap, hcm, hcell, -⟩ := h1.cell
      cases hva
      have HC := Lib.hid hcell
      have hev := HF.out.ev
      have hal := HF.out.alen
      rw [ha] at hev hal
      simp only [Option.getD_some] at hev hal
      have HE := Lib.hid hev
      have HR : Hid (∀ w', FSt w N ba bb w' (aliveTo xs xs.length) → FArr w N ba bb T w') := Lib.hid (by unfold FArr alive; rw [ha]; exact fun _ h => h)
      have hG : Hid (g < N) := Lib.hid (HN.out.1 g (HT.out.fa g rfl))
      clear h1 ha hcell hev hcap
      unfold maxLen at hcm
      simp only [Option.isSome_some]
      go_wp2_with fail
      go_loopw [20] (fun i wr => ∃ j : Nat, j ≤ xs.length ∧ i = .int .i64 j ∧ FSt w N ba bb wr (aliveTo xs j)) (fun i _ => xs.length - (intOf i).toNat)
      case atStart => exact ⟨0, Nat.zero_le _, rfl, H0.out⟩
      case round =>
        obtain ⟨j, hj, rfl, hS⟩ := hrel
        have HS := Lib.hid hS
        clear hS
        by_cases hlt : (j : Int) < xs.length
        · obtain ⟨u, hu⟩ : ∃ u, xs[j]? = some u := ⟨xs[j]'(by omega), by simp⟩
          have hcj : wr.cell? ⟨g, j, none⟩ = some u := (World.cell?_of_block (HS.out.2.block g (HT.out.arr.lt g rfl) (Nat.not_le.2 hG.out))).trans (HC.out j u hu)
          rcases HE.out u (List.mem_of_getElem? hu) with rfl | ⟨x, rfl⟩
          · have HS := Lib.hid (alive_nil hu ▸ HS.out)
            clear hu
            go_wp2_with fail
            go_roundw
            case rel => exact ⟨j + 1, by omega, by go_num, HS.out⟩
            case measure => simp [intOf]; omega
          · have CP := Lib.hid (HS.out.call HN.out.2.1 HN.out.2.2 (by have := alive_len xs j; omega) 66 (.float .f64 (floatOfInt .f64 ((j : Int) + 1))) 66 (.float .f64 x))
            have HA := Lib.hid (alive_num hu)
            clear hu
            go_wp2_with (go_at_call 40; refine CP.out.mono ?_; rintro e w1 ⟨rfl, hS, -⟩; have HS := Lib.hid (HA.out ▸ hS); clear hS)
            go_roundw
            case rel => exact ⟨j + 1, by omega, by go_num, HS.out⟩
            case measure => simp [intOf]; omega
        · obtain rfl : j = xs.length := by omega
          have HR := Lib.hid (HR.out _ HS.out)
          go_wp2_with fail
          go_meet
          case rel => exact HR.out
  case rest =>
    have hT := (show FSt w N ba bb wc (alive T) from hcut).tab HT.out HN.out.1
    have HCU := Lib.hid hcut
    obtain ⟨ps, rfl⟩ : ∃ p, vs = .map p := by
      have h1 := hT.sdict
      cases ha : T.sdict with
      | none => rw [ha] at h1; exact ⟨_, h1⟩
      | some f => rw [ha] at h1; obtain ⟨r, h2, -⟩ := h1; exact ⟨_, h2⟩
    have c3 := hT.cells.2.2.2.1
    have HTC := Lib.hid hT
    clear hT hcut
    have hbn : (binOp BinOp.neq 69 (.map ps) (.map none)).run Try.prog wc = .ok (.bool ps.isSome) wc := by cases ps <;> rfl
    go_upto_if 40 with (fail)
    clear hbn
    go_cut [6, 7] (fun _ _ wc => FStr w N ba bb T wc)
    case first =>
      cases hd : T.sdict with
      | none =>
        have h1 := HTC.out.sdict
        rw [hd] at h1
        cases h1
        have HR : Hid (FStr w N ba bb T wc) := Lib.hid ⟨[], pairs_none (by rintro q ⟨s, rfl⟩; rw [hv_str, hd]; rfl), by rw [List.append_nil]; exact HCU.out⟩
        clear hd
        go_wp2_with fail
        go_meet
        case rel => exact HR.out
      | some f =>
        have h1 := HTC.out.sdict
        rw [hd] at h1
        obtain ⟨bm, hbm, es, clock, hb, hg, hf⟩ := h1
        cases hbm
        have hrg := run_range_map (P := Try.prog) wc 69 9 40 bm es clock Try.underlying69 hb
        have HR0 := Lib.hid (Rng.start hb hg)
        have HU0 := Lib.hid (box_upd wc (.mapIter (some bm) clock #[] clock))
        have HD := Lib.hid hd
        have HG := Lib.hid hg
        have HFF := Lib.hid hf
        clear hd hg hf hb
        simp only [Option.isSome_some]
        go_wp2_with fail
        clear hrg
        have HS0 := Lib.hid ((show FSt w N ba bb wc (alive T) from HCU.out).other HU0.out)
        have hit : N ≤ wc.heap.size := (show FSt w N ba bb wc (alive T) from HCU.out).size
        generalize wc.alloc (.mapIter (some bm) clock #[] clock) = w4 at HR0 HS0 ⊢
        generalize wc.heap.size = it at HR0 hit ⊢
        clear HU0
        go_loopw [6] (fun _ wr => ∃ L, Rng wr bm it es L ∧ FSt w N ba bb wr (alive T ++ L.map sPair)) (fun _ wr => (leftOf es (wr.iterSeen it)).size)
        case atStart => exact ⟨[], HR0.out, by simpa using HS0.out⟩
        case round =>
          obtain ⟨L, hR, hS⟩ := hrel
          have HS := Lib.hid hS
          have HL := Lib.hid (some_s HD.out HG.out HFF.out hR.sub)
          have hlen := HF.out.len (fun q => strK_lk) HL.out
          have HRN := Lib.hid hR
          rcases hR.next (P := Try.prog) with ⟨hall, hnx⟩ | ⟨e, w5, he, hR5, hu5, hnx, hen⟩
          · have HR : Hid (FStr w N ba bb T wr) := Lib.hid ⟨_, pairs_s HD.out HG.out HFF.out hR.sub hall, HS.out⟩
            clear hall hR hS
            go_wp2_with fail
            go_meet
            case rel => exact HR.out
          · obtain ⟨⟨s, hs⟩, x, hx⟩ := str_of HF.out HD.out HG.out HFF.out (mem_left he).1
            have hpair : sPair e = (lstr s, lnum x) := by unfold sPair; rw [hs, hx]; rfl
            rw [hs, hx] at hnx hen
            have HE := Lib.hid he
            have HR5 := Lib.hid hR5
            have hS5 : FSt w N ba bb w5 (alive T ++ L.map sPair) := HS.out.kept (hu5.mono fun k _ hk => hk ▸ hR.iter) (fun k hk hk2 => hu5.block k hk2 (fun e1 => by omega))
            have HS5 := Lib.hid hS5
            have CP := Lib.hid (hS5.call HN.out.2.1 HN.out.2.2 (by have := alive_len (T.arr.getD []) (T.arr.getD []).length; have := HF.out.alen; simp only [List.length_append, alive]; omega) 53 (.string s) 66 (.float .f64 x))
            clear he hR5 hS5 hR hS hlen hs hx hu5
            go_wp2_with (go_at_call 40; refine CP.out.mono ?_; rintro e9 w6 ⟨rfl, hS, hT⟩; have HS6 := Lib.hid hS; have HU6 := Lib.hid hT; clear hS hT)
            go_roundw
            case rel => exact ⟨L ++ [e], HR5.out.pushed HU6.out HS5.out, by have := HS6.out; rw [List.map_append, ← List.append_assoc, List.map_singleton, hpair]; exact this⟩
            case measure => exact HRN.out.less (HR5.out.pushed HU6.out HS5.out) HE.out
    case rest =>
      obtain ⟨SL, hSL, hFS⟩ := (show FStr w N ba bb T wc from hcut)
      have hT := hFS.tab HT.out HN.out.1
      have HCU := Lib.hid hFS
      have HSL := Lib.hid hSL
      have hsl := Lib.hid (HF.out.len (fun q => strK_lk) hSL.1)
      obtain ⟨pd, rfl⟩ : ∃ p, vd = .map p := by
        have h1 := hT.dict
        cases ha : T.dict with
        | none => rw [ha] at h1; exact ⟨_, h1⟩
        | some f => rw [ha] at h1; obtain ⟨r, h2, -⟩ := h1; exact ⟨_, h2⟩
      have c2 := hT.cells.2.2.1
      have HTC := Lib.hid hT
      clear hT hcut hFS hSL
      have hbn : (binOp BinOp.neq 68 (.map pd) (.map none)).run Try.prog wc = .ok (.bool pd.isSome) wc := by cases pd <;> rfl
      go_upto_if 63 with (fail)
      clear hbn
      cases hd : T.dict with
      | none =>
        have h1 := HTC.out.dict
        rw [hd] at h1
        cases h1
        have HR : Hid (∃ NL, PairsOf T.hv IsNumK NL ∧ FSt w N ba bb wc (alive T ++ SL ++ NL)) := Lib.hid ⟨[], pairs_none (by rintro q hq; rw [hv_numK hq, hd]; rfl), by rw [List.append_nil]; exact HCU.out⟩
        clear hd
        go_wp2_with fail
        go_end0
        obtain ⟨NL, h1, h2⟩ := HR.out
        exact ⟨rfl, SL, NL, HSL.out, h1, h2⟩
      | some f =>
        have h1 := HTC.out.dict
        rw [hd] at h1
        obtain ⟨bm, hbm, es, clock, hb, hg, hf⟩ := h1
        cases hbm
        have hrg := run_range_map (P := Try.prog) wc 68 40 40 bm es clock Try.underlying68 hb
        have HR0 := Lib.hid (Rng.start hb hg)
        have HU0 := Lib.hid (box_upd wc (.mapIter (some bm) clock #[] clock))
        have HD := Lib.hid hd
        have HG := Lib.hid hg
        have HFF := Lib.hid hf
        clear hd hg hf hb
        simp only [Option.isSome_some]
        go_wp2_with fail
        clear hrg
        have HS0 := Lib.hid (HCU.out.other HU0.out)
        have hit : N ≤ wc.heap.size := HCU.out.size
        generalize wc.alloc (.mapIter (some bm) clock #[] clock) = w4 at HR0 HS0 ⊢
        generalize wc.heap.size = it at HR0 hit ⊢
        clear HU0
        go_loopw [8] (fun _ wr => ∃ L, Rng wr bm it es L ∧ FSt w N ba bb wr (alive T ++ SL ++ L.map nPair)) (fun _ wr => (leftOf es (wr.iterSeen it)).size)
        case atStart => exact ⟨[], HR0.out, by simpa using HS0.out⟩
        case round =>
          obtain ⟨L, hR, hS⟩ := hrel
          have HS := Lib.hid hS
          have HL := Lib.hid (some_n HF.out HD.out HG.out HFF.out hR.sub)
          have hlen := HF.out.len (fun q => numK_lk) HL.out
          have HRN := Lib.hid hR
          rcases hR.next (P := Try.prog) with ⟨hall, hnx⟩ | ⟨e, w5, he, hR5, hu5, hnx, hen⟩
          · have HR : Hid (PairsOf T.hv IsNumK (L.map nPair)) := Lib.hid (pairs_n HF.out HD.out HG.out HFF.out hR.sub hall)
            clear hall hR hS
            go_wp2_with fail
            go_end0
            exact ⟨rfl, SL, _, HSL.out, HR.out, HS.out⟩
          · obtain ⟨⟨y, hs, -⟩, ⟨x, hx⟩, -⟩ := num_of HF.out HD.out HG.out HFF.out (mem_left he).1
            have hpair : nPair e = (lnum y, lnum x) := by unfold nPair; rw [hs, hx]
            rw [hs, hx] at hnx hen
            have HE := Lib.hid he
            have HR5 := Lib.hid hR5
            have hS5 : FSt w N ba bb w5 (alive T ++ SL ++ L.map nPair) := HS.out.kept (hu5.mono fun k _ hk => hk ▸ hR.iter) (fun k hk hk2 => hu5.block k hk2 (fun e1 => by omega))
            have HS5 := Lib.hid hS5
            have CP := Lib.hid (hS5.call HN.out.2.1 HN.out.2.2 (by have := alive_len (T.arr.getD []) (T.arr.getD []).length; have := HF.out.alen; have := hsl.out; simp only [List.length_append, alive]; omega) 66 (.float .f64 y) 66 (.float .f64 x))
            clear he hR5 hS5 hR hS hlen hs hx hu5
            go_wp2_with (go_at_call 40; refine CP.out.mono ?_; rintro e9 w6 ⟨rfl, hS, hT⟩; have HS6 := Lib.hid hS; have HU6 := Lib.hid hT; clear hS hT)
            go_roundw
            case rel => exact ⟨L ++ [e], HR5.out.pushed HU6.out HS5.out, by have := HS6.out; rw [List.map_append, ← List.append_assoc, List.map_singleton, hpair]; exact this⟩
            case measure => exact HRN.out.less (HR5.out.pushed HU6.out HS5.out) HE.out
end Go.Lua
