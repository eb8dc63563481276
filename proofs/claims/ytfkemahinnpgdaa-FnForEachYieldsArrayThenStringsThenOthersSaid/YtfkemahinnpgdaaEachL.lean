/-
  n005_23: FnForEachYieldsArrayThenStringsThenOthers.
-/
import Derived.Test.YtfkemahinnpgdaaEachM
import Derived.Test.YtfkemahinnpgdaaClear
namespace Go.Lua
open Go.Proofs Go.RowKit Go.Deep
set_option linter.unusedVariables false

/-- Behind the script and ForEach: the model's block, the two slices of pairs. -/
structure EBase (w : World) (bm : Nat) (m : Mod) (PL : List (Value × Value)) (va vs vn vt vv vk vb : Value) : Prop where
  head : w.heap[bm]? = some (.cells #[va, vs, vn, vt, vv] 30 (0, 0))
  mm : MM w m va vs vn vt vv
  ks : SlE 40 w vk (PL.map (·.1))
  bs : SlE 40 w vb (PL.map (·.2))
section
variable {w w' : World} {bm : Nat} {m : Mod} {PL : List (Value × Value)} {va vs vn vt vv vk vb : Value}
theorem EBase.other (h : EBase w bm m PL va vs vn vt vv vk vb) (u : Upd (fun _ => False) w w') : EBase w' bm m PL va vs vn vt vv vk vb :=
  ⟨(u.block _ (Array.getElem?_eq_some_iff.1 h.head).1 fun h => h).trans h.head, MV.other h.mm u, h.ks.kept fun b hb => u.block b (h.ks.lt hb) fun q => q, h.bs.kept fun b hb => u.block b (h.bs.lt hb) fun q => q⟩
theorem EBase.cells (h : EBase w bm m PL va vs vn vt vv vk vb) : w.cell? ⟨bm, 0, none⟩ = some va ∧ w.cell? ⟨bm, 1, none⟩ = some vs ∧ w.cell? ⟨bm, 2, none⟩ = some vn ∧ w.cell? ⟨bm, 3, none⟩ = some vt ∧ w.cell? ⟨bm, 4, none⟩ = some vv := by
  simp [World.cell?, h.head]
theorem EBase.pair {pk pb : Option Addr} {n ck cb : Nat} (h : EBase w bm m PL va vs vn vt vv (.slice pk n ck) (.slice pb n cb)) {x : Nat} {p : Value × Value} (hp : PL[x]? = some p) : ∃ gk gb, pk = some ⟨gk, 0, none⟩ ∧ pb = some ⟨gb, 0, none⟩ ∧ w.cell? ⟨gk, x, none⟩ = some p.1 ∧ w.cell? ⟨gb, x, none⟩ = some p.2 := by
  obtain ⟨p1, c1, e1, -, -, g1⟩ := h.ks.form
  obtain ⟨p2, c2, e2, -, -, g2⟩ := h.bs.form
  injection e1 with e1
  injection e2 with e2
  subst e1 e2
  obtain ⟨gk, hk, -, ck, -⟩ := g1 x p.1 (by rw [List.getElem?_map, hp]; rfl)
  obtain ⟨gb, hb, -, cb, -⟩ := g2 x p.2 (by rw [List.getElem?_map, hp]; rfl)
  exact ⟨gk, gb, hk, hb, ck, cb⟩
end
theorem bool_made (n : Nat) (h1 : n ≤ 4398046511104) (w : World) : (Instr.makeSlice 26 (.int .i64 n) (.int .i64 n)).run Try.prog w = .ok (.slice (some ⟨w.heap.size, 0, none⟩) n n) (w.alloc (.cells (madeCells #[.bool false] n) 4)) := by
  obtain ⟨i, hi, hz, hs, hby⟩ : ∃ i, Try.prog.info? 4 = some i ∧ i.zero = some (.bool false) ∧ i.size = 1 ∧ i.bytes ≤ 64 := by simpa using inf_s
  have hb : (i.bytes : Int) * n ≤ 281474976710656 := by
    have : (i.bytes : Int) * n ≤ 64 * n := Int.mul_le_mul_of_nonneg_right (by omega) (by omega)
    omega
  have := run_make (P := Try.prog) w 26 4 i (.bool false) Try.underlying26 hi hz .i64 .i64 n n (by omega) (Int.le_refl _) hb (by omega)
  rw [hs, Nat.mul_one] at this
  exact this
theorem cell_of {w : World} {g n j : Nat} {ms : List Bool} {b : Bool} (h : SlE 4 w (.slice (some ⟨g, 0, none⟩) n n) (ms.map .bool)) (hj : ms[j]? = some b) : w.cell? ⟨g, j, none⟩ = some (.bool b) ∧ w.frozen? ⟨g, j, none⟩ = false := by
  obtain ⟨p', c', e', -, -, hg⟩ := h.form
  obtain ⟨g', hp', -, hc', hz'⟩ := hg j (.bool b) (by rw [List.getElem?_map, hj]; rfl)
  injection e' with e1
  rw [← e1] at hp'
  cases hp'
  exact ⟨hc', hz'⟩
set_option maxRecDepth 100000 in
set_option maxHeartbeats 8000000 in
theorem each_walk (w : World) (v : Value) (ops : List ZOp) (h : IsZOps w v ops) : Calls Try.prog 3 #[v] w (Fine w) := by
  have CB := Lib.hid (bytes_each w v ops h)
  have H0 := Lib.hid h
  clear h
  go_enter Try.func3, Try.ntmps3
  go_upto_region 6 with (first
    | (go_at_call 9; refine CB.out.mono ?_; rintro e w1 ⟨rfl, rfl | ⟨rfl, HS⟩⟩)
    | (go_at_call 10; refine (tooBig_any _ _ ops H0.out HS 0 (by decide) (by decide)).mono ?_; rintro e w1 ⟨rfl, rfl | ⟨rfl, hl, HN⟩⟩)
    | (go_at_call 11; refine (build_any _ _ ops H0.out hl HN).mono ?_; rintro e w2 ⟨M, va, vs, vn, vt, vv, rfl, hmm, hu, hM1, hM2⟩; have HF := Lib.hid (full_ops H0.out.2 hl HN.out hM2); have HU := Lib.hid hu; have hlen := modAt_len (m := ⟨List.replicate M 0, []⟩) (ops := ops) ops.length; generalize modAt ⟨List.replicate M 0, []⟩ ops ops.length = m at HF hmm hlen; obtain ⟨pa, ca, ps, cs, pn, cn, pt, ct, pv, cv, rfl, rfl, rfl, rfl, rfl⟩ := mm_forms hmm; have HMM := Lib.hid hmm; have hml : m.hs.length ≤ 4096 ∧ m.arr.length ≤ 65536 := ⟨by have := hlen.1; simp at this; omega, by rw [hlen.2]; simpa using hM1⟩; have HML := Lib.hid hml; clear hmm hu hM1 hM2 hlen hml))
  all_goals first | (go_ret; exact ⟨rfl, Below.refl _ _⟩) | skip
  have HH := Lib.hid (heap_alloc_new w2 (.cells #[.slice pa m.arr.length ca, .slice ps m.hs.length cs, .slice pn m.hs.length cn, .slice pt m.hs.length ct, .slice pv m.hs.length cv] 30))
  have HU3 := Lib.hid (box_upd w2 (.cells #[.slice pa m.arr.length ca, .slice ps m.hs.length cs, .slice pn m.hs.length cn, .slice pt m.hs.length ct, .slice pv m.hs.length cv] 30))
  generalize w2.alloc (.cells #[.slice pa m.arr.length ca, .slice ps m.hs.length cs, .slice pn m.hs.length cn, .slice pt m.hs.length ct, .slice pv m.hs.length cv] 30) = w3 at HH HU3 ⊢
  have HMM3 := Lib.hid (MV.other HMM.out HU3.out)
  have HZ3 := Lib.hid (H0.out.kept (none_trans HU.out HU3.out))
  obtain ⟨hl1, hl2⟩ := HML.out
  generalize w2.heap.size = bm at HH ⊢
  go_upto_region 9 with (first
    | (go_at_call 12; refine (new_any _).mono ?_; intro e w4 hf; obtain ⟨rfl, hR⟩ := Has.fresh hf; have HR := Lib.hid hR; clear hf hR)
    | (go_at_call 13; refine (apply_any _ w3 _ _ HR.out 0 (Ok.new 0 0) (by omega) _ ops HZ3.out hl HN).mono ?_; rintro e w5 ⟨rfl, hR2⟩; have HL := Lib.hid (Lay.of hR2 HH.out HMM3.out); clear hR2; generalize opsT (newTab 0 0) ops ops.length = T at HF HL)
    | (go_at_call 14; refine (pairs_any _ _ T _ HL.out.has.1 HF.out.fe).mono ?_; rintro e w6 ⟨vk, vb, SL, NL, rfl, hSL, hNL, hks, hbs, hu6⟩; have HB := Lib.hid (show EBase w6 bm m (alive T ++ (SL ++ NL)) (.slice pa m.arr.length ca) (.slice ps m.hs.length cs) (.slice pn m.hs.length cn) (.slice pt m.hs.length ct) (.slice pv m.hs.length cv) vk vb from ⟨(HL.out.other hu6).head, (HL.out.other hu6).mm, by rw [← List.append_assoc]; exact hks, by rw [← List.append_assoc]; exact hbs⟩); have HU6 := Lib.hid (none_trans HU.out (none_trans HU3.out (none_trans HL.out.has.2 hu6))); have HP := Lib.hid (HF.out.hpairs hSL hNL); have HLS := Lib.hid (And.intro (HF.out.len_s hSL) (HF.out.len_n hNL)); clear hSL hNL hks hbs hu6))
  rw [HF.out.alive] at HB
  have hfull := HF.out
  obtain ⟨na, hna⟩ : ∃ n, n = (arrTo m.arr m.arr.length).length := ⟨_, rfl⟩
  obtain ⟨ns, hns⟩ : ∃ n, n = SL.length := ⟨_, rfl⟩
  obtain ⟨nn, hnn⟩ : ∃ n, n = NL.length := ⟨_, rfl⟩
  have hPn : (arrTo m.arr m.arr.length ++ (SL ++ NL)).length = na + ns + nn := by simp only [List.length_append]; omega
  obtain ⟨pk, ck, rfl, hk1, hk2, -⟩ := HB.out.ks.form
  obtain ⟨pb, cb, rfl, hb1, hb2, -⟩ := HB.out.bs.form
  have HPN := Lib.hid hPn
  simp only [List.length_map, hPn] at HB ⊢
  rw [← hns] at HP
  have hna2 := arrTo_len m.arr m.arr.length
  have hns2 := liveOf_le true m.hs
  have hnn2 := liveOf_le false m.hs
  rw [← hna] at hna2
  rw [← HLS.out.1, ← hns] at hns2
  rw [← HLS.out.2, ← hnn] at hnn2
  have HNA := Lib.hid hna
  have HNS := Lib.hid (hns.trans HLS.out.1)
  have HNN := Lib.hid (hnn.trans HLS.out.2)
  clear hna hns hnn hPn hfull HLS hk1 hk2 hb1 hb2 HL HR HZ3 HMM3 HH HMM
  go_wp2_with fail
  obtain ⟨c0, c1, c2, c3, c4⟩ := HB.out.cells
  go_loop [7, 10] (fun a i => ∃ j : Nat, j ≤ m.arr.length ∧ i = .int .i64 j ∧ a = .int .i64 (arrTo m.arr j).length) (fun _ i => m.arr.length - (intOf i).toNat)
  case atStart => exact ⟨0, Nat.zero_le _, rfl, rfl⟩
  case round =>
    obtain ⟨j, hj, rfl, rfl⟩ := hrel
    have hjl2 := arrTo_len m.arr j
    by_cases hlt : (j : Int) < m.arr.length
    · have hjl : j < m.arr.length := by omega
      obtain ⟨g, rfl, hc⟩ := mm_arr HB.out.mm hjl
      by_cases h0 : m.arr.getD j 0 = 0
      · have HE := Lib.hid (arrTo_zero h0)
        rw [h0] at hc
        clear h0
        go_wp2_with fail
        go_round
        case rel => exact ⟨j + 1, by omega, by go_num, by rw [HE.out]⟩
        case measure => simp [intOf]; omega
      · have HE : Hid ((arrTo m.arr (j + 1)).length = (arrTo m.arr j).length + 1) := Lib.hid (by rw [arrTo_some h0, List.length_append]; rfl)
        have hne : (m.arr.getD j 0 == 0) = false := beq_false_of_ne h0
        generalize m.arr.getD j 0 = a at hc hne h0
        clear h0
        go_wp2_with fail
        go_round
        case rel => exact ⟨j + 1, by omega, by go_num, by rw [HE.out]; go_num⟩
        case measure => simp [intOf]; omega
    · obtain rfl : j = m.arr.length := by omega
      go_wp2_with fail
      rw [← HNA.out]
      go_loop [8, 9, 11] (fun a b i => ∃ j : Nat, j ≤ m.hs.length ∧ i = .int .i64 j ∧ a = .int .i64 (liveOf true (m.hs.take j)).length ∧ b = .int .i64 (liveOf false (m.hs.take j)).length) (fun _ _ i => m.hs.length - (intOf i).toNat)
      case atStart => exact ⟨0, Nat.zero_le _, rfl, rfl, rfl⟩
      case round =>
        clear hjl2 hj hlt
        obtain ⟨j, hj, rfl, rfl, rfl⟩ := hrel
        have hb1 := Nat.le_trans (liveOf_le true (m.hs.take j)) (List.length_take_le _ _)
        have hb2 := Nat.le_trans (liveOf_le false (m.hs.take j)) (List.length_take_le _ _)
        by_cases hlt : (j : Int) < m.hs.length
        · obtain ⟨en, hen⟩ : ∃ en, m.hs[j]? = some en := ⟨m.hs[j]'(by omega), by simp⟩
          obtain ⟨g, rfl, hc⟩ := mm_val HB.out.mm hen
          have HT := Lib.hid (liveOf_take hen true)
          have HG := Lib.hid (liveOf_take hen false)
          by_cases h0 : en.v = 0
          · rw [h0] at hc HT HG
            clear h0 hen
            go_wp2_with fail
            go_round
            case rel => exact ⟨j + 1, by omega, by go_num, by rw [HT.out]; rfl, by rw [HG.out]; rfl⟩
            case measure => simp [intOf]; omega
          · have hne : (en.v == 0) = false := beq_false_of_ne h0
            have hne2 : (en.v != 0) = true := by rw [bne, hne]; rfl
            obtain ⟨gs, rfl, hcs⟩ := mm_str HB.out.mm hen
            generalize en.v = ev at hc hne h0 hne2 HT HG
            rw [hne2] at HT HG
            cases hst : en.str
            · rw [hst] at hcs HT HG
              clear h0 hen hst hne2
              go_wp2_with fail
              go_round
              case rel => exact ⟨j + 1, by omega, by go_num, by rw [HT.out]; rfl, by rw [HG.out]; go_num⟩
              case measure => simp [intOf]; omega
            · rw [hst] at hcs HT HG
              clear h0 hen hst hne2
              go_wp2_with fail
              go_round
              case rel => exact ⟨j + 1, by omega, by go_num, by rw [HT.out]; go_num, by rw [HG.out]; rfl⟩
              case measure => simp [intOf]; omega
        · obtain rfl : j = m.hs.length := by omega
          clear hb1 hb2
          rw [List.take_length, ← HNS.out, ← HNN.out]
          go_wp2_with fail
          clear c0 c1 c2 c3 c4
          go_loopw [13, 14] (fun d i wr => ∃ j : Nat, j ≤ m.arr.length ∧ i = .int .i64 j ∧ d = .int .i64 (arrTo m.arr j).length ∧ Upd (fun _ => False) w6 wr) (fun _ i _ => m.arr.length - (intOf i).toNat)
          case atStart => exact ⟨0, Nat.zero_le _, rfl, rfl, Upd.refl _ _⟩
          case round =>
            clear hj hlt
            obtain ⟨j, hj, rfl, rfl, hu⟩ := hrel
            have HBR := Lib.hid (HB.out.other hu)
            have HUR := Lib.hid hu
            clear hu
            obtain ⟨c0, c1, c2, c3, c4⟩ := HBR.out.cells
            have hjl2 := arrTo_len m.arr j
            by_cases hlt : (j : Int) < m.arr.length
            · have hjl : j < m.arr.length := by omega
              obtain ⟨g, rfl, hc⟩ := mm_arr HBR.out.mm hjl
              by_cases h0 : m.arr.getD j 0 = 0
              · have HE := Lib.hid (arrTo_zero h0)
                rw [h0] at hc
                clear h0
                go_wp2_with fail
                go_roundw
                case rel => exact ⟨j + 1, by omega, by go_num, by rw [HE.out], HUR.out⟩
                case measure => simp [intOf]; omega
              · have HE : Hid ((arrTo m.arr (j + 1)).length = (arrTo m.arr j).length + 1) := Lib.hid (by rw [arrTo_some h0, List.length_append]; rfl)
                have hat := arrTo_at h0 m.arr.length hjl
                have hxl := (List.getElem?_eq_some_iff.1 hat).1
                rw [← HNA.out] at hxl
                obtain ⟨gk, gb, rfl, rfl, ck, cb⟩ := HBR.out.pair (x := (arrTo m.arr j).length) (by rw [List.getElem?_append_left (by rw [← HNA.out]; exact hxl)]; exact hat)
                have hne : (m.arr.getD j 0 == 0) = false := beq_false_of_ne h0
                have h64 : Is64 (m.arr.getD j 0) := aok_at HF.out.aok j
                generalize m.arr.getD j 0 = a at hc hne h0 h64 ck cb
                generalize (arrTo m.arr j).length = x at hxl ck cb HE hjl2 ⊢
                have K1 : Hid (∀ W, Calls Try.prog 15 #[lnum (fofInt ((j : Int) + 1)), .float .f64 (floatOfInt .f64 ((j : Int) + 1))] W fun e w' => e = .returned (.bool true) ∧ W = w') := Lib.hid fun W => numIs_self W (by unfold Is64; omega)
                have K2 := Lib.hid (fun W => numIs_self W h64)
                have hxi : (x : Int) < na + ns + nn := by omega
                clear h0 hat h64
                go_upto_region 30 with (fail)
                go_quiet ((first
                  | (go_at_call 15; with_reducible exact quiet_left (K1.out _))
                  | (go_at_call 15; with_reducible exact quiet_left (K2.out _))))
                go_wp2_with fail
                go_roundw
                case rel => exact ⟨j + 1, by omega, by go_num, by rw [HE.out]; go_num, HUR.out.drewN _⟩
                case measure => simp [intOf]; omega
            · obtain rfl : j = m.arr.length := by omega
              rw [← HNA.out]
              have hmade := bool_made m.hs.length (by omega)
              obtain ⟨W0, hW0⟩ : ∃ W0, W0 = wr := ⟨_, rfl⟩
              subst hW0
              go_wp2_with fail
              clear hmade hjl2 c0 c1 c2 c3 c4
              have hs7 := SlE.made (e := 4) W0 (.bool false) m.hs.length (by unfold maxLen; omega)
              have HU7 := Lib.hid (box_upd W0 (.cells (madeCells #[.bool false] m.hs.length) 4))
              obtain ⟨g, hg⟩ : ∃ g, g = W0.heap.size := ⟨_, rfl⟩
              rw [← hg] at hs7 ⊢
              have HS7 := Lib.hid hs7
              have HG : Hid (W0.heap.size ≤ g) := Lib.hid (Nat.le_of_eq hg.symm)
              clear hs7 hg
              generalize W0.alloc (.cells (madeCells #[.bool false] m.hs.length) 4) = w7 at HS7 HU7 ⊢
              -- LOOP 4 (printed by mkeach.py)
              go_loopw [16] (fun q wr2 => ∃ (i : Nat) (ms : List Bool), na ≤ i ∧ i ≤ na + ns + nn ∧ q = .int .i64 i ∧ Mk (keysOf m.hs) (SL ++ NL) (i - na) ms ∧ SlE 4 wr2 (.slice (some ⟨g, 0, none⟩) m.hs.length m.hs.length) (ms.map .bool) ∧ Upd (fun _ => False) W0 wr2) (fun q _ => (na + ns + nn) - (intOf q).toNat)
              case atStart => exact ⟨na, _, Nat.le_refl _, by omega, rfl, by rw [Nat.sub_self]; exact Mk.start _ _, by rw [List.map_replicate, keysOf_length]; exact HS7.out, HU7.out⟩
              case round =>
                clear HS7 HU7
                obtain ⟨i, ms, hi1, hi2, rfl, hMk, hS5, hU5⟩ := hrel
                have HMK := Lib.hid hMk
                have HS5 := Lib.hid hS5
                have HU5 := Lib.hid hU5
                clear hMk hS5 hU5
                by_cases hlt : (i : Int) < na + ns + nn
                · have hle : (SL ++ NL).length = ns + nn := by have := HPN.out; rw [List.length_append, ← HNA.out] at this; omega
                  obtain ⟨p, hp⟩ : ∃ p, (SL ++ NL)[i - na]? = some p := ⟨(SL ++ NL)[i - na]'(by omega), by simp⟩
                  obtain ⟨j0, e0, hf, he0, hv0, hpv, hst, hlk⟩ := HP.out.tgt _ _ hp
                  have hj0 : j0 < m.hs.length := (List.getElem?_eq_some_iff.1 he0).1
                  have hpx : (arrTo m.arr m.arr.length ++ (SL ++ NL))[i]? = some p := by rw [List.getElem?_append_right (by rw [← HNA.out]; exact hi1), ← HNA.out]; exact hp
                  obtain ⟨gk, gb, rfl, rfl, -, -⟩ := HBR.out.pair hpx
                  obtain ⟨tk, xk, hkf, -⟩ := lk_form hlk
                  obtain ⟨k0, hk0, hlk0⟩ := findL_some hf
                  rw [keysOf_at he0] at hk0
                  cases hk0
                  rw [hkf] at hlk hlk0
                  have HPX := Lib.hid hpx
                  have HPK := Lib.hid hkf
                  have HPV := Lib.hid hpv
                  have HPH := Lib.hid hp
                  have HF0 := Lib.hid hf
                  have HE0 := Lib.hid he0
                  have HV0 := Lib.hid hv0
                  have HLK := Lib.hid hlk
                  have HL0 := Lib.hid hlk0
                  have HIX : Hid (i + 1 - na = i - na + 1) := Lib.hid (by omega)
                  clear hle hp hf he0 hv0 hpv hlk hkf hpx hlk0
                  by_cases hw : (i : Int) < na + ns
                  · have hes : e0.str = true := by rw [hst]; exact decide_eq_true (by omega)
                    have HES0 := Lib.hid hes
                    clear hes hst
                    go_wp2_with fail
                    go_loopw [18, 19] (fun f q wr2 => f = .bool false ∧ ∃ j : Nat, j ≤ j0 ∧ q = .int .i64 j ∧ SlE 4 wr2 (.slice (some ⟨g, 0, none⟩) m.hs.length m.hs.length) (ms.map .bool) ∧ Upd (fun _ => False) W0 wr2) (fun _ q _ => m.hs.length - (intOf q).toNat)
                    case atStart => exact ⟨rfl, 0, Nat.zero_le _, rfl, HS5.out, HU5.out⟩
                    case round =>
                      obtain ⟨rfl, j, hj, rfl, hM2, hU2⟩ := hrel
                      have HU2 := Lib.hid hU2
                      have HM2 := Lib.hid hM2
                      have HB2 := Lib.hid (HBR.out.other hU2)
                      clear hM2 hU2
                      have hjl : j < m.hs.length := by omega
                      have hjI : (j : Int) < m.hs.length := by omega
                      obtain ⟨en, hen⟩ : ∃ en, m.hs[j]? = some en := ⟨m.hs[j]'hjl, by simp⟩
                      obtain ⟨c0, c1, c2, c3, c4⟩ := HB2.out.cells
                      obtain ⟨gs, rfl, hcs⟩ := mm_str HB2.out.mm hen
                      obtain ⟨gv, rfl, hcv⟩ := mm_val HB2.out.mm hen
                      obtain ⟨mb, hmb⟩ : ∃ mb, ms[j]? = some mb := ⟨ms[j]'(by rw [HMK.out.1, keysOf_length]; exact hjl), by simp⟩
                      obtain ⟨cm, -⟩ := cell_of HM2.out hmb
                      by_cases hjj : j = j0
                      · subst hjj
                        have hmf : ms[j]? = some false := HMK.out.free HP.out.apart HPH.out HF0.out
                        rw [hmb] at hmf
                        cases hmf
                        have hee : en = e0 := by have := HE0.out; rw [hen] at this; exact Option.some.inj this
                        subst hee
                        rw [HES0.out] at hcs
                        have hne : (en.v == 0) = false := beq_false_of_ne HV0.out
                        have HEN := Lib.hid hen
                        have HES : Hid (entIs en (.iface tk xk) (fofInt en.v) = true) := Lib.hid (by
                          unfold entIs
                          rw [HL0.out, feq_self_fof (HF.out.hok en (List.mem_of_getElem? HEN.out)).2]
                          rfl)
                        clear hen hmb
                        obtain ⟨gk2, gb2, e1, e2, ckk, cbb⟩ := HB2.out.pair HPX.out
                        cases e1
                        cases e2
                        rw [HPK.out] at ckk
                        rw [HPV.out] at cbb
                        go_upto_region 43 with (fail)
                        go_still_tail 10, (by kernel_rfl)
                        have HMF := Lib.hid (show ms[j]? = some false from HMK.out.free HP.out.apart HPH.out HF0.out)
                        have HU3 := Lib.hid HU2.out.drew
                        have HB3 := Lib.hid (HB2.out.other ((Upd.refl _ wr).drew))
                        have HM3 : Hid (SlE 4 wr.drew (.slice (some ⟨g, 0, none⟩) m.hs.length m.hs.length) (ms.map .bool)) := Lib.hid (HM2.out.kept fun _ _ => rfl)
                        clear c0 c1 c2 c3 c4 hcs hcv cm HB2 ckk cbb
                        change wpList _ _ _ _ _ wr.drew
                        generalize wr.drew = W3 at HU3 HB3 HM3 ⊢
                        go_wp2_with (go_at_call 16; refine (hashIs_any _ m _ _ _ _ _ HB3.out.mm j en HEN.out _ HLK.out _).mono ?_; rintro e9 w9 ⟨rfl, hU⟩; rw [HES.out]; have HU4 := Lib.hid (none_trans HU3.out hU); have HM4 : Hid (SlE 4 w9 (.slice (some ⟨g, 0, none⟩) m.hs.length m.hs.length) (ms.map .bool)) := Lib.hid (HM3.out.kept fun b hb => hU.block b (HM3.out.lt hb) fun q => q); obtain ⟨cm, cf⟩ := cell_of HM4.out HMF.out)
                        have HMK2 := Lib.hid (HMK.out.next HPH.out HF0.out)
                        have HM6 := Lib.hid (HM4.out.set rfl j (.bool true) (by rw [List.length_map, HMK.out.1, keysOf_length]; exact hjl))
                        go_roundw
                        case rel => exact ⟨i + 1, _, by omega, by omega, by go_num, by rw [HIX.out]; exact HMK2.out, by rw [List.map_set]; exact HM6.out, HU4.out.setCell (.inr HG.out) _⟩
                        case measure => simp [intOf]; omega
                      · have hjn : j < j0 := by omega
                        have hkf2 := findL_before HF0.out hjn (keysOf_at hen)
                        rw [HPK.out] at hkf2
                        have HKF := Lib.hid hkf2
                        clear hkf2
                        have HR2 := Lib.hid (And.intro HM2.out HU2.out)
                        cases mb with
                        | true =>
                          clear hen hmb hjj
                          go_wp2_with fail
                          go_roundw
                          case rel => exact ⟨rfl, j + 1, by omega, by go_num, HR2.out.1, HR2.out.2⟩
                          case measure => simp [intOf]; omega
                        | false =>
                          by_cases h0 : en.v = 0
                          · rw [h0] at hcv
                            clear h0 hen hmb hjj
                            go_wp2_with fail
                            go_roundw
                            case rel => exact ⟨rfl, j + 1, by omega, by go_num, HR2.out.1, HR2.out.2⟩
                            case measure => simp [intOf]; omega
                          · have hne : (en.v == 0) = false := beq_false_of_ne h0
                            cases hes : en.str
                            · rw [hes] at hcs
                              clear h0 hmb hjj hes
                              clear hen
                              go_wp2_with fail
                              go_roundw
                              case rel => exact ⟨rfl, j + 1, by omega, by go_num, HR2.out.1, HR2.out.2⟩
                              case measure => simp [intOf]; omega
                            · rw [hes] at hcs
                              clear h0 hmb hjj hes
                              have HEN := Lib.hid hen
                              have HES : Hid (entIs en (.iface tk xk) (fofInt e0.v) = false) := Lib.hid (by
                                unfold entIs
                                rw [HKF.out]
                                rfl)
                              clear hen
                              obtain ⟨gk2, gb2, e1, e2, ckk, cbb⟩ := HB2.out.pair HPX.out
                              cases e1
                              cases e2
                              rw [HPK.out] at ckk
                              rw [HPV.out] at cbb
                              go_upto_region 43 with (fail)
                              go_still_tail 10, (by kernel_rfl)
                              have HU3 := Lib.hid HU2.out.drew
                              have HB3 := Lib.hid (HB2.out.other ((Upd.refl _ wr).drew))
                              have HM3 : Hid (SlE 4 wr.drew (.slice (some ⟨g, 0, none⟩) m.hs.length m.hs.length) (ms.map .bool)) := Lib.hid (HM2.out.kept fun _ _ => rfl)
                              clear c0 c1 c2 c3 c4 hcs hcv cm HB2 ckk cbb
                              change wpList _ _ _ _ _ wr.drew
                              generalize wr.drew = W3 at HU3 HB3 HM3 ⊢
                              go_wp2_with (go_at_call 16; refine (hashIs_any _ m _ _ _ _ _ HB3.out.mm j en HEN.out _ HLK.out _).mono ?_; rintro e9 w9 ⟨rfl, hU⟩; rw [HES.out]; have HU4 := Lib.hid (none_trans HU3.out hU); have HM4 : Hid (SlE 4 w9 (.slice (some ⟨g, 0, none⟩) m.hs.length m.hs.length) (ms.map .bool)) := Lib.hid (HM3.out.kept fun b hb => hU.block b (HM3.out.lt hb) fun q => q))
                              go_roundw
                              case rel => exact ⟨rfl, j + 1, by omega, by go_num, HM4.out, HU4.out⟩
                              case measure => simp [intOf]; omega
                  · have hes : e0.str = false := by rw [hst]; exact decide_eq_false (by omega)
                    have HES0 := Lib.hid hes
                    clear hes hst
                    go_wp2_with fail
                    go_loopw [18, 19] (fun f q wr2 => f = .bool false ∧ ∃ j : Nat, j ≤ j0 ∧ q = .int .i64 j ∧ SlE 4 wr2 (.slice (some ⟨g, 0, none⟩) m.hs.length m.hs.length) (ms.map .bool) ∧ Upd (fun _ => False) W0 wr2) (fun _ q _ => m.hs.length - (intOf q).toNat)
                    case atStart => exact ⟨rfl, 0, Nat.zero_le _, rfl, HS5.out, HU5.out⟩
                    case round =>
                      obtain ⟨rfl, j, hj, rfl, hM2, hU2⟩ := hrel
                      have HU2 := Lib.hid hU2
                      have HM2 := Lib.hid hM2
                      have HB2 := Lib.hid (HBR.out.other hU2)
                      clear hM2 hU2
                      have hjl : j < m.hs.length := by omega
                      have hjI : (j : Int) < m.hs.length := by omega
                      obtain ⟨en, hen⟩ : ∃ en, m.hs[j]? = some en := ⟨m.hs[j]'hjl, by simp⟩
                      obtain ⟨c0, c1, c2, c3, c4⟩ := HB2.out.cells
                      obtain ⟨gs, rfl, hcs⟩ := mm_str HB2.out.mm hen
                      obtain ⟨gv, rfl, hcv⟩ := mm_val HB2.out.mm hen
                      obtain ⟨mb, hmb⟩ : ∃ mb, ms[j]? = some mb := ⟨ms[j]'(by rw [HMK.out.1, keysOf_length]; exact hjl), by simp⟩
                      obtain ⟨cm, -⟩ := cell_of HM2.out hmb
                      by_cases hjj : j = j0
                      · subst hjj
                        have hmf : ms[j]? = some false := HMK.out.free HP.out.apart HPH.out HF0.out
                        rw [hmb] at hmf
                        cases hmf
                        have hee : en = e0 := by have := HE0.out; rw [hen] at this; exact Option.some.inj this
                        subst hee
                        rw [HES0.out] at hcs
                        have hne : (en.v == 0) = false := beq_false_of_ne HV0.out
                        have HEN := Lib.hid hen
                        have HES : Hid (entIs en (.iface tk xk) (fofInt en.v) = true) := Lib.hid (by
                          unfold entIs
                          rw [HL0.out, feq_self_fof (HF.out.hok en (List.mem_of_getElem? HEN.out)).2]
                          rfl)
                        clear hen hmb
                        obtain ⟨gk2, gb2, e1, e2, ckk, cbb⟩ := HB2.out.pair HPX.out
                        cases e1
                        cases e2
                        rw [HPK.out] at ckk
                        rw [HPV.out] at cbb
                        go_upto_region 43 with (fail)
                        go_still_tail 10, (by kernel_rfl)
                        have HMF := Lib.hid (show ms[j]? = some false from HMK.out.free HP.out.apart HPH.out HF0.out)
                        have HU3 := Lib.hid HU2.out.drew
                        have HB3 := Lib.hid (HB2.out.other ((Upd.refl _ wr).drew))
                        have HM3 : Hid (SlE 4 wr.drew (.slice (some ⟨g, 0, none⟩) m.hs.length m.hs.length) (ms.map .bool)) := Lib.hid (HM2.out.kept fun _ _ => rfl)
                        clear c0 c1 c2 c3 c4 hcs hcv cm HB2 ckk cbb
                        change wpList _ _ _ _ _ wr.drew
                        generalize wr.drew = W3 at HU3 HB3 HM3 ⊢
                        go_wp2_with (go_at_call 16; refine (hashIs_any _ m _ _ _ _ _ HB3.out.mm j en HEN.out _ HLK.out _).mono ?_; rintro e9 w9 ⟨rfl, hU⟩; rw [HES.out]; have HU4 := Lib.hid (none_trans HU3.out hU); have HM4 : Hid (SlE 4 w9 (.slice (some ⟨g, 0, none⟩) m.hs.length m.hs.length) (ms.map .bool)) := Lib.hid (HM3.out.kept fun b hb => hU.block b (HM3.out.lt hb) fun q => q); obtain ⟨cm, cf⟩ := cell_of HM4.out HMF.out)
                        have HMK2 := Lib.hid (HMK.out.next HPH.out HF0.out)
                        have HM6 := Lib.hid (HM4.out.set rfl j (.bool true) (by rw [List.length_map, HMK.out.1, keysOf_length]; exact hjl))
                        go_roundw
                        case rel => exact ⟨i + 1, _, by omega, by omega, by go_num, by rw [HIX.out]; exact HMK2.out, by rw [List.map_set]; exact HM6.out, HU4.out.setCell (.inr HG.out) _⟩
                        case measure => simp [intOf]; omega
                      · have hjn : j < j0 := by omega
                        have hkf2 := findL_before HF0.out hjn (keysOf_at hen)
                        rw [HPK.out] at hkf2
                        have HKF := Lib.hid hkf2
                        clear hkf2
                        have HR2 := Lib.hid (And.intro HM2.out HU2.out)
                        cases mb with
                        | true =>
                          clear hen hmb hjj
                          go_wp2_with fail
                          go_roundw
                          case rel => exact ⟨rfl, j + 1, by omega, by go_num, HR2.out.1, HR2.out.2⟩
                          case measure => simp [intOf]; omega
                        | false =>
                          by_cases h0 : en.v = 0
                          · rw [h0] at hcv
                            clear h0 hen hmb hjj
                            go_wp2_with fail
                            go_roundw
                            case rel => exact ⟨rfl, j + 1, by omega, by go_num, HR2.out.1, HR2.out.2⟩
                            case measure => simp [intOf]; omega
                          · have hne : (en.v == 0) = false := beq_false_of_ne h0
                            cases hes : en.str
                            · rw [hes] at hcs
                              clear h0 hmb hjj hes
                              have HEN := Lib.hid hen
                              have HES : Hid (entIs en (.iface tk xk) (fofInt e0.v) = false) := Lib.hid (by
                                unfold entIs
                                rw [HKF.out]
                                rfl)
                              clear hen
                              obtain ⟨gk2, gb2, e1, e2, ckk, cbb⟩ := HB2.out.pair HPX.out
                              cases e1
                              cases e2
                              rw [HPK.out] at ckk
                              rw [HPV.out] at cbb
                              go_upto_region 43 with (fail)
                              go_still_tail 10, (by kernel_rfl)
                              have HU3 := Lib.hid HU2.out.drew
                              have HB3 := Lib.hid (HB2.out.other ((Upd.refl _ wr).drew))
                              have HM3 : Hid (SlE 4 wr.drew (.slice (some ⟨g, 0, none⟩) m.hs.length m.hs.length) (ms.map .bool)) := Lib.hid (HM2.out.kept fun _ _ => rfl)
                              clear c0 c1 c2 c3 c4 hcs hcv cm HB2 ckk cbb
                              change wpList _ _ _ _ _ wr.drew
                              generalize wr.drew = W3 at HU3 HB3 HM3 ⊢
                              go_wp2_with (go_at_call 16; refine (hashIs_any _ m _ _ _ _ _ HB3.out.mm j en HEN.out _ HLK.out _).mono ?_; rintro e9 w9 ⟨rfl, hU⟩; rw [HES.out]; have HU4 := Lib.hid (none_trans HU3.out hU); have HM4 : Hid (SlE 4 w9 (.slice (some ⟨g, 0, none⟩) m.hs.length m.hs.length) (ms.map .bool)) := Lib.hid (HM3.out.kept fun b hb => hU.block b (HM3.out.lt hb) fun q => q))
                              go_roundw
                              case rel => exact ⟨rfl, j + 1, by omega, by go_num, HM4.out, HU4.out⟩
                              case measure => simp [intOf]; omega
                            · rw [hes] at hcs
                              clear h0 hmb hjj hes
                              clear hen
                              go_wp2_with fail
                              go_roundw
                              case rel => exact ⟨rfl, j + 1, by omega, by go_num, HR2.out.1, HR2.out.2⟩
                              case measure => simp [intOf]; omega
                · obtain rfl : i = na + ns + nn := by omega
                  go_wp2_with fail
                  go_ret
                  exact ⟨rfl, none_below (none_trans HU6.out (none_trans HUR.out HU5.out))⟩
end Go.Lua
