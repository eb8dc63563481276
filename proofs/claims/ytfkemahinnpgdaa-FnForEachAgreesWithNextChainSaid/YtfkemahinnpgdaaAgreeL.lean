/-
  n005_23: FnForEachAgreesWithNextChain.
-/
import Derived.Test.YtfkemahinnpgdaaAgreeM
namespace Go.Lua
open Go.Proofs Go.RowKit Go.Deep
set_option linter.unusedVariables false

/-- Two slices of LValues that grow behind W1, in blocks apart. -/
structure Rows (N : Nat) (W1 w : World) (a : Value) (xs : List Value) (b : Value) (ys : List Value) : Prop where
  sa : SlE 40 w a xs
  sb : SlE 40 w b ys
  na : ∀ g, blk a = some g → N ≤ g
  nb : ∀ g, blk b = some g → N ≤ g
  ap : ∀ g, blk a = some g → blk b ≠ some g
  hN : N ≤ w.heap.size
  up : Upd (fun k => N ≤ k) W1 w
section
variable {N : Nat} {W1 w w1 w' : World} {a b : Value} {xs ys : List Value}
theorem Rows.swap (h : Rows N W1 w a xs b ys) : Rows N W1 w b ys a xs := ⟨h.sb, h.sa, h.nb, h.na, fun g h1 h2 => h.ap g h2 h1, h.hN, h.up⟩
theorem Rows.other (h : Rows N W1 w a xs b ys) (u : Upd (fun _ => False) w w') : Rows N W1 w' a xs b ys :=
  ⟨h.sa.kept fun b hb => u.block b (h.sa.lt hb) fun q => q, h.sb.kept fun b hb => u.block b (h.sb.lt hb) fun q => q, h.na, h.nb, h.ap, Nat.le_trans h.hN u.size, h.up.under u fun k hk => hk.elim⟩
theorem Rows.push (h : Rows N W1 w a xs b ys) (o : Obj) {v' u : Value} (g : (w.alloc o).grownBy w1 (blk a)) (hs : SlE 40 w1 v' (xs ++ [u])) (hv : blk v' = blk a ∨ blk v' = some (w.alloc o).heap.size) : Rows N W1 w1 v' (xs ++ [u]) b ys := by
  have hsz : (w.alloc o).heap.size = w.heap.size + 1 := by simp
  have hv' : ∀ k, blk v' = some k → blk a = some k ∨ w.heap.size < k := by
    intro k hk
    rcases hv with q | q
    · exact .inl (q ▸ hk)
    · rw [q] at hk
      injection hk with hk
      exact .inr (by omega)
  have hg := g.size
  have hh := h.hN
  refine ⟨hs, h.sb.kept fun k hk => ?_, fun k hk => (hv' k hk).elim (h.na k) (fun q => by omega), h.nb, fun k hk hk2 => (hv' k hk).elim (fun q => h.ap k q hk2) (fun q => by have := h.sb.lt hk2; omega), by omega, ?_⟩
  · have hl := h.sb.lt hk
    exact (g.block k (by omega) (fun e => h.ap k e.symm hk)).trans (Below.heap_alloc w o k hl)
  · exact (h.up.alloc o).under (Upd.of_grownBy (F := fun k => N ≤ k) g (fun k hk => h.na k hk)) fun k hk => .inl hk
theorem Rows.tab (h : Rows N W1 w a xs b ys) {t : Nat} {T : Tab} {F : Nat → Prop} (hT : TabAt W1 t T F) (hF : ∀ k, F k → k < N) : TabAt w t T F := by
  obtain ⟨va, vd, vs, vk, vi, hT⟩ := hT
  exact (hT.kept fun k hk hf => h.up.block k hk (Nat.not_le.2 (hF k hf))).at
end
theorem tab_none {w w' : World} {t : Nat} {T : Tab} {F : Nat → Prop} (hT : TabAt w t T F) (u : Upd (fun _ => False) w w') : TabAt w' t T F := by
  obtain ⟨va, vd, vs, vk, vi, hT⟩ := hT
  exact (hT.kept fun k hk hf => u.block k hk fun q => q).at
theorem sl_kept {e : TypeId} {w w' : World} {v : Value} {xs : List Value} (h : SlE e w v xs) (u : Upd (fun _ => False) w w') : SlE e w' v xs := h.kept fun b hb => u.block b (h.lt hb) fun q => q
theorem sl_pair {w : World} {L : List (Value × Value)} {pk pb : Option Addr} {n ck cb : Nat} (hk : SlE 40 w (.slice pk n ck) (L.map (·.1))) (hb : SlE 40 w (.slice pb n cb) (L.map (·.2))) {x : Nat} {p : Value × Value} (hp : L[x]? = some p) : ∃ gk gb, pk = some ⟨gk, 0, none⟩ ∧ pb = some ⟨gb, 0, none⟩ ∧ w.cell? ⟨gk, x, none⟩ = some p.1 ∧ w.cell? ⟨gb, x, none⟩ = some p.2 := by
  obtain ⟨p1, c1, e1, -, -, g1⟩ := hk.form
  obtain ⟨p2, c2, e2, -, -, g2⟩ := hb.form
  injection e1 with e1
  injection e2 with e2
  subst e1 e2
  obtain ⟨gk, hk, -, ck, -⟩ := g1 x p.1 (by rw [List.getElem?_map, hp]; rfl)
  obtain ⟨gb, hb, -, cb, -⟩ := g2 x p.2 (by rw [List.getElem?_map, hp]; rfl)
  exact ⟨gk, gb, hk, hb, ck, cb⟩
theorem isNil_no (w : World) {k : Value} (h : IsLK k) : Calls Try.prog 23 #[k] w fun e w' => e = .returned (.bool false) ∧ w = w' := by
  rcases h with ⟨x, rfl, -⟩ | ⟨s, rfl⟩
  all_goals
    go_enter Try.func23, Try.ntmps23
    go_wp2
    go_ret
    exact ⟨rfl, rfl⟩
theorem tells_left {f : FuncId} {args : Array Value} {w : World} {n : Nat} {v : Value} (h : Calls Try.prog f args (w.drewN n) (Tells (w.drewN n) v)) : Calls Try.prog f args (w.drewN n) fun e w'' => e = .returned v ∧ ∃ m, w'' = w.drewN m :=
  h.mono fun _ _ ⟨he, d, hd⟩ => ⟨he, n + d, by rw [hd, World.drewN_drewN]⟩
theorem used_made (n : Nat) (h1 : n ≤ 4398046511104) (w : World) : (Instr.makeSlice 26 (.int .i64 n) (.int .i64 n)).run Try.prog w = .ok (.slice (some ⟨w.heap.size, 0, none⟩) n n) (w.alloc (.cells (madeCells #[.bool false] n) 4)) := by
  obtain ⟨i, hi, hz, hs, hby⟩ : ∃ i, Try.prog.info? 4 = some i ∧ i.zero = some (.bool false) ∧ i.size = 1 ∧ i.bytes ≤ 64 := by simpa using inf_s
  have hb : (i.bytes : Int) * n ≤ 281474976710656 := by
    have : (i.bytes : Int) * n ≤ 64 * n := Int.mul_le_mul_of_nonneg_right (by omega) (by omega)
    omega
  have := run_make (P := Try.prog) w 26 4 i (.bool false) Try.underlying26 hi hz .i64 .i64 n n (by omega) (Int.le_refl _) hb (by omega)
  rw [hs, Nat.mul_one] at this
  exact this
theorem used_at {w : World} {g n j : Nat} {ms : List Bool} {b : Bool} (h : SlE 4 w (.slice (some ⟨g, 0, none⟩) n n) (ms.map .bool)) (hj : ms[j]? = some b) : w.cell? ⟨g, j, none⟩ = some (.bool b) ∧ w.frozen? ⟨g, j, none⟩ = false := by
  obtain ⟨p', c', e', -, -, hg⟩ := h.form
  obtain ⟨g', hp', -, hc', hz'⟩ := hg j (.bool b) (by rw [List.getElem?_map, hj]; rfl)
  injection e' with e1
  rw [← e1] at hp'
  cases hp'
  exact ⟨hc', hz'⟩
def AgW1 (N : Nat) (W1 : World) (T : Tab) (ML : List (Value × Value)) (a b k e i : Value) (w : World) : Prop :=
  e = .bool false ∧ ∃ c : Nat, c ≤ ML.length ∧ i = .int .i64 c ∧ Chain T k (ML.drop c) ∧ Rows N W1 w a ((ML.take c).map (·.1)) b ((ML.take c).map (·.2))
theorem chain_form {T : Tab} {k : Value} : ∀ {L : List (Value × Value)}, Chain T k L → ∃ t x, k = .iface t x
  | [], h => h.1
  | p :: L, h => h.1.1
theorem lk_iface {k : Value} (h : IsLK k) : ∃ t x, k = .iface t x := by
  obtain ⟨t, x, e, -⟩ := lk_form h
  exact ⟨t, x, e⟩
set_option maxRecDepth 100000 in
set_option maxHeartbeats 8000000 in
theorem agree_walk (w : World) (v : Value) (ops : List ZOp) (h : IsZOps w v ops) : Calls Try.prog 8 #[v] w (Fine w) := by
  have CB := Lib.hid (bytes_agree w v ops h)
  have H0 := Lib.hid h
  obtain ⟨p0, cp0, rfl, hnv1, hnv2, -⟩ := h.1.form
  clear h
  simp only [List.length_map] at *
  unfold maxLen at hnv2
  go_enter Try.func8, Try.ntmps8
  go_upto_region 7 with (first
    | (go_at_call 30; refine CB.out.mono ?_; rintro e w1 ⟨rfl, rfl | ⟨rfl, HS⟩⟩)
    | (go_at_call 10; refine (tooBig_any _ _ ops H0.out HS 0 (by decide) (by decide)).mono ?_; rintro e w1 ⟨rfl, rfl | ⟨rfl, hl, HN⟩⟩)
    | (go_at_call 12; refine (new_any _).mono ?_; intro e w4 hf; obtain ⟨rfl, hR⟩ := Has.fresh hf; have HR := Lib.hid hR; clear hf hR)
    | (go_at_call 13; refine (apply_any _ w _ _ HR.out 0 (Ok.new 0 0) (by omega) _ ops H0.out hl HN).mono ?_; rintro e w5 ⟨rfl, hR2⟩; have HL := Lib.hid hR2; clear hR2))
  all_goals first | (go_ret; exact ⟨rfl, Below.refl _ _⟩) | skip
  obtain ⟨M, hM⟩ : ∃ M : Nat, MaxTo ops M ops.length := ⟨67108864, fun o _ hi => by have := hi.2.2; omega⟩
  have HF := Lib.hid (full_ops H0.out.2 hl HN.out hM)
  have hML := allM_len M ops
  generalize modAt ⟨List.replicate M 0, []⟩ ops ops.length = m at HF hML
  generalize opsT (newTab 0 0) ops ops.length = T at HF HL
  have HCH := Lib.hid HF.out.chain
  have HT := Lib.hid HL.out.1.capped
  have HU := Lib.hid HL.out.2
  obtain ⟨N, hN⟩ : ∃ N, N = w5.heap.size := ⟨_, rfl⟩
  rw [← hN] at HT
  have HR0 : Hid (Rows N w5 w5 (.slice none 0 0) [] (.slice none 0 0) []) := Lib.hid ⟨.inl ⟨rfl, rfl⟩, .inl ⟨rfl, rfl⟩, fun b hb => (by cases hb), fun b hb => (by cases hb), fun b hb => (by cases hb), by omega, Upd.refl _ _⟩
  obtain ⟨ML, hMLe⟩ : ∃ ML, ML = allM m := ⟨_, rfl⟩
  rw [← hMLe] at HCH hML
  have HMLE := Lib.hid hMLe
  have HNW := Lib.hid hN
  clear hM hN hMLe HL HR
  go_wp2_with fail
  go_loopw [4, 5, 6, 7, 8] (AgW1 N w5 T ML) (fun _ _ _ _ i _ => ops.length + 1 - (intOf i).toNat)
  case atStart => exact ⟨rfl, 0, Nat.zero_le _, rfl, HCH.out, HR0.out⟩
  case round =>
    clear HCH HR0
    obtain ⟨rfl, c, hc, rfl, hC, hR⟩ := hrel
    obtain ⟨tk, xk, rfl⟩ := chain_form hC
    have HR := Lib.hid hR
    have HTR := Lib.hid (hR.tab HT.out fun k hk => hk.2)
    have hci : (c : Int) ≤ ops.length := by omega
    by_cases hlt : c < ML.length
    · obtain ⟨p, hp⟩ : ∃ p, ML[c]? = some p := ⟨ML[c]'hlt, by simp⟩
      have hdr : ML.drop c = p :: ML.drop (c + 1) := by
        rw [List.drop_eq_getElem_cons hlt]
        rw [List.getElem?_eq_getElem hlt] at hp
        rw [Option.some.inj hp]
      have htk : ML.take (c + 1) = ML.take c ++ [p] := by
        rw [List.take_succ_eq_append_getElem hlt]
        rw [List.getElem?_eq_getElem hlt] at hp
        rw [Option.some.inj hp]
      rw [hdr] at hC
      obtain ⟨hA, hC2⟩ := hC
      obtain ⟨k1, k2, -⟩ := HF.out.all_at (HMLE.out ▸ List.mem_of_getElem? hp)
      obtain ⟨p1, p2⟩ := p
      obtain ⟨t1, x1, rfl⟩ := lk_iface k1
      obtain ⟨t2, x2, rfl⟩ := lk_iface k2
      have HTK := Lib.hid htk
      have HC2 := Lib.hid hC2
      have CN := Lib.hid (hA.2 wr _ _ HTR.out)
      have CI := Lib.hid (fun W => isNil_no W k1)
      have hlen1 : ((ML.take c).map (·.1)).length = c := by rw [List.length_map, List.length_take]; omega
      have hlen2 : ((ML.take c).map (·.2)).length = c := by rw [List.length_map, List.length_take]; omega
      obtain ⟨pa, ca, rfl, -⟩ := hR.sa.form
      obtain ⟨pb, cb, rfl, -⟩ := hR.sb.form
      rw [hlen1] at HR
      rw [hlen2] at HR
      simp only [hlen1, hlen2]
      have HL1 := Lib.hid hlen1
      have HL2 := Lib.hid hlen2
      clear hR hA hC2 hdr htk hp k1 k2 hlen1 hlen2
      go_upto_region 18 with (first
        | (go_at_call 22; refine CN.out.mono ?_; rintro e w6 ⟨rfl, d, hw⟩; have HR := Lib.hid (hw ▸ HR.out.other ((Upd.refl _ _).drewN d)); clear hw)
        | (go_at_call 23; refine (CI.out _).mono ?_; rintro e w7 ⟨rfl, rfl⟩)
        | (at_builtin; go_must (refine wpList_append_one rfl _ _ 35 .nilIface rfl Try.underlying35 inf_lv rfl rfl (HR.out.sa.alloc (.cells #[.iface t1 x1] 40)) _ _ (.iface t1 x1) rfl (cell_new_of (by simp)) rfl (by rw [HL1.out]; omega) ?_); rw [HL1.out]; intro p5 cap5 w8 hs5 hg5 hb5; have HR2 := Lib.hid (HR.out.push _ hg5 hs5 hb5).swap; clear hs5 hg5 hb5))
      go_wp2_with (at_builtin; go_must (refine wpList_append_one rfl _ _ 35 .nilIface rfl Try.underlying35 inf_lv rfl rfl (HR2.out.sa.alloc (.cells #[.iface t2 x2] 40)) _ _ (.iface t2 x2) rfl (cell_new_of (by simp)) rfl (by rw [HL2.out]; omega) ?_); rw [HL2.out]; intro p6 cap6 w9 hs6 hg6 hb6; have HR3 := Lib.hid (HR2.out.push _ hg6 hs6 hb6).swap; clear hs6 hg6 hb6)
      go_roundw
      case rel => exact ⟨rfl, c + 1, by omega, by go_num, HC2.out, by rw [HTK.out, List.map_append, List.map_append]; exact HR3.out⟩
      case measure => simp [intOf]; omega
    · obtain rfl : c = ML.length := by omega
      rw [List.drop_length] at hC
      rw [List.take_length] at hR
      have HR := Lib.hid hR
      have CN := Lib.hid (hC.2 wr _ _ HTR.out)
      obtain ⟨n, hn⟩ : ∃ n, n = ML.length := ⟨_, rfl⟩
      have hl1 : (ML.map (·.1)).length = n := by rw [List.length_map, hn]
      have hl2 : (ML.map (·.2)).length = n := by rw [List.length_map, hn]
      obtain ⟨pa, ca, rfl, -⟩ := hR.sa.form
      obtain ⟨pb, cb, rfl, -⟩ := hR.sb.form
      rw [hl1, hl2] at HR
      simp only [hl1, hl2, ← hn]
      have hn4 : n ≤ 4096 := by omega
      have HNE := Lib.hid hn
      rw [← hn] at hci hML
      clear hR hC hlt hl1 hl2 hn hc
      go_upto_region 23 with (first
        | (go_at_call 22; refine CN.out.mono ?_; rintro e w6 ⟨rfl, d, hw⟩; have HR := Lib.hid (hw ▸ HR.out.other ((Upd.refl _ _).drewN d)); clear hw)
        | (go_at_call 23; refine (isNil_yes _).mono ?_; rintro e w7 ⟨rfl, rfl⟩)
        | (go_at_call 14; refine (pairs_any _ _ T _ (HR.out.tab HT.out fun k hk => hk.2) HF.out.fe).mono ?_; rintro e W0 ⟨vk, vb, SL, NL, rfl, hSL, hNL, hks, hbs, hu6⟩; have HB := Lib.hid (And.intro hks hbs); have HR := Lib.hid (HR.out.other hu6); have HP : Hid (APairs T ML (arrTo m.arr m.arr.length ++ (SL ++ NL))) := Lib.hid (by rw [HMLE.out]; exact HF.out.apairs hSL hNL); clear hSL hNL hks hbs hu6))
      rw [HF.out.alive, List.append_assoc] at HB
      generalize arrTo m.arr m.arr.length ++ (SL ++ NL) = PL at HB HP
      have hpl : PL.length = n := HP.out.len.trans HNE.out.symm
      obtain ⟨pk, ck, rfl, -⟩ := HB.out.1.form
      obtain ⟨pv, cv, rfl, -⟩ := HB.out.2.form
      simp only [List.length_map, hpl] at HB ⊢
      have HPL := Lib.hid hpl
      have hmade := used_made n (by omega)
      clear hpl CN HTR
      go_wp2_with fail
      clear hmade
      have HTW : Hid (TabAt W0 w.heap.size T fun k => w.heap.size ≤ k ∧ k < N) := Lib.hid (HR.out.tab HT.out fun k hk => hk.2)
      have HUW : Hid (Upd (fun _ => False) w W0) := Lib.hid (HU.out.under HR.out.up fun k hk => .inr (by have := HNW.out; have := HU.out.size; omega))
      have hs7 := SlE.made (e := 4) W0 (.bool false) n (by unfold maxLen; omega)
      have HU7 := Lib.hid (box_upd W0 (.cells (madeCells #[.bool false] n) 4))
      obtain ⟨g, hg⟩ : ∃ g, g = W0.heap.size := ⟨_, rfl⟩
      rw [← hg] at hs7 ⊢
      have HS7 := Lib.hid hs7
      have HG : Hid (W0.heap.size ≤ g) := Lib.hid (Nat.le_of_eq hg.symm)
      clear hs7 hg
      generalize W0.alloc (.cells (madeCells #[.bool false] n) 4) = w7 at HS7 HU7 ⊢
      have hkl : (ML.map (·.1)).length = n := by rw [List.length_map]; exact HNE.out.symm
      have HKL := Lib.hid hkl
      clear hkl
      go_loopw [14] (fun q wr2 => ∃ (i : Nat) (ms : List Bool), i ≤ n ∧ q = .int .i64 i ∧ Mk (ML.map (·.1)) PL i ms ∧ SlE 4 wr2 (.slice (some ⟨g, 0, none⟩) n n) (ms.map .bool) ∧ Upd (fun _ => False) W0 wr2) (fun q _ => n - (intOf q).toNat)
      case atStart => exact ⟨0, _, Nat.zero_le _, rfl, Mk.start _ _, by rw [List.map_replicate, HKL.out]; exact HS7.out, HU7.out⟩
      case round =>
        clear HS7 HU7
        obtain ⟨i, ms, hi, rfl, hMk, hS5, hU5⟩ := hrel
        have HMK := Lib.hid hMk
        have HS5 := Lib.hid hS5
        have HU5 := Lib.hid hU5
        clear hMk hS5 hU5
        by_cases hlt : (i : Int) < n
        · have hpl := HPL.out
          obtain ⟨p, hp⟩ : ∃ p, PL[i]? = some p := ⟨PL[i]'(by omega), by simp⟩
          obtain ⟨j0, hf, hv2, hk1, hk2, hrg⟩ := HP.out.tgt i p hp
          have hj0 : j0 < n := by have := findL_lt hf; rw [HKL.out] at this; exact this
          obtain ⟨gk, gv, rfl, rfl, -, -⟩ := sl_pair HB.out.1 HB.out.2 hp
          obtain ⟨t1, x1, hp1⟩ := lk_iface hk1
          obtain ⟨t2, x2, hp2⟩ := lk_iface hk2
          obtain ⟨q1, hq1, hq2⟩ := findL_some hf
          rw [hp1] at hk1 hrg hq2
          rw [hp2] at hk2 hrg hv2
          have HPH := Lib.hid hp
          have HF0 := Lib.hid hf
          have HP1 := Lib.hid hp1
          have HP2 := Lib.hid hp2
          have HV2 := Lib.hid hv2
          have HK1 := Lib.hid hk1
          have HK2 := Lib.hid hk2
          have HRG := Lib.hid hrg
          have HQ := Lib.hid (And.intro hq1 hq2)
          clear hpl hp hf hv2 hk1 hk2 hrg hp1 hp2 hq1 hq2
          go_wp2_with fail
          go_loopw [15, 16] (fun f q wr2 => f = .bool false ∧ ∃ j : Nat, j ≤ j0 ∧ q = .int .i64 j ∧ SlE 4 wr2 (.slice (some ⟨g, 0, none⟩) n n) (ms.map .bool) ∧ Upd (fun _ => False) W0 wr2) (fun _ q _ => n - (intOf q).toNat)
          case atStart => exact ⟨rfl, 0, Nat.zero_le _, rfl, HS5.out, HU5.out⟩
          case round =>
            obtain ⟨rfl, j, hj, rfl, hM2, hU2⟩ := hrel
            have HU2 := Lib.hid hU2
            have HM2 := Lib.hid hM2
            have hjI : (j : Int) < n := by omega
            obtain ⟨mb, hmb⟩ : ∃ mb, ms[j]? = some mb := ⟨ms[j]'(by rw [HMK.out.1, HKL.out]; omega), by simp⟩
            obtain ⟨cm, -⟩ := used_at HM2.out hmb
            obtain ⟨q, hq⟩ : ∃ q, ML[j]? = some q := ⟨ML[j]'(by have := HNE.out; omega), by simp⟩
            have hqk : (ML.map (·.1))[j]? = some q.1 := by rw [List.getElem?_map, hq]; rfl
            have hqv : (ML.map (·.2))[j]? = some q.2 := by rw [List.getElem?_map, hq]; rfl
            have hql := HP.out.keys q.1 (List.mem_of_getElem? hqk)
            obtain ⟨gk2, gv2, e1, e2, ckk, cvv⟩ := sl_pair (sl_kept HB.out.1 hU2) (sl_kept HB.out.2 hU2) HPH.out
            cases e1
            cases e2
            rw [HP1.out] at ckk
            rw [HP2.out] at cvv
            obtain ⟨gq, gr, rfl, rfl, cq, cr⟩ := sl_pair (sl_kept HR.out.sa hU2) (sl_kept HR.out.sb hU2) hq
            obtain ⟨tq, xq, hqf⟩ := lk_iface hql
            rw [hqf] at hql cq
            clear hM2 hU2
            by_cases hjj : j = j0
            · subst hjj
              have hmf : ms[j]? = some false := HMK.out.free HP.out.apart HPH.out HF0.out
              rw [hmb] at hmf
              cases hmf
              have hq1 := HQ.out.1
              rw [hqk] at hq1
              have hq2 := HQ.out.2
              rw [← Option.some.inj hq1, hqf] at hq2
              have hvv := HV2.out
              rw [hqv] at hvv
              rw [Option.some.inj hvv] at cr
              have K1 : Hid (∀ W, Calls Try.prog 31 #[.iface t1 x1, .iface tq xq] W fun e w' => e = .returned (.bool true) ∧ W = w') := Lib.hid fun W => by rw [← hq2]; exact eqLV_lk W HK1.out hql
              have K2 : Hid (∀ W, Calls Try.prog 31 #[.iface t2 x2, .iface t2 x2] W fun e w' => e = .returned (.bool true) ∧ W = w') := Lib.hid fun W => by rw [← lk_self HK2.out]; exact eqLV_lk W HK2.out HK2.out
              have HMB := Lib.hid hmb
              clear hq1 hq2 hvv hqk hqv hql hqf hq hmb
              go_upto_region 33 with (fail)
              go_quiet ((first
                | (go_at_call 31; with_reducible exact quiet_left (K1.out _))
                | (go_at_call 31; with_reducible exact quiet_left (K2.out _))))
              have hM3 : SlE 4 (wr.drewN nq) (.slice (some ⟨g, 0, none⟩) n n) (ms.map .bool) := HM2.out.kept fun _ _ => rfl
              have hU3 := HU2.out.drewN nq
              obtain ⟨cm3, cf3⟩ := used_at hM3 HMB.out
              have HM3 := Lib.hid hM3
              have HU3 := Lib.hid hU3
              clear hM3 hU3 cm ckk cvv cq cr
              have HMK2 := Lib.hid (HMK.out.next HPH.out HF0.out)
              have HM6 := Lib.hid (HM3.out.set rfl j (.bool true) (by rw [List.length_map, HMK.out.1, HKL.out]; omega))
              have HU6 : Hid (Upd (fun _ => False) W0 ((wr.drewN nq).setCell ⟨g, j, none⟩ (.bool true))) := Lib.hid (HU3.out.setCell (.inr HG.out) _)
              go_upto_region 38 with (fail)
              clear cm3 cf3 K1
              generalize (wr.drewN nq).setCell ⟨g, j, none⟩ (.bool true) = w9 at HM6 HU6 ⊢
              obtain ⟨gk3, gv3, e1, e2, ckk, cvv⟩ := sl_pair (sl_kept HB.out.1 HU6.out) (sl_kept HB.out.2 HU6.out) HPH.out
              cases e1
              cases e2
              rw [HP1.out] at ckk
              rw [HP2.out] at cvv
              have CG : Hid (∀ d, Calls Try.prog 25 #[.pointer (some ⟨w.heap.size, 0, none⟩), .iface t1 x1] (w9.drewN d) (Tells (w9.drewN d) (.iface t2 x2))) := Lib.hid fun d => by rw [← HRG.out]; exact rawGet_lk _ _ T _ (tab_none HTW.out (HU6.out.drewN d)) HK1.out
              go_quiet ((first
                | (go_at_call 25; with_reducible exact tells_left (CG.out _))
                | (go_at_call 31; with_reducible exact quiet_left (K2.out _))))
              go_wp2_with fail
              go_roundw
              case rel => exact ⟨i + 1, _, by omega, by go_num, HMK2.out, by rw [List.map_set]; exact HM6.out.kept fun _ _ => rfl, HU6.out.drewN _⟩
              case measure => simp [intOf]; omega
            · have hjn : j < j0 := by omega
              have hkf := findL_before HF0.out hjn hqk
              rw [HP1.out, hqf] at hkf
              have K1 : Hid (∀ W, Calls Try.prog 31 #[.iface t1 x1, .iface tq xq] W fun e w' => e = .returned (.bool false) ∧ W = w') := Lib.hid fun W => by rw [← hkf]; exact eqLV_lk W HK1.out hql
              clear hkf hqk hqv hql hqf hq hmb
              cases mb
              all_goals
                go_upto_region 33 with (fail)
                go_quiet ((go_at_call 31; with_reducible exact quiet_left (K1.out _)))
                go_wp2_with fail
                go_roundw
                case rel => exact ⟨rfl, j + 1, by omega, by go_num, HM2.out.kept fun _ _ => rfl, HU2.out.drewN _⟩
                case measure => simp [intOf]; omega
        · obtain rfl : i = n := by omega
          go_wp2_with fail
          go_ret
          exact ⟨rfl, none_below (none_trans HUW.out HU5.out)⟩
end Go.Lua
