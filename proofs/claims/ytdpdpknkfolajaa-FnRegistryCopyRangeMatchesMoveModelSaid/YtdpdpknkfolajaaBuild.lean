/-
  n005_31: zzBuild, zzMatches, zzSame.
-/
import Derived.Test.YtdpdpknkfolajaaRow6
namespace Go.Lua
open Go.Proofs Go.RowKit
set_option linter.unusedVariables false

theorem meas {n j : Nat} (h : j < n) : (n - (j + 1)) < (n - j) := by omega
def I32 (v : Int) : Prop := -2147483648 ≤ v ∧ v ≤ 2147483647
theorem i32_of {v : Int} (h : (Lit.int .i32 v).wf = true) : I32 v := by
  show -2147483648 ≤ v ∧ v ≤ 2147483647
  simpa [Lit.wf, IntKind.min, IntKind.max, IntKind.signed, IntKind.bits] using h
/-- The registry that zzBuild makes, in its first j slots. -/
def regOf (xs : List Int) (k : Nat) : Value := match xs[k]? with
  | some v => lnum (fofInt v)
  | none => .nilIface
def upto (xs : List Int) (j k : Nat) : Value := if k < j then regOf xs k else .nilIface
theorem regOf_some {xs : List Int} {k : Nat} {v : Int} (h : xs[k]? = some v) : regOf xs k = lnum (fofInt v) := by unfold regOf; rw [h]
theorem regOf_none {xs : List Int} {k : Nat} (h : xs.length ≤ k) : regOf xs k = .nilIface := by unfold regOf; rw [List.getElem?_eq_none h]
theorem upto_set {xs : List Int} {j : Nat} {v : Int} (h : xs[j]? = some v) : (fun k => if k = j then lnum (fofInt v) else upto xs j k) = upto xs (j + 1) := by
  funext k
  unfold upto
  by_cases hk : k = j
  · subst hk; rw [if_pos rfl, if_pos (Nat.lt_succ_self _), regOf_some h]
  · rw [if_neg hk]
    by_cases hlt : k < j
    · rw [if_pos hlt, if_pos (by omega)]
    · rw [if_neg hlt, if_neg (by omega)]
theorem upto_zero (xs : List Int) : upto xs 0 = fun _ => .nilIface := by
  funext k; exact if_neg (by omega)
theorem upto_full (xs : List Int) : upto xs xs.length = regOf xs := by
  funext k
  unfold upto
  by_cases hlt : k < xs.length
  · rw [if_pos hlt]
  · rw [if_neg hlt, regOf_none (by omega)]

def BuildW (w : World) (r b n : Nat) (xs : List Int) (i : Value) (wr : World) : Prop :=
  ∃ j : Nat, j ≤ xs.length ∧ i = .int .i64 j ∧ RegAt wr r b n (upto xs j) j ∧ Upd (fun _ => False) w wr
/-- A registry that holds f, of the walk's own. -/
def Built (w : World) (xs : List Int) (n : Nat) (e : Ending) (w' : World) : Prop :=
  e = .returned (.pointer (some ⟨w.heap.size + 1, 0, none⟩)) ∧ RegAt w' (w.heap.size + 1) w.heap.size n (regOf xs) xs.length ∧ Upd (fun _ => False) w w'
theorem RegTo.own {w wr w' : World} {r b n : Nat} {g : Nat → Value} {t : Int} {e : Ending} (h : RegTo r b n g t wr e w') (hu : Upd (fun _ => False) w wr) (hr : w.heap.size ≤ r) (hb : w.heap.size ≤ b) : e = .returned (.tuple #[]) ∧ RegAt w' r b n g t ∧ Upd (fun _ => False) w w' :=
  ⟨h.1, h.2.1, hu.after h.2.2 fun i hi => .inr (by rcases hi with rfl | rfl <;> omega)⟩

set_option maxHeartbeats 1000000 in
theorem build_any (w : World) (v : Value) (xs : List Int) (h : IsInts .i32 w v xs) (n : Nat) (hn : n ≤ 65536) (hl : xs.length ≤ n) :
    Calls Try.prog 10 #[v, .int .i64 n] w (Built w xs n) := by
  obtain ⟨p, c, rfl, k, m, -, g⟩ := IsSl.form h.1
  have hwf := h.2
  simp only [List.length_map] at *
  unfold maxLen at m
  have G := Lib.hid g
  have W := Lib.hid hwf
  clear g h hwf
  go_enter Try.func10, Try.ntmps10
  go_wp2_with (go_at_call 20; refine (new_any _ n hn).mono ?_; rintro e w1 ⟨rfl, hR, hU⟩)
  go_loopw [6] (BuildW w (w.heap.size + 1) w.heap.size n xs) (fun i _ => (xs.length - (intOf i).toNat))
  case atStart => exact ⟨0, Nat.zero_le _, rfl, by rw [upto_zero]; exact hR, hU⟩
  case round =>
    clear hR hU
    obtain ⟨j, hj, rfl, hR, hU⟩ := hrel
    by_cases hlt : (j : Int) < xs.length
    · obtain ⟨z, hz⟩ : ∃ z, xs[j]? = some z := ⟨xs[j]'(by omega), by simp⟩
      obtain ⟨a, rfl, hc⟩ := G.out j (.int .i32 z) (by simp [hz])
      have d := old_at hU hc
      have hzb := i32_of (W.out z (List.mem_of_getElem? hz))
      have C := Lib.hid (zset_any hR hn (by omega) j (by omega) z hzb)
      have HZ := Lib.hid hz
      have HU := Lib.hid hU
      clear hz hc hR hU hzb
      go_wp2_with (go_at_call 21; (with_reducible refine C.out.mono ?_); intro e w2 hs; obtain ⟨rfl, hR, hU⟩ := hs.own HU.out (by omega) (by omega); have HR := Lib.hid hR; have HU := Lib.hid hU; clear hs hR hU)
      go_roundw
      case rel => exact ⟨j + 1, by omega, by go_num, by rw [← upto_set HZ.out]; exact (HR.out.congr (fun _ _ => rfl) (by rw [topAfter_ge (Int.le_refl _)]; rfl)), HU.out⟩
      case measure => simp [intOf]; omega
    · have hje : j = xs.length := by omega
      subst hje
      rw [upto_full] at hR
      have HR := Lib.hid hR
      have HU := Lib.hid hU
      clear hR hU
      go_wp2
      go_ret
      exact ⟨rfl, HR.out, HU.out⟩

/-! ### comparing -/
theorem feq_fof_self {v : Int} (h : I32 v) : feq (fofInt v) (fofInt v) = true := by
  obtain ⟨u, hu, h1, -, -⟩ := fkey_ofInt v (by unfold I32 at h; omega)
  unfold feq
  rw [hu]
  simp
theorem fne_self {v : Int} (h : I32 v) : (FloatKind.f64.format.order (fofInt v) (fofInt v) != some .eq) = false := by
  have : (FloatKind.f64.format.order (fofInt v) (fofInt v) == some .eq) = true := (floatEq_feq _ _).trans (feq_fof_self h)
  simpa [bne] using this
/-- Slot values: class and number. -/
def slotV (k x : Int) : Value := if k = 2 then lnum (fofInt x) else if k = 1 then lnil else .nilIface

set_option maxHeartbeats 2000000 in
theorem matches_yes (w : World) (r b n : Nat) (f : Nat → Value) (top : Int) (h : RegAt w r b n f top) (hn : n ≤ 65536) (bk bm : Nat) (kd nm : Nat → Int)
    (hk : RowAt w bk 3 (rowF n fun j => .int .i64 (kd j))) (hm : RowAt w bm 21 (rowF n fun j => .int .i32 (nm j)))
    (hf : ∀ j, j < n → (kd j = 0 ∨ kd j = 1 ∨ kd j = 2) ∧ I32 (nm j) ∧ f j = slotV (kd j) (nm j)) :
    Calls Try.prog 17 #[.pointer (some ⟨r, 0, none⟩), .int .i64 n, .slice (some ⟨bk, 0, none⟩) n n, .slice (some ⟨bm, 0, none⟩) n n, .int .i64 top] w fun e w' => e = .returned (.bool true) ∧ w = w' := by
  have CT := Lib.hid (ztop_any h)
  have CC := Lib.hid (fun i hi k x hc => cell_any h hn i hi k x hc)
  have HF := Lib.hid hf
  have HK := Lib.hid hk
  have HM := Lib.hid hm
  have hne : (top != top) = false := by simp
  clear h hf hk hm
  go_enter Try.func17, Try.ntmps17
  go_wp2_with (go_at_call 24; refine CT.out.mono ?_; rintro e w1 ⟨rfl, rfl⟩)
  go_loop [11] (fun i => ∃ j : Nat, j ≤ n ∧ i = .int .i64 j) (fun i => (n - (intOf i).toNat))
  case atStart => exact ⟨0, Nat.zero_le _, rfl⟩
  case round =>
    obtain ⟨j, hj, rfl⟩ := hrel
    by_cases hlt : (j : Int) < n
    · obtain ⟨h0, h1, h2⟩ := HF.out j (by omega)
      have ck := HK.out.cell (rowF_at (fun j => Value.int .i64 (kd j)) (show j < n by omega))
      have cm := HM.out.cell (rowF_at (fun j => Value.int .i32 (nm j)) (show j < n by omega))
      have H1 := Lib.hid h1
      have hfe := fne_self h1
      have hfe2 : (FloatKind.f64.format.order (fofInt (nm j)) (floatOfInt .f64 (nm j)) != some .eq) = false := hfe
      clear h1
      rcases h0 with h0 | h0 | h0
      · rw [h0] at ck
        have C := Lib.hid (CC.out j (by omega) 0 0 (by rw [h2, h0]; exact .none))
        clear h2 h0
        go_wp2_with (go_at_call 25; refine C.out.mono ?_; rintro e w1 ⟨rfl, rfl⟩)
        go_round
        case rel => exact ⟨j + 1, by omega, by go_num⟩
        case measure => simp [intOf]; omega
      · rw [h0] at ck
        have C := Lib.hid (CC.out j (by omega) 1 0 (by rw [h2, h0]; exact .nil))
        clear h2 h0
        go_wp2_with (go_at_call 25; refine C.out.mono ?_; rintro e w1 ⟨rfl, rfl⟩)
        go_round
        case rel => exact ⟨j + 1, by omega, by go_num⟩
        case measure => simp [intOf]; omega
      · rw [h0] at ck
        have C := Lib.hid (CC.out j (by omega) 2 (fofInt (nm j)) (by rw [h2, h0]; exact .num _))
        clear h2 h0
        go_wp2_with (go_at_call 25; refine C.out.mono ?_; rintro e w1 ⟨rfl, rfl⟩)
        go_round
        case rel => exact ⟨j + 1, by omega, by go_num⟩
        case measure => simp [intOf]; omega
    · go_wp2
      go_ret
      exact ⟨rfl, rfl⟩

/-- A slot that the laws meet. -/
inductive Slot : Value → Prop
  | none : Slot .nilIface
  | nil : Slot lnil
  | num (z : Int) (h : I32 z) : Slot (lnum (fofInt z))
theorem Slot.cell {v : Value} (h : Slot v) : ∃ k x, Cell v k x ∧ (k = 0 ∨ k = 1 ∨ (k = 2 ∧ ∃ z, I32 z ∧ x = fofInt z)) := by
  cases h with
  | none => exact ⟨0, 0, .none, .inl rfl⟩
  | nil => exact ⟨1, 0, .nil, .inr (.inl rfl)⟩
  | num z h => exact ⟨2, _, .num _, .inr (.inr ⟨rfl, z, h, rfl⟩)⟩
set_option maxHeartbeats 2000000 in
theorem same_yes (w : World) (r b r2 b2 n : Nat) (f g : Nat → Value) (top : Int) (h : RegAt w r b n f top) (h2 : RegAt w r2 b2 n g top) (hn : n ≤ 65536) (hf : ∀ j, j < n → f j = g j ∧ Slot (f j)) :
    Calls Try.prog 13 #[.pointer (some ⟨r, 0, none⟩), .pointer (some ⟨r2, 0, none⟩), .int .i64 n] w fun e w' => e = .returned (.bool true) ∧ w = w' := by
  have CT := Lib.hid (ztop_any h)
  have CT2 := Lib.hid (ztop_any h2)
  have CC := Lib.hid (fun i hi k x hc => cell_any h hn i hi k x hc)
  have CC2 := Lib.hid (fun i hi k x hc => cell_any h2 hn i hi k x hc)
  have HF := Lib.hid hf
  have hne : (top != top) = false := by simp
  clear h h2 hf
  go_enter Try.func13, Try.ntmps13
  go_wp2_with (go_at_call 24; first | ((with_reducible refine CT.out.mono ?_); rintro e w1 ⟨rfl, rfl⟩) | ((with_reducible refine CT2.out.mono ?_); rintro e w1 ⟨rfl, rfl⟩))
  go_loop [7] (fun i => ∃ j : Nat, j ≤ n ∧ i = .int .i64 j) (fun i => (n - (intOf i).toNat))
  case atStart => exact ⟨0, Nat.zero_le _, rfl⟩
  case round =>
    obtain ⟨j, hj, rfl⟩ := hrel
    by_cases hlt : (j : Int) < n
    · obtain ⟨h0, h1⟩ := HF.out j (by omega)
      obtain ⟨k, x, hc, hk⟩ := h1.cell
      have C := Lib.hid (CC.out j (by omega) k x hc)
      have C2 := Lib.hid (CC2.out j (by omega) k x (h0 ▸ hc))
      clear hc h0 h1
      rcases hk with rfl | rfl | ⟨rfl, z, hz, rfl⟩
      · go_wp2_with (go_at_call 25; first | ((with_reducible refine C.out.mono ?_); rintro e w1 ⟨rfl, rfl⟩) | ((with_reducible refine C2.out.mono ?_); rintro e w1 ⟨rfl, rfl⟩))
        go_round
        case rel => exact ⟨j + 1, by omega, by go_num⟩
        case measure => simp [intOf]; omega
      · go_wp2_with (go_at_call 25; first | ((with_reducible refine C.out.mono ?_); rintro e w1 ⟨rfl, rfl⟩) | ((with_reducible refine C2.out.mono ?_); rintro e w1 ⟨rfl, rfl⟩))
        go_round
        case rel => exact ⟨j + 1, by omega, by go_num⟩
        case measure => simp [intOf]; omega
      · have hfe := fne_self hz
        clear hz
        go_wp2_with (go_at_call 25; first | ((with_reducible refine C.out.mono ?_); rintro e w1 ⟨rfl, rfl⟩) | ((with_reducible refine C2.out.mono ?_); rintro e w1 ⟨rfl, rfl⟩))
        go_round
        case rel => exact ⟨j + 1, by omega, by go_num⟩
        case measure => simp [intOf]; omega
    · go_wp2
      go_ret
      exact ⟨rfl, rfl⟩
end Go.Lua
