/-
  n005_96: the statements' checks and pickers, by contract.
-/
import Derived.Test.YtbbdcoaicikddaaBase
namespace Go.Lua
open Go.Proofs Go.RowKit
set_option linter.unusedVariables false

theorem key16 : fkey 4679240012837945344 = some (Int.ofNat (65536 * unit)) := by kernel_rfl
theorem key1 : fkey 4607182418800017408 = some (Int.ofNat (1 * unit)) := by kernel_rfl

/-- No text is long. -/
def Shorts (ss : List ByteArray) (j : Nat) : Prop := ∀ s ∈ ss.take j, s.size ≤ 1048576
theorem Shorts.zero (ss : List ByteArray) : Shorts ss 0 := by unfold Shorts; simp
theorem Shorts.next {ss : List ByteArray} {j : Nat} {s : ByteArray} (h : Shorts ss j) (ho : ss[j]? = some s) (hs : s.size ≤ 1048576) : Shorts ss (j + 1) := by
  intro x hx
  obtain ⟨hj, rfl⟩ := List.getElem?_eq_some_iff.1 ho
  rw [List.take_succ_eq_append_getElem hj] at hx
  rcases List.mem_append.1 hx with hx | hx
  · exact h x hx
  · rw [List.mem_singleton.1 hx]; exact hs
theorem Shorts.at {ss : List ByteArray} (h : Shorts ss ss.length) {j : Nat} {s : ByteArray} (ho : ss[j]? = some s) : s.size ≤ 1048576 :=
  h s (by rw [List.take_length]; exact List.mem_of_getElem? ho)

/-- It answers a small number and changes nothing. -/
def Small (w : World) (e : Ending) (w' : World) : Prop := w = w' ∧ ∃ n : Int, 0 ≤ n ∧ n ≤ 2097152 ∧ e = .returned (.int .i64 n)

set_option maxHeartbeats 1000000 in
theorem strBytes_any (w : World) (v : Value) (ss : List ByteArray) (h : IsStrs w v ss) (hs : Hid (Shorts ss ss.length)) (hl : ss.length ≤ 4096) :
    Calls Try.prog 11 #[v] w (Small w) := by
  obtain ⟨p, c, rfl, k, m, hn, g⟩ := h.1.form
  simp only [List.length_map] at *
  have G := Lib.hid g
  clear h g hn k m
  go_enter Try.func11, Try.ntmps11
  go_wp2_with fail
  go_loop [3, 4] (fun z i => ∃ (j : Nat) (n : Int), j ≤ ss.length ∧ i = .int .i64 j ∧ z = .int .i64 n ∧ 0 ≤ n ∧ n ≤ 2097152) (fun _ i => (ss.length - intOf i).toNat)
  case atStart =>
    refine ⟨0, _, Nat.zero_le _, rfl, rfl, ?_, ?_⟩ <;> omega
  case round =>
    obtain ⟨j, n, hj, rfl, rfl, hn0, hn1⟩ := hrel
    by_cases hlt : (j : Int) < ss.length
    · obtain ⟨s, ho⟩ : ∃ s, ss[j]? = some s := ⟨ss[j]'(by omega), by simp⟩
      obtain ⟨a, rfl, d0⟩ := G.out j (.string s) (by simp [ho])
      have hz := hs.out.at ho
      clear ho
      go_wp2
      all_goals first | (go_ret; exact ⟨rfl, _, by omega, by omega, rfl⟩) | skip
      go_round
      case rel => exact ⟨j + 1, _, by omega, by go_num, rfl, by omega, by omega⟩
      case measure => exact meas (by omega)
    · go_wp2
      go_ret
      exact ⟨rfl, _, hn0, hn1, rfl⟩

/-- It answers yes, or no and P; it changes nothing. -/
def NoIf (P : Prop) (w : World) (e : Ending) (w' : World) : Prop := w = w' ∧ (e = .returned (.bool true) ∨ (e = .returned (.bool false) ∧ P))
def FNears (ks : List Nat) (j : Nat) : Prop := ∀ x ∈ ks.take j, FNear x
theorem FNears.zero (ks : List Nat) : FNears ks 0 := by unfold FNears; simp
theorem FNears.next {ks : List Nat} {j x : Nat} (h : FNears ks j) (ho : ks[j]? = some x) (hs : FNear x) : FNears ks (j + 1) := by
  intro y hy
  obtain ⟨hj, rfl⟩ := List.getElem?_eq_some_iff.1 ho
  rw [List.take_succ_eq_append_getElem hj] at hy
  rcases List.mem_append.1 hy with hy | hy
  · exact h y hy
  · rw [List.mem_singleton.1 hy]; exact hs
theorem FNears.at {ks : List Nat} (h : FNears ks ks.length) {j x : Nat} (ho : ks[j]? = some x) : FNear x :=
  h x (by rw [List.take_length]; exact List.mem_of_getElem? ho)
def INears (ks : List Int) (j : Nat) : Prop := ∀ x ∈ ks.take j, ¬ (65536 < x ∧ x < 67108864)
theorem INears.zero (ks : List Int) : INears ks 0 := by unfold INears; simp
theorem INears.next {ks : List Int} {j : Nat} {x : Int} (h : INears ks j) (ho : ks[j]? = some x) (hs : ¬ (65536 < x ∧ x < 67108864)) : INears ks (j + 1) := by
  intro y hy
  obtain ⟨hj, rfl⟩ := List.getElem?_eq_some_iff.1 ho
  rw [List.take_succ_eq_append_getElem hj] at hy
  rcases List.mem_append.1 hy with hy | hy
  · exact h y hy
  · rw [List.mem_singleton.1 hy]; exact hs
theorem INears.at {ks : List Int} (h : INears ks ks.length) {j : Nat} {x : Int} (ho : ks[j]? = some x) : ¬ (65536 < x ∧ x < 67108864) :=
  h x (by rw [List.take_length]; exact List.mem_of_getElem? ho)

/-- How a double lies to 65536 and to 2^26; int64 of it where it lies between. -/
theorem far_cases (x : Nat) : (flt 4679240012837945344 x = false ∧ FNear x) ∨ (flt 4679240012837945344 x = true ∧ flt x 4724276009111650304 = false ∧ FNear x) ∨
    (flt 4679240012837945344 x = true ∧ flt x 4724276009111650304 = true ∧ ∃ n : Int, Is64 n ∧ (∀ w, (convert 29 2 (.float .f64 x)).run Try.prog w = .ok (.int .i64 n) w) ∧ (feq (fofInt n) x = false → FNear x)) := by
  have hu := unit_pos
  unfold flt
  rw [key16, key26]
  cases hx : fkey x with
  | none =>
    refine .inl ⟨rfl, fun h => ?_⟩
    unfold arrKey at h
    rw [hx] at h
    cases h
  | some v =>
    show (decide (Int.ofNat (65536 * unit) < v) = false ∧ _) ∨ (decide (Int.ofNat (65536 * unit) < v) = true ∧ decide (v < Int.ofNat (67108864 * unit)) = false ∧ _) ∨ (decide (Int.ofNat (65536 * unit) < v) = true ∧ decide (v < Int.ofNat (67108864 * unit)) = true ∧ _)
    rw [show Int.ofNat (65536 * unit) = 65536 * (unit : Int) by simp, show Int.ofNat (67108864 * unit) = 67108864 * (unit : Int) by simp]
    by_cases h1 : 65536 * (unit : Int) < v
    · by_cases h2 : v < 67108864 * (unit : Int)
      · refine .inr (.inr ⟨decide_eq_true h1, decide_eq_true h2, ?_⟩)
        have hle : v.natAbs ≤ 2 ^ 53 * unit := by omega
        refine ⟨v.tdiv unit, ?_, fun w => ?_, fun hf => ?_⟩
        · have := tdiv_bound hle
          unfold Is64
          omega
        · obtain ⟨n, -, -, hs⟩ := cvt_int (P := Try.prog) 29 2 (by rfl) (by rfl) x w
          obtain ⟨q1, q2⟩ := hs v hx hle
          rw [q1] at q2
          exact q2
        · rw [feq_symm, feq_cut hx hle] at hf
          intro h
          unfold arrKey at h
          rw [hx] at h
          exact absurd (of_decide_eq_true h).2.2 (of_decide_eq_false hf)
      · refine .inr (.inl ⟨decide_eq_true h1, decide_eq_false h2, fun h => ?_⟩)
        unfold arrKey at h
        rw [hx] at h
        exact absurd (of_decide_eq_true h).2.1 h2
    · refine .inl ⟨decide_eq_false h1, fun h => ?_⟩
      obtain ⟨q1, q2⟩ := arr_is h
      rw [hx] at q2
      have q2 := Option.some.inj q2
      rcases Int.lt_or_le 65536 (arrIdx x) with q | q
      · have := Int.mul_lt_mul_of_pos_right q (show (0 : Int) < unit by omega)
        omega
      · exact q

set_option maxHeartbeats 1000000 in
theorem anyBig_any (w : World) (v : Value) (ks : List Nat) (h : IsFloats w v ks) (hl : ks.length ≤ 4096) :
    Calls Try.prog 22 #[v] w (NoIf (Hid (FNears ks ks.length)) w) := by
  obtain ⟨p, c, rfl, k, m, hn, g⟩ := h.1.form
  simp only [List.length_map] at *
  have G := Lib.hid g
  clear h g hn k m
  go_enter Try.func22, Try.ntmps22
  go_wp2_with fail
  go_loop [3] (fun i => ∃ (j : Nat), j ≤ ks.length ∧ i = .int .i64 j ∧ Hid (FNears ks j)) (fun i => (ks.length - intOf i).toNat)
  case atStart => exact ⟨0, Nat.zero_le _, rfl, Lib.hid (FNears.zero ks)⟩
  case round =>
    obtain ⟨j, hj, rfl, hS⟩ := hrel
    by_cases hlt : (j : Int) < ks.length
    · obtain ⟨x, hx⟩ : ∃ x, ks[j]? = some x := ⟨ks[j]'(by omega), by simp⟩
      obtain ⟨a, rfl, d0⟩ := G.out j (.float .f64 x) (by simp [hx])
      have HX := Lib.hid hx
      clear hx
      have hf := far_cases x
      rw [← order_gt x 4679240012837945344, ← order_lt x 4724276009111650304] at hf
      rcases hf with ⟨f1, f2⟩ | ⟨f1, f3, f2⟩ | ⟨f1, f3, n, f4, f5, f6⟩
      · have HF := Lib.hid f2
        clear f2
        go_wp2
        go_round
        case rel => exact ⟨j + 1, by omega, by go_num, Lib.hid (hS.out.next HX.out HF.out)⟩
        case measure => exact meas (by omega)
      · have HF := Lib.hid f2
        clear f2
        go_wp2
        go_round
        case rel => exact ⟨j + 1, by omega, by go_num, Lib.hid (hS.out.next HX.out HF.out)⟩
        case measure => exact meas (by omega)
      · have HF := Lib.hid f6
        unfold Is64 at f4
        obtain ⟨f7, f8⟩ := f4
        clear f6
        by_cases he : feq (fofInt n) x = true
        · rw [← order_eq] at he
          have he : (FloatKind.f64.format.order (floatOfInt .f64 n) x == some .eq) = true := he
          go_wp2_with (simp only [f5])
          go_ret
          exact ⟨rfl, .inl rfl⟩
        · rw [Bool.not_eq_true] at he
          have HF2 := Lib.hid (HF.out he)
          rw [← order_eq] at he
          have he : (FloatKind.f64.format.order (floatOfInt .f64 n) x == some .eq) = false := he
          go_wp2_with (simp only [f5])
          go_round
          case rel => exact ⟨j + 1, by omega, by go_num, Lib.hid (hS.out.next HX.out HF2.out)⟩
          case measure => exact meas (by omega)
    · have hje : j = ks.length := by omega
      subst hje
      go_wp2
      go_ret
      exact ⟨rfl, .inr ⟨rfl, trivial⟩⟩

set_option maxHeartbeats 1000000 in
theorem anyBigInt_any (w : World) (v : Value) (ks : List Int) (h : IsInts .i64 w v ks) (hl : ks.length ≤ 4096) :
    Calls Try.prog 25 #[v] w (NoIf (Hid (INears ks ks.length)) w) := by
  obtain ⟨p, c, rfl, k, m, hn, g⟩ := h.1.form
  simp only [List.length_map] at *
  have G := Lib.hid g
  clear h g hn k m
  go_enter Try.func25, Try.ntmps25
  go_wp2_with fail
  go_loop [3] (fun i => ∃ (j : Nat), j ≤ ks.length ∧ i = .int .i64 j ∧ Hid (INears ks j)) (fun i => (ks.length - intOf i).toNat)
  case atStart => exact ⟨0, Nat.zero_le _, rfl, Lib.hid (INears.zero ks)⟩
  case round =>
    obtain ⟨j, hj, rfl, hS⟩ := hrel
    by_cases hlt : (j : Int) < ks.length
    · obtain ⟨x, hx⟩ : ∃ x, ks[j]? = some x := ⟨ks[j]'(by omega), by simp⟩
      obtain ⟨a, rfl, d0⟩ := G.out j (.int .i64 x) (by simp [hx])
      have HX := Lib.hid hx
      clear hx
      by_cases hn1 : (65536 : Int) < x
      · by_cases hn2 : x < 67108864
        · go_wp2
          go_ret
          exact ⟨rfl, .inl rfl⟩
        · have hn3 : decide (x < 67108864) = false := by simpa using hn2
          have HN : Hid (¬ (65536 < x ∧ x < 67108864)) := Lib.hid (by omega)
          go_wp2
          go_round
          case rel => exact ⟨j + 1, by omega, by go_num, Lib.hid (hS.out.next HX.out HN.out)⟩
          case measure => exact meas (by omega)
      · have hn3 : decide ((65536 : Int) < x) = false := by simpa using hn1
        have HN : Hid (¬ (65536 < x ∧ x < 67108864)) := Lib.hid (by omega)
        go_wp2
        go_round
        case rel => exact ⟨j + 1, by omega, by go_num, Lib.hid (hS.out.next HX.out HN.out)⟩
        case measure => exact meas (by omega)
    · have hje : j = ks.length := by omega
      subst hje
      go_wp2
      go_ret
      exact ⟨rfl, .inr ⟨rfl, trivial⟩⟩

/-- Whether a double is an array key, as the laws ask. -/
theorem key_cases (x : Nat) : (flt 4607182418800017408 x = false ∧ feq x 4607182418800017408 = false ∧ arrKey x = false) ∨ ((flt 4607182418800017408 x || feq x 4607182418800017408) = true ∧ flt x 4724276009111650304 = false ∧ arrKey x = false) ∨
    ((flt 4607182418800017408 x || feq x 4607182418800017408) = true ∧ flt x 4724276009111650304 = true ∧ ∃ n : Int, Is64 n ∧ (∀ w, (convert 29 2 (.float .f64 x)).run Try.prog w = .ok (.int .i64 n) w) ∧ feq (fofInt n) x = arrKey x) := by
  have hu := unit_pos
  unfold flt feq arrKey
  rw [key1, key26]
  cases hx : fkey x with
  | none => exact .inl ⟨rfl, rfl, rfl⟩
  | some v =>
    show (decide (Int.ofNat (1 * unit) < v) = false ∧ (v == Int.ofNat (1 * unit)) = false ∧ decide _ = false) ∨ ((decide (Int.ofNat (1 * unit) < v) || (v == Int.ofNat (1 * unit))) = true ∧ decide (v < Int.ofNat (67108864 * unit)) = false ∧ decide _ = false) ∨ ((decide (Int.ofNat (1 * unit) < v) || (v == Int.ofNat (1 * unit))) = true ∧ decide (v < Int.ofNat (67108864 * unit)) = true ∧ _)
    rw [show Int.ofNat (1 * unit) = (unit : Int) by simp, show Int.ofNat (67108864 * unit) = 67108864 * (unit : Int) by simp]
    by_cases h1 : (unit : Int) ≤ v
    · have hg : (decide ((unit : Int) < v) || (v == (unit : Int))) = true := by
        by_cases he : v = unit
        · simp [he]
        · have : (unit : Int) < v := by omega
          simp [this]
      by_cases h2 : v < 67108864 * (unit : Int)
      · refine .inr (.inr ⟨hg, decide_eq_true h2, v.tdiv unit, ?_, fun w => ?_, ?_⟩)
        · have hle : v.natAbs ≤ 2 ^ 53 * unit := by omega
          have := tdiv_bound hle
          unfold Is64
          omega
        · have hle : v.natAbs ≤ 2 ^ 53 * unit := by omega
          obtain ⟨n, -, -, hs⟩ := cvt_int (P := Try.prog) 29 2 (by rfl) (by rfl) x w
          obtain ⟨q1, q2⟩ := hs v hx hle
          rw [q1] at q2
          exact q2
        · have hle : v.natAbs ≤ 2 ^ 53 * unit := by omega
          have hc := feq_cut hx hle
          rw [feq_symm] at hc
          have hc2 := hc
          unfold feq at hc2
          rw [hx] at hc2
          rw [hc2]
          by_cases hd : (unit : Int) ∣ v
          · rw [decide_eq_true hd]
            exact (decide_eq_true (p := 0 < v ∧ v < 67108864 * (unit : Int) ∧ (unit : Int) ∣ v) ⟨by omega, h2, hd⟩).symm
          · rw [decide_eq_false hd]
            exact (decide_eq_false (p := 0 < v ∧ v < 67108864 * (unit : Int) ∧ (unit : Int) ∣ v) (fun h => hd h.2.2)).symm
      · exact .inr (.inl ⟨hg, decide_eq_false h2, decide_eq_false fun h => h2 h.2.1⟩)
    · refine .inl ⟨decide_eq_false (by omega), beq_false_of_ne (by omega), decide_eq_false fun h => ?_⟩
      obtain ⟨q1, q2, k, rfl⟩ := h
      have hk : 0 < k := by
        rcases Int.lt_or_le 0 k with q | q
        · exact q
        · have := Int.mul_nonpos_of_nonneg_of_nonpos (show (0 : Int) ≤ unit by omega) q
          omega
      have := Int.mul_le_mul_of_nonneg_left (show (1 : Int) ≤ k by omega) (show (0 : Int) ≤ unit by omega)
      omega
theorem isArrKey_any (w : World) (x : Nat) : Calls Try.prog 17 #[.float .f64 x] w fun e w' => e = .returned (.bool (arrKey x)) ∧ w = w' := by
  have hf := key_cases x
  rw [← order_gt x 4607182418800017408, ← order_eq x 4607182418800017408, ← order_lt x 4724276009111650304] at hf
  rcases hf with ⟨f1, f2, f3⟩ | ⟨f1, f2, f3⟩ | ⟨f1, f2, n, f3, f4, f5⟩
  · rw [f3]
    clear f3
    go_enter Try.func17, Try.ntmps17
    go_wp2
    go_ret
    exact ⟨rfl, rfl⟩
  · rw [f3]
    clear f3
    go_enter Try.func17, Try.ntmps17
    go_wp2
    go_ret
    exact ⟨rfl, rfl⟩
  · rw [← f5]
    clear f5
    go_enter Try.func17, Try.ntmps17
    go_wp2_with (simp only [f4])
    go_ret
    exact ⟨congrArg (fun b => Ending.returned (.bool b)) (order_eq _ _), rfl⟩

theorem keyP53 : fkey 4845873199050653696 = some (Int.ofNat (9007199254740992 * unit)) := by kernel_rfl
theorem keyM53 : fkey 14069245235905429504 = some (-(Int.ofNat (9007199254740992 * unit))) := by kernel_rfl
/-- How a double lies to -2^53 and 2^53; int64 of it where it lies between. -/
theorem range_cases (x : Nat) : (flt 14069245235905429504 x = false ∧ feq x 14069245235905429504 = false) ∨ ((flt 14069245235905429504 x || feq x 14069245235905429504) = true ∧ flt x 4845873199050653696 = false ∧ feq x 4845873199050653696 = false) ∨
    ((flt 14069245235905429504 x || feq x 14069245235905429504) = true ∧ (flt x 4845873199050653696 || feq x 4845873199050653696) = true ∧ ∃ n : Int, Is64 n ∧ (∀ w, (convert 29 2 (.float .f64 x)).run Try.prog w = .ok (.int .i64 n) w) ∧ True) := by
  have hu := unit_pos
  unfold flt feq
  rw [keyP53, keyM53]
  cases hx : fkey x with
  | none => exact .inl ⟨rfl, rfl⟩
  | some v =>
    show (decide (-(Int.ofNat (9007199254740992 * unit)) < v) = false ∧ (v == -(Int.ofNat (9007199254740992 * unit))) = false) ∨ ((decide (-(Int.ofNat (9007199254740992 * unit)) < v) || (v == -(Int.ofNat (9007199254740992 * unit)))) = true ∧ decide (v < Int.ofNat (9007199254740992 * unit)) = false ∧ (v == Int.ofNat (9007199254740992 * unit)) = false) ∨
      ((decide (-(Int.ofNat (9007199254740992 * unit)) < v) || (v == -(Int.ofNat (9007199254740992 * unit)))) = true ∧ (decide (v < Int.ofNat (9007199254740992 * unit)) || (v == Int.ofNat (9007199254740992 * unit))) = true ∧ _)
    rw [show Int.ofNat (9007199254740992 * unit) = 9007199254740992 * (unit : Int) by simp]
    by_cases h1 : -(9007199254740992 * (unit : Int)) ≤ v
    · have hg : (decide (-(9007199254740992 * (unit : Int)) < v) || (v == -(9007199254740992 * (unit : Int)))) = true := by
        by_cases he : v = -(9007199254740992 * (unit : Int))
        · simp [he]
        · have : -(9007199254740992 * (unit : Int)) < v := by omega
          simp [this]
      by_cases h2 : v ≤ 9007199254740992 * (unit : Int)
      · have hl : (decide (v < 9007199254740992 * (unit : Int)) || (v == 9007199254740992 * (unit : Int))) = true := by
          by_cases he : v = 9007199254740992 * (unit : Int)
          · simp [he]
          · have : v < 9007199254740992 * (unit : Int) := by omega
            simp [this]
        have hle : v.natAbs ≤ 2 ^ 53 * unit := by omega
        refine .inr (.inr ⟨hg, hl, v.tdiv unit, ?_, fun w => ?_, trivial⟩)
        · have := tdiv_bound hle
          unfold Is64
          omega
        · obtain ⟨n, -, -, hs⟩ := cvt_int (P := Try.prog) 29 2 (by rfl) (by rfl) x w
          obtain ⟨q1, q2⟩ := hs v hx hle
          rw [q1] at q2
          exact q2
      · exact .inr (.inl ⟨hg, decide_eq_false (by omega), beq_false_of_ne (by omega)⟩)
    · exact .inl ⟨decide_eq_false (by omega), beq_false_of_ne (by omega)⟩

theorem numAt_any (w : World) (v0 : Value) (ks : List Nat) (h0 : IsFloats w v0 ks) (v1 : Value) (ps : List Nat) (h1 : IsFloats w v1 ps) (i x : Nat) (hk : ks.length ≤ 4096) (hp : ps.length ≤ 4096) (hx : (ks ++ ps)[i]? = some x) :
    Calls Try.prog 16 #[v0, v1, .int .i64 i] w fun e w' => e = .returned (.float .f64 x) ∧ w = w' := by
  obtain ⟨p0, c0, rfl, k0, m0, hn0, g0⟩ := h0.1.form
  obtain ⟨p1, c1, rfl, k1, m1, hn1, g1⟩ := h1.1.form
  simp only [List.length_map] at *
  have hil : i < ks.length + ps.length := by
    have := (List.getElem?_eq_some_iff.1 hx).1
    simpa using this
  by_cases hlt : (i : Int) < ks.length
  · rw [List.getElem?_append_left (by omega)] at hx
    obtain ⟨a, rfl, hc⟩ := g0 i (.float .f64 x) (by simp [hx])
    clear h0 h1 g0 g1 hn0 hn1 k0 k1 m0 m1 hx
    go_enter Try.func16, Try.ntmps16
    go_wp2
    go_ret
    exact ⟨rfl, rfl⟩
  · rw [List.getElem?_append_right (by omega)] at hx
    obtain ⟨q, hq⟩ : ∃ q : Nat, (i : Int) - ks.length = q := ⟨i - ks.length, by omega⟩
    have hq2 : i - ks.length = q := by omega
    rw [hq2] at hx
    obtain ⟨a, rfl, hc⟩ := g1 q (.float .f64 x) (by simp [hx])
    have hql : (q : Int) < ps.length := by omega
    clear h0 h1 g0 g1 hn0 hn1 k0 k1 m0 m1 hx hq2
    go_enter Try.func16, Try.ntmps16
    go_wp2
    go_ret
    exact ⟨rfl, rfl⟩
theorem strAt_any (w : World) (v0 : Value) (ks : List ByteArray) (h0 : IsStrs w v0 ks) (v1 : Value) (ps : List ByteArray) (h1 : IsStrs w v1 ps) (i : Nat) (x : ByteArray) (hk : ks.length ≤ 4096) (hp : ps.length ≤ 4096) (hx : (ks ++ ps)[i]? = some x) :
    Calls Try.prog 31 #[v0, v1, .int .i64 i] w fun e w' => e = .returned (.string x) ∧ w = w' := by
  obtain ⟨p0, c0, rfl, k0, m0, hn0, g0⟩ := h0.1.form
  obtain ⟨p1, c1, rfl, k1, m1, hn1, g1⟩ := h1.1.form
  simp only [List.length_map] at *
  have hil : i < ks.length + ps.length := by
    have := (List.getElem?_eq_some_iff.1 hx).1
    simpa using this
  by_cases hlt : (i : Int) < ks.length
  · rw [List.getElem?_append_left (by omega)] at hx
    obtain ⟨a, rfl, hc⟩ := g0 i (.string x) (by simp [hx])
    clear h0 h1 g0 g1 hn0 hn1 k0 k1 m0 m1 hx
    go_enter Try.func31, Try.ntmps31
    go_wp2
    go_ret
    exact ⟨rfl, rfl⟩
  · rw [List.getElem?_append_right (by omega)] at hx
    obtain ⟨q, hq⟩ : ∃ q : Nat, (i : Int) - ks.length = q := ⟨i - ks.length, by omega⟩
    have hq2 : i - ks.length = q := by omega
    rw [hq2] at hx
    obtain ⟨a, rfl, hc⟩ := g1 q (.string x) (by simp [hx])
    have hql : (q : Int) < ps.length := by omega
    clear h0 h1 g0 g1 hn0 hn1 k0 k1 m0 m1 hx hq2
    go_enter Try.func31, Try.ntmps31
    go_wp2
    go_ret
    exact ⟨rfl, rfl⟩
end Go.Lua
