/-
  n005_31: FnRegistryInsertThenCopyRangeRestores.
-/
import Derived.Test.YtdpdpknkfolajaaShim
namespace Go.Lua
open Go.Proofs Go.RowKit
set_option linter.unusedVariables false

theorem rest_pure {xs : List Int} (hx : ∀ z ∈ xs, I32 z) (g : Nat) (hg : g < xs.length) (z : Value) (j : Nat) :
    cut (moved (insF (regOf xs) xs.length g z) g ((g : Int) + 1) (eff (-1) ((xs.length : Int) + 1)) (xs.length - g)) (g + (xs.length - g)) ((xs.length : Int) + 1) j = regOf xs j := by
  have hL : eff (-1) ((xs.length : Int) + 1) = (xs.length : Int) + 1 := if_pos (.inl rfl)
  rw [hL]
  have hins : ∀ k, k ≠ g → insF (regOf xs) xs.length g z k = shf (regOf xs) xs.length ((g : Int) - 1) k := fun k hk => if_neg hk
  by_cases h1 : xs.length ≤ j
  · by_cases h2 : j < xs.length + 1
    · unfold cut
      rw [if_pos (by omega), regOf_none h1]
    · unfold cut
      rw [if_neg (by omega), moved_off (by omega), hins j (by omega)]
      exact if_neg (by omega)
  · unfold cut
    rw [if_neg (by omega)]
    by_cases h3 : g ≤ j
    · unfold moved
      rw [if_pos (by omega)]
      unfold src
      rw [if_neg (by omega), show ((g : Int) + 1 + ((j - g : Nat) : Int)).toNat = j + 1 by omega, hins _ (by omega)]
      unfold shf
      rw [if_pos (by omega)]
      rfl
    · rw [moved_off (by omega), hins j (by omega)]
      exact if_neg (by omega)
theorem One.retop {w2 wc : World} {r b n : Nat} {f : Nat → Value} {top t : Int} (h : One w2 r b n f top wc) (e : top = t) : One w2 r b n f t wc := e ▸ h
theorem zcopyI_any {w : World} {r b n : Nat} {f : Nat → Value} {top : Int} (h : RegAt w r b n f top) (hn : n ≤ 65536) (hs : ∀ i, i < n → OneCell (f i)) (ht : 0 ≤ top ∧ top ≤ n) (v k : Nat) (s l K : Int) (hK : K = k) (hv : v + k ≤ n) (hsb : -1073741824 ≤ s ∧ s ≤ 1073741824) (hd : (v : Int) ≤ s ∨ s + k ≤ v) :
    Calls Try.prog 12 #[.pointer (some ⟨r, 0, none⟩), .int .i64 v, .int .i64 s, .int .i64 l, .int .i64 K] w (CopyTo r b n f top v s l k w) := by
  subst hK; exact zcopy_any h hn hs ht v k s l hv hsb hd
set_option maxHeartbeats 400000 in
theorem bytes_rest (w : World) (v : Value) (xs : List Int) (h : IsInts .i32 w v xs) (a b c : Int) :
    Calls Try.prog 8 #[v, .int .i64 a, .int .i32 b, .int .i64 c] w (Asks w) := by
  obtain ⟨p, q, rfl, k, m, -, -⟩ := IsSl.form h.1
  simp only [List.length_map] at *
  unfold maxLen at m
  clear h
  go_enter Try.func8, Try.ntmps8
  go_wp2
  all_goals (go_ret; first | exact ⟨rfl, .inl rfl⟩ | exact ⟨rfl, .inr rfl⟩)

set_option maxHeartbeats 4000000 in
theorem rest_in (w : World) (v : Value) (xs : List Int) (h : IsInts .i32 w v xs) (n : Nat) (z : Int) (hz : I32 z) (g : Nat) (hg : Hid (g < xs.length ∧ xs.length + 1 ≤ n ∧ n ≤ 65536)) :
    Calls Try.prog 3 #[v, .int .i64 n, .int .i32 z, .int .i64 g] w (Fine w) := by
  have CB := Lib.hid (bytes_rest w v xs h n z g)
  have H0 := Lib.hid h
  have HZ := Lib.hid hz
  obtain ⟨p, q, rfl, k', mx, -, -⟩ := IsSl.form h.1
  simp only [List.length_map] at *
  unfold maxLen at mx
  obtain ⟨g1, g2, g3⟩ := hg.out
  have MK : True := trivial
  have hb : decide (xs.length ≤ g) = false := decide_eq_false (by omega)
  have hb2 : decide (n < xs.length) = false := decide_eq_false (by omega)
  clear h hz
  go_enter Try.func3, Try.ntmps3
  go_wp2_with (first
    | (go_at_call 8; refine CB.out.mono ?_; rintro e w1 ⟨rfl, rfl | rfl⟩)
    | (go_at_call 9; refine (cloneI_any _ _ xs H0.out (by omega)).mono ?_; rintro e w2 ⟨p2, c2, rfl, hV, hU⟩; have HX := Lib.hid (isints_i32 hV); have HV := Lib.hid hV; have HU := Lib.hid hU; clear hV hU)
    | (go_at_call 10; clear MK; refine (build_any _ _ xs HV.out n (by omega) (by omega)).mono ?_; intro e w3 hB; obtain ⟨rfl, hO⟩ := One.make hB (Upd.refl _ _); have HO := Lib.hid hO; clear hB hO)
    | (go_at_call 11; refine (zins_any xs.length HO.out.at' (by omega) (fun i _ => (regOf_slot HX.out i).one) (by omega) g (by omega) z).mono ?_; intro e w4 hs; obtain ⟨rfl, hO⟩ := HO.out.to hs; have HO := Lib.hid hO; clear hs hO)
    | (go_at_call 12; refine (zcopyI_any HO.out.at' (by omega) (fun i _ => (ins_slot (regOf_slot HX.out) (.num z HZ.out) i).one) (by omega) g (xs.length - g) _ _ _ (by omega) (by omega) (by omega) (by omega)).mono ?_; intro e w4 hs; obtain ⟨rfl, hO⟩ := HO.out.to hs; have HO := Lib.hid (hO.retop (t := (xs.length : Int)) (by omega)); clear hs hO)
    | (go_at_call 10; refine (build_any _ _ xs (HV.out.kept HO.out.upd) n (by omega) (by omega)).mono ?_; intro e w5 hB; obtain ⟨rfl, hO⟩ := Both.make HO.out hB; have HB := Lib.hid hO; clear hB hO HO)
    | (go_at_call 13; refine (HB.out.same (by omega) (fun j _ => ⟨rest_pure HX.out g (by omega) _ j, cut_slot (moved_slot (ins_slot (regOf_slot HX.out) (.num z HZ.out))) j⟩)).mono ?_; rintro e w7 ⟨rfl, rfl⟩))
  all_goals first | (go_ret; exact ⟨rfl, Below.refl _ _⟩) | (go_ret; exact ⟨rfl, none_below (none_trans HU.out HB.out.upd)⟩)
set_option maxHeartbeats 4000000 in
theorem rest_out (w : World) (v : Value) (xs : List Int) (h : IsInts .i32 w v xs) (n z g : Int) (hq : xs.length > 65536 ∨ n < xs.length ∨ 65536 < n ∨ g < 0 ∨ (xs.length : Int) ≤ g ∨ n < xs.length + 1) :
    Calls Try.prog 3 #[v, .int .i64 n, .int .i32 z, .int .i64 g] w (Fine w) := by
  have CB := Lib.hid (bytes_rest w v xs h n z g)
  obtain ⟨p, q, rfl, k', mx, -, -⟩ := IsSl.form h.1
  simp only [List.length_map] at *
  unfold maxLen at mx
  clear h
  rcases hq with hq | hq | hq | hq | hq | hq
  all_goals
    go_enter Try.func3, Try.ntmps3
    go_wp2_with (go_at_call 8; refine CB.out.mono ?_; rintro e w1 ⟨rfl, rfl | rfl⟩)
    all_goals (go_ret; exact ⟨rfl, Below.refl _ _⟩)
theorem rest_walk (w : World) (v : Value) (xs : List Int) (h : IsInts .i32 w v xs) (n : Int) (hn : (Lit.int .i64 n).wf = true) (z : Int) (hz : (Lit.int .i32 z).wf = true) (g : Int) (hg : (Lit.int .i64 g).wf = true) :
    Calls Try.prog 3 #[v, .int .i64 n, .int .i32 z, .int .i64 g] w (Fine w) := by
  by_cases h1 : xs.length > 65536 ∨ n < xs.length ∨ 65536 < n ∨ g < 0 ∨ (xs.length : Int) ≤ g ∨ n < xs.length + 1
  · exact rest_out w v xs h n z g h1
  · obtain ⟨n', rfl⟩ : ∃ n' : Nat, n = n' := ⟨n.toNat, by omega⟩
    obtain ⟨g', rfl⟩ : ∃ m' : Nat, g = m' := ⟨g.toNat, by omega⟩
    exact rest_in w v xs h n' z (i32_of hz) g' (Lib.hid (by omega))
end Go.Lua
