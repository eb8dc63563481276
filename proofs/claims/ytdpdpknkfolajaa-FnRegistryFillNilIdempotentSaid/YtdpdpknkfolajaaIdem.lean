/-
  n005_31: FnRegistryFillNilIdempotent, FnRegistryInsertThenCopyRangeRestores.
-/
import Derived.Test.YtdpdpknkfolajaaShim
namespace Go.Lua
open Go.Proofs Go.RowKit
set_option linter.unusedVariables false

theorem idem_pure {f : Nat → Value} (hf : ∀ k, Slot (f k)) (m : Nat) (k : Int) (h : 0 ≤ (m : Int) + k) (top : Int) (j : Nat) :
    cut (ovr f m k.toNat lnil) ((m : Int) + k).toNat top j = cut (ovr (cut (ovr f m k.toNat lnil) ((m : Int) + k).toNat top) m k.toNat lnil) ((m : Int) + k).toNat ((m : Int) + k) j ∧ Slot (cut (ovr f m k.toNat lnil) ((m : Int) + k).toNat top j) := by
  refine ⟨?_, cut_slot (ovr_slot hf .nil) j⟩
  have e : ∀ g : Nat → Value, cut g ((m : Int) + k).toNat ((m : Int) + k) j = g j := fun g => if_neg (by omega)
  rw [e]
  unfold ovr
  by_cases hj : m ≤ j ∧ j < m + k.toNat
  · rw [if_pos hj]
    unfold cut
    rw [if_neg (by omega)]
    exact if_pos hj
  · rw [if_neg hj]
set_option maxHeartbeats 400000 in
theorem bytes_idem (w : World) (v : Value) (xs : List Int) (h : IsInts .i32 w v xs) (a b c : Int) :
    Calls Try.prog 14 #[v, .int .i64 a, .int .i64 b, .int .i64 c] w (Asks w) := by
  obtain ⟨p, q, rfl, k, m, -, -⟩ := IsSl.form h.1
  simp only [List.length_map] at *
  unfold maxLen at m
  clear h
  go_enter Try.func14, Try.ntmps14
  go_wp2
  all_goals (go_ret; first | exact ⟨rfl, .inl rfl⟩ | exact ⟨rfl, .inr rfl⟩)

set_option maxHeartbeats 4000000 in
theorem idem_in (w : World) (v : Value) (xs : List Int) (h : IsInts .i32 w v xs) (n m : Nat) (k : Int) :
    Calls Try.prog 4 #[v, .int .i64 n, .int .i64 m, .int .i64 k] w (Fine w) := by
  have CB := Lib.hid (bytes_idem w v xs h n m k)
  have H0 := Lib.hid h
  obtain ⟨p, q, rfl, k', mx, -, -⟩ := IsSl.form h.1
  simp only [List.length_map] at *
  unfold maxLen at mx
  have MK : True := trivial
  clear h
  go_enter Try.func4, Try.ntmps4
  go_wp2_with (first
    | (go_at_call 14; refine CB.out.mono ?_; rintro e w1 ⟨rfl, rfl | rfl⟩)
    | (go_at_call 9; refine (cloneI_any _ _ xs H0.out (by omega)).mono ?_; rintro e w2 ⟨p2, c2, rfl, hV, hU⟩; have HX := Lib.hid (isints_i32 hV); have HV := Lib.hid hV; have HU := Lib.hid hU; clear hV hU)
    | (go_at_call 10; clear MK; refine (build_any _ _ xs HV.out n (by omega) (by omega)).mono ?_; intro e w3 hB; obtain ⟨rfl, hO⟩ := One.make hB (Upd.refl _ _); have HO := Lib.hid hO; clear hB hO)
    | (go_at_call 15; refine (zfill_any HO.out.at' (by omega) (by omega) m k (by omega) (by omega) (by omega)).mono ?_; intro e w4 hs; obtain ⟨rfl, hO⟩ := HO.out.to hs; have HO := Lib.hid hO; clear hs hO)
    | (go_at_call 10; refine (build_any _ _ xs (HV.out.kept HO.out.upd) n (by omega) (by omega)).mono ?_; intro e w5 hB; obtain ⟨rfl, hO⟩ := Both.make HO.out hB; have HB := Lib.hid hO; clear hB hO HO)
    | (go_at_call 15; refine (zfill_any HB.out.at2 (by omega) (by omega) m k (by omega) (by omega) (by omega)).mono ?_; intro e w6 hs; obtain ⟨rfl, hO⟩ := HB.out.to hs; have HB := Lib.hid hO; clear hs hO)
    | (go_at_call 13; refine (HB.out.same (by omega) (fun j _ => idem_pure (regOf_slot HX.out) m k (by omega) _ j)).mono ?_; rintro e w7 ⟨rfl, rfl⟩))
  all_goals first | (go_ret; exact ⟨rfl, Below.refl _ _⟩) | (go_ret; exact ⟨rfl, none_below (none_trans HU.out HB.out.upd)⟩)
theorem idem_out (w : World) (v : Value) (xs : List Int) (h : IsInts .i32 w v xs) (n m k : Int) (hq : n < 0 ∨ m < 0) :
    Calls Try.prog 4 #[v, .int .i64 n, .int .i64 m, .int .i64 k] w (Fine w) := by
  have CB := Lib.hid (bytes_idem w v xs h n m k)
  obtain ⟨p, q, rfl, k', mx, -, -⟩ := IsSl.form h.1
  simp only [List.length_map] at *
  unfold maxLen at mx
  clear h
  rcases hq with hq | hq
  all_goals
    go_enter Try.func4, Try.ntmps4
    go_wp2_with (go_at_call 14; refine CB.out.mono ?_; rintro e w1 ⟨rfl, rfl | rfl⟩)
    all_goals (go_ret; exact ⟨rfl, Below.refl _ _⟩)
theorem idem_walk (w : World) (v : Value) (xs : List Int) (h : IsInts .i32 w v xs) (n : Int) (hn : (Lit.int .i64 n).wf = true) (m : Int) (hm : (Lit.int .i64 m).wf = true) (k : Int) (hk : (Lit.int .i64 k).wf = true) :
    Calls Try.prog 4 #[v, .int .i64 n, .int .i64 m, .int .i64 k] w (Fine w) := by
  by_cases h1 : n < 0 ∨ m < 0
  · exact idem_out w v xs h n m k h1
  · obtain ⟨n', rfl⟩ : ∃ n' : Nat, n = n' := ⟨n.toNat, by omega⟩
    obtain ⟨m', rfl⟩ : ∃ m' : Nat, m = m' := ⟨m.toNat, by omega⟩
    exact idem_in w v xs h n' m' k
end Go.Lua
