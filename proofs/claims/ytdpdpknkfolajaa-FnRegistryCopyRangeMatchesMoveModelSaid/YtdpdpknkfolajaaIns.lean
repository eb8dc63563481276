/-
  n005_31: Insert below the top.
-/
import Derived.Test.YtdpdpknkfolajaaCopy
namespace Go.Lua
open Go.Proofs Go.RowKit
set_option linter.unusedVariables false

/-- The slots above q + 1, up to t, hold what lay one below. -/
def shf (f : Nat → Value) (t : Nat) (q : Int) (k : Nat) : Value := if q + 1 < k ∧ k ≤ t then f (k - 1) else f k
theorem shf_start (f : Nat → Value) (t : Nat) : shf f t ((t : Int) - 1) = f := by
  funext k; exact if_neg (by omega)
theorem shf_at (f : Nat → Value) (t p : Nat) : shf f t p p = f p := if_neg (by omega)
theorem shf_set (f : Nat → Value) (t p : Nat) (h : p < t) {u : Value} (hu : f p = u) : (fun k => if k = p + 1 then u else shf f t p k) = shf f t ((p : Int) - 1) := by
  funext k
  unfold shf
  by_cases hk : k = p + 1
  · subst hk
    rw [if_pos rfl, if_pos (by omega), show p + 1 - 1 = p by omega, hu]
  · rw [if_neg hk]
    by_cases h2 : (p : Int) + 1 < k ∧ k ≤ t
    · rw [if_pos h2, if_pos (by omega)]
    · rw [if_neg h2, if_neg (by omega)]
def topQ (t : Nat) (q : Int) : Int := if q + 1 < t then t + 1 else t
theorem topQ_lo {t : Nat} {q : Int} (h : q + 1 < t) : topQ t q = t + 1 := if_pos h
theorem topQ_hi {t : Nat} {q : Int} (h : ¬ q + 1 < t) : topQ t q = t := if_neg h
def InsW (w : World) (r b n : Nat) (f : Nat → Value) (t g : Nat) (i : Value) (wr : World) : Prop :=
  ∃ q : Int, (g : Int) - 1 ≤ q ∧ q ≤ (t : Int) - 1 ∧ i = .int .i64 q ∧ RegAt wr r b n (shf f t q) (topQ t q) ∧ Upd (Rb r b) w wr
/-- v put in at g. -/
def insF (f : Nat → Value) (t g : Nat) (v : Value) (k : Nat) : Value := if k = g then v else shf f t ((g : Int) - 1) k

set_option maxHeartbeats 4000000 in
set_option maxRecDepth 100000 in
theorem insert_any (w : World) (r b n : Nat) (f : Nat → Value) (t : Nat) (h : RegAt w r b n f t) (hn : n ≤ 65536) (hs : ∀ i, i < n → OneCell (f i)) (ht : t + 1 ≤ n) (g : Nat) (hg : g < t) (tv : TypeId) (xv : Value) :
    Calls Try.prog 22 #[.pointer (some ⟨r, 0, none⟩), .iface tv xv, .int .i64 g] w (RegTo r b n (insF f t g (.iface tv xv)) ((t : Int) + 1) w) := by
  obtain ⟨c0, c1⟩ := h.cells
  have hne := h.ne
  have hne' : b ≠ r := fun e => hne e.symm
  have CT := Lib.hid (top_any h)
  have H := Lib.hid h
  have HS := Lib.hid hs
  have hb : decide (t ≤ g) = false := decide_eq_false (by omega)
  clear h hs
  go_enter Try.func22, Try.ntmps22
  go_wp2_with (go_at_call 29; refine CT.out.mono ?_; rintro e w1 ⟨rfl, rfl⟩)
  go_loopw [6] (InsW w r b n f t g) (fun i _ => ((intOf i + 1 - g).toNat))
  case atStart => exact ⟨(t : Int) - 1, by omega, by omega, rfl, by rw [shf_start, topQ_hi (by omega)]; exact H.out, Upd.refl _ _⟩
  case round =>
    clear c0 c1
    obtain ⟨q, hq1, hq2, rfl, hR, hU⟩ := hrel
    by_cases hlt : (g : Int) ≤ q
    · obtain ⟨p, rfl⟩ : ∃ p : Nat, q = p := ⟨q.toNat, by omega⟩
      have hfp : shf f t p p = f p := shf_at f t p
      have C0 := get_any hR hn p (by omega) (f p) hfp
      have O := HS.out p (by omega)
      have HQ := fun (u : Value) (hu : f p = u) => shf_set f t p (by omega) hu
      have HQ := Lib.hid HQ
      clear hfp
      by_cases hfirst : (p : Int) + 1 < t
      · rw [topQ_lo hfirst] at hR
        have HR := Lib.hid hR
        have HU := Lib.hid hU
        clear hR hU
        obtain ⟨c0, c1⟩ := HR.out.cells
        have z1 := HR.out.thaw 1
        have y := HR.out.row.thaw (p + 1)
        have cu := HR.out.at (show p + 1 < n by omega)
        rcases O with hf | ⟨tf, xf, hf⟩
        all_goals
          rw [hf] at C0
          have C := Lib.hid C0
          have HQ := Lib.hid (HQ.out _ hf)
          clear C0 hf
          go_wp2_with (go_at_call 31; refine C.out.mono ?_; rintro e w2 ⟨rfl, rfl⟩)
          go_roundw
          case rel => exact ⟨(p : Int) - 1, by omega, by omega, rfl, by rw [topQ_lo (by omega), ← HQ.out]; exact HR.out.setSlot _ _, HU.out.setCell (.inl (.inr rfl)) _⟩
          case measure => simp [intOf]; omega
      · rw [topQ_hi hfirst] at hR
        have HR := Lib.hid hR
        have HU := Lib.hid hU
        clear hR hU
        obtain ⟨c0, c1⟩ := HR.out.cells
        have z1 := HR.out.thaw 1
        have y := HR.out.row.thaw (p + 1)
        have cu := HR.out.at (show p + 1 < n by omega)
        have hT : Hid ((p : Int) + 1 + 1 = t + 1) := Lib.hid (by omega)
        rcases O with hf | ⟨tf, xf, hf⟩
        all_goals
          rw [hf] at C0
          have C := Lib.hid C0
          have HQ := Lib.hid (HQ.out _ hf)
          clear C0 hf
          go_wp2_with (go_at_call 31; refine C.out.mono ?_; rintro e w2 ⟨rfl, rfl⟩)
          go_roundw
          case rel => exact ⟨(p : Int) - 1, by omega, by omega, rfl, by rw [topQ_lo (by omega), ← HQ.out]; exact ((HR.out.setSlot _ _).setTop _).congr (fun _ _ => rfl) (by have := hT.out; omega), (HU.out.setCell (.inl (.inr rfl)) _).setCell (.inl (.inl rfl)) _⟩
          case measure => simp [intOf]; omega
    · obtain rfl : q = (g : Int) - 1 := by omega
      rw [topQ_lo (by omega)] at hR
      have HR := Lib.hid hR
      have HU := Lib.hid hU
      clear hR hU
      obtain ⟨c0, c1⟩ := HR.out.cells
      have z1 := HR.out.thaw 1
      have y := HR.out.row.thaw g
      have cu := HR.out.at (show g < n by omega)
      go_wp2_with fail
      go_end0
      exact ⟨rfl, HR.out.setSlot _ _, HU.out.setCell (.inl (.inr rfl)) _⟩
end Go.Lua
