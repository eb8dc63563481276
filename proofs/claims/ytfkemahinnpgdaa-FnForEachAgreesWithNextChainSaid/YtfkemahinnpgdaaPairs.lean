/-
  n005_23: ZZForEachPairs: the pairs that ForEach hands out, in two slices.
-/
import Derived.Test.YtfkemahinnpgdaaForE
namespace Go.Lua
open Go.Proofs Go.RowKit Go.Deep
set_option linter.unusedVariables false

theorem start_acc (w : World) : FSt ((w.alloc (.cells #[.slice none 0 0] 35)).alloc (.cells #[.slice none 0 0] 35)) w.heap.size w.heap.size (w.heap.size + 1) ((w.alloc (.cells #[.slice none 0 0] 35)).alloc (.cells #[.slice none 0 0] 35)) [] := by
  have hs : (w.alloc (.cells #[.slice none 0 0] 35)).heap.size = w.heap.size + 1 := by simp
  have h2 := heap_alloc_new (w.alloc (.cells #[.slice none 0 0] 35)) (.cells #[.slice none 0 0] 35)
  rw [hs] at h2
  have h1 := (Below.heap_alloc (w.alloc (.cells #[.slice none 0 0] 35)) (.cells #[.slice none 0 0] 35) w.heap.size (by omega)).trans (heap_alloc_new w (.cells #[.slice none 0 0] 35))
  exact ⟨⟨_, _, h1, h2, by omega, .inl ⟨rfl, rfl⟩, .inl ⟨rfl, rfl⟩, fun b hb => (by cases hb), fun b hb => (by cases hb), fun b hb => (by cases hb), by simp; omega⟩, Upd.refl _ _⟩

set_option maxHeartbeats 2000000 in
theorem pairs_any (w : World) (t : Nat) (T : Tab) (F : Nat → Prop) (hT : TabAt w t T F) (hFE : FE T) :
    Calls Try.prog 14 #[.pointer (some ⟨t, 0, none⟩)] w fun e w' => ∃ va vb SL NL, e = .returned (.tuple #[va, vb]) ∧ PairsOf T.hv IsStrK SL ∧ PairsOf T.hv IsNumK NL ∧
      SlE 40 w' va ((alive T ++ SL ++ NL).map (·.1)) ∧ SlE 40 w' vb ((alive T ++ SL ++ NL).map (·.2)) ∧ Upd (fun _ => False) w w' := by
  have HT := Lib.hid hT.capped
  have HF := Lib.hid hFE
  have H0 := Lib.hid (start_acc w)
  have HU := Lib.hid ((box_upd w (.cells #[.slice none 0 0] 35)).alloc (.cells #[.slice none 0 0] 35))
  clear hT hFE
  go_enter Try.func14, Try.ntmps14
  go_upto_region 2 with (fail)
  generalize (w.alloc (.cells #[.slice none 0 0] 35)).alloc (.cells #[.slice none 0 0] 35) = W at H0 HU ⊢
  have hTW : TabAt W t T (fun k => F k ∧ k < w.heap.size) := by
    obtain ⟨va, vd, vs, vk, vi, h⟩ := HT.out
    exact ⟨va, vd, vs, vk, vi, h.kept fun k hk _ => HU.out.block k hk fun q => q⟩
  have C := Lib.hid (forEach_any W t T _ hTW HF.out w.heap.size w.heap.size (w.heap.size + 1) (fun k hk => hk.2) (Nat.le_refl _) (Nat.le_succ _) H0.out)
  clear hTW
  go_upto_region 3 with (go_at_call 39; refine C.out.mono ?_; rintro e w1 ⟨rfl, SL, NL, hS, hN, ⟨⟨va, vb, hA⟩, hU⟩⟩; have HA := Lib.hid hA; have HS := Lib.hid (And.intro hS hN); have HU1 := Lib.hid hU; clear hS hN hU hA)
  have c0 := HA.out.cells.1
  have c1 := HA.out.swap.cells.1
  have hu : Upd (fun _ => False) w w1 := HU.out.under HU1.out fun k hk => .inr hk
  have HUU := Lib.hid hu
  clear hu
  go_quiet (fail)
  go_wp2
  go_ret2
  exact ⟨va, vb, SL, NL, rfl, HS.out.1, HS.out.2, HA.out.sa.kept (fun _ _ => rfl), HA.out.sb.kept (fun _ _ => rfl), HUU.out.drewN _⟩
end Go.Lua
