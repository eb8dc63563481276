/-
  n005_31: the shims, the bounds, and what the laws' walks carry.
-/
import Derived.Test.YtdpdpknkfolajaaIns
namespace Go.Lua
open Go.Proofs Go.RowKit
set_option linter.unusedVariables false

def Fine (w : World) (e : Ending) (w' : World) : Prop := e = .returned (.bool true) ∧ Below w.heap.size w w'
def Asks (w : World) (e : Ending) (w' : World) : Prop := w = w' ∧ (e = .returned (.bool false) ∨ e = .returned (.bool true))
section
variable {w w0 w2 wc w' : World} {r b n : Nat} {f g : Nat → Value} {top : Int} {e : Ending}
theorem zfill_any (h : RegAt w r b n f top) (hn : n ≤ 65536) (ht : 0 ≤ top ∧ top ≤ n) (m : Nat) (k : Int) (hm : m ≤ 536870912) (hk : -536870912 ≤ k ∧ k ≤ 536870912) (hc : 0 ≤ (m : Int) + k ∧ (m : Int) + k ≤ n) :
    Calls Try.prog 15 #[.pointer (some ⟨r, 0, none⟩), .int .i64 m, .int .i64 k] w (FillTo r b n f top m k w) := by
  have C := Lib.hid (fillNil_any w r b n f top h hn ht m k hm hk hc)
  clear h hc
  go_enter Try.func15, Try.ntmps15
  go_wp2_with (go_at_call 26; refine C.out.mono ?_; rintro e w1 ⟨rfl, hR⟩)
  go_end0
  exact ⟨rfl, hR⟩
theorem zcopy_any (h : RegAt w r b n f top) (hn : n ≤ 65536) (hs : ∀ i, i < n → OneCell (f i)) (ht : 0 ≤ top ∧ top ≤ n) (v k : Nat) (s l : Int) (hv : v + k ≤ n) (hsb : -1073741824 ≤ s ∧ s ≤ 1073741824) (hd : (v : Int) ≤ s ∨ s + k ≤ v) :
    Calls Try.prog 12 #[.pointer (some ⟨r, 0, none⟩), .int .i64 v, .int .i64 s, .int .i64 l, .int .i64 k] w (CopyTo r b n f top v s l k w) := by
  have C := Lib.hid (copyRange_any w r b n f top h hn hs ht v k s l hv hsb hd)
  clear h hd hs
  go_enter Try.func12, Try.ntmps12
  go_wp2_with (go_at_call 23; refine C.out.mono ?_; rintro e w1 ⟨rfl, hR⟩)
  go_end0
  exact ⟨rfl, hR⟩
theorem zins_any (t : Nat) (h : RegAt w r b n f t) (hn : n ≤ 65536) (hs : ∀ i, i < n → OneCell (f i)) (ht : t + 1 ≤ n) (p : Nat) (hp : p < t) (v : Int) :
    Calls Try.prog 11 #[.pointer (some ⟨r, 0, none⟩), .int .i32 v, .int .i64 p] w (RegTo r b n (insF f t p (lnum (fofInt v))) ((t : Int) + 1) w) := by
  have C := Lib.hid (insert_any w r b n f t h hn hs ht p hp 39 (.float .f64 (fofInt v)))
  clear h hs
  go_enter Try.func11, Try.ntmps11
  go_wp2_with (go_at_call 22; refine C.out.mono ?_; rintro e w1 ⟨rfl, hR⟩)
  go_end0
  exact ⟨rfl, hR⟩

/-- The clone: a slice of the same numbers, in a block of its own. -/
theorem cloneI_any (w : World) (v : Value) (xs : List Int) (h : IsInts .i32 w v xs) (hl : xs.length ≤ 1048576) :
    Calls Try.prog 9 #[v] w fun e w' => ∃ p c, e = .returned (.slice p xs.length c) ∧ IsInts .i32 w' (.slice p xs.length c) xs ∧ Upd (fun _ => False) w w' := by
  refine (clone32_any w v _ h.1 (by simpa using hl) (fun u hu => by obtain ⟨y, -, rfl⟩ := List.mem_map.1 hu; exact ⟨y, rfl⟩)).mono ?_
  rintro e w' ⟨v', rfl, hv, hU⟩
  have hf := hv.form
  obtain ⟨p, c, hp, -⟩ := hf
  rw [List.length_map] at hp
  subst hp
  exact ⟨p, c, rfl, ⟨hv, h.2⟩, hU⟩
theorem IsInts.kept {k : IntKind} {v : Value} {xs : List Int} (h : IsInts k w v xs) (u : Upd (fun _ => False) w w') : IsInts k w' v xs := ⟨h.1.below (none_below u) (Nat.le_refl _), h.2⟩
theorem none_trans {a b c : World} (h : Upd (fun _ => False) a b) (k : Upd (fun _ => False) b c) : Upd (fun _ => False) a c := h.trans k

/-- One registry, made behind w2. -/
structure One (w2 : World) (r b n : Nat) (f : Nat → Value) (top : Int) (wc : World) : Prop where
  at' : RegAt wc r b n f top
  upd : Upd (fun _ => False) w2 wc
  hr : w2.heap.size ≤ r
  hb : w2.heap.size ≤ b
theorem One.to {t : Int} (h : One w2 r b n f top wc) (hs : RegTo r b n g t wc e w') : e = .returned (.tuple #[]) ∧ One w2 r b n g t w' :=
  ⟨hs.1, hs.2.1, h.upd.after hs.2.2 fun i hi => .inr (by have := h.hr; have := h.hb; rcases hi with rfl | rfl <;> omega), h.hr, h.hb⟩
theorem One.make {xs : List Int} (h : Built wc xs n e w') (u : Upd (fun _ => False) w2 wc) : e = .returned (.pointer (some ⟨wc.heap.size + 1, 0, none⟩)) ∧ One w2 (wc.heap.size + 1) wc.heap.size n (regOf xs) xs.length w' :=
  ⟨h.1, h.2.1, none_trans u h.2.2, Nat.le_succ_of_le u.size, u.size⟩
/-- Two registries, made behind w2. -/
structure Both (w2 : World) (r b : Nat) (f : Nat → Value) (top : Int) (r2 b2 : Nat) (g : Nat → Value) (top2 : Int) (n : Nat) (wc : World) : Prop where
  at1 : RegAt wc r b n f top
  at2 : RegAt wc r2 b2 n g top2
  upd : Upd (fun _ => False) w2 wc
  hr2 : w2.heap.size ≤ r2
  hb2 : w2.heap.size ≤ b2
  rr : r < b2 ∧ b < b2 ∧ r < r2 ∧ b < r2
theorem Both.make {xs : List Int} (h : One w2 r b n f top wc) (hb : Built wc xs n e w') : e = .returned (.pointer (some ⟨wc.heap.size + 1, 0, none⟩)) ∧ Both w2 r b f top (wc.heap.size + 1) wc.heap.size (regOf xs) xs.length n w' := by
  have h1 := h.at'.lt
  have h2 := h.at'.row.lt
  exact ⟨hb.1, h.at'.kept (hb.2.2.block _ h1 fun h => h) (hb.2.2.block _ h2 fun h => h), hb.2.1, none_trans h.upd hb.2.2, Nat.le_succ_of_le h.upd.size, h.upd.size, by omega⟩
theorem Both.to {r2 b2 : Nat} {top2 t : Int} {g' : Nat → Value} (h : Both w2 r b f top r2 b2 g top2 n wc) (hs : RegTo r2 b2 n g' t wc e w') : e = .returned (.tuple #[]) ∧ Both w2 r b f top r2 b2 g' t n w' := by
  obtain ⟨q1, q2, q3, q4⟩ := h.rr
  refine ⟨hs.1, h.at1.kept (hs.2.2.block _ h.at1.lt ?_) (hs.2.2.block _ h.at1.row.lt ?_), hs.2.1, h.upd.after hs.2.2 fun i hi => .inr (by have := h.hr2; have := h.hb2; rcases hi with rfl | rfl <;> omega), h.hr2, h.hb2, h.rr⟩
  · rintro (rfl | rfl) <;> omega
  · rintro (rfl | rfl) <;> omega
theorem Both.same {r2 b2 : Nat} (h : Both w2 r b f top r2 b2 g top n wc) (hn : n ≤ 65536) (hf : ∀ j, j < n → f j = g j ∧ Slot (f j)) :
    Calls Try.prog 13 #[.pointer (some ⟨r, 0, none⟩), .pointer (some ⟨r2, 0, none⟩), .int .i64 n] wc fun e w' => e = .returned (.bool true) ∧ wc = w' :=
  same_yes wc r b r2 b2 n f g top h.at1 h.at2 hn hf
end
/-! ### slots -/
theorem regOf_slot {xs : List Int} (hx : ∀ z ∈ xs, I32 z) (k : Nat) : Slot (regOf xs k) := by
  unfold regOf
  cases h : xs[k]? with
  | none => exact .none
  | some z => exact .num z (hx z (List.mem_of_getElem? h))
theorem ovr_slot {f : Nat → Value} {v : Value} {a j : Nat} (h : ∀ k, Slot (f k)) (hv : Slot v) (k : Nat) : Slot (ovr f a j v k) := by
  unfold ovr; split
  · exact hv
  · exact h k
theorem cut_slot {f : Nat → Value} {c : Nat} {top : Int} (h : ∀ k, Slot (f k)) (k : Nat) : Slot (cut f c top k) := by
  unfold cut; split
  · exact .none
  · exact h k
theorem src_slot {f : Nat → Value} {s L : Int} (h : ∀ k, Slot (f k)) (i : Nat) : Slot (src f s L i) := by
  unfold src; split
  · exact .nil
  · exact h _
theorem moved_slot {f : Nat → Value} {s L : Int} {v j : Nat} (h : ∀ k, Slot (f k)) (k : Nat) : Slot (moved f v s L j k) := by
  unfold moved; split
  · exact src_slot h _
  · exact h k
theorem ins_slot {f : Nat → Value} {t p : Nat} {v : Value} (h : ∀ k, Slot (f k)) (hv : Slot v) (k : Nat) : Slot (insF f t p v k) := by
  unfold insF shf
  split
  · exact hv
  · split
    · exact h _
    · exact h _
theorem isints_i32 {w : World} {v : Value} {xs : List Int} (h : IsInts .i32 w v xs) : ∀ z ∈ xs, I32 z := fun z hz => i32_of (h.2 z hz)
end Go.Lua
