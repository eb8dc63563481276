/-
  n005_96: what the laws' walks share: the scripts' words.
-/
import Derived.Test.YtbbdcoaicikddaaFns
namespace Go.Lua
open Go.Proofs Go.RowKit
set_option linter.unusedVariables false

/-- A table in a loop's word: after j steps it is well formed and reads as P says. -/
def ScW (w : World) (t : Nat) (n : Nat) (P : Tab → Nat → Prop) (i : Value) (wr : World) : Prop := ∃ j : Nat, j ≤ n ∧ i = .int .i64 j ∧ ∃ T, Ok T (2 * j) ∧ P T j ∧ Has w t T wr
/-- A reading loop: the table stays. -/
def RdW (w : World) (t : Nat) (T : Tab) (n : Nat) (i : Value) (wr : World) : Prop := ∃ j : Nat, j ≤ n ∧ i = .int .i64 j ∧ Has w t T wr

theorem IsSl.has {w0 w : World} {t : Nat} {T : Tab} (h : Has w0 t T w) {v : Value} {vs : List Value} (hs : IsSl w0 v vs) : IsSl w v vs := hs.below (none_below h.2) (Nat.le_refl _)
theorem still_of {f : FuncId} {args : Array Value} {w : World} {v : Value} (h : Calls Try.prog f args w fun e w' => e = .returned v ∧ w = w') : Calls Try.prog f args w fun e w' => e = .returned v ∧ w' = w :=
  h.mono fun _ _ q => ⟨q.1, q.2.symm⟩

/-- What number keys read: the last text stored under an equal one. -/
def NumP (R : Tab → Nat → Value) (ks : List Nat) (vs : List ByteArray) (T : Tab) (j : Nat) : Prop := ∀ q, R T q = sval (lastN ks vs q (min j ks.length))
def StrP (ks vs : List ByteArray) (T : Tab) (j : Nat) : Prop := ∀ s, T.sv s = sval (lastS ks vs s (min j ks.length))

theorem lastN_zero (ks : List Nat) (vs : List ByteArray) (q : Nat) : lastN ks vs q 0 = nos := rfl
theorem NumP.start (R : Tab → Nat → Value) (a b : Int) (hR : ∀ q, R (newTab a b) q = lnil) (ks : List Nat) (vs : List ByteArray) : NumP R ks vs (newTab a b) 0 := fun q => by
  rw [hR, Nat.zero_min]; exact sval_nos.symm
theorem StrP.start (a b : Int) (ks vs : List ByteArray) : StrP ks vs (newTab a b) 0 := fun q => by
  rw [sv_new, Nat.zero_min]; exact sval_nos.symm
/-- A step under a number key. -/
theorem NumP.step {R : Tab → Nat → Value} {ks : List Nat} {vs : List ByteArray} {T T' : Tab} {j x : Nat} (h : NumP R ks vs T j) (hx : ks[j]? = some x) (hR : ∀ q, R T' q = if feq x q then sval (valAt vs j) else R T q) : NumP R ks vs T' (j + 1) := fun q => by
  have hj : j < ks.length := (List.getElem?_eq_some_iff.1 hx).1
  rw [hR, h q, show min (j + 1) ks.length = j + 1 by omega, show min j ks.length = j by omega, lastN_step hx]
  split <;> rfl
/-- A step under another kind of key. -/
theorem NumP.other {R : Tab → Nat → Value} {ks : List Nat} {vs : List ByteArray} {T T' : Tab} {j : Nat} (h : NumP R ks vs T j) (hR : ∀ q, R T' q = R T q) : NumP R ks vs T' j := fun q => by rw [hR, h q]
/-- The keys are used up. -/
theorem NumP.past {R : Tab → Nat → Value} {ks : List Nat} {vs : List ByteArray} {T : Tab} {j : Nat} (h : NumP R ks vs T j) (hj : ks.length ≤ j) : NumP R ks vs T (j + 1) := fun q => by
  rw [h q, show min (j + 1) ks.length = ks.length by omega, show min j ks.length = ks.length by omega]
theorem StrP.step {ks vs : List ByteArray} {T T' : Tab} {j : Nat} {x : ByteArray} (h : StrP ks vs T j) (hx : ks[j]? = some x) (hR : ∀ q, T'.sv q = if q == x then sval (valAt vs j) else T.sv q) : StrP ks vs T' (j + 1) := fun q => by
  have hj : j < ks.length := (List.getElem?_eq_some_iff.1 hx).1
  rw [hR, h q, show min (j + 1) ks.length = j + 1 by omega, show min j ks.length = j by omega, lastS_step hx, bytes_comm]
  split <;> rfl
theorem StrP.other {ks vs : List ByteArray} {T T' : Tab} {j : Nat} (h : StrP ks vs T j) (hR : ∀ q, T'.sv q = T.sv q) : StrP ks vs T' j := fun q => by rw [hR, h q]
theorem StrP.past {ks vs : List ByteArray} {T : Tab} {j : Nat} (h : StrP ks vs T j) (hj : ks.length ≤ j) : StrP ks vs T (j + 1) := fun q => by
  rw [h q, show min (j + 1) ks.length = ks.length by omega, show min j ks.length = ks.length by omega]
theorem NumP.end {R : Tab → Nat → Value} {ks : List Nat} {vs : List ByteArray} {T : Tab} {n : Nat} (h : NumP R ks vs T n) (hn : ks.length ≤ n) (q : Nat) : R T q = sval (lastN ks vs q ks.length) := by
  rw [h q, show min n ks.length = ks.length by omega]
theorem StrP.end {ks vs : List ByteArray} {T : Tab} {n : Nat} (h : StrP ks vs T n) (hn : ks.length ≤ n) (q : ByteArray) : T.sv q = sval (lastS ks vs q ks.length) := by
  rw [h q, show min n ks.length = ks.length by omega]
/-- int slots -/
def IntP (ks : List Int) (vs : List ByteArray) (T : Tab) (j : Nat) : Prop := ∀ q, InArr q → T.av q = sval (lastI ks vs q j)
theorem IntP.start (a b : Int) (ks : List Int) (vs : List ByteArray) : IntP ks vs (newTab a b) 0 := fun q _ => by
  rw [av_new]; exact sval_nos.symm
theorem IntP.step {ks : List Int} {vs : List ByteArray} {T : Tab} {j : Nat} {x : Int} (h : IntP ks vs T j) (hx : ks[j]? = some x) : IntP ks vs (T.setKey x (sval (valAt vs j))) (j + 1) := fun q hq => by
  rw [av_setKey, h q hq, lastI_step hx]
  by_cases he : x = q
  · subst he
    rw [if_pos ⟨hq, rfl⟩, if_pos (by simp)]
  · rw [if_neg (fun h => he h.2.symm), if_neg (by simpa using he)]
end Go.Lua
