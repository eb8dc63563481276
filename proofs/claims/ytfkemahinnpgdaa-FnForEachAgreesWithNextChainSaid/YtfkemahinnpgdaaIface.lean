/-
  '==' and '!=' on two interface values, over any program: of two dynamic types; of one type that is a bool, an integer, a double or a string; with a nil interface.
-/
import Derived.WalkKit
import Derived.WalkSpells
import Derived.WalkLawsBesides
import Derived.LaidEql
import Derived.Test.YtfkemahinnpgdaaFlt
namespace Go.Lua

/-- The doubles x and y are equal: both stand for one number. -/
def feq (x y : Nat) : Bool := match fkey x, fkey y with
  | some a, some b => a == b
  | _, _ => false

theorem floatEq_feq (x y : Nat) : Op.floatEq .f64 x y = feq x y := by
  unfold Op.floatEq feq
  show (Ieee.double.order x y == some .eq) = _
  rw [order_key]
  cases fkey x with
  | none => rfl
  | some a =>
    cases fkey y with
    | none => rfl
    | some b =>
      simp only [Option.bind_some, Option.map_some]
      rcases Int.lt_trichotomy a b with h | h | h
      · rw [compare_lt h]
        have : (a == b) = false := by simp; omega
        rw [this]; rfl
      · rw [compare_eq h, h]; simp
      · rw [compare_gt h]
        have : (a == b) = false := by simp; omega
        rw [this]; rfl

theorem feq_symm (x y : Nat) : feq x y = feq y x := by
  unfold feq
  cases fkey x <;> cases fkey y <;> simp only []
  rename_i a b
  by_cases h : a = b
  · rw [h]
  · have h1 : (a == b) = false := by simpa using h
    have h2 : (b == a) = false := by simpa using Ne.symm h
    rw [h1, h2]

theorem feq_trans {x y z : Nat} (h : feq x y = true) (k : feq y z = true) : feq x z = true := by
  unfold feq at *
  cases hx : fkey x <;> cases hy : fkey y <;> cases hz : fkey z <;> simp_all

theorem feq_iff (x y : Nat) : feq x y = true ↔ ∃ a, fkey x = some a ∧ fkey y = some a := by
  unfold feq
  constructor
  · intro h
    cases hx : fkey x with
    | none => rw [hx] at h; cases h
    | some a =>
      cases hy : fkey y with
      | none => rw [hx, hy] at h; cases h
      | some b =>
        rw [hx, hy] at h
        have : a = b := by simpa using h
        exact ⟨a, rfl, by rw [this]⟩
  · rintro ⟨a, hx, hy⟩
    rw [hx, hy]
    simp

theorem feq_self {x : Nat} {a : Int} (h : fkey x = some a) : feq x x = true := (feq_iff x x).2 ⟨a, h, h⟩

section
variable {P : Program} (w : World) {ti : TypeId} {ms : Array (String × TypeId)} (hi : P.underlying ti = some (.interface ms))
include hi

theorem run_equal_diff {tx ty : TypeId} (h : tx ≠ ty) (a b : Value) : (Op.equal ti (.iface tx a) (.iface ty b)).run P w = .ok false w := by
  have e : ∀ d : Nat, (Op.equalIn (d + 1) ti (.iface tx a) (.iface ty b)).run P w = .ok false w := fun d => by
    unfold Op.equalIn
    simp [run_underlying hi, h]
  simp [Op.equal, Op.maxDepth, e 9999]

theorem run_equal_same {tx : TypeId} (hcm : (P.info? tx).map (·.comparable) = some true) (a b : Value) (r : Bool)
    (h : ∀ d, (Op.equalIn (d + 1) tx a b).run P w = .ok r w) : (Op.equal ti (.iface tx a) (.iface tx b)).run P w = .ok r w := by
  obtain ⟨i, hx, hc⟩ : ∃ i, P.info? tx = some i ∧ i.comparable = true := by simpa using hcm
  have e : ∀ d : Nat, (Op.equalIn (d + 2) ti (.iface tx a) (.iface tx b)).run P w = .ok r w := fun d => by
    unfold Op.equalIn
    simp [run_underlying hi, typeInfo, hx, hc, h d]
  simp [Op.equal, Op.maxDepth, e 9998]

theorem run_equal_nil_right {tx : TypeId} (a : Value) : (Op.equal ti (.iface tx a) .nilIface).run P w = .ok false w := by
  have e : ∀ d : Nat, (Op.equalIn (d + 1) ti (.iface tx a) .nilIface).run P w = .ok false w := fun d => by
    unfold Op.equalIn
    simp [run_underlying hi]
  simp [Op.equal, Op.maxDepth, e 9999]

theorem run_equal_nil_left {tx : TypeId} (a : Value) : (Op.equal ti .nilIface (.iface tx a)).run P w = .ok false w := by
  have e : ∀ d : Nat, (Op.equalIn (d + 1) ti .nilIface (.iface tx a)).run P w = .ok false w := fun d => by
    unfold Op.equalIn
    simp [run_underlying hi]
  simp [Op.equal, Op.maxDepth, e 9999]

omit hi in
theorem run_eql_of {tx ty : TypeId} {x y : Value} {r : Bool} (h : (Op.equal ti (.iface tx x) (.iface ty y)).run P w = .ok r w) : (binOp .eql ti (.iface tx x) (.iface ty y)).run P w = .ok (.bool r) w := by
  simp only [binOp]
  simp [h]
omit hi in
theorem run_neq_of {tx ty : TypeId} {x y : Value} {r : Bool} (h : (Op.equal ti (.iface tx x) (.iface ty y)).run P w = .ok r w) : (binOp .neq ti (.iface tx x) (.iface ty y)).run P w = .ok (.bool (!r)) w := by
  simp only [binOp]
  simp [h]
theorem run_eql_nil {tx : TypeId} (x : Value) : (binOp .eql ti (.iface tx x) .nilIface).run P w = .ok (.bool false) w := by
  simp only [binOp]
  simp [run_equal_nil_right w hi x]
theorem run_neq_nil {tx : TypeId} (x : Value) : (binOp .neq ti (.iface tx x) .nilIface).run P w = .ok (.bool true) w := by
  simp only [binOp]
  simp [run_equal_nil_right w hi x]
theorem run_eql_nil_left {tx : TypeId} (x : Value) : (binOp .eql ti .nilIface (.iface tx x)).run P w = .ok (.bool false) w := by
  simp only [binOp]
  simp [run_equal_nil_left w hi x]
theorem run_neq_nil_left {tx : TypeId} (x : Value) : (binOp .neq ti .nilIface (.iface tx x)).run P w = .ok (.bool true) w := by
  simp only [binOp]
  simp [run_equal_nil_left w hi x]
end

section
variable {P : Program} (w : World) {t : TypeId}
theorem run_equalIn_bool (ht : P.underlying t = some .bool) (a b : Bool) (d : Nat) : (Op.equalIn (d + 1) t (.bool a) (.bool b)).run P w = .ok (a == b) w := by
  simp [Op.equalIn, run_underlying ht]
theorem run_equalIn_int {k : IntKind} (ht : P.underlying t = some (.int k)) (q : IntKind) (a b : Int) (d : Nat) : (Op.equalIn (d + 1) t (.int q a) (.int q b)).run P w = .ok (a == b) w := by
  simp [Op.equalIn, run_underlying ht]
theorem run_equalIn_float (ht : P.underlying t = some (.float .f64)) (a b : Nat) (d : Nat) : (Op.equalIn (d + 1) t (.float .f64 a) (.float .f64 b)).run P w = .ok (feq a b) w := by
  simp [Op.equalIn, run_underlying ht, floatEq_feq]
theorem run_equalIn_string (ht : P.underlying t = some .string) (a b : ByteArray) (d : Nat) : (Op.equalIn (d + 1) t (.string a) (.string b)).run P w = .ok (a == b) w := by
  simp [Op.equalIn, run_underlying ht]
end

/-- A type that is no interface. -/
def noIface : TypeDesc → Bool
  | .interface _ => false
  | _ => true

section
variable {P : Program} (w : World) {t : TypeId} {d : TypeDesc}
theorem run_assert_yes (ht : P.underlying t = some d) (hd : noIface d = true) (tx : TypeId) (v : Value) :
    (Instr.typeAssert (.iface t v) tx t true).run P w = .ok (.tuple #[v, .bool true]) w := by
  cases d <;> simp [noIface] at hd <;> simp [Instr.typeAssert, run_underlying ht]
theorem run_assert_no {z : Value} (ht : P.underlying t = some d) (hd : noIface d = true) (hz : (zeroValue t).run P w = .ok z w) (tx : TypeId) {u : TypeId} (hu : u ≠ t) (v : Value) :
    (Instr.typeAssert (.iface u v) tx t true).run P w = .ok (.tuple #[z, .bool false]) w := by
  cases d <;> simp [noIface] at hd <;> simp [Instr.typeAssert, run_underlying ht, hu, hz]
theorem run_assert_nil {z : Value} (ht : P.underlying t = some d) (hd : noIface d = true) (hz : (zeroValue t).run P w = .ok z w) (tx : TypeId) :
    (Instr.typeAssert .nilIface tx t true).run P w = .ok (.tuple #[z, .bool false]) w := by
  cases d <;> simp [noIface] at hd <;> simp [Instr.typeAssert, run_underlying ht, hz]
end
end Go.Lua
