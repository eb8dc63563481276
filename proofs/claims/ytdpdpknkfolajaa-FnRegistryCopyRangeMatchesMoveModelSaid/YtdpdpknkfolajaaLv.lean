/-
  '==' and '!=' at LValue, as facts for the walk.
-/
import Derived.Test.YtdpdpknkfolajaaRows
import Derived.Test.YtdpdpknkfolajaaIface
namespace Go.Lua
open Go.Proofs

abbrev lvT : TypeId := 48
abbrev nilT : TypeId := 58
/-- LNil. -/
abbrev lnil : Value := .iface 58 (.int .u8 0)
abbrev lnum (x : Nat) : Value := .iface 39 (.float .f64 x)

theorem lv_diff {tx ty : TypeId} (h : tx ≠ ty) (a b : Value) (w : World) : (Op.equal 48 (.iface tx a) (.iface ty b)).run Try.prog w = .ok false w :=
  run_equal_diff w Try.underlying48 h a b
theorem lv_nil (a b : Int) (w : World) : (Op.equal 48 (.iface 58 (.int .u8 a)) (.iface 58 (.int .u8 b))).run Try.prog w = .ok (a == b) w :=
  run_equal_same w Try.underlying48 (by kernel_rfl) _ _ _ (run_equalIn_int w Try.underlying58 .u8 a b)
theorem lv_num (a b : Nat) (w : World) : (Op.equal 48 (.iface 39 (.float .f64 a)) (.iface 39 (.float .f64 b))).run Try.prog w = .ok (feq a b) w :=
  run_equal_same w Try.underlying48 (by kernel_rfl) _ _ _ (run_equalIn_float w Try.underlying39 a b)

@[go_sem] theorem lv_eql_diff {tx ty : TypeId} (h : tx ≠ ty) (a b : Value) (w : World) : (binOp .eql 48 (.iface tx a) (.iface ty b)).run Try.prog w = .ok (.bool false) w := run_eql_of w (lv_diff h a b w)
@[go_sem] theorem lv_neq_diff {tx ty : TypeId} (h : tx ≠ ty) (a b : Value) (w : World) : (binOp .neq 48 (.iface tx a) (.iface ty b)).run Try.prog w = .ok (.bool true) w := run_neq_of w (lv_diff h a b w)
@[go_sem] theorem lv_eql_nil (a b : Int) (w : World) : (binOp .eql 48 (.iface 58 (.int .u8 a)) (.iface 58 (.int .u8 b))).run Try.prog w = .ok (.bool (a == b)) w := run_eql_of w (lv_nil a b w)
@[go_sem] theorem lv_neq_nil (a b : Int) (w : World) : (binOp .neq 48 (.iface 58 (.int .u8 a)) (.iface 58 (.int .u8 b))).run Try.prog w = .ok (.bool (!(a == b))) w := run_neq_of w (lv_nil a b w)
@[go_sem] theorem lv_eql_num (a b : Nat) (w : World) : (binOp .eql 48 (.iface 39 (.float .f64 a)) (.iface 39 (.float .f64 b))).run Try.prog w = .ok (.bool (feq a b)) w := run_eql_of w (lv_num a b w)
@[go_sem] theorem lv_neq_num (a b : Nat) (w : World) : (binOp .neq 48 (.iface 39 (.float .f64 a)) (.iface 39 (.float .f64 b))).run Try.prog w = .ok (.bool (!(feq a b))) w := run_neq_of w (lv_num a b w)
@[go_sem] theorem lv_eql_none {tx : TypeId} (x : Value) (w : World) : (binOp .eql 48 (.iface tx x) .nilIface).run Try.prog w = .ok (.bool false) w := run_eql_nil w Try.underlying48 x
@[go_sem] theorem lv_neq_none {tx : TypeId} (x : Value) (w : World) : (binOp .neq 48 (.iface tx x) .nilIface).run Try.prog w = .ok (.bool true) w := run_neq_nil w Try.underlying48 x
@[go_sem] theorem lv_none_eql {tx : TypeId} (x : Value) (w : World) : (binOp .eql 48 .nilIface (.iface tx x)).run Try.prog w = .ok (.bool false) w := run_eql_nil_left w Try.underlying48 x
@[go_sem] theorem lv_none_neq {tx : TypeId} (x : Value) (w : World) : (binOp .neq 48 .nilIface (.iface tx x)).run Try.prog w = .ok (.bool true) w := run_neq_nil_left w Try.underlying48 x
@[go_sem] theorem as_num_yes (v : Value) (w : World) : (Instr.typeAssert (.iface 39 v) 48 39 true).run Try.prog w = .ok (.tuple #[v, .bool true]) w := run_assert_yes w Try.underlying39 rfl _ v
@[go_sem] theorem as_num_no {u : TypeId} (hu : u ≠ 39) (v : Value) (w : World) : (Instr.typeAssert (.iface u v) 48 39 true).run Try.prog w = .ok (.tuple #[.float .f64 0, .bool false]) w := run_assert_no w Try.underlying39 rfl (by kernel_rfl) _ hu v
@[go_sem] theorem as_num_nil (w : World) : (Instr.typeAssert .nilIface 48 39 true).run Try.prog w = .ok (.tuple #[.float .f64 0, .bool false]) w := run_assert_nil w Try.underlying39 rfl (by kernel_rfl) _
@[go_sem] theorem as_nilty_yes (v : Value) (w : World) : (Instr.typeAssert (.iface 58 v) 48 58 true).run Try.prog w = .ok (.tuple #[v, .bool true]) w := run_assert_yes w Try.underlying58 rfl _ v
@[go_sem] theorem as_nilty_no {u : TypeId} (hu : u ≠ 58) (v : Value) (w : World) : (Instr.typeAssert (.iface u v) 48 58 true).run Try.prog w = .ok (.tuple #[.int .u8 0, .bool false]) w := run_assert_no w Try.underlying58 rfl (by kernel_rfl) _ hu v
@[go_sem] theorem as_nilty_nil (w : World) : (Instr.typeAssert .nilIface 48 58 true).run Try.prog w = .ok (.tuple #[.int .u8 0, .bool false]) w := run_assert_nil w Try.underlying58 rfl (by kernel_rfl) _
end Go.Lua
