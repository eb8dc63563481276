/-
  '==' and '!=' at LValue, as facts for the walk.
-/
import Derived.Test.YtcnjdmbcofodnaaRows
import Derived.Test.YtcnjdmbcofodnaaIface
namespace Go.Lua
open Go.Proofs

abbrev lvT : TypeId := 55
abbrev nilT : TypeId := 62
/-- LNil. -/
abbrev lnil : Value := .iface 62 (.int .u8 0)
abbrev lnum (x : Nat) : Value := .iface 65 (.float .f64 x)
abbrev lstr (s : ByteArray) : Value := .iface 75 (.string s)

theorem lv_diff {tx ty : TypeId} (h : tx ≠ ty) (a b : Value) (w : World) : (Op.equal 55 (.iface tx a) (.iface ty b)).run Try.prog w = .ok false w :=
  run_equal_diff w Try.underlying55 h a b
theorem lv_nil (a b : Int) (w : World) : (Op.equal 55 (.iface 62 (.int .u8 a)) (.iface 62 (.int .u8 b))).run Try.prog w = .ok (a == b) w :=
  run_equal_same w Try.underlying55 (by kernel_rfl) _ _ _ (run_equalIn_int w Try.underlying62 .u8 a b)
theorem lv_num (a b : Nat) (w : World) : (Op.equal 55 (.iface 65 (.float .f64 a)) (.iface 65 (.float .f64 b))).run Try.prog w = .ok (feq a b) w :=
  run_equal_same w Try.underlying55 (by kernel_rfl) _ _ _ (run_equalIn_float w Try.underlying65 a b)
theorem lv_str (a b : ByteArray) (w : World) : (Op.equal 55 (.iface 75 (.string a)) (.iface 75 (.string b))).run Try.prog w = .ok (a == b) w :=
  run_equal_same w Try.underlying55 (by kernel_rfl) _ _ _ (run_equalIn_string w Try.underlying75 a b)

@[go_sem] theorem lv_eql_diff {tx ty : TypeId} (h : tx ≠ ty) (a b : Value) (w : World) : (binOp .eql 55 (.iface tx a) (.iface ty b)).run Try.prog w = .ok (.bool false) w := run_eql_of w (lv_diff h a b w)
@[go_sem] theorem lv_neq_diff {tx ty : TypeId} (h : tx ≠ ty) (a b : Value) (w : World) : (binOp .neq 55 (.iface tx a) (.iface ty b)).run Try.prog w = .ok (.bool true) w := run_neq_of w (lv_diff h a b w)
@[go_sem] theorem lv_eql_nil (a b : Int) (w : World) : (binOp .eql 55 (.iface 62 (.int .u8 a)) (.iface 62 (.int .u8 b))).run Try.prog w = .ok (.bool (a == b)) w := run_eql_of w (lv_nil a b w)
@[go_sem] theorem lv_neq_nil (a b : Int) (w : World) : (binOp .neq 55 (.iface 62 (.int .u8 a)) (.iface 62 (.int .u8 b))).run Try.prog w = .ok (.bool (!(a == b))) w := run_neq_of w (lv_nil a b w)
@[go_sem] theorem lv_eql_num (a b : Nat) (w : World) : (binOp .eql 55 (.iface 65 (.float .f64 a)) (.iface 65 (.float .f64 b))).run Try.prog w = .ok (.bool (feq a b)) w := run_eql_of w (lv_num a b w)
@[go_sem] theorem lv_neq_num (a b : Nat) (w : World) : (binOp .neq 55 (.iface 65 (.float .f64 a)) (.iface 65 (.float .f64 b))).run Try.prog w = .ok (.bool (!(feq a b))) w := run_neq_of w (lv_num a b w)
@[go_sem] theorem lv_eql_str (a b : ByteArray) (w : World) : (binOp .eql 55 (.iface 75 (.string a)) (.iface 75 (.string b))).run Try.prog w = .ok (.bool (a == b)) w := run_eql_of w (lv_str a b w)
@[go_sem] theorem lv_neq_str (a b : ByteArray) (w : World) : (binOp .neq 55 (.iface 75 (.string a)) (.iface 75 (.string b))).run Try.prog w = .ok (.bool (!(a == b))) w := run_neq_of w (lv_str a b w)
@[go_sem] theorem lv_eql_none {tx : TypeId} (x : Value) (w : World) : (binOp .eql 55 (.iface tx x) .nilIface).run Try.prog w = .ok (.bool false) w := run_eql_nil w Try.underlying55 x
@[go_sem] theorem lv_neq_none {tx : TypeId} (x : Value) (w : World) : (binOp .neq 55 (.iface tx x) .nilIface).run Try.prog w = .ok (.bool true) w := run_neq_nil w Try.underlying55 x
@[go_sem] theorem lv_none_eql {tx : TypeId} (x : Value) (w : World) : (binOp .eql 55 .nilIface (.iface tx x)).run Try.prog w = .ok (.bool false) w := run_eql_nil_left w Try.underlying55 x
@[go_sem] theorem lv_none_neq {tx : TypeId} (x : Value) (w : World) : (binOp .neq 55 .nilIface (.iface tx x)).run Try.prog w = .ok (.bool true) w := run_neq_nil_left w Try.underlying55 x
@[go_sem] theorem as_num_yes (v : Value) (w : World) : (Instr.typeAssert (.iface 65 v) 55 65 true).run Try.prog w = .ok (.tuple #[v, .bool true]) w := run_assert_yes w Try.underlying65 rfl _ v
@[go_sem] theorem as_num_no {u : TypeId} (hu : u ≠ 65) (v : Value) (w : World) : (Instr.typeAssert (.iface u v) 55 65 true).run Try.prog w = .ok (.tuple #[.float .f64 0, .bool false]) w := run_assert_no w Try.underlying65 rfl (by kernel_rfl) _ hu v
@[go_sem] theorem as_num_nil (w : World) : (Instr.typeAssert .nilIface 55 65 true).run Try.prog w = .ok (.tuple #[.float .f64 0, .bool false]) w := run_assert_nil w Try.underlying65 rfl (by kernel_rfl) _
@[go_sem] theorem as_string_yes (v : Value) (w : World) : (Instr.typeAssert (.iface 75 v) 55 75 true).run Try.prog w = .ok (.tuple #[v, .bool true]) w := run_assert_yes w Try.underlying75 rfl _ v
@[go_sem] theorem as_string_no {u : TypeId} (hu : u ≠ 75) (v : Value) (w : World) : (Instr.typeAssert (.iface u v) 55 75 true).run Try.prog w = .ok (.tuple #[.string ⟨#[]⟩, .bool false]) w := run_assert_no w Try.underlying75 rfl (by kernel_rfl) _ hu v
@[go_sem] theorem as_string_nil (w : World) : (Instr.typeAssert .nilIface 55 75 true).run Try.prog w = .ok (.tuple #[.string ⟨#[]⟩, .bool false]) w := run_assert_nil w Try.underlying75 rfl (by kernel_rfl) _
@[go_sem] theorem as_table_yes (v : Value) (w : World) : (Instr.typeAssert (.iface 29 v) 55 29 true).run Try.prog w = .ok (.tuple #[v, .bool true]) w := run_assert_yes w Try.underlying29 rfl _ v
@[go_sem] theorem as_table_no {u : TypeId} (hu : u ≠ 29) (v : Value) (w : World) : (Instr.typeAssert (.iface u v) 55 29 true).run Try.prog w = .ok (.tuple #[.pointer none, .bool false]) w := run_assert_no w Try.underlying29 rfl (by kernel_rfl) _ hu v
@[go_sem] theorem as_table_nil (w : World) : (Instr.typeAssert .nilIface 55 29 true).run Try.prog w = .ok (.tuple #[.pointer none, .bool false]) w := run_assert_nil w Try.underlying29 rfl (by kernel_rfl) _
@[go_sem] theorem as_nilty_yes (v : Value) (w : World) : (Instr.typeAssert (.iface 62 v) 55 62 true).run Try.prog w = .ok (.tuple #[v, .bool true]) w := run_assert_yes w Try.underlying62 rfl _ v
@[go_sem] theorem as_nilty_no {u : TypeId} (hu : u ≠ 62) (v : Value) (w : World) : (Instr.typeAssert (.iface u v) 55 62 true).run Try.prog w = .ok (.tuple #[.int .u8 0, .bool false]) w := run_assert_no w Try.underlying62 rfl (by kernel_rfl) _ hu v
@[go_sem] theorem as_nilty_nil (w : World) : (Instr.typeAssert .nilIface 55 62 true).run Try.prog w = .ok (.tuple #[.int .u8 0, .bool false]) w := run_assert_nil w Try.underlying62 rfl (by kernel_rfl) _
end Go.Lua
