/-
  '==' and '!=' at LValue, as facts for the walk.
-/
import Derived.Test.YtpbeecbijlhocaaRows
import Derived.Test.YtpbeecbijlhocaaIface
namespace Go.Lua
open Go.Proofs

abbrev lvT : TypeId := 35
abbrev nilT : TypeId := 59
/-- LNil. -/
abbrev lnil : Value := .iface 59 (.int .u8 0)
abbrev lnum (x : Nat) : Value := .iface 31 (.float .f64 x)
abbrev lstr (s : ByteArray) : Value := .iface 38 (.string s)

theorem lv_diff {tx ty : TypeId} (h : tx ≠ ty) (a b : Value) (w : World) : (Op.equal 35 (.iface tx a) (.iface ty b)).run Try.prog w = .ok false w :=
  run_equal_diff w Try.underlying35 h a b
theorem lv_nil (a b : Int) (w : World) : (Op.equal 35 (.iface 59 (.int .u8 a)) (.iface 59 (.int .u8 b))).run Try.prog w = .ok (a == b) w :=
  run_equal_same w Try.underlying35 (by kernel_rfl) _ _ _ (run_equalIn_int w Try.underlying59 .u8 a b)
theorem lv_num (a b : Nat) (w : World) : (Op.equal 35 (.iface 31 (.float .f64 a)) (.iface 31 (.float .f64 b))).run Try.prog w = .ok (feq a b) w :=
  run_equal_same w Try.underlying35 (by kernel_rfl) _ _ _ (run_equalIn_float w Try.underlying31 a b)
theorem lv_str (a b : ByteArray) (w : World) : (Op.equal 35 (.iface 38 (.string a)) (.iface 38 (.string b))).run Try.prog w = .ok (a == b) w :=
  run_equal_same w Try.underlying35 (by kernel_rfl) _ _ _ (run_equalIn_string w Try.underlying38 a b)

@[go_sem] theorem lv_eql_diff {tx ty : TypeId} (h : tx ≠ ty) (a b : Value) (w : World) : (binOp .eql 35 (.iface tx a) (.iface ty b)).run Try.prog w = .ok (.bool false) w := run_eql_of w (lv_diff h a b w)
@[go_sem] theorem lv_neq_diff {tx ty : TypeId} (h : tx ≠ ty) (a b : Value) (w : World) : (binOp .neq 35 (.iface tx a) (.iface ty b)).run Try.prog w = .ok (.bool true) w := run_neq_of w (lv_diff h a b w)
@[go_sem] theorem lv_eql_nil (a b : Int) (w : World) : (binOp .eql 35 (.iface 59 (.int .u8 a)) (.iface 59 (.int .u8 b))).run Try.prog w = .ok (.bool (a == b)) w := run_eql_of w (lv_nil a b w)
@[go_sem] theorem lv_neq_nil (a b : Int) (w : World) : (binOp .neq 35 (.iface 59 (.int .u8 a)) (.iface 59 (.int .u8 b))).run Try.prog w = .ok (.bool (!(a == b))) w := run_neq_of w (lv_nil a b w)
@[go_sem] theorem lv_eql_num (a b : Nat) (w : World) : (binOp .eql 35 (.iface 31 (.float .f64 a)) (.iface 31 (.float .f64 b))).run Try.prog w = .ok (.bool (feq a b)) w := run_eql_of w (lv_num a b w)
@[go_sem] theorem lv_neq_num (a b : Nat) (w : World) : (binOp .neq 35 (.iface 31 (.float .f64 a)) (.iface 31 (.float .f64 b))).run Try.prog w = .ok (.bool (!(feq a b))) w := run_neq_of w (lv_num a b w)
@[go_sem] theorem lv_eql_str (a b : ByteArray) (w : World) : (binOp .eql 35 (.iface 38 (.string a)) (.iface 38 (.string b))).run Try.prog w = .ok (.bool (a == b)) w := run_eql_of w (lv_str a b w)
@[go_sem] theorem lv_neq_str (a b : ByteArray) (w : World) : (binOp .neq 35 (.iface 38 (.string a)) (.iface 38 (.string b))).run Try.prog w = .ok (.bool (!(a == b))) w := run_neq_of w (lv_str a b w)
@[go_sem] theorem lv_eql_none {tx : TypeId} (x : Value) (w : World) : (binOp .eql 35 (.iface tx x) .nilIface).run Try.prog w = .ok (.bool false) w := run_eql_nil w Try.underlying35 x
@[go_sem] theorem lv_neq_none {tx : TypeId} (x : Value) (w : World) : (binOp .neq 35 (.iface tx x) .nilIface).run Try.prog w = .ok (.bool true) w := run_neq_nil w Try.underlying35 x
@[go_sem] theorem lv_none_eql {tx : TypeId} (x : Value) (w : World) : (binOp .eql 35 .nilIface (.iface tx x)).run Try.prog w = .ok (.bool false) w := run_eql_nil_left w Try.underlying35 x
@[go_sem] theorem lv_none_neq {tx : TypeId} (x : Value) (w : World) : (binOp .neq 35 .nilIface (.iface tx x)).run Try.prog w = .ok (.bool true) w := run_neq_nil_left w Try.underlying35 x
@[go_sem] theorem as_num_yes (v : Value) (w : World) : (Instr.typeAssert (.iface 31 v) 35 31 true).run Try.prog w = .ok (.tuple #[v, .bool true]) w := run_assert_yes w Try.underlying31 rfl _ v
@[go_sem] theorem as_num_no {u : TypeId} (hu : u ≠ 31) (v : Value) (w : World) : (Instr.typeAssert (.iface u v) 35 31 true).run Try.prog w = .ok (.tuple #[.float .f64 0, .bool false]) w := run_assert_no w Try.underlying31 rfl (by kernel_rfl) _ hu v
@[go_sem] theorem as_num_nil (w : World) : (Instr.typeAssert .nilIface 35 31 true).run Try.prog w = .ok (.tuple #[.float .f64 0, .bool false]) w := run_assert_nil w Try.underlying31 rfl (by kernel_rfl) _
@[go_sem] theorem as_string_yes (v : Value) (w : World) : (Instr.typeAssert (.iface 38 v) 35 38 true).run Try.prog w = .ok (.tuple #[v, .bool true]) w := run_assert_yes w Try.underlying38 rfl _ v
@[go_sem] theorem as_string_no {u : TypeId} (hu : u ≠ 38) (v : Value) (w : World) : (Instr.typeAssert (.iface u v) 35 38 true).run Try.prog w = .ok (.tuple #[.string ⟨#[]⟩, .bool false]) w := run_assert_no w Try.underlying38 rfl (by kernel_rfl) _ hu v
@[go_sem] theorem as_string_nil (w : World) : (Instr.typeAssert .nilIface 35 38 true).run Try.prog w = .ok (.tuple #[.string ⟨#[]⟩, .bool false]) w := run_assert_nil w Try.underlying38 rfl (by kernel_rfl) _
@[go_sem] theorem as_table_yes (v : Value) (w : World) : (Instr.typeAssert (.iface 26 v) 35 26 true).run Try.prog w = .ok (.tuple #[v, .bool true]) w := run_assert_yes w Try.underlying26 rfl _ v
@[go_sem] theorem as_table_no {u : TypeId} (hu : u ≠ 26) (v : Value) (w : World) : (Instr.typeAssert (.iface u v) 35 26 true).run Try.prog w = .ok (.tuple #[.pointer none, .bool false]) w := run_assert_no w Try.underlying26 rfl (by kernel_rfl) _ hu v
@[go_sem] theorem as_table_nil (w : World) : (Instr.typeAssert .nilIface 35 26 true).run Try.prog w = .ok (.tuple #[.pointer none, .bool false]) w := run_assert_nil w Try.underlying26 rfl (by kernel_rfl) _
@[go_sem] theorem as_nilty_yes (v : Value) (w : World) : (Instr.typeAssert (.iface 59 v) 35 59 true).run Try.prog w = .ok (.tuple #[v, .bool true]) w := run_assert_yes w Try.underlying59 rfl _ v
@[go_sem] theorem as_nilty_no {u : TypeId} (hu : u ≠ 59) (v : Value) (w : World) : (Instr.typeAssert (.iface u v) 35 59 true).run Try.prog w = .ok (.tuple #[.int .u8 0, .bool false]) w := run_assert_no w Try.underlying59 rfl (by kernel_rfl) _ hu v
@[go_sem] theorem as_nilty_nil (w : World) : (Instr.typeAssert .nilIface 35 59 true).run Try.prog w = .ok (.tuple #[.int .u8 0, .bool false]) w := run_assert_nil w Try.underlying59 rfl (by kernel_rfl) _
end Go.Lua
