/-
  '==' and '!=' at LValue, as facts for the walk.
-/
import Derived.Test.YtkkmahedfmiliaaRows
import Derived.Test.YtkkmahedfmiliaaIface
namespace Go.Lua
open Go.Proofs

abbrev lvT : TypeId := 41
abbrev nilT : TypeId := 67
/-- LNil. -/
abbrev lnil : Value := .iface 67 (.int .u8 0)
abbrev lnum (x : Nat) : Value := .iface 49 (.float .f64 x)
abbrev lstr (s : ByteArray) : Value := .iface 48 (.string s)

theorem lv_diff {tx ty : TypeId} (h : tx ≠ ty) (a b : Value) (w : World) : (Op.equal 41 (.iface tx a) (.iface ty b)).run Try.prog w = .ok false w :=
  run_equal_diff w Try.underlying41 h a b
theorem lv_nil (a b : Int) (w : World) : (Op.equal 41 (.iface 67 (.int .u8 a)) (.iface 67 (.int .u8 b))).run Try.prog w = .ok (a == b) w :=
  run_equal_same w Try.underlying41 (by kernel_rfl) _ _ _ (run_equalIn_int w Try.underlying67 .u8 a b)
theorem lv_bool (a b : Bool) (w : World) : (Op.equal 41 (.iface 47 (.bool a)) (.iface 47 (.bool b))).run Try.prog w = .ok (a == b) w :=
  run_equal_same w Try.underlying41 (by kernel_rfl) _ _ _ (run_equalIn_bool w Try.underlying47 a b)
theorem lv_num (a b : Nat) (w : World) : (Op.equal 41 (.iface 49 (.float .f64 a)) (.iface 49 (.float .f64 b))).run Try.prog w = .ok (feq a b) w :=
  run_equal_same w Try.underlying41 (by kernel_rfl) _ _ _ (run_equalIn_float w Try.underlying49 a b)
theorem lv_str (a b : ByteArray) (w : World) : (Op.equal 41 (.iface 48 (.string a)) (.iface 48 (.string b))).run Try.prog w = .ok (a == b) w :=
  run_equal_same w Try.underlying41 (by kernel_rfl) _ _ _ (run_equalIn_string w Try.underlying48 a b)

@[go_sem] theorem lv_eql_diff {tx ty : TypeId} (h : tx ≠ ty) (a b : Value) (w : World) : (binOp .eql 41 (.iface tx a) (.iface ty b)).run Try.prog w = .ok (.bool false) w := run_eql_of w (lv_diff h a b w)
@[go_sem] theorem lv_neq_diff {tx ty : TypeId} (h : tx ≠ ty) (a b : Value) (w : World) : (binOp .neq 41 (.iface tx a) (.iface ty b)).run Try.prog w = .ok (.bool true) w := run_neq_of w (lv_diff h a b w)
@[go_sem] theorem lv_eql_nil (a b : Int) (w : World) : (binOp .eql 41 (.iface 67 (.int .u8 a)) (.iface 67 (.int .u8 b))).run Try.prog w = .ok (.bool (a == b)) w := run_eql_of w (lv_nil a b w)
@[go_sem] theorem lv_neq_nil (a b : Int) (w : World) : (binOp .neq 41 (.iface 67 (.int .u8 a)) (.iface 67 (.int .u8 b))).run Try.prog w = .ok (.bool (!(a == b))) w := run_neq_of w (lv_nil a b w)
@[go_sem] theorem lv_eql_bool (a b : Bool) (w : World) : (binOp .eql 41 (.iface 47 (.bool a)) (.iface 47 (.bool b))).run Try.prog w = .ok (.bool (a == b)) w := run_eql_of w (lv_bool a b w)
@[go_sem] theorem lv_neq_bool (a b : Bool) (w : World) : (binOp .neq 41 (.iface 47 (.bool a)) (.iface 47 (.bool b))).run Try.prog w = .ok (.bool (!(a == b))) w := run_neq_of w (lv_bool a b w)
@[go_sem] theorem lv_eql_num (a b : Nat) (w : World) : (binOp .eql 41 (.iface 49 (.float .f64 a)) (.iface 49 (.float .f64 b))).run Try.prog w = .ok (.bool (feq a b)) w := run_eql_of w (lv_num a b w)
@[go_sem] theorem lv_neq_num (a b : Nat) (w : World) : (binOp .neq 41 (.iface 49 (.float .f64 a)) (.iface 49 (.float .f64 b))).run Try.prog w = .ok (.bool (!(feq a b))) w := run_neq_of w (lv_num a b w)
@[go_sem] theorem lv_eql_str (a b : ByteArray) (w : World) : (binOp .eql 41 (.iface 48 (.string a)) (.iface 48 (.string b))).run Try.prog w = .ok (.bool (a == b)) w := run_eql_of w (lv_str a b w)
@[go_sem] theorem lv_neq_str (a b : ByteArray) (w : World) : (binOp .neq 41 (.iface 48 (.string a)) (.iface 48 (.string b))).run Try.prog w = .ok (.bool (!(a == b))) w := run_neq_of w (lv_str a b w)
@[go_sem] theorem lv_eql_none {tx : TypeId} (x : Value) (w : World) : (binOp .eql 41 (.iface tx x) .nilIface).run Try.prog w = .ok (.bool false) w := run_eql_nil w Try.underlying41 x
@[go_sem] theorem lv_neq_none {tx : TypeId} (x : Value) (w : World) : (binOp .neq 41 (.iface tx x) .nilIface).run Try.prog w = .ok (.bool true) w := run_neq_nil w Try.underlying41 x
@[go_sem] theorem lv_none_eql {tx : TypeId} (x : Value) (w : World) : (binOp .eql 41 .nilIface (.iface tx x)).run Try.prog w = .ok (.bool false) w := run_eql_nil_left w Try.underlying41 x
@[go_sem] theorem lv_none_neq {tx : TypeId} (x : Value) (w : World) : (binOp .neq 41 .nilIface (.iface tx x)).run Try.prog w = .ok (.bool true) w := run_neq_nil_left w Try.underlying41 x
@[go_sem] theorem as_num_yes (v : Value) (w : World) : (Instr.typeAssert (.iface 49 v) 41 49 true).run Try.prog w = .ok (.tuple #[v, .bool true]) w := run_assert_yes w Try.underlying49 rfl _ v
@[go_sem] theorem as_num_no {u : TypeId} (hu : u ≠ 49) (v : Value) (w : World) : (Instr.typeAssert (.iface u v) 41 49 true).run Try.prog w = .ok (.tuple #[.float .f64 0, .bool false]) w := run_assert_no w Try.underlying49 rfl (by kernel_rfl) _ hu v
@[go_sem] theorem as_num_nil (w : World) : (Instr.typeAssert .nilIface 41 49 true).run Try.prog w = .ok (.tuple #[.float .f64 0, .bool false]) w := run_assert_nil w Try.underlying49 rfl (by kernel_rfl) _
@[go_sem] theorem as_string_yes (v : Value) (w : World) : (Instr.typeAssert (.iface 48 v) 41 48 true).run Try.prog w = .ok (.tuple #[v, .bool true]) w := run_assert_yes w Try.underlying48 rfl _ v
@[go_sem] theorem as_string_no {u : TypeId} (hu : u ≠ 48) (v : Value) (w : World) : (Instr.typeAssert (.iface u v) 41 48 true).run Try.prog w = .ok (.tuple #[.string ⟨#[]⟩, .bool false]) w := run_assert_no w Try.underlying48 rfl (by kernel_rfl) _ hu v
@[go_sem] theorem as_string_nil (w : World) : (Instr.typeAssert .nilIface 41 48 true).run Try.prog w = .ok (.tuple #[.string ⟨#[]⟩, .bool false]) w := run_assert_nil w Try.underlying48 rfl (by kernel_rfl) _
@[go_sem] theorem as_table_yes (v : Value) (w : World) : (Instr.typeAssert (.iface 26 v) 41 26 true).run Try.prog w = .ok (.tuple #[v, .bool true]) w := run_assert_yes w Try.underlying26 rfl _ v
@[go_sem] theorem as_table_no {u : TypeId} (hu : u ≠ 26) (v : Value) (w : World) : (Instr.typeAssert (.iface u v) 41 26 true).run Try.prog w = .ok (.tuple #[.pointer none, .bool false]) w := run_assert_no w Try.underlying26 rfl (by kernel_rfl) _ hu v
@[go_sem] theorem as_table_nil (w : World) : (Instr.typeAssert .nilIface 41 26 true).run Try.prog w = .ok (.tuple #[.pointer none, .bool false]) w := run_assert_nil w Try.underlying26 rfl (by kernel_rfl) _
@[go_sem] theorem as_func_yes (v : Value) (w : World) : (Instr.typeAssert (.iface 59 v) 41 59 true).run Try.prog w = .ok (.tuple #[v, .bool true]) w := run_assert_yes w Try.underlying59 rfl _ v
@[go_sem] theorem as_func_no {u : TypeId} (hu : u ≠ 59) (v : Value) (w : World) : (Instr.typeAssert (.iface u v) 41 59 true).run Try.prog w = .ok (.tuple #[.pointer none, .bool false]) w := run_assert_no w Try.underlying59 rfl (by kernel_rfl) _ hu v
@[go_sem] theorem as_func_nil (w : World) : (Instr.typeAssert .nilIface 41 59 true).run Try.prog w = .ok (.tuple #[.pointer none, .bool false]) w := run_assert_nil w Try.underlying59 rfl (by kernel_rfl) _
@[go_sem] theorem as_ud_yes (v : Value) (w : World) : (Instr.typeAssert (.iface 56 v) 41 56 true).run Try.prog w = .ok (.tuple #[v, .bool true]) w := run_assert_yes w Try.underlying56 rfl _ v
@[go_sem] theorem as_ud_no {u : TypeId} (hu : u ≠ 56) (v : Value) (w : World) : (Instr.typeAssert (.iface u v) 41 56 true).run Try.prog w = .ok (.tuple #[.pointer none, .bool false]) w := run_assert_no w Try.underlying56 rfl (by kernel_rfl) _ hu v
@[go_sem] theorem as_ud_nil (w : World) : (Instr.typeAssert .nilIface 41 56 true).run Try.prog w = .ok (.tuple #[.pointer none, .bool false]) w := run_assert_nil w Try.underlying56 rfl (by kernel_rfl) _
@[go_sem] theorem as_state_yes (v : Value) (w : World) : (Instr.typeAssert (.iface 24 v) 41 24 true).run Try.prog w = .ok (.tuple #[v, .bool true]) w := run_assert_yes w Try.underlying24 rfl _ v
@[go_sem] theorem as_state_no {u : TypeId} (hu : u ≠ 24) (v : Value) (w : World) : (Instr.typeAssert (.iface u v) 41 24 true).run Try.prog w = .ok (.tuple #[.pointer none, .bool false]) w := run_assert_no w Try.underlying24 rfl (by kernel_rfl) _ hu v
@[go_sem] theorem as_state_nil (w : World) : (Instr.typeAssert .nilIface 41 24 true).run Try.prog w = .ok (.tuple #[.pointer none, .bool false]) w := run_assert_nil w Try.underlying24 rfl (by kernel_rfl) _
@[go_sem] theorem as_nilty_yes (v : Value) (w : World) : (Instr.typeAssert (.iface 67 v) 41 67 true).run Try.prog w = .ok (.tuple #[v, .bool true]) w := run_assert_yes w Try.underlying67 rfl _ v
@[go_sem] theorem as_nilty_no {u : TypeId} (hu : u ≠ 67) (v : Value) (w : World) : (Instr.typeAssert (.iface u v) 41 67 true).run Try.prog w = .ok (.tuple #[.int .u8 0, .bool false]) w := run_assert_no w Try.underlying67 rfl (by kernel_rfl) _ hu v
@[go_sem] theorem as_nilty_nil (w : World) : (Instr.typeAssert .nilIface 41 67 true).run Try.prog w = .ok (.tuple #[.int .u8 0, .bool false]) w := run_assert_nil w Try.underlying67 rfl (by kernel_rfl) _
end Go.Lua
