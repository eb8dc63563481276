/-
  '==' and '!=' at LValue, as facts for the walk.
-/
import Derived.Test.YtfkemahinnpgdaaRows
import Derived.Test.YtfkemahinnpgdaaIface
namespace Go.Lua
open Go.Proofs

abbrev lvT : TypeId := 40
abbrev nilT : TypeId := 47
/-- LNil. -/
abbrev lnil : Value := .iface 47 (.int .u8 0)
abbrev lnum (x : Nat) : Value := .iface 66 (.float .f64 x)
abbrev lstr (s : ByteArray) : Value := .iface 53 (.string s)

theorem lv_diff {tx ty : TypeId} (h : tx ≠ ty) (a b : Value) (w : World) : (Op.equal 40 (.iface tx a) (.iface ty b)).run Try.prog w = .ok false w :=
  run_equal_diff w Try.underlying40 h a b
theorem lv_nil (a b : Int) (w : World) : (Op.equal 40 (.iface 47 (.int .u8 a)) (.iface 47 (.int .u8 b))).run Try.prog w = .ok (a == b) w :=
  run_equal_same w Try.underlying40 (by kernel_rfl) _ _ _ (run_equalIn_int w Try.underlying47 .u8 a b)
theorem lv_num (a b : Nat) (w : World) : (Op.equal 40 (.iface 66 (.float .f64 a)) (.iface 66 (.float .f64 b))).run Try.prog w = .ok (feq a b) w :=
  run_equal_same w Try.underlying40 (by kernel_rfl) _ _ _ (run_equalIn_float w Try.underlying66 a b)
theorem lv_str (a b : ByteArray) (w : World) : (Op.equal 40 (.iface 53 (.string a)) (.iface 53 (.string b))).run Try.prog w = .ok (a == b) w :=
  run_equal_same w Try.underlying40 (by kernel_rfl) _ _ _ (run_equalIn_string w Try.underlying53 a b)

@[go_sem] theorem lv_eql_diff {tx ty : TypeId} (h : tx ≠ ty) (a b : Value) (w : World) : (binOp .eql 40 (.iface tx a) (.iface ty b)).run Try.prog w = .ok (.bool false) w := run_eql_of w (lv_diff h a b w)
@[go_sem] theorem lv_neq_diff {tx ty : TypeId} (h : tx ≠ ty) (a b : Value) (w : World) : (binOp .neq 40 (.iface tx a) (.iface ty b)).run Try.prog w = .ok (.bool true) w := run_neq_of w (lv_diff h a b w)
@[go_sem] theorem lv_eql_nil (a b : Int) (w : World) : (binOp .eql 40 (.iface 47 (.int .u8 a)) (.iface 47 (.int .u8 b))).run Try.prog w = .ok (.bool (a == b)) w := run_eql_of w (lv_nil a b w)
@[go_sem] theorem lv_neq_nil (a b : Int) (w : World) : (binOp .neq 40 (.iface 47 (.int .u8 a)) (.iface 47 (.int .u8 b))).run Try.prog w = .ok (.bool (!(a == b))) w := run_neq_of w (lv_nil a b w)
@[go_sem] theorem lv_eql_num (a b : Nat) (w : World) : (binOp .eql 40 (.iface 66 (.float .f64 a)) (.iface 66 (.float .f64 b))).run Try.prog w = .ok (.bool (feq a b)) w := run_eql_of w (lv_num a b w)
@[go_sem] theorem lv_neq_num (a b : Nat) (w : World) : (binOp .neq 40 (.iface 66 (.float .f64 a)) (.iface 66 (.float .f64 b))).run Try.prog w = .ok (.bool (!(feq a b))) w := run_neq_of w (lv_num a b w)
@[go_sem] theorem lv_eql_str (a b : ByteArray) (w : World) : (binOp .eql 40 (.iface 53 (.string a)) (.iface 53 (.string b))).run Try.prog w = .ok (.bool (a == b)) w := run_eql_of w (lv_str a b w)
@[go_sem] theorem lv_neq_str (a b : ByteArray) (w : World) : (binOp .neq 40 (.iface 53 (.string a)) (.iface 53 (.string b))).run Try.prog w = .ok (.bool (!(a == b))) w := run_neq_of w (lv_str a b w)
@[go_sem] theorem lv_eql_none {tx : TypeId} (x : Value) (w : World) : (binOp .eql 40 (.iface tx x) .nilIface).run Try.prog w = .ok (.bool false) w := run_eql_nil w Try.underlying40 x
@[go_sem] theorem lv_neq_none {tx : TypeId} (x : Value) (w : World) : (binOp .neq 40 (.iface tx x) .nilIface).run Try.prog w = .ok (.bool true) w := run_neq_nil w Try.underlying40 x
@[go_sem] theorem lv_none_eql {tx : TypeId} (x : Value) (w : World) : (binOp .eql 40 .nilIface (.iface tx x)).run Try.prog w = .ok (.bool false) w := run_eql_nil_left w Try.underlying40 x
@[go_sem] theorem lv_none_neq {tx : TypeId} (x : Value) (w : World) : (binOp .neq 40 .nilIface (.iface tx x)).run Try.prog w = .ok (.bool true) w := run_neq_nil_left w Try.underlying40 x
@[go_sem] theorem as_num_yes (v : Value) (w : World) : (Instr.typeAssert (.iface 66 v) 40 66 true).run Try.prog w = .ok (.tuple #[v, .bool true]) w := run_assert_yes w Try.underlying66 rfl _ v
@[go_sem] theorem as_num_no {u : TypeId} (hu : u ≠ 66) (v : Value) (w : World) : (Instr.typeAssert (.iface u v) 40 66 true).run Try.prog w = .ok (.tuple #[.float .f64 0, .bool false]) w := run_assert_no w Try.underlying66 rfl (by kernel_rfl) _ hu v
@[go_sem] theorem as_num_nil (w : World) : (Instr.typeAssert .nilIface 40 66 true).run Try.prog w = .ok (.tuple #[.float .f64 0, .bool false]) w := run_assert_nil w Try.underlying66 rfl (by kernel_rfl) _
@[go_sem] theorem as_string_yes (v : Value) (w : World) : (Instr.typeAssert (.iface 53 v) 40 53 true).run Try.prog w = .ok (.tuple #[v, .bool true]) w := run_assert_yes w Try.underlying53 rfl _ v
@[go_sem] theorem as_string_no {u : TypeId} (hu : u ≠ 53) (v : Value) (w : World) : (Instr.typeAssert (.iface u v) 40 53 true).run Try.prog w = .ok (.tuple #[.string ⟨#[]⟩, .bool false]) w := run_assert_no w Try.underlying53 rfl (by kernel_rfl) _ hu v
@[go_sem] theorem as_string_nil (w : World) : (Instr.typeAssert .nilIface 40 53 true).run Try.prog w = .ok (.tuple #[.string ⟨#[]⟩, .bool false]) w := run_assert_nil w Try.underlying53 rfl (by kernel_rfl) _
@[go_sem] theorem as_table_yes (v : Value) (w : World) : (Instr.typeAssert (.iface 32 v) 40 32 true).run Try.prog w = .ok (.tuple #[v, .bool true]) w := run_assert_yes w Try.underlying32 rfl _ v
@[go_sem] theorem as_table_no {u : TypeId} (hu : u ≠ 32) (v : Value) (w : World) : (Instr.typeAssert (.iface u v) 40 32 true).run Try.prog w = .ok (.tuple #[.pointer none, .bool false]) w := run_assert_no w Try.underlying32 rfl (by kernel_rfl) _ hu v
@[go_sem] theorem as_table_nil (w : World) : (Instr.typeAssert .nilIface 40 32 true).run Try.prog w = .ok (.tuple #[.pointer none, .bool false]) w := run_assert_nil w Try.underlying32 rfl (by kernel_rfl) _
@[go_sem] theorem as_nilty_yes (v : Value) (w : World) : (Instr.typeAssert (.iface 47 v) 40 47 true).run Try.prog w = .ok (.tuple #[v, .bool true]) w := run_assert_yes w Try.underlying47 rfl _ v
@[go_sem] theorem as_nilty_no {u : TypeId} (hu : u ≠ 47) (v : Value) (w : World) : (Instr.typeAssert (.iface u v) 40 47 true).run Try.prog w = .ok (.tuple #[.int .u8 0, .bool false]) w := run_assert_no w Try.underlying47 rfl (by kernel_rfl) _ hu v
@[go_sem] theorem as_nilty_nil (w : World) : (Instr.typeAssert .nilIface 40 47 true).run Try.prog w = .ok (.tuple #[.int .u8 0, .bool false]) w := run_assert_nil w Try.underlying47 rfl (by kernel_rfl) _
end Go.Lua
