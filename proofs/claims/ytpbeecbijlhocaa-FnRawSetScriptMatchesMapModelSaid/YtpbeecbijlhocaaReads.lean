/-
  What a table's readers answer, told by the table's plain readings.
-/
import Derived.Test.YtpbeecbijlhocaaKeep
import Derived.Test.YtpbeecbijlhocaaVal
import Derived.Test.YtpbeecbijlhocaaGetInt
import Derived.Test.YtpbeecbijlhocaaGetStr
import Derived.Test.YtpbeecbijlhocaaMaxN
import Derived.Test.YtpbeecbijlhocaaGet
namespace Go.Lua
open Go.Proofs Go.RowKit
set_option linter.unusedVariables false

section
variable {w : World} {t : Nat} {T : Tab} {F : Nat → Prop}
theorem TabAt.getStr (h : TabAt w t T F) (s : ByteArray) {u : Value} (hu : T.sv s = u) : Calls Try.prog 16 #[.pointer (some ⟨t, 0, none⟩), .string s] w fun e w' => e = .returned u ∧ w = w' := hu ▸ rawGetString_any w t T F h s
theorem TabAt.getHStr (h : TabAt w t T F) (s : ByteArray) {u : Value} (hu : T.sv s = u) : Calls Try.prog 17 #[.pointer (some ⟨t, 0, none⟩), lstr s] w fun e w' => e = .returned u ∧ w = w' := hu ▸ rawGetH_str w t T F h s
theorem TabAt.getHNum (h : TabAt w t T F) (x : Nat) {u : Value} (hu : T.nv x = u) : Calls Try.prog 17 #[.pointer (some ⟨t, 0, none⟩), lnum x] w fun e w' => e = .returned u ∧ w = w' := hu ▸ rawGetH_num w t T F h x
theorem TabAt.getInt (h : TabAt w t T F) (k : Int) (hk : Is64 k) {u : Value} (hu : T.av k = u) : Calls Try.prog 19 #[.pointer (some ⟨t, 0, none⟩), .int .i64 k] w fun e w' => e = .returned u ∧ w = w' := hu ▸ rawGetInt_any w t T F h k hk
theorem TabAt.maxN (h : TabAt w t T F) {n : Nat} (ho : Ok T n) {b : Nat} (hb : border (T.arr.getD []) = b) : Calls Try.prog 24 #[.pointer (some ⟨t, 0, none⟩)] w fun e w' => e = .returned (.int .i64 b) ∧ w = w' := hb ▸ maxN_any w t T F h ho.lv
theorem TabAt.len (h : TabAt w t T F) {n : Nat} (ho : Ok T n) {b : Nat} (hb : border (T.arr.getD []) = b) : Calls Try.prog 28 #[.pointer (some ⟨t, 0, none⟩)] w fun e w' => e = .returned (.int .i64 b) ∧ w = w' := hb ▸ len_any w t T F h ho.lv
end
end Go.Lua
