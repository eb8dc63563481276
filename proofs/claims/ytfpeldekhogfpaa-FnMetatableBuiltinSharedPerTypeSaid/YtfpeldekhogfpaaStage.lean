/-
  n005_84: what the laws' walks are told of the state, the metatable and the world, from one observation to the next.
-/
import Derived.Test.YtfpeldekhogfpaaBytes
namespace Go.Lua
open Go.Proofs Go.RowKit
set_option linter.unusedVariables false

/-- The state at ls stands, made behind w0; the table at t holds T, its lock is u. -/
structure Stage (w0 : World) (ls g mp t : Nat) (T : Tab) (u : Value) (w : World) : Prop where
  st : ∃ f, St w ls g mp f
  mt : ∃ F, MtAt F w t T u ∧ ¬ F mp ∧ ∀ k, F k → k < w.heap.size
  upd : None w0 w
  mp : w0.heap.size ≤ mp
section
variable {w0 w w' : World} {ls g mp t : Nat} {T : Tab} {u : Value} {q : Array Value} {e : Ending}
theorem Stage.turn (h : Stage w0 ls g mp t T u w) (hst : ∃ f, St w' ls g mp f) (hu : Upd (fun k => k = mp) w w') : Stage w0 ls g mp t T u w' := by
  obtain ⟨-, ⟨F, hM, hF, hlt⟩, hU, hmp⟩ := h
  exact ⟨hst, ⟨F, hM.kept hu (fun k hk hf => hF (hk ▸ hf)), hF, fun k hk => Nat.lt_of_lt_of_le (hlt k hk) hu.size⟩, hU.under hu fun k hk => .inr (by subst hk; exact hmp), hmp⟩
theorem Stage.quiet (h : Stage w0 ls g mp t T u w) (hu : None w w') : Stage w0 ls g mp t T u w' := by
  obtain ⟨f, hs⟩ := h.st
  exact h.turn ⟨f, hs.kept hu⟩ (none_mp hu)
theorem Stage.drewN (h : Stage w0 ls g mp t T u w) (n : Nat) : Stage w0 ls g mp t T u (w.drewN n) := h.quiet ((Upd.refl _ _).drewN n)
theorem Stage.drew (h : Stage w0 ls g mp t T u w) : Stage w0 ls g mp t T u w.drew := h.drewN 1
theorem Stage.below (h : Stage w0 ls g mp t T u w) : Below w0.heap.size w0 w := none_below h.upd
/-- An observation, seen from w0. -/
def Sees (w0 : World) (ls g mp t : Nat) (T : Tab) (u : Value) (q : Array Value) (e : Ending) (w' : World) : Prop := e = .returned (.agg q) ∧ Stage w0 ls g mp t T u w'
theorem Stage.saw (h : Stage w0 ls g mp t T u w) (hs : Saw w ls g mp q e w') : Sees w0 ls g mp t T u q e w' := ⟨hs.1, h.turn hs.2.1 hs.2.2⟩

theorem _root_.Go.Lua.Seen.form {v : Value} {q : Array Value} (h : Seen v q) : ∃ a b c d, q = #[.bool a, .pointer b, .string c, .bool d] := by
  cases h <;> exact ⟨_, _, _, _, rfl⟩
theorem seeMt (h : Stage w0 ls g mp t T u w) (k : Int) (hk : 0 ≤ k ∧ k ≤ 4) (x : Nat) (s : ByteArray) (b : Bool) (raw : Bool) (hq : Seen (if raw then tabV t else u) q) :
    Calls Try.prog 16 #[.pointer (some ⟨ls, 0, none⟩), .int .i64 k, .pointer (some ⟨t, 0, none⟩), .float .f64 x, .string s, .bool b, .bool raw] w (Sees w0 ls g mp t T u q) := by
  have H := h
  obtain ⟨⟨f, hS⟩, ⟨F, hM, hF, hlt⟩, -, -⟩ := h
  have Q := hq.form
  obtain ⟨q0, q1, q2, q3, rfl⟩ := Q
  have K : k = 0 ∨ k = 1 ∨ k = 2 ∨ k = 3 ∨ k = 4 := by omega
  rcases K with rfl | rfl | rfl | rfl | rfl
  · exact (watchMt0 w F ls g mp t f T u hS hF hlt hM x s b raw _ _ _ _ hq).mono fun _ _ => H.saw
  · exact (watchMt1 w F ls g mp t f T u hS hF hlt hM x s b raw _ _ _ _ hq).mono fun _ _ => H.saw
  · exact (watchMt2 w F ls g mp t f T u hS hF hlt hM x s b raw _ _ _ _ hq).mono fun _ _ => H.saw
  · exact (watchMt3 w F ls g mp t f T u hS hF hlt hM x s b raw _ _ _ _ hq).mono fun _ _ => H.saw
  · exact (watchMt4 w F ls g mp t f T u hS hF hlt hM x s b raw _ _ _ _ hq).mono fun _ _ => H.saw
theorem seeOp (h : Stage w0 ls g mp t T u w) (k : Int) (hk : 0 ≤ k ∧ k ≤ 4) (x : Nat) (s : ByteArray) (b : Bool) (ev : ByteArray) (hq : Seen (T.sv ev) q) :
    Calls Try.prog 11 #[.pointer (some ⟨ls, 0, none⟩), .int .i64 k, .pointer (some ⟨t, 0, none⟩), .float .f64 x, .string s, .bool b, .string ev] w (Sees w0 ls g mp t T u q) := by
  have H := h
  obtain ⟨⟨f, hS⟩, ⟨F, hM, hF, hlt⟩, -, -⟩ := h
  have Q := hq.form
  obtain ⟨q0, q1, q2, q3, rfl⟩ := Q
  have K : k = 0 ∨ k = 1 ∨ k = 2 ∨ k = 3 ∨ k = 4 := by omega
  rcases K with rfl | rfl | rfl | rfl | rfl
  · exact (watchOp0 w F ls g mp t f T u hS hF hlt hM x s b ev _ rfl _ _ _ _ hq).mono fun _ _ => H.saw
  · exact (watchOp1 w F ls g mp t f T u hS hF hlt hM x s b ev _ rfl _ _ _ _ hq).mono fun _ _ => H.saw
  · exact (watchOp2 w F ls g mp t f T u hS hF hlt hM x s b ev _ rfl _ _ _ _ hq).mono fun _ _ => H.saw
  · exact (watchOp3 w F ls g mp t f T u hS hF hlt hM x s b ev _ rfl _ _ _ _ hq).mono fun _ _ => H.saw
  · exact (watchOp4 w F ls g mp t f T u hS hF hlt hM x s b ev _ rfl _ _ _ _ hq).mono fun _ _ => H.saw
end

/-- With no metatable: LNil is seen, and nothing that lay there has turned. -/
def SeesNone (w0 : World) (e : Ending) (w' : World) : Prop := e = .returned (.agg #[.bool true, .pointer none, .string ⟨#[]⟩, .bool false]) ∧ None w0 w'
theorem saw_none {w0 w w' : World} {ls g mp : Nat} {e : Ending} (h0 : None w0 w) (hmp : w0.heap.size ≤ mp) (h : Saw w ls g mp #[.bool true, .pointer none, .string ⟨#[]⟩, .bool false] e w') : SeesNone w0 e w' :=
  ⟨h.1, h0.under h.2.2 fun k hk => .inr (by subst hk; exact hmp)⟩
theorem bareMt (w0 w : World) (ls g mp : Nat) (h0 : None w0 w) (hmp : w0.heap.size ≤ mp) (hS : St w ls g mp (fun _ => none)) (k : Int) (hk : 0 ≤ k ∧ k ≤ 4) (x : Nat) (s : ByteArray) (b : Bool) (raw : Bool) :
    Calls Try.prog 16 #[.pointer (some ⟨ls, 0, none⟩), .int .i64 k, .pointer none, .float .f64 x, .string s, .bool b, .bool raw] w (SeesNone w0) := by
  have K : k = 0 ∨ k = 1 ∨ k = 2 ∨ k = 3 ∨ k = 4 := by omega
  rcases K with rfl | rfl | rfl | rfl | rfl
  · exact (bareMt0 w ls g mp hS x s b raw).mono fun _ _ => saw_none h0 hmp
  · exact (bareMt1 w ls g mp hS x s b raw).mono fun _ _ => saw_none h0 hmp
  · exact (bareMt2 w ls g mp hS x s b raw).mono fun _ _ => saw_none h0 hmp
  · exact (bareMt3 w ls g mp hS x s b raw).mono fun _ _ => saw_none h0 hmp
  · exact (bareMt4 w ls g mp hS x s b raw).mono fun _ _ => saw_none h0 hmp
theorem bareOp (w0 w : World) (ls g mp : Nat) (h0 : None w0 w) (hmp : w0.heap.size ≤ mp) (hS : St w ls g mp (fun _ => none)) (k : Int) (hk : 0 ≤ k ∧ k ≤ 4) (x : Nat) (s : ByteArray) (b : Bool) (ev : ByteArray) :
    Calls Try.prog 11 #[.pointer (some ⟨ls, 0, none⟩), .int .i64 k, .pointer none, .float .f64 x, .string s, .bool b, .string ev] w (SeesNone w0) := by
  have K : k = 0 ∨ k = 1 ∨ k = 2 ∨ k = 3 ∨ k = 4 := by omega
  rcases K with rfl | rfl | rfl | rfl | rfl
  · exact (bareOp0 w ls g mp hS x s b ev).mono fun _ _ => saw_none h0 hmp
  · exact (bareOp1 w ls g mp hS x s b ev).mono fun _ _ => saw_none h0 hmp
  · exact (bareOp2 w ls g mp hS x s b ev).mono fun _ _ => saw_none h0 hmp
  · exact (bareOp3 w ls g mp hS x s b ev).mono fun _ _ => saw_none h0 hmp
  · exact (bareOp4 w ls g mp hS x s b ev).mono fun _ _ => saw_none h0 hmp

/-! ### making the state and the tables -/
/-- At most n keys. -/
structure KOk (T : Tab) (n : Nat) : Prop where
  index : T.keys ≠ none → T.k2i ≠ none
  keys : (T.keys.getD []).length ≤ n
theorem KOk.new : KOk (newTab 0 0) 0 := ⟨fun h => absurd rfl h, Nat.le_refl _⟩
theorem KOk.wf {T : Tab} {n : Nat} (h : KOk T n) (hn : n ≤ 1000) : T.Wf := ⟨h.index, by have := h.keys; omega⟩
theorem KOk.setStr {T : Tab} {n : Nat} (h : KOk T n) (s : ByteArray) (v : Value) : KOk (T.setStr s v) (n + 1) := by
  obtain ⟨r1, r2, r3⟩ := ready_keys { T with sdict := some (mget T.sdict) } n h.index h.keys
  have hk : (T.setStr s v).k2i ≠ none ∧ ((T.setStr s v).keys.getD []).length ≤ n + 1 := by
    unfold Tab.setStr
    simp only
    split
    · exact ⟨r2, Nat.le_succ_of_le r3⟩
    · exact noteKey_keys _ _ _ r2 r3
  exact ⟨fun _ => hk.1, hk.2⟩
/-- The state alone: behind it a table of the walk's own. -/
structure Pre (w0 : World) (ls g mp t : Nat) (T : Tab) (n : Nat) (w : World) : Prop where
  st : St w ls g mp (fun _ => none)
  tab : ∃ F, TabAt w t T F ∧ KOk T n ∧ ¬ F mp ∧ ¬ F ls ∧ ¬ F g ∧ (∀ k, F k → w0.heap.size ≤ k ∧ k < w.heap.size)
  upd : None w0 w
  mp : w0.heap.size ≤ mp
theorem pre_new {w0 w w1 : World} {ls g mp : Nat} {e : Ending} (hS : St w ls g mp (fun _ => none)) (h0 : None w0 w) (hmp : w0.heap.size ≤ mp) (hf : Fresh w 0 0 e w1) :
    e = .returned (.pointer (some ⟨w.heap.size, 0, none⟩)) ∧ Pre w0 ls g mp w.heap.size (newTab 0 0) 0 w1 := by
  obtain ⟨he, hT, hU⟩ := Has.fresh hf
  have h1 := World.block_lt_of_cell? w _ hS.c1
  have h2 := World.block_lt_of_cell? w _ hS.c2
  have h3 := hS.mp.lt
  simp only at h1 h2
  refine ⟨he, hS.kept hU, ⟨_, hT.capped, KOk.new, ?_, ?_, ?_, ?_⟩, none_trans h0 hU, hmp⟩
  · rintro ⟨a, b⟩; omega
  · rintro ⟨a, b⟩; omega
  · rintro ⟨a, b⟩; omega
  · rintro k ⟨a, b⟩; exact ⟨Nat.le_trans h0.size a, b⟩
theorem Pre.lt {w0 w : World} {ls g mp t n : Nat} {T : Tab} (h : Pre w0 ls g mp t T n w) : ls < w.heap.size ∧ g < w.heap.size ∧ mp < w.heap.size :=
  ⟨World.block_lt_of_cell? w _ h.st.c1, World.block_lt_of_cell? w _ h.st.c2, h.st.mp.lt⟩
theorem Pre.write {w0 w : World} {ls g mp t n : Nat} {T : Tab} (h : Pre w0 ls g mp t T n w) {T' : Tab} {m : Nat} (hwf : KOk T' m) {P : Program} {f : FuncId} {args : Array Value}
    (C : ∀ F, TabAt w t T F → Calls P f args w (UpdTo F w t T')) : Calls P f args w fun e w1 => e = .returned (.tuple #[]) ∧ Pre w0 ls g mp t T' m w1 := by
  obtain ⟨h1, h2, h3⟩ := h.lt
  obtain ⟨hS, ⟨F, hT, hw, n1, n2, n3, hk⟩, hU, hmp⟩ := h
  refine (C F hT).mono fun e w1 hu => ⟨hu.1, ?_, ⟨_, hu.2.1.capped, hwf, ?_, ?_, ?_, ?_⟩, ?_, hmp⟩
  · exact ⟨cell_kept hS.c1 (hu.2.2.block _ h1 n2), cell_kept hS.c2 (hu.2.2.block _ h2 n3), hS.mp.of_heap (hu.2.2.block _ h3 n1)⟩
  · rintro ⟨a | a, b⟩
    · exact n1 a
    · omega
  · rintro ⟨a | a, b⟩
    · exact n2 a
    · omega
  · rintro ⟨a | a, b⟩
    · exact n3 a
    · omega
  · rintro k ⟨a | a, b⟩
    · exact ⟨(hk k a).1, b⟩
    · exact ⟨Nat.le_trans hU.size a, b⟩
  · exact hU.under hu.2.2 fun k hf => .inr (hk k hf).1
theorem Pre.str {w0 w : World} {ls g mp t n : Nat} {T : Tab} (h : Pre w0 ls g mp t T n w) (hn : n ≤ 1000) (s v : ByteArray) :
    Calls Try.prog 10 #[.pointer (some ⟨t, 0, none⟩), .string s, .string v] w fun e w1 => e = .returned (.tuple #[]) ∧ Pre w0 ls g mp t (T.setStr s (lstr v)) (n + 1) w1 := by
  obtain ⟨F, -, hw, -⟩ := h.tab
  exact h.write (hw.setStr s _) fun F hT => setString_any w t T F hT (hw.wf hn) s v
theorem Pre.tabl {w0 w : World} {ls g mp t n : Nat} {T : Tab} (h : Pre w0 ls g mp t T n w) (hn : n ≤ 1000) (s : ByteArray) (l : Nat) :
    Calls Try.prog 15 #[.pointer (some ⟨t, 0, none⟩), .string s, .pointer (some ⟨l, 0, none⟩)] w fun e w1 => e = .returned (.tuple #[]) ∧ Pre w0 ls g mp t (T.setStr s (tabV l)) (n + 1) w1 := by
  obtain ⟨F, -, hw, -⟩ := h.tab
  exact h.write (hw.setStr s _) fun F hT => setTable_any w t T F hT (hw.wf hn) s l
theorem Pre.quiet {w0 w w1 : World} {ls g mp t n : Nat} {T : Tab} (h : Pre w0 ls g mp t T n w) (u : None w w1) : Pre w0 ls g mp t T n w1 := by
  obtain ⟨hS, ⟨F, ⟨va, vd, vs, vk, vi, hT⟩, hw, n1, n2, n3, hk⟩, hU, hmp⟩ := h
  exact ⟨hS.kept u, ⟨F, (hT.kept fun k hk _ => u.block k hk (fun h => h)).at, hw, n1, n2, n3, fun k hf => ⟨(hk k hf).1, Nat.lt_of_lt_of_le (hk k hf).2 u.size⟩⟩, none_trans hU u, hmp⟩
theorem Pre.drewN {w0 w : World} {ls g mp t n : Nat} {T : Tab} (h : Pre w0 ls g mp t T n w) (d : Nat) : Pre w0 ls g mp t T n (w.drewN d) := h.quiet ((Upd.refl _ _).drewN d)
theorem Pre.drew {w0 w : World} {ls g mp t n : Nat} {T : Tab} (h : Pre w0 ls g mp t T n w) : Pre w0 ls g mp t T n w.drew := h.drewN 1
theorem Pre.fresh {w0 w w1 : World} {ls g mp t n : Nat} {T : Tab} {e : Ending} (h : Pre w0 ls g mp t T n w) (hf : Fresh w 0 0 e w1) : e = .returned (.pointer (some ⟨w.heap.size, 0, none⟩)) ∧ Pre w0 ls g mp t T n w1 :=
  ⟨hf.1, h.quiet (Has.fresh hf).2.2⟩
theorem Pre.stage {w0 w : World} {ls g mp t n : Nat} {T : Tab} {u : Value} (h : Pre w0 ls g mp t T n w) (hl : LockIs T t u) : Stage w0 ls g mp t T u w := by
  obtain ⟨hS, ⟨F, hT, -, n1, -, -, hk⟩, hU, hmp⟩ := h
  exact ⟨⟨_, hS⟩, ⟨F, ⟨hT, hl⟩, n1, fun k hf => (hk k hf).2⟩, hU, hmp⟩
theorem sv_str (T : Tab) (s v u : ByteArray) : (T.setStr s (lstr v)).sv u = if u == s then lstr v else T.sv u := sv_setStr T s (.inr ⟨_, _, rfl, by decide⟩) u
theorem sv_tab (T : Tab) (s : ByteArray) (l : Nat) (u : ByteArray) : (T.setStr s (tabV l)).sv u = if u == s then tabV l else T.sv u := sv_setStr T s (.inr ⟨_, _, rfl, by decide⟩) u

/-- Of a state just made. -/
def Made (w0 : World) (e : Ending) (w : World) : Prop := e = .returned (.pointer (some ⟨w0.heap.size + 2, 0, none⟩)) ∧ St w (w0.heap.size + 2) (w0.heap.size + 1) w0.heap.size (fun _ => none) ∧ None w0 w ∧ w.heap.size = w0.heap.size + 3
end Go.Lua
