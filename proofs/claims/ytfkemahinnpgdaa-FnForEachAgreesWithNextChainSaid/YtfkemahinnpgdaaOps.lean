/-
  The operations that table.go's functions carry out on a table's parts, for the walk: an append of one value, a made slice, a made map, a store into a slice, nil tests.
-/
import Derived.Test.YtfkemahinnpgdaaTab
namespace Go.Lua
open Go.Proofs Go.RowKit
set_option linter.unusedVariables false

theorem lvInfo : (Try.prog.info? 40).map (fun i => (i.zero, i.size, i.bytes)) = some (some .nilIface, 1, 16) := by kernel_rfl
theorem zero_lv (w : World) : (zeroValue 40).run Try.prog w = .ok .nilIface w := by kernel_rfl
theorem zero_int (w : World) : (zeroValue 3).run Try.prog w = .ok (.int .i64 0) w := by kernel_rfl

theorem size_zc (n : Nat) : (Builtin.zeroCells (Value.nilIface).cells n).size = n := by rw [size_zeroCells]; simp [Value.cells]

/-- 'append(s, u)' of one LValue, u lying in a cell: the list grows by u, in place or in a new row. -/
theorem run_append_lv {w : World} {v : Value} {o : Option (List Value)} (h : SlAt w v o) {a : Addr} {c : Nat} {u : Value} (hu : w.cell? a = some u) (h1 : u.oneCell' = true) (hl : (o.getD []).length < 8796093022207) (ty : TypeId) :
    ∃ v' w', (Builtin.append_ #[35, 35] ty #[v, .slice (some a) 1 c]).run Try.prog w = .ok v' w' ∧ SlAt w' v' (some (o.getD [] ++ [u])) ∧ w.grownBy w' (blk v) ∧ (blk v' = blk v ∨ blk v' = some w.heap.size) ∧ SlAt w' v o := by
  obtain ⟨i, hi, hz, hs, hby⟩ : ∃ i, Try.prog.info? 40 = some i ∧ i.zero = some .nilIface ∧ i.size = 1 ∧ i.bytes = 16 := by simpa using lvInfo
  have hnews : ∀ j x, [u][j]? = some x → w.cell? (a.add j) = some x := by
    intro j x hx
    cases j with
    | zero => simp at hx; subst hx; simpa [Addr.add] using hu
    | succ j => simp at hx
  have hln : [u].length = 1 * i.size := by rw [hs]; rfl
  cases o with
  | none =>
    have hv : v = .slice none 0 0 := h
    subst hv
    have hr := run_append_nil (P := Try.prog) w 35 ty 40 i .nilIface Try.underlying35 hi hz a 1 c [u] hln hnews (by decide) (by decide) (by rw [hby]; decide)
    have hge := grownCap_ge w 1 0 40
    have hcm := grownCap_le_maxLen w 1 0 40 (by decide)
    refine ⟨_, _, hr, ⟨w.heap.size, _, _, rfl, heap_alloc_new w.drew _, hge, hcm, ?_, ?_⟩, ⟨rfl, rfl, rfl, by simp, fun k hk _ => Below.heap_alloc w.drew _ k hk⟩, .inr rfl, rfl⟩
    · simp only [Array.size_append, size_zc, List.size_toArray, List.length_cons, List.length_nil]
      omega
    · simp
  | some xs =>
    have h0 := h
    obtain ⟨g, cap, cur, rfl, hg, hnc, hcm, hcs, htake⟩ := h
    simp only [Option.getD_some] at *
    by_cases hroom : xs.length + 1 ≤ cap
    · have hfit : xs.length * i.size + [u].length ≤ cur.size := by rw [hs, hcs]; simpa using hroom
      have hr := run_append_room (P := Try.prog) w 35 ty 40 i Try.underlying35 hi g xs.length cap cur hg a 1 c [u] hln hnews (by simpa using h1) hroom hfit
      refine ⟨_, _, hr, ⟨g, cap, _, by rw [List.length_append]; rfl, setRow_heap w g cur _ _ _ hg, by simpa using hroom, hcm, ?_, ?_⟩, ⟨rfl, rfl, rfl, by simp, fun k _ hk => setRow_other w g k _ (fun e => hk (by simp [blk, e]))⟩, .inl rfl, ⟨g, cap, _, rfl, setRow_heap w g cur _ _ _ hg, hnc, hcm, ?_, ?_⟩⟩
      · rw [hs]
        simp only [List.size_toArray, List.length_append, List.length_take, List.length_drop, Array.length_toList, Nat.mul_one, List.length_cons, List.length_nil]
        omega
      · rw [hs]
        simp only [Nat.mul_one, htake]
        rw [List.take_left' rfl]
      · rw [hs]
        simp only [List.size_toArray, List.length_append, List.length_take, List.length_drop, Array.length_toList, Nat.mul_one, List.length_cons, List.length_nil]
        omega
      · rw [hs]
        simp only [Nat.mul_one, htake, List.append_assoc]
        rw [List.take_left' rfl]
    · have holds : ∀ j x, xs[j]? = some x → w.cell? ((⟨g, 0, none⟩ : Addr).add j) = some x := by
        intro j x hx
        have hadd : (⟨g, 0, none⟩ : Addr).add j = ⟨g, j, none⟩ := by unfold Addr.add; split <;> simp_all
        rw [hadd]
        rw [← htake, List.getElem?_take] at hx
        split at hx
        · simpa [World.cell?, hg] using hx
        · cases hx
      have hr := run_append_grow (P := Try.prog) w 35 ty 40 i .nilIface Try.underlying35 hi hz ⟨g, 0, none⟩ xs.length cap xs (by rw [hs, Nat.mul_one]) holds a 1 c [u] hln hnews (by omega) (by omega) (growslice_fits (by omega) (by rw [hby]; omega))
      have hge := grownCap_ge w (xs.length + 1) cap 40
      have hcm2 := grownCap_le_maxLen w (xs.length + 1) cap 40 (by unfold maxLen; omega)
      refine ⟨_, _, hr, ⟨w.heap.size, _, _, by rw [List.length_append]; rfl, heap_alloc_new w.drew _, by simpa using hge, hcm2, ?_, ?_⟩, ⟨rfl, rfl, rfl, by simp, fun k hk _ => Below.heap_alloc w.drew _ k hk⟩, .inr rfl, h0.of_heap fun b hb => Below.heap_alloc w.drew _ b (h0.lt b hb)⟩
      · simp only [Array.size_append, size_zc, List.size_toArray, List.length_cons, List.length_nil]
        omega
      · simp only [Array.toList_append]
        rw [List.take_left' (by simp)]

/-! ### facts that the walk takes by itself -/
@[go_sem] theorem sl_eql_nil (a : Option Addr) (n c : Nat) (w : World) : (binOp .eql 35 (.slice a n c) (.slice none 0 0)).run Try.prog w = .ok (.bool a.isNone) w := Lib.run_eql_slice_nil w _ _ _ _ _ _ _ Try.underlying35
@[go_sem] theorem sl_neq_nil (a : Option Addr) (n c : Nat) (w : World) : (binOp .neq 35 (.slice a n c) (.slice none 0 0)).run Try.prog w = .ok (.bool (!a.isNone)) w := run_neq_slice_nil_any w _ _ _ _ _ _ _ Try.underlying35
@[go_sem] theorem md_eql_nil (r : Option Nat) (w : World) : (binOp .eql 68 (.map r) (.map none)).run Try.prog w = .ok (.bool r.isNone) w := run_eql_map_nil w _ _ _ r Try.underlying68
@[go_sem] theorem ms_eql_nil (r : Option Nat) (w : World) : (binOp .eql 69 (.map r) (.map none)).run Try.prog w = .ok (.bool r.isNone) w := run_eql_map_nil w _ _ _ r Try.underlying69
@[go_sem] theorem mi_eql_nil (r : Option Nat) (w : World) : (binOp .eql 70 (.map r) (.map none)).run Try.prog w = .ok (.bool r.isNone) w := run_eql_map_nil w _ _ _ r Try.underlying70
@[go_sem] theorem made_map (t : TypeId) (w : World) : (Instr.makeMap t none).run Try.prog w = .ok (.map (some w.heap.size)) (w.alloc (.map #[] 0)) := rfl
@[go_sem] theorem made_sdict (n : Int) (w : World) : (Instr.makeMap 69 (some (.int .i64 n))).run Try.prog w = .ok (.map (some w.heap.size)) (w.alloc (.map #[] 0)) := by
  simp [Instr.makeMap, run_underlying Try.underlying69, asInt, asIntOf]
@[go_sem] theorem made_dict (n : Int) (w : World) : (Instr.makeMap 68 (some (.int .i64 n))).run Try.prog w = .ok (.map (some w.heap.size)) (w.alloc (.map #[] 0)) := by
  simp [Instr.makeMap, run_underlying Try.underlying68, asInt, asIntOf]

/-- The row of a slice just made. -/
def nils (n : Nat) : Array Value := madeCells #[.nilIface] n
theorem made_sl (n : Int) (h0 : 0 ≤ n) (h1 : n ≤ 17592186044416) (w : World) : (Instr.makeSlice 35 (.int .i64 0) (.int .i64 n)).run Try.prog w = .ok (.slice (some ⟨w.heap.size, 0, none⟩) 0 n.toNat) (w.alloc (.cells (nils n.toNat) 40)) := by
  obtain ⟨i, hi, hz, hs, hby⟩ : ∃ i, Try.prog.info? 40 = some i ∧ i.zero = some .nilIface ∧ i.size = 1 ∧ i.bytes = 16 := by simpa using lvInfo
  have := run_make (P := Try.prog) w 35 40 i .nilIface Try.underlying35 hi hz .i64 .i64 0 n (Int.le_refl _) h0 (by rw [hby]; omega) (by omega)
  rw [hs, Nat.mul_one] at this
  exact this
@[go_sem] theorem made_32 (w : World) : (Instr.makeSlice 35 (.int .i64 0) (.int .i64 32)).run Try.prog w = .ok (.slice (some ⟨w.heap.size, 0, none⟩) 0 32) (w.alloc (.cells (nils 32) 40)) := made_sl 32 (by decide) (by decide) w

theorem SlAt.made (w : World) (n : Nat) (h : n ≤ maxLen) : SlAt (w.alloc (.cells (nils n) 40)) (.slice (some ⟨w.heap.size, 0, none⟩) 0 n) (some []) :=
  ⟨w.heap.size, n, nils n, rfl, heap_alloc_new w _, Nat.zero_le _, h, size_madeCells _ _, by simp⟩

/-- A table whose array was nil has been given a made one. -/
theorem TabV.make_arr {w : World} {t : Nat} {T : Tab} {F : Nat → Prop} {va vd vs vk vi : Value} (h : TabV w t T F va vd vs vk vi) (n : Nat) (hn : n ≤ maxLen) :
    TabV ((w.alloc (.cells (nils n) 40)).setCell ⟨t, 1, none⟩ (.slice (some ⟨w.heap.size, 0, none⟩) 0 n)) t { T with arr := some [] } (Fw F w) (.slice (some ⟨w.heap.size, 0, none⟩) 0 n) vd vs vk vi ∧
    Upd F w ((w.alloc (.cells (nils n) 40)).setCell ⟨t, 1, none⟩ (.slice (some ⟨w.heap.size, 0, none⟩) 0 n)) := by
  have hlt := h.lt
  refine ⟨((h.alloc _).mono fun k _ hk => .inl hk).storeArr (SlAt.made w n hn) (fun b hb => .inr (by simp [blk] at hb; omega)) (by simp [blk]; omega) (fun b hb hk => ?_), ((Upd.refl F w).alloc _).setCell (.inl h.ft) _⟩
  have := h.keys.lt b hk
  simp [blk] at hb
  omega

/-- .. an array to which a value was appended. -/
theorem TabV.append_arr {w w' : World} {t : Nat} {T : Tab} {F : Nat → Prop} {va vd vs vk vi v' : Value} {l : List Value} (h : TabV w t T F va vd vs vk vi) (ha : SlAt w' v' (some l)) (hg : w.grownBy w' (blk va)) (hb : blk v' = blk va ∨ blk v' = some w.heap.size) (hs : SlAt w' va T.arr) :
    TabV (w'.setCell ⟨t, 1, none⟩ v') t { T with arr := some l } (Fw F w) v' vd vs vk vi ∧ Upd F w (w'.setCell ⟨t, 1, none⟩ v') := by
  have hlt := h.lt
  have hne : ∀ k, k < w.heap.size → blk va ≠ some k → w'.heap[k]? = w.heap[k]? := fun k hk hn => hg.block k hk fun e => hn e.symm
  have h2 : TabV w' t T (Fw F w) va vd vs vk vi :=
    { h with
      head := (hne t hlt h.ta).trans h.head
      arr := hs
      dict := h.dict.of_heap fun b hb => hne b (h.dict.lt b hb) fun e => by
        obtain ⟨es, c, hx⟩ := h.dict.is_map hb
        obtain ⟨c2, e2, f2, hy⟩ := h.arr.is_cells e
        rw [hx] at hy; cases hy
      sdict := h.sdict.of_heap fun b hb => hne b (h.sdict.lt b hb) fun e => by
        obtain ⟨es, c, hx⟩ := h.sdict.is_map hb
        obtain ⟨c2, e2, f2, hy⟩ := h.arr.is_cells e
        rw [hx] at hy; cases hy
      keys := h.keys.of_heap fun b hb => hne b (h.keys.lt b hb) fun e => h.ak b e hb
      k2i := h.k2i.of_heap fun b hb => hne b (h.k2i.lt b hb) fun e => by
        obtain ⟨es, c, hx⟩ := h.k2i.is_map hb
        obtain ⟨c2, e2, f2, hy⟩ := h.arr.is_cells e
        rw [hx] at hy; cases hy
      ft := .inl h.ft
      fa := fun b hb => .inl (h.fa b hb)
      fd := fun b hb => .inl (h.fd b hb)
      fs := fun b hb => .inl (h.fs b hb)
      fk := fun b hb => .inl (h.fk b hb)
      fi := fun b hb => .inl (h.fi b hb) }
  refine ⟨h2.storeArr ha ?_ ?_ ?_, (Upd.of_grownBy hg fun k hk => h.fa k hk).setCell (.inl h.ft) _⟩
  · intro b hb'
    rcases hb with e | e
    · exact .inl (h.fa b (e ▸ hb'))
    · rw [e] at hb'; cases hb'; exact .inr (Nat.le_refl _)
  · rcases hb with e | e
    · rw [e]; exact h.ta
    · rw [e]; intro q; cases q; omega
  · intro b hb' hk
    rcases hb with e | e
    · exact h.ak b (e ▸ hb') hk
    · rw [e] at hb'; cases hb'
      have := h.keys.lt _ hk
      omega

theorem setCell_alloc_comm (w : World) (o : Obj) (a : Addr) (v : Value) (h : a.block < w.heap.size) : (w.alloc o).setCell a v = (w.setCell a v).alloc o := by
  simp only [World.alloc, World.setCell, World.mk.injEq, and_true]
  apply Array.ext_getElem?
  intro i
  simp only [Array.getElem?_modify, Array.getElem?_push, Array.size_modify]
  by_cases h1 : a.block = i
  · subst h1
    rw [if_pos rfl, if_neg (by omega), if_neg (by omega), if_pos rfl]
  · rw [if_neg h1]
    by_cases h2 : i = w.heap.size
    · rw [if_pos h2, if_pos h2]
    · rw [if_neg h2, if_neg h2, if_neg h1]

theorem TabV.make_arr2 {w : World} {t : Nat} {T : Tab} {F : Nat → Prop} {va vd vs vk vi : Value} (h : TabV w t T F va vd vs vk vi) (n : Nat) (hn : n ≤ maxLen) :
    TabV ((w.setCell ⟨t, 1, none⟩ (.slice (some ⟨w.heap.size, 0, none⟩) 0 n)).alloc (.cells (nils n) 40)) t { T with arr := some [] } (Fw F w) (.slice (some ⟨w.heap.size, 0, none⟩) 0 n) vd vs vk vi ∧
    Upd F w ((w.setCell ⟨t, 1, none⟩ (.slice (some ⟨w.heap.size, 0, none⟩) 0 n)).alloc (.cells (nils n) 40)) := by
  rw [← setCell_alloc_comm w _ _ _ h.lt]
  exact h.make_arr n hn

/-- Behind an append to the array the table's own cells are what they were. -/
theorem TabV.grown_cell {w w' : World} {t : Nat} {T : Tab} {F : Nat → Prop} {va vd vs vk vi : Value} (h : TabV w t T F va vd vs vk vi) {v : Value} (hg : w.grownBy w' (blk v)) (hv : blk v ≠ some t) (i : Nat) :
    w'.cell? ⟨t, i, none⟩ = w.cell? ⟨t, i, none⟩ ∧ w'.frozen? ⟨t, i, none⟩ = false := by
  have hb : w'.heap[t]? = w.heap[t]? := hg.block t h.lt fun e => hv e.symm
  exact ⟨by simp [World.cell?, hb], by simp [World.frozen?, hb, h.head]⟩
theorem TabV.grown_arr {w w' : World} {t : Nat} {T : Tab} {F : Nat → Prop} {va vd vs vk vi : Value} (h : TabV w t T F va vd vs vk vi) (hg : w.grownBy w' (blk va)) : w'.cell? ⟨t, 1, none⟩ = some va ∧ w'.frozen? ⟨t, 1, none⟩ = false := by
  obtain ⟨e, f⟩ := h.grown_cell hg h.ta 1
  exact ⟨e.trans h.cells.2.1, f⟩
theorem TabV.grown_keys {w w' : World} {t : Nat} {T : Tab} {F : Nat → Prop} {va vd vs vk vi : Value} (h : TabV w t T F va vd vs vk vi) (hg : w.grownBy w' (blk vk)) : w'.cell? ⟨t, 4, none⟩ = some vk ∧ w'.frozen? ⟨t, 4, none⟩ = false := by
  obtain ⟨e, f⟩ := h.grown_cell hg h.tk 4
  exact ⟨e.trans h.cells.2.2.2.2.1, f⟩

theorem MpAt.made {IsK : Value → Prop} {eq : Value → Value → Bool} (w : World) : MpAt IsK eq (w.alloc (.map #[] 0)) (.map (some w.heap.size)) (some fun _ => none) := ⟨_, rfl, MapAt.made w⟩

/-- A made map is stored in a field that was nil. -/
theorem TabV.make_sdict {w : World} {t : Nat} {T : Tab} {F : Nat → Prop} {va vd vs vk vi : Value} (h : TabV w t T F va vd vs vk vi) :
    TabV ((w.setCell ⟨t, 3, none⟩ (.map (some w.heap.size))).alloc (.map #[] 0)) t { T with sdict := some fun _ => none } (Fw F w) va vd (.map (some w.heap.size)) vk vi ∧ Upd F w ((w.setCell ⟨t, 3, none⟩ (.map (some w.heap.size))).alloc (.map #[] 0)) := by
  rw [← setCell_alloc_comm w _ _ _ h.lt]
  refine ⟨((h.alloc _).mono fun k _ hk => .inl hk).storeSdict (MpAt.made w) (fun b hb => by cases hb; exact .inr (Nat.le_refl _)) (fun b hb e => ?_) (fun b hb e => ?_), ((Upd.refl F w).alloc _).setCell (.inl h.ft) _⟩
  · cases e; have := h.dict.lt _ hb; omega
  · cases hb; have := h.k2i.lt _ e; omega
theorem TabV.make_dict {w : World} {t : Nat} {T : Tab} {F : Nat → Prop} {va vd vs vk vi : Value} (h : TabV w t T F va vd vs vk vi) :
    TabV ((w.setCell ⟨t, 2, none⟩ (.map (some w.heap.size))).alloc (.map #[] 0)) t { T with dict := some fun _ => none } (Fw F w) va (.map (some w.heap.size)) vs vk vi ∧ Upd F w ((w.setCell ⟨t, 2, none⟩ (.map (some w.heap.size))).alloc (.map #[] 0)) := by
  rw [← setCell_alloc_comm w _ _ _ h.lt]
  refine ⟨((h.alloc _).mono fun k _ hk => .inl hk).storeDict (MpAt.made w) (fun b hb => by cases hb; exact .inr (Nat.le_refl _)) (fun b hb e => ?_) (fun b hb e => ?_), ((Upd.refl F w).alloc _).setCell (.inl h.ft) _⟩
  · cases hb; have := h.sdict.lt _ e; omega
  · cases hb; have := h.k2i.lt _ e; omega
theorem SlAt.empty (w : World) : SlAt (w.alloc (.cells #[] 40)) (.slice (some ⟨w.heap.size, 0, none⟩) 0 0) (some []) :=
  ⟨w.heap.size, 0, #[], rfl, heap_alloc_new w _, Nat.le_refl _, Nat.zero_le _, rfl, rfl⟩
/-- An empty list of keys and an empty index of them are stored. -/
theorem TabV.make_keys {w : World} {t : Nat} {T : Tab} {F : Nat → Prop} {va vd vs vk vi : Value} (h : TabV w t T F va vd vs vk vi) :
    TabV ((((w.alloc (.cells #[] 40)).setCell ⟨t, 4, none⟩ (.slice (some ⟨w.heap.size, 0, none⟩) 0 0)).alloc (.map #[] 0)).setCell ⟨t, 5, none⟩ (.map (some (w.heap.size + 1)))) t { T with keys := some [], k2i := some fun _ => none } (Fw F w) va vd vs (.slice (some ⟨w.heap.size, 0, none⟩) 0 0) (.map (some (w.heap.size + 1))) ∧
    Upd F w ((((w.alloc (.cells #[] 40)).setCell ⟨t, 4, none⟩ (.slice (some ⟨w.heap.size, 0, none⟩) 0 0)).alloc (.map #[] 0)).setCell ⟨t, 5, none⟩ (.map (some (w.heap.size + 1)))) := by
  have hlt := h.lt
  have h1 := ((h.alloc (.cells #[] 40)).mono fun k _ hk => (.inl hk : Fw F w k)).storeKeys (SlAt.empty w) (fun b hb => by cases hb; exact .inr (Nat.le_refl _)) (fun e => by simp [blk] at e; omega) (fun b hb e => by simp [blk] at e; have := h.arr.lt _ hb; omega)
  have hsz : ((w.alloc (.cells #[] 40)).setCell ⟨t, 4, none⟩ (.slice (some ⟨w.heap.size, 0, none⟩) 0 0)).heap.size = w.heap.size + 1 := by simp
  have hm := MpAt.made (IsK := IsLK) (eq := lkEq) ((w.alloc (.cells #[] 40)).setCell ⟨t, 4, none⟩ (.slice (some ⟨w.heap.size, 0, none⟩) 0 0))
  rw [hsz] at hm
  refine ⟨(h1.alloc (.map #[] 0)).storeK2i hm (fun b hb => by cases hb; exact .inr (by omega)) (fun b hb e => ?_) (fun b hb e => ?_), ((((Upd.refl F w).alloc _).setCell (.inl h.ft) _).alloc _).setCell (.inl h.ft) _⟩
  · cases e; have := h.dict.lt _ hb; omega
  · cases e; have := h.sdict.lt _ hb; omega

theorem TabV.make_keys2 {w : World} {t : Nat} {T : Tab} {F : Nat → Prop} {va vd vs vk vi : Value} (h : TabV w t T F va vd vs vk vi) :
    TabV ((((w.setCell ⟨t, 4, none⟩ (.slice (some ⟨w.heap.size, 0, none⟩) 0 0)).setCell ⟨t, 5, none⟩ (.map (some (w.heap.size + 1)))).alloc (.cells #[] 40)).alloc (.map #[] 0)) t { T with keys := some [], k2i := some fun _ => none } (Fw F w) va vd vs (.slice (some ⟨w.heap.size, 0, none⟩) 0 0) (.map (some (w.heap.size + 1))) ∧
    Upd F w ((((w.setCell ⟨t, 4, none⟩ (.slice (some ⟨w.heap.size, 0, none⟩) 0 0)).setCell ⟨t, 5, none⟩ (.map (some (w.heap.size + 1)))).alloc (.cells #[] 40)).alloc (.map #[] 0)) := by
  have hlt := h.lt
  have := h.make_keys
  rw [setCell_alloc_comm w _ _ _ hlt, setCell_alloc_comm _ _ _ _ (by simp; omega), setCell_alloc_comm _ _ _ _ (by simp; exact hlt)] at this
  exact this

/-- A map of the table's has turned, its header has not. -/
theorem TabV.mapTurn {w w' : World} {t : Nat} {T : Tab} {F : Nat → Prop} {va vd vs vk vi : Value} (h : TabV w t T F va vd vs vk vi) {r : Nat} {es : Array MapEntry} {c : Nat} (hr : w.heap[r]? = some (.map es c)) (hg : w.grownBy w' (some r)) :
    w'.heap[t]? = w.heap[t]? ∧ (∀ b, blk va = some b → w'.heap[b]? = w.heap[b]?) ∧ ∀ b, blk vk = some b → w'.heap[b]? = w.heap[b]? := by
  refine ⟨hg.block t h.lt fun e => ?_, fun b hb => hg.block b (h.arr.lt b hb) fun e => ?_, fun b hb => hg.block b (h.keys.lt b hb) fun e => ?_⟩
  · cases e; rw [h.head] at hr; cases hr
  · cases e; obtain ⟨_, _, _, q⟩ := h.arr.is_cells hb; rw [q] at hr; cases hr
  · cases e; obtain ⟨_, _, _, q⟩ := h.keys.is_cells hb; rw [q] at hr; cases hr
theorem grownBy_map_other {w w' : World} {r : Nat} (hg : w.grownBy w' (some r)) {IsK : Value → Prop} {eq : Value → Value → Bool} {v : Value} {o : Option (Value → Option Value)} (h : MpAt IsK eq w v o) (hne : blk v ≠ some r) : MpAt IsK eq w' v o :=
  h.of_heap fun b hb => hg.block b (h.lt b hb) fun e => hne (by rw [hb, e])
theorem TabV.sdictTurn {w w' : World} {t : Nat} {T : Tab} {F : Nat → Prop} {va vd vk vi : Value} {r : Nat} (h : TabV w t T F va vd (.map (some r)) vk vi) {f : Value → Option Value} (hm : MapAt IsSK skEq w' r f) (hg : w.grownBy w' (some r)) :
    TabV w' t { T with sdict := some f } F va vd (.map (some r)) vk vi ∧ Upd F w w' := by
  obtain ⟨es, c, hr⟩ := h.sdict.is_map (b := r) rfl
  obtain ⟨a1, a2, a3⟩ := h.mapTurn hr hg
  exact ⟨{ h with
    head := a1.trans h.head
    arr := h.arr.of_heap a2
    dict := grownBy_map_other hg h.dict fun e => h.ds r e rfl
    sdict := ⟨r, rfl, hm⟩
    keys := h.keys.of_heap a3
    k2i := grownBy_map_other hg h.k2i fun e => h.si r rfl e }, Upd.of_grownBy hg fun k hk => by cases hk; exact h.fs r rfl⟩
theorem TabV.dictTurn {w w' : World} {t : Nat} {T : Tab} {F : Nat → Prop} {va vs vk vi : Value} {r : Nat} (h : TabV w t T F va (.map (some r)) vs vk vi) {f : Value → Option Value} (hm : MapAt IsLK lkEq w' r f) (hg : w.grownBy w' (some r)) :
    TabV w' t { T with dict := some f } F va (.map (some r)) vs vk vi ∧ Upd F w w' := by
  obtain ⟨es, c, hr⟩ := h.dict.is_map (b := r) rfl
  obtain ⟨a1, a2, a3⟩ := h.mapTurn hr hg
  exact ⟨{ h with
    head := a1.trans h.head
    arr := h.arr.of_heap a2
    dict := ⟨r, rfl, hm⟩
    sdict := grownBy_map_other hg h.sdict fun e => h.ds r rfl e
    keys := h.keys.of_heap a3
    k2i := grownBy_map_other hg h.k2i fun e => h.di r rfl e }, Upd.of_grownBy hg fun k hk => by cases hk; exact h.fd r rfl⟩
theorem TabV.k2iTurn {w w' : World} {t : Nat} {T : Tab} {F : Nat → Prop} {va vd vs vk : Value} {r : Nat} (h : TabV w t T F va vd vs vk (.map (some r))) {f : Value → Option Value} (hm : MapAt IsLK lkEq w' r f) (hg : w.grownBy w' (some r)) :
    TabV w' t { T with k2i := some f } F va vd vs vk (.map (some r)) ∧ Upd F w w' := by
  obtain ⟨es, c, hr⟩ := h.k2i.is_map (b := r) rfl
  obtain ⟨a1, a2, a3⟩ := h.mapTurn hr hg
  exact ⟨{ h with
    head := a1.trans h.head
    arr := h.arr.of_heap a2
    dict := grownBy_map_other hg h.dict fun e => h.di r e rfl
    sdict := grownBy_map_other hg h.sdict fun e => h.si r e rfl
    keys := h.keys.of_heap a3
    k2i := ⟨r, rfl, hm⟩ }, Upd.of_grownBy hg fun k hk => by cases hk; exact h.fi r rfl⟩
/-- .. a key appended to the list of keys. -/
theorem TabV.append_keys {w w' : World} {t : Nat} {T : Tab} {F : Nat → Prop} {va vd vs vk vi v' : Value} {l : List Value} (h : TabV w t T F va vd vs vk vi) (ha : SlAt w' v' (some l)) (hg : w.grownBy w' (blk vk)) (hb : blk v' = blk vk ∨ blk v' = some w.heap.size) (hs : SlAt w' vk T.keys) :
    TabV (w'.setCell ⟨t, 4, none⟩ v') t { T with keys := some l } (Fw F w) va vd vs v' vi ∧ Upd F w (w'.setCell ⟨t, 4, none⟩ v') := by
  have hlt := h.lt
  have hne : ∀ k, k < w.heap.size → blk vk ≠ some k → w'.heap[k]? = w.heap[k]? := fun k hk hn => hg.block k hk fun e => hn e.symm
  have hma : ∀ b es c, w.heap[b]? = some (.map es c) → blk vk ≠ some b := fun b es c hx e => by
    obtain ⟨c2, e2, f2, hy⟩ := h.keys.is_cells e
    rw [hx] at hy; cases hy
  have hm : ∀ {IsK eq v o}, MpAt IsK eq w v o → MpAt IsK eq w' v o := fun {IsK eq v o} hm => hm.of_heap fun b hb => hne b (hm.lt b hb) (by obtain ⟨es, c, hx⟩ := hm.is_map hb; exact hma b es c hx)
  have h2 : TabV w' t T (Fw F w) va vd vs vk vi :=
    { h with
      head := (hne t hlt h.tk).trans h.head
      arr := h.arr.of_heap fun b hb => hne b (h.arr.lt b hb) fun e => h.ak b hb e
      dict := hm h.dict
      sdict := hm h.sdict
      keys := hs
      k2i := hm h.k2i
      ft := .inl h.ft
      fa := fun b hb => .inl (h.fa b hb)
      fd := fun b hb => .inl (h.fd b hb)
      fs := fun b hb => .inl (h.fs b hb)
      fk := fun b hb => .inl (h.fk b hb)
      fi := fun b hb => .inl (h.fi b hb) }
  refine ⟨h2.storeKeys ha ?_ ?_ ?_, (Upd.of_grownBy hg fun k hk => h.fk k hk).setCell (.inl h.ft) _⟩
  · intro b hb'
    rcases hb with e | e
    · exact .inl (h.fk b (e ▸ hb'))
    · rw [e] at hb'; cases hb'; exact .inr (Nat.le_refl _)
  · rcases hb with e | e
    · rw [e]; exact h.tk
    · rw [e]; intro q; cases q; omega
  · intro b hb' hk
    rcases hb with e | e
    · exact h.ak b hb' (e ▸ hk)
    · rw [e] at hk; cases hk
      have := h.arr.lt _ hb'
      omega

/-- A store into a slot of the array. -/
theorem TabV.setElem {w : World} {t : Nat} {T : Tab} {F : Nat → Prop} {g n cap : Nat} {xs : List Value} {vd vs vk vi : Value} (h : TabV w t T F (.slice (some ⟨g, 0, none⟩) n cap) vd vs vk vi) (hx : T.arr = some xs) (i : Nat) (u : Value) (hi : i < xs.length) :
    TabV (w.setCell ⟨g, i, none⟩ u) t { T with arr := some (xs.set i u) } F (.slice (some ⟨g, 0, none⟩) n cap) vd vs vk vi ∧ Upd F w (w.setCell ⟨g, i, none⟩ u) := by
  have hh : ∀ b, b ≠ g → (w.setCell ⟨g, i, none⟩ u).heap[b]? = w.heap[b]? := fun b hb => Below.heap_setCell w ⟨g, i, none⟩ u b hb
  have ha := h.arr
  rw [hx] at ha
  obtain ⟨g', cap', cur, e, hg, h1, h2, h3, h4⟩ := ha
  cases e
  have hm : ∀ {IsK eq v o}, MpAt IsK eq w v o → MpAt IsK eq (w.setCell ⟨g, i, none⟩ u) v o := fun {IsK eq v o} hm => hm.of_heap fun b hb => hh b fun e => by
    obtain ⟨es, c, hx⟩ := hm.is_map hb
    rw [e, hg] at hx
    cases hx
  refine ⟨{ h with
    head := (hh t fun e => h.ta (by rw [e]; rfl)).trans h.head
    arr := ⟨g, cap, cur.setIfInBounds i u, by rw [List.length_set], head_setCell hg i u, by simpa using h1, h2, by simpa using h3, by
      rw [List.length_set, Array.toList_setIfInBounds, List.take_set, h4]⟩
    dict := hm h.dict
    sdict := hm h.sdict
    keys := h.keys.of_heap fun b hb => hh b fun e => h.ak g rfl (by rw [hb, e])
    k2i := hm h.k2i }, (Upd.refl F w).setCell (.inl (h.fa g rfl)) u⟩

/-- .. for the walk. -/
theorem wpList_append_lv {w : World} {ops : Array Oper} {rest : List Oper} {o : Oper} {a : Act} {Q : Exit → Act → World → Prop} (hgd : o.guard = none) (s x : Operand)
    (ho : o.op = .call { callee := .builtin .append, args := #[s, x], argTypes := #[35, 35] })
    (v : Value) (ol : Option (List Value)) (l : List Value) (hol : ol.getD [] = l) (hs : a.eval s = v) (h : SlAt w v ol) (ad : Addr) (c : Nat) (u : Value) (hx : a.eval x = .slice (some ad) 1 c) (hu : w.cell? ad = some u) (h1 : u.oneCell' = true) (hl : l.length < 8796093022207)
    (hK : ∀ g' cap' w', SlAt w' (.slice (some ⟨g', 0, none⟩) (l.length + 1) cap') (some (l ++ [u])) → w.grownBy w' (blk v) → (blk (.slice (some ⟨g', 0, none⟩) (l.length + 1) cap') = blk v ∨ blk (.slice (some ⟨g', 0, none⟩) (l.length + 1) cap') = some w.heap.size) → SlAt w' v ol →
      wpList Try.prog ops Q rest (a.put o.dst (.slice (some ⟨g', 0, none⟩) (l.length + 1) cap')) w') : wpList Try.prog ops Q (o :: rest) a w := by
  refine wpList_plain hgd fun K hK' => ?_
  subst hol
  obtain ⟨v', w', hr, h2, h3, h4, h5⟩ := run_append_lv h (c := c) hu h1 hl o.type
  obtain ⟨g', cap', rfl, -⟩ := h2.cell
  rw [List.length_append] at hr h2 h4
  unfold Oper.wp execOp
  simp only [ho, resolve, invoke, builtin, Sem.run_bind, Sem.run_pure, Result.andThen_ok, List.map_toArray, List.map_cons, List.map_nil, hs, hx, hr]
  exact hK' _ _ (hK g' cap' w' h2 h3 h4 h5)
end Go.Lua
