/-
  n005_23: the chain that Next walks and the pairs that ForEach hands out are the same pairs.
-/
import Derived.Test.YtfkemahinnpgdaaEachM
namespace Go.Lua
open Go.Proofs Go.RowKit Go.Deep
set_option linter.unusedVariables false

/-! ### the chain -/
def hashM (hs : List HEnt) : List (Value × Value) := (hs.filter fun e => e.v != 0).map fun e => (e.key, lnum (fofInt e.v))
def allM (m : Mod) : List (Value × Value) := arrTo m.arr m.arr.length ++ hashM m.hs
def Chain (T : Tab) : Value → List (Value × Value) → Prop
  | k, [] => Ans T k (lnil, lnil)
  | k, p :: L => Ans T k p ∧ Chain T p.1 L
section
variable {m : Mod} {T : Tab} (h : Full m T)
include h
theorem Full.chainH : ∀ (n j : Nat), j + n = m.hs.length → ∀ k, Ans T k (T.nextH j) → Chain T k (hashM (m.hs.drop j))
  | 0, j, hj, k, hk => by
    rw [List.drop_eq_nil_of_le (by omega)]
    have hj' : j = m.hs.length := by omega
    rw [hj', h.nextH_full] at hk
    exact hk
  | n + 1, j, hj, k, hk => by
    have hjl : j < m.hs.length := by omega
    have he : m.hs[j]? = some m.hs[j] := List.getElem?_eq_getElem hjl
    rw [List.drop_eq_getElem_cons hjl]
    generalize m.hs[j] = e at he
    by_cases h0 : e.v = 0
    · have : hashM (e :: m.hs.drop (j + 1)) = hashM (m.hs.drop (j + 1)) := by unfold hashM; rw [List.filter_cons, if_neg (by simp [h0])]
      rw [this]
      exact Full.chainH n (j + 1) (by omega) k (hk.cast (h.nextH_zero he h0))
    · have : hashM (e :: m.hs.drop (j + 1)) = (e.key, lnum (fofInt e.v)) :: hashM (m.hs.drop (j + 1)) := by unfold hashM; rw [List.filter_cons, if_pos (by simp [h0])]; rfl
      rw [this]
      exact ⟨hk.cast (h.nextH_some he h0), Full.chainH n (j + 1) (by omega) _ (h.ans_key he)⟩
theorem Full.chainA : ∀ (n i : Nat), i + n = m.arr.length → ∀ k, Ans T k (T.nextA i) → Chain T k ((arrTo m.arr m.arr.length).drop (arrTo m.arr i).length ++ hashM m.hs)
  | 0, i, hi, k, hk => by
    have hi' : i = m.arr.length := by omega
    rw [hi'] at hk ⊢
    rw [h.nextA_full] at hk
    rw [List.drop_length, List.nil_append]
    exact h.chainH m.hs.length 0 (by omega) k hk
  | n + 1, i, hi, k, hk => by
    by_cases h0 : m.arr.getD i 0 = 0
    · rw [← arrTo_zero h0]
      exact Full.chainA n (i + 1) (by omega) k (hk.cast (h.nextA_zero (by omega) h0))
    · have hat := arrTo_at h0 m.arr.length (by omega)
      obtain ⟨hl, he⟩ := List.getElem?_eq_some_iff.1 hat
      obtain ⟨hs1, hs2⟩ := h.nextA_some (by omega) rfl h0
      rw [List.drop_eq_getElem_cons hl, he, List.cons_append]
      refine ⟨hk.cast hs1, ?_⟩
      have ih := Full.chainA n (i + 1) (by omega) (lnum (fofInt ((i : Int) + 1))) (ans_arr h.nx (i := i + 1) (by omega) hs2)
      rw [arrTo_some h0, List.length_append] at ih
      exact ih
theorem Full.chain : Chain T lnil (allM m) := by
  have := h.chainA m.arr.length 0 (by omega) lnil (ans_start h.nx)
  exact this
end
/-! ### how many -/
theorem arrTo_count (A : List Int) : ∀ j, (arrTo A j).length ≤ (A.take j).countP (· != 0)
  | 0 => Nat.zero_le _
  | j + 1 => by
    have ih := arrTo_count A j
    by_cases hj : j < A.length
    · rw [List.take_succ_eq_append_getElem hj, List.countP_append]
      by_cases h0 : A.getD j 0 = 0
      · rw [arrTo_zero h0]; omega
      · rw [arrTo_some h0, List.length_append]
        have : A[j] ≠ 0 := by
          intro e
          rw [List.getD_eq_getElem?_getD, List.getElem?_eq_getElem hj, e] at h0
          exact h0 rfl
        simp [this]
        omega
    · have h0 : A.getD j 0 = 0 := by rw [List.getD_eq_getElem?_getD, List.getElem?_eq_none (by omega)]; rfl
      rw [arrTo_zero h0, List.take_of_length_le (by omega)]
      rw [List.take_of_length_le (by omega)] at ih
      exact ih
def cntM (m : Mod) : Nat := m.arr.countP (· != 0) + m.hs.length
theorem putK_len (hs : List HEnt) (p : HEnt) : (putK hs p).length ≤ hs.length + 1 := by
  unfold putK
  split
  · rw [List.length_modify]; omega
  · split
    · omega
    · rw [List.length_append]; simp
theorem count_set (A : List Int) (i : Nat) (v : Int) : (A.set i v).countP (· != 0) ≤ A.countP (· != 0) + 1 := by
  by_cases hi : i < A.length
  · rw [List.countP_set hi]
    split <;> split <;> omega
  · rw [List.set_eq_of_length_le (by omega)]; omega
theorem cnt_step (m : Mod) (o : ZOp) : cntM (m.step o) ≤ cntM m + 1 := by
  unfold Mod.step cntM
  split
  · have := count_set m.arr (o.n.toNat - 1) o.v
    simp only
    omega
  · have := putK_len m.hs o.ent
    simp only
    omega
theorem cnt_ops (m : Mod) (ops : List ZOp) : ∀ j, cntM (modAt m ops j) ≤ cntM m + j
  | 0 => Nat.le_refl _
  | j + 1 => by
    have ih := cnt_ops m ops j
    unfold modAt
    split
    · rename_i o ho
      have := cnt_step (modAt m ops j) o
      omega
    · omega
theorem allM_len (M : Nat) (ops : List ZOp) : (allM (modAt ⟨List.replicate M 0, []⟩ ops ops.length)).length ≤ ops.length := by
  have h1 := cnt_ops ⟨List.replicate M 0, []⟩ ops ops.length
  have h0 : cntM ⟨List.replicate M 0, []⟩ = 0 := by unfold cntM; simp [List.countP_replicate]
  generalize modAt ⟨List.replicate M 0, []⟩ ops ops.length = m at *
  have h2 := arrTo_count m.arr m.arr.length
  rw [List.take_length] at h2
  have h3 : (hashM m.hs).length ≤ m.hs.length := by unfold hashM; rw [List.length_map]; exact List.length_filter_le _ _
  unfold allM
  unfold cntM at h1 h0
  rw [List.length_append]
  omega
/-! ### what RawGet reads -/
def Tab.rg (T : Tab) : Value → Value
  | .iface _ (.float .f64 x) => T.fv x
  | .iface _ (.string s) => T.sv s
  | _ => lnil
theorem rawGet_lk (w : World) (t : Nat) (T : Tab) (F : Nat → Prop) (h : TabAt w t T F) {q : Value} (hq : IsLK q) : Calls Try.prog 25 #[.pointer (some ⟨t, 0, none⟩), q] w (Tells w (T.rg q)) := by
  rcases hq with ⟨x, rfl, hx⟩ | ⟨s, rfl⟩
  · exact rawGet_num w t T F h x (Lib.hid hx)
  · exact (rawGet_str w t T F h s).mono fun e w' he => ⟨he.1, 0, he.2.symm⟩
theorem arr_congr {a b : Nat} (h : feq a b = true) : arrKey a = arrKey b ∧ arrIdx a = arrIdx b := arrKey_congr (feq_key h)
section
variable {m : Mod} {T : Tab} (h : Full m T)
include h
theorem Full.hv_congr {a b : Value} (ha : IsLK a) (hb : IsLK b) (he : lkEq a b = true) : T.hv a = T.hv b := by
  rw [h.rel.h.hash a ha, h.rel.h.hash b hb]
  unfold hsv
  rw [findL_congr he]
theorem Full.rg_congr {a b : Value} (ha : IsLK a) (hb : IsLK b) (he : lkEq a b = true) : T.rg a = T.rg b := by
  have hh := h.hv_congr ha hb he
  rcases ha with ⟨x, rfl, hx⟩ | ⟨s, rfl⟩ <;> rcases hb with ⟨y, rfl, hy⟩ | ⟨u, rfl⟩
  · rw [lkEq_num] at he
    obtain ⟨h1, h2⟩ := arr_congr he
    show T.fv x = T.fv y
    unfold Tab.fv
    rw [h1, h2]
    split
    · rfl
    · unfold Tab.nv
      rw [hv_num, hv_num] at hh
      rw [hh]
  · cases he
  · cases he
  · rw [lkEq_str] at he
    rw [(bytes_beq _ _).1 he]
theorem Full.hash_rg {q v : Value} (hq : IsLK q) (hv : T.hv q = some v) : T.rg q = v ∧ ∀ x, q = lnum x → arrKey x = false := by
  obtain ⟨j, e, -, he, hl, -, -⟩ := h.hash_at hq hv
  have hok := (h.hok e (List.mem_of_getElem? he)).1
  rcases hq with ⟨x, rfl, hx⟩ | ⟨s, rfl⟩
  · have hs := num_key ⟨x, rfl, hx⟩ hl
    obtain ⟨h64, hna⟩ := hok hs
    rw [key_num hs, lkEq_num] at hl
    have ha : arrKey x = false := (arr_congr hl).1.trans (arrKey_out h64 hna)
    refine ⟨?_, fun y hy => by cases hy; exact ha⟩
    show T.fv x = v
    unfold Tab.fv
    rw [ha]
    rw [hv_num] at hv
    unfold Tab.nv
    simp [hv]
  · refine ⟨?_, fun y hy => by cases hy⟩
    show T.sv s = v
    rw [hv_str] at hv
    unfold Tab.sv
    simp [hv]
/-- The array's live pairs: array keys. -/
theorem Full.arr_mem {p : Value × Value} : ∀ n, n ≤ m.arr.length → p ∈ arrTo m.arr n → ∃ i : Nat, i < n ∧ m.arr.getD i 0 ≠ 0 ∧ i + 1 ≤ 65536 ∧ p = (lnum (fofInt ((i : Int) + 1)), lnum (fofInt (m.arr.getD i 0)))
  | 0, _, hp => by cases hp
  | n + 1, hn, hp => by
    by_cases h0 : m.arr.getD n 0 = 0
    · rw [arrTo_zero h0] at hp
      obtain ⟨i, h1, h2⟩ := Full.arr_mem n (by omega) hp
      exact ⟨i, by omega, h2⟩
    · rw [arrTo_some h0] at hp
      rcases List.mem_append.1 hp with hp | hp
      · obtain ⟨i, h1, h2⟩ := Full.arr_mem n (by omega) hp
        exact ⟨i, by omega, h2⟩
      · have hs := (h.nextA_some (by omega) rfl h0).2
        have := h.nx.alen
        exact ⟨n, by omega, h0, by omega, List.mem_singleton.1 hp⟩
theorem Full.arr_rg {i : Nat} (hi : i < m.arr.length) (h2 : i + 1 ≤ 65536) : T.rg (lnum (fofInt ((i : Int) + 1))) = val (m.arr.getD i 0) := by
  have hin : InArr ((i : Int) + 1) := ⟨by omega, by omega⟩
  obtain ⟨k1, k2⟩ := arrKey_in hin
  show T.fv (fofInt ((i : Int) + 1)) = _
  unfold Tab.fv
  rw [k1, k2]
  exact h.rel.a.at' i hi
theorem Full.arr_apart : ∀ n, n ≤ m.arr.length → (arrTo m.arr n).Pairwise fun p q => lkEq p.1 q.1 = false
  | 0, _ => .nil
  | n + 1, hn => by
    have ih := Full.arr_apart n (by omega)
    by_cases h0 : m.arr.getD n 0 = 0
    · rw [arrTo_zero h0]; exact ih
    · have hs := (h.nextA_some (by omega) rfl h0).2
      have hal := h.nx.alen
      rw [arrTo_some h0, List.pairwise_append]
      refine ⟨ih, by simp, fun p hp q hq => ?_⟩
      obtain ⟨i, hi, -, hi2, rfl⟩ := h.arr_mem n (by omega) hp
      rw [List.mem_singleton.1 hq]
      show lkEq (lnum _) (lnum _) = false
      rw [lkEq_num]
      cases hf : feq (fofInt ((i : Int) + 1)) (fofInt ((n : Int) + 1)) with
      | false => rfl
      | true =>
        have e := (arr_congr hf).2
        rw [(arrKey_in (k := (i : Int) + 1) ⟨by omega, by omega⟩).2, (arrKey_in (k := (n : Int) + 1) ⟨by omega, by omega⟩).2] at e
        omega
end
/-- The pairs PL, each served by one of ML. -/
structure APairs (T : Tab) (ML PL : List (Value × Value)) : Prop where
  tgt : ∀ (x : Nat) (p : Value × Value), PL[x]? = some p → ∃ j, findL (ML.map (·.1)) p.1 = some j ∧ (ML.map (·.2))[j]? = some p.2 ∧ IsLK p.1 ∧ IsLK p.2 ∧ T.rg p.1 = p.2
  keys : ∀ k ∈ ML.map (·.1), IsLK k
  apart : PL.Pairwise fun p q => lkEq p.1 q.1 = false
  len : PL.length = ML.length
theorem isLK_num {n : Int} (h : Is64 n) : IsLK (lnum (fofInt n)) := .inl ⟨_, rfl, feq_self_fof h⟩
theorem live_split : ∀ hs : List HEnt, (hs.filter fun e => e.v != 0).length = (liveOf true hs).length + (liveOf false hs).length
  | [] => rfl
  | e :: hs => by
    have ih := live_split hs
    unfold liveOf at ih ⊢
    simp only [List.filter_cons]
    cases h1 : (e.v != 0) <;> cases h2 : e.str <;> simp at ih ⊢ <;> omega
section
variable {m : Mod} {T : Tab} (h : Full m T)
include h
/-- What any pair of the chain is. -/
theorem Full.all_at {p : Value × Value} (hp : p ∈ allM m) : IsLK p.1 ∧ IsLK p.2 ∧ T.rg p.1 = p.2 := by
  rcases List.mem_append.1 hp with hp | hp
  · obtain ⟨i, hi, h0, hi2, rfl⟩ := h.arr_mem m.arr.length (Nat.le_refl _) hp
    refine ⟨isLK_num (by unfold Is64; omega), isLK_num (aok_at h.aok i), ?_⟩
    rw [h.arr_rg hi hi2, val_num h0]
  · unfold hashM at hp
    obtain ⟨e, he, rfl⟩ := List.mem_map.1 hp
    obtain ⟨hm, hc⟩ := List.mem_filter.1 he
    obtain ⟨j, hj⟩ := List.getElem?_of_mem hm
    have hq := h.rel.h.isk e.key (List.mem_of_getElem? (keysOf_at hj))
    have hv := hsv_at h.rel.h hj
    unfold live at hv
    rw [if_neg (by simpa using hc)] at hv
    exact ⟨hq, isLK_num (h.hok e hm).2, (h.hash_rg hq hv).1⟩
theorem Full.apairs {SL NL : List (Value × Value)} (hS : PairsOf T.hv IsStrK SL) (hN : PairsOf T.hv IsNumK NL) : APairs T (allM m) (arrTo m.arr m.arr.length ++ (SL ++ NL)) := by
  have hH := h.hpairs hS hN
  have hhv : ∀ p ∈ SL ++ NL, IsLK p.1 ∧ T.hv p.1 = some p.2 := by
    intro p hp
    rcases List.mem_append.1 hp with hp | hp
    · exact ⟨strK_lk (hS.1.1 p hp).1, (hS.1.1 p hp).2⟩
    · exact ⟨numK_lk (hN.1.1 p hp).1, (hN.1.1 p hp).2⟩
  refine ⟨fun x p hp => ?_, fun k hk => ?_, ?_, ?_⟩
  · have hmem := List.mem_of_getElem? hp
    have hq : IsLK p.1 ∧ T.rg p.1 = p.2 ∧ ∃ q ∈ allM m, lkEq p.1 q.1 = true := by
      rcases List.mem_append.1 hmem with hm | hm
      · have ha : p ∈ allM m := List.mem_append.2 (.inl hm)
        obtain ⟨k1, -, k3⟩ := h.all_at ha
        exact ⟨k1, k3, p, ha, lk_self k1⟩
      · obtain ⟨k1, k2⟩ := hhv p hm
        obtain ⟨j, e, -, he, hl, h0, -⟩ := h.hash_at k1 k2
        refine ⟨k1, (h.hash_rg k1 k2).1, (e.key, lnum (fofInt e.v)), List.mem_append.2 (.inr (List.mem_map.2 ⟨e, List.mem_filter.2 ⟨List.mem_of_getElem? he, by simp [h0]⟩, rfl⟩)), hl⟩
    obtain ⟨k1, k2, q, hqm, hql⟩ := hq
    cases hf : findL ((allM m).map (·.1)) p.1 with
    | none =>
      have := findL_none hf q.1 (List.mem_map.2 ⟨q, hqm, rfl⟩)
      rw [hql] at this
      cases this
    | some j =>
      obtain ⟨k, hk, hl⟩ := findL_some hf
      rw [List.getElem?_map] at hk
      cases hr : (allM m)[j]? with
      | none => rw [hr] at hk; cases hk
      | some r =>
        rw [hr] at hk
        cases hk
        obtain ⟨r1, r2, r3⟩ := h.all_at (List.mem_of_getElem? hr)
        have e := h.rg_congr k1 r1 hl
        rw [k2, r3] at e
        exact ⟨j, rfl, by rw [List.getElem?_map, hr, e]; rfl, k1, by rw [e]; exact r2, k2⟩
  · obtain ⟨p, hp, rfl⟩ := List.mem_map.1 hk
    exact (h.all_at hp).1
  · rw [List.pairwise_append]
    refine ⟨h.arr_apart m.arr.length (Nat.le_refl _), hH.apart, fun p hp q hq => ?_⟩
    obtain ⟨i, hi, -, hi2, rfl⟩ := h.arr_mem m.arr.length (Nat.le_refl _) hp
    obtain ⟨k1, k2⟩ := hhv q hq
    have hx := (h.hash_rg k1 k2).2
    generalize q.1 = b at k1 hx
    rcases k1 with ⟨y, rfl, hy⟩ | ⟨s, rfl⟩
    · show lkEq (lnum _) (lnum _) = false
      rw [lkEq_num]
      cases hf : feq (fofInt ((i : Int) + 1)) y with
      | false => rfl
      | true =>
        have e := (arr_congr hf).1
        rw [(arrKey_in (k := (i : Int) + 1) ⟨by omega, by omega⟩).1, hx y rfl] at e
        cases e
    · rfl
  · have h1 := h.len_s hS
    have h2 := h.len_n hN
    have h3 := live_split m.hs
    unfold allM hashM
    simp only [List.length_append, List.length_map]
    omega
end
end Go.Lua
