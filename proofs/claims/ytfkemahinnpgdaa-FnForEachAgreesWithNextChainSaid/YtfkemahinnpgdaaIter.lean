/-
  A range over a map told by a function, its iterator in any block: what has come out so far is a list of entries.
-/
import Derived.Test.YtfkemahinnpgdaaKeep
import Derived.Maps.RangeRun
import Derived.Below
namespace Go.Lua
open Go.Proofs Go.RowKit
open Go.ChangeMaps (setBlock)
set_option linter.unusedVariables false

def bornOf (L : List MapEntry) : Array Nat := (L.map (·.born)).toArray
theorem bornOf_push (L : List MapEntry) (e : MapEntry) : (bornOf L).push e.born = bornOf (L ++ [e]) := by unfold bornOf; simp
theorem bornOf_mem {L : List MapEntry} {b : Nat} : (bornOf L).contains b = true ↔ b ∈ L.map (·.born) := by unfold bornOf; simp
def Rng (w : World) (bm it : Nat) (es : Array MapEntry) (L : List MapEntry) : Prop :=
  ∃ clock since c0, w.heap[bm]? = some (.map es clock) ∧ w.heap[it]? = some (.mapIter (some bm) since (bornOf L) c0) ∧ (∀ x ∈ es.toList, x.born < since) ∧ since ≤ c0 ∧ since ≤ clock ∧ (es.toList.map (·.born)).Nodup ∧ (∀ x ∈ L, x ∈ es.toList) ∧ (L.map (·.born)).Nodup
section
variable {P : Program} {w w' : World} {bm it : Nat} {es : Array MapEntry} {L : List MapEntry}
theorem Rng.kept (h : Rng w bm it es L) (hh : ∀ b, b = bm ∨ b = it → w'.heap[b]? = w.heap[b]?) : Rng w' bm it es L := by
  obtain ⟨clock, since, c0, hb, hi, r⟩ := h
  exact ⟨clock, since, c0, (hh bm (.inl rfl)).trans hb, (hh it (.inr rfl)).trans hi, r⟩
theorem Rng.iter (h : Rng w bm it es L) : ∃ b s c cl, w.heap[it]? = some (.mapIter b s c cl) := by
  obtain ⟨clock, since, c0, hb, hi, r⟩ := h
  exact ⟨_, _, _, _, hi⟩
theorem Rng.map (h : Rng w bm it es L) : ∃ clock, w.heap[bm]? = some (.map es clock) := by
  obtain ⟨clock, since, c0, hb, hi, r⟩ := h
  exact ⟨_, hb⟩
theorem Rng.sub (h : Rng w bm it es L) : (∀ x ∈ L, x ∈ es.toList) ∧ (L.map (·.born)).Nodup := by
  obtain ⟨clock, since, c0, hb, hi, h1, h2, h3, h4, r⟩ := h
  exact r
theorem Rng.seen (h : Rng w bm it es L) : w.iterSeen it = bornOf L := by
  obtain ⟨clock, since, c0, hb, hi, r⟩ := h
  unfold World.iterSeen
  rw [hi]
theorem Rng.start {clock : Nat} (hb : w.heap[bm]? = some (.map es clock)) {IsK : Value → Prop} {eq : Value → Value → Bool} (hg : GoodMap IsK eq es.toList clock) : Rng (w.alloc (.mapIter (some bm) clock #[] clock)) bm w.heap.size es [] :=
  ⟨clock, clock, clock, (Below.heap_alloc w _ bm (Array.getElem?_eq_some_iff.1 hb).1).trans hb, heap_alloc_new w _, hg.young, Nat.le_refl _, Nat.le_refl _, hg.stamps, by simp, by simp⟩
theorem Rng.less (h : Rng w bm it es L) {e : MapEntry} (h' : Rng w' bm it es (L ++ [e])) (he : e ∈ (leftOf es (bornOf L)).toList) : (leftOf es (w'.iterSeen it)).size < (leftOf es (w.iterSeen it)).size := by
  rw [h.seen, h'.seen, ← bornOf_push]
  exact left_shrinks es _ e he
/-- A step. -/
theorem Rng.next (h : Rng w bm it es L) :
    ((∀ y ∈ es.toList, y ∈ L) ∧ ∀ ty, (Instr.next (.pointer (some ⟨it, 0, none⟩)) false ty).run P w = .ok (.tuple #[.bool false]) w) ∨
    ∃ e w', e ∈ (leftOf es (bornOf L)).toList ∧ Rng w' bm it es (L ++ [e]) ∧ Upd (fun b => b = it) w w' ∧ (∀ ty, (Instr.next (.pointer (some ⟨it, 0, none⟩)) false ty).run P w = .ok (.tuple #[.bool true, e.key, e.val]) w') ∧ (Instr.entry (.pointer (some ⟨it, 0, none⟩))).run P w' = .ok (.tuple #[e.key, e.val]) w' := by
  obtain ⟨clock, since, c0, hb, hi, hold, hsc, hsk, hnd, hsub, hLn⟩ := h
  have hne : it ≠ bm := fun e => by rw [e, hb] at hi; cases hi
  rcases run_next_at (P := P) w 0 it bm since c0 (bornOf L) es clock hi hb hold hsc with ⟨h0, hrun⟩ | ⟨e, he, w1, hal, hrun⟩
  · refine .inl ⟨fun y hy => ?_, fun _ => hrun⟩
    have h1 := bornOf_mem.1 (all_seen es (bornOf L) h0 y hy)
    obtain ⟨z, hz, hzy⟩ := List.mem_map.1 h1
    rw [← born_inj hnd (hsub z hz) hy hzy]
    exact hz
  · obtain ⟨hem, hes⟩ := mem_left he
    have hi1 : w1.heap[it]? = some (.mapIter (some bm) since (bornOf L) c0) := by rcases hal with rfl | rfl <;> exact hi
    have hb1 : w1.heap[bm]? = some (.map es clock) := by rcases hal with rfl | rfl <;> exact hb
    have hset := Go.MapKept.heap_set (o' := .mapIter (some bm) since ((bornOf L).push e.born) clock) hi1
    have hb' : (setBlock w1 it (.mapIter (some bm) since ((bornOf L).push e.born) clock)).heap[bm]? = some (.map es clock) := (hset.2 bm (fun e1 => hne e1.symm)).trans hb1
    refine .inr ⟨e, _, he, ⟨clock, since, clock, hb', by rw [← bornOf_push]; exact hset.1, hold, hsk, hsk, hnd, fun x hx => ?_, ?_⟩, ?_, fun _ => hrun, run_entry_at _ it bm since (bornOf L) es clock e hset.1 hb' hem hnd⟩
    · rcases List.mem_append.1 hx with hx | hx
      · exact hsub x hx
      · rw [List.mem_singleton.1 hx]; exact hem
    · rw [List.map_append, List.nodup_append]
      refine ⟨hLn, by simp, fun a ha b hb e1 => ?_⟩
      have hb2 : b = e.born := by simpa using hb
      rw [e1, hb2] at ha
      rw [bornOf_mem.2 ha] at hes
      cases hes
    · rcases hal with rfl | rfl <;> exact ⟨rfl, rfl, rfl, by simp [setBlock], fun i _ hi => hset.2 i hi⟩
end
/-- A list that another one serves: each member has a partner of its own. -/
theorem inj_len {α β : Type} {R : α → β → Prop} : ∀ (A : List α) (B : List β), (∀ a ∈ A, ∃ b ∈ B, R a b) → A.Pairwise (fun a a' => ∀ b, R a b → ¬ R a' b) → A.length ≤ B.length
  | [], B, _, _ => Nat.zero_le _
  | a :: A, B, h, hp => by
    obtain ⟨h1, h2⟩ := List.pairwise_cons.1 hp
    obtain ⟨b, hb, hab⟩ := h a (.head _)
    obtain ⟨B1, B2, rfl⟩ := List.append_of_mem hb
    have ih := inj_len A (B1 ++ B2) (fun a' ha' => by
      obtain ⟨b', hb', hr⟩ := h a' (.tail _ ha')
      refine ⟨b', ?_, hr⟩
      rcases List.mem_append.1 hb' with q | q
      · exact List.mem_append.2 (.inl q)
      · rcases List.mem_cons.1 q with q | q
        · subst q
          exact absurd hr (h1 a' ha' _ hab)
        · exact List.mem_append.2 (.inr q)) h2
    simp only [List.length_append, List.length_cons] at ih ⊢
    omega
theorem mlook_self {IsK : Value → Prop} {eq : Value → Value → Bool} (hs : ∀ q, IsK q → eq q q = true) (hc : ∀ a b, eq a b = eq b a) : ∀ {es : List MapEntry}, (∀ x ∈ es, IsK x.key) → es.Pairwise (fun x y => eq x.key y.key = false) → ∀ e ∈ es, mlook eq es e.key = some e.val
  | [], _, _, e, he => by cases he
  | x :: es, hk, hp, e, he => by
    obtain ⟨h1, h2⟩ := List.pairwise_cons.1 hp
    rw [mlook_cons]
    rcases List.mem_cons.1 he with q | q
    · subst q
      rw [if_pos (hs _ (hk _ (.head _)))]
    · rw [hc, if_neg (by rw [h1 e q]; simp)]
      exact mlook_self hs hc (fun y hy => hk y (.tail _ hy)) h2 e q
end Go.Lua
