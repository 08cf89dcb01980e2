/-
  KEYS THAT STAND ONCE, whatever their type; rows under a frame.
-/
import Derived.Test.YbulkkeiFmtInv
namespace Go.Proofs.YbulkkeiFmt
open Go.RowKit Go.Extern.Stop Go.Stop Go.Extern

theorem get_noneI {er : List (Int × Value)} {k : Int} (h : k ∉ er.map Prod.fst) : get er k = none := by
  induction er with
  | nil => rfl
  | cons p er ih =>
    rw [get_cons, if_neg (by intro e; exact h (by simp [e])), ih (by intro e; exact h (by simp at e ⊢; exact .inr e))]
theorem memI_del {k : Int} {q : Int × Value} : ∀ {er : List (Int × Value)}, q ∈ del k er → q ∈ er
  | [], h => h
  | a :: er, h => by
    unfold del at h
    split at h
    · simp [h]
    · simp at h
      rcases h with h | h
      · simp [h]
      · simp [memI_del h]
theorem memI_put {k : Int} {v : Value} {x : Int} : ∀ {er : List (Int × Value)}, x ∈ (put k v er).map Prod.fst → x ∈ er.map Prod.fst ∨ x = k
  | [], h => by simp [put] at h; exact .inr h
  | a :: er, h => by
    unfold put at h
    split at h
    · simp only [List.map_cons, List.mem_cons] at h ⊢
      rcases h with h | h
      · exact .inr h
      · exact .inl (.inr h)
    · simp only [List.map_cons, List.mem_cons] at h ⊢
      rcases h with h | h
      · exact .inl (.inl h)
      · rcases memI_put h with h | h
        · exact .inl (.inr h)
        · exact .inr h
theorem OnceI.del {er : List (Int × Value)} (h : OnceI er) (k : Int) : get (del k er) k = none ∧ OnceI (del k er) := by
  induction er with
  | nil => exact ⟨rfl, h⟩
  | cons p er ih =>
    have h1 : p.1 ∉ er.map Prod.fst ∧ OnceI er := by simpa [OnceI] using h
    unfold YbulkkeiFmt.del
    by_cases e : k = p.1
    · rw [if_pos e]
      exact ⟨get_noneI (by rw [e]; exact h1.1), h1.2⟩
    · rw [if_neg e]
      refine ⟨by rw [get_cons, if_neg e]; exact (ih h1.2).1, ?_⟩
      have := (ih h1.2).2
      simp only [OnceI, List.map_cons, List.nodup_cons]
      refine ⟨fun hx => h1.1 ?_, this⟩
      obtain ⟨q, hq, hq2⟩ := List.mem_map.1 hx
      exact List.mem_map.2 ⟨q, memI_del hq, hq2⟩
theorem OnceI.put {er : List (Int × Value)} (h : OnceI er) (k : Int) (v : Value) : OnceI (put k v er) := by
  induction er with
  | nil => simp [YbulkkeiFmt.put, OnceI]
  | cons p er ih =>
    have h1 : p.1 ∉ er.map Prod.fst ∧ OnceI er := by simpa [OnceI] using h
    unfold YbulkkeiFmt.put
    by_cases e : k = p.1
    · rw [if_pos e]
      simp only [OnceI, List.map_cons, List.nodup_cons]
      rw [e]
      exact h1
    · rw [if_neg e]
      simp only [OnceI, List.map_cons, List.nodup_cons]
      refine ⟨fun hx => ?_, ih h1.2⟩
      rcases memI_put hx with hx | hx
      · exact h1.1 hx
      · exact e hx.symm

theorem ownsRow_kept {N : Nat → Prop} {W : List TypeId} {M : List Nat} {w w' : World} {e : TypeId} {sz : Nat} {v : Value} {n : Nat} {xs : List Value} (h : w.ownsRow 0 e sz v n xs) (hf : Fr N W M w w') (he : e ∉ W) : w'.ownsRow 0 e sz v n xs := by
  obtain ⟨h1, h2⟩ := h
  refine ⟨h1, ?_⟩
  rcases h2 with h2 | ⟨g, cap, cur, a1, a2, a3, a4⟩
  · exact .inl h2
  · exact .inr ⟨g, cap, cur, a1, a2, hf.keepC g cur e _ a3 he, a4⟩
/-- A row that is made anew. -/
theorem Grew.fresh {N : Nat → Prop} {e : TypeId} {sz : Nat} {z v : Value} {n m : Nat} {xs news : List Value} {w : World} {v' : Value} {w' : World} (h : Grew N e sz z v n m xs news w v' w') (hv : v.ownBlock = none) : Fr N [] [] w w' := by
  have key : ∀ k, k < w.heap.size → w'.heap[k]? = w.heap[k]? := fun k hk => h.other k hk (by rw [hv]; simp)
  refine ⟨h.fr.os, h.fr.tape, h.fr.output, h.fr.size, fun k hk _ => key k hk, fun k c e f hk _ => (key k ?_).trans hk, fun k es cl hk _ => (key k ?_).trans hk, fun k c e f hk => ⟨c, (key k ?_).trans hk, rfl⟩⟩
  all_goals exact (Array.getElem?_eq_some_iff.1 hk).1
theorem Fr.cellAt {N : Nat → Prop} {W : List TypeId} {M : List Nat} {w w' : World} (h : Fr N W M w w') {b o : Nat} {v : Value} {c : Array Value} {e : TypeId} {f : Nat × Nat} (hb : w.heap[b]? = some (.cells c e f)) (he : e ∉ W) (hc : w.cell? ⟨b, o, none⟩ = some v) : w'.cell? ⟨b, o, none⟩ = some v := by
  have h1 : w'.heap[b]? = w.heap[b]? := by rw [h.keepC b c e f hb he, hb]
  exact (World.cell?_of_block h1).trans hc
/-- Row, where the row's block is anybody's. -/
def noN : Nat → Prop := fun _ => False
end Go.Proofs.YbulkkeiFmt
