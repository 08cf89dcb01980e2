/-
  THE VIEW (1): await: the wait for a block; what the rows of waiting blocks hold.
-/
import Derived.Test.YbulkkeiFmtSlot
import Derived.Deep.RegionHeld3
import Derived.Deep.DrawnRows
namespace Go.Proofs.YbulkkeiFmt
open Go.RowKit Go.Extern.Stop Go.Stop Go.Extern
set_option maxRecDepth 8000
attribute [local go_sem ↓] Go.wp_at_zero Go.wp_at_succ

theorem zero_held (w : World) : (zeroValue 66).run Ybaf.prog w = .ok (.slice none 0 0) w := by kernel_rfl
theorem Grew.cell {N : Nat → Prop} {e : TypeId} {sz : Nat} {z v v' : Value} {n m : Nat} {xs news : List Value} {w w' : World} (h : Grew N e sz z v n m xs news w v' w') {b o : Nat} {u : Value} (hc : w.cell? ⟨b, o, none⟩ = some u) (hb : v.ownBlock ≠ some b) : w'.cell? ⟨b, o, none⟩ = some u :=
  (World.cell?_of_block (w := w) (h.other b (blk hc) (fun e => hb e.symm))).trans hc
theorem hz111 : Ybaf.t111.zero = some (.agg #[.pointer none, .int .i32 0, .int .i64 0]) := rfl

/-- A waiting voter block, by its place in the triple. -/
def HeldΦ (n : Nat) (j : Nat) (u : Value) : Prop := (j = 0 → u = .pointer none) ∧ (j = 1 → ∃ a : Nat, u = .int .i32 a ∧ a < n) ∧ (j = 2 → ∃ s : Int, u = .int .i64 s)
theorem HeldΦ.triple {n i : Nat} (hi : i < n) (q : Int) : ∀ (j : Nat) (u : Value), ([.pointer none, .int .i32 i, .int .i64 q] : List Value)[j]? = some u → HeldΦ n (j % 3) u := by
  intro j u h
  rcases (by have := (List.getElem?_eq_some_iff.1 h).1; simp at this; omega : j = 0 ∨ j = 1 ∨ j = 2) with rfl | rfl | rfl
  all_goals
    simp at h
    subst h
    simp [HeldΦ]
  exact ⟨i, rfl, hi⟩
theorem HeldΦ.zero {n : Nat} (hn : 0 < n) : ∀ (j : Nat) (u : Value), (Value.cells (.agg #[.pointer none, .int .i32 0, .int .i64 0]))[j]? = some u → HeldΦ n (j % 3) u := by
  intro j u h
  refine HeldΦ.triple (i := 0) hn 0 j u ?_
  have e : (Value.cells (.agg #[.pointer none, .int .i32 0, .int .i64 0])) = #[.pointer none, .int .i32 0, .int .i64 0] := rfl
  rw [e] at h
  simpa using h
theorem Typed.alloc {N : Nat → Prop} {w : World} {e : TypeId} {sz : Nat} {Φ : Nat → Value → Prop} (h : Typed N w e sz Φ) (c : Array Value) (e' : TypeId) (hc : e' = e → ∀ (j : Nat) (u : Value), c[j]? = some u → Φ (j % sz) u) : Typed N (w.alloc (.cells c e')) e sz Φ := by
  intro k c' f hk hb j u hj
  rcases Nat.lt_or_ge k w.heap.size with hlt | hge
  · rw [Below.heap_alloc w _ k hlt] at hb
    exact h k c' f hk hb j u hj
  · have hke : k = w.heap.size := by
      have := (Array.getElem?_eq_some_iff.1 hb).1
      simp at this
      omega
    subst hke
    rw [heap_alloc_new w (.cells c e')] at hb
    cases hb
    exact hc rfl j u hj
theorem Typed.drew {N : Nat → Prop} {w : World} {e : TypeId} {sz : Nat} {Φ : Nat → Value → Prop} (h : Typed N w e sz Φ) : Typed N w.drew e sz Φ := h
theorem Typed.mapSet {N : Nat → Prop} {w w' : World} {e : TypeId} {sz : Nat} {Φ : Nat → Value → Prop} {m : Nat} (h : Typed N w e sz Φ) (hs : MapSet m w w') (hw : ∃ arr clock, w'.heap[m]? = some (Obj.map arr clock)) : Typed N w' e sz Φ := by
  refine h.kept fun k c f _ hb => ?_
  obtain ⟨arr, clock, hm⟩ := hw
  have : k ≠ m := by
    intro e
    subst e
    rw [hm] at hb
    cases hb
  rw [hs.other k this] at hb
  exact hb

/-- What a push onto a row of waiting blocks leaves. -/
structure Pushed (N : Nat → Prop) (W : List TypeId) (M : List Nat) (nv : Nat) (sl : Value) (n : Nat) (xs : List Value) (i : Nat) (q : Int) (w : World) (v' : Value) (w' : World) : Prop where
  row : Row N w' 111 3 v' (n + 1) (xs ++ [.pointer none, .int .i32 i, .int .i64 q])
  fr : Fr N W M w w'
  typed : Typed N w' 111 3 (HeldΦ nv)
  own : v'.ownBlock = sl.ownBlock ∨ ∃ k, v'.ownBlock = some k ∧ w.heap.size ≤ k

set_option maxHeartbeats 3200000 in
theorem await_ok {N : Nat → Prop} {w : World} {v ma : Nat} {ea : List (ByteArray × Value)} (hN : ∀ k, N k → k < w.heap.size) (hma : ¬ N ma) (hv : w.cell? ⟨v, 10, none⟩ = some (.map (some ma))) (hm : MapAt Value.string w ma ea)
    (id : ByteArray) (i : Nat) (q : Int) {n : Nat} {xs : List Value} (hr : Row N w 111 3 ((get ea id).getD (.slice none 0 0)) n xs) (hn : n < 1000) (hrv : ((get ea id).getD (.slice none 0 0)).ownBlock ≠ some v) {nv : Nat} (hi : i < nv) (hT : Typed N w 111 3 (HeldΦ nv)) :
    Calls Ybaf.prog 42 #[.pointer (some ⟨v, 0, none⟩), .string id, .agg #[.pointer none, .int .i32 i, .int .i64 q]] w fun e w' => e = .returned (.tuple #[]) ∧ ∃ v', MapAt Value.string w' ma (put id v' ea) ∧ Pushed N [111] [ma] nv ((get ea id).getD (.slice none 0 0)) n xs i q w v' w' := by
  obtain ⟨w1, hw1⟩ : ∃ w1, w1 = w.alloc (.cells #[.pointer none, .int .i32 i, .int .i64 q] 111) := ⟨_, rfl⟩
  have hF1 : Fr N [111] [ma] w w1 := by rw [hw1]; exact (Fr.refl N _ _ w).alloc _
  have hT1 : Typed N w1 111 3 (HeldΦ nv) := by rw [hw1]; exact hT.alloc _ _ (fun _ j u hj => HeldΦ.triple hi q j u (by simpa using hj))
  have HT1 : Hid (Typed N w1 111 3 (HeldΦ nv)) := hT1
  have hsz1 : w.heap.size ≤ w1.heap.size := hF1.size
  have HSZ : Hid (w.heap.size ≤ w1.heap.size) := hsz1
  clear hT1 hT hsz1
  have hv1 : w1.cell? ⟨v, 10, none⟩ = some (.map (some ma)) := by rw [hw1]; exact cell_alloc hv _
  have hm1 : MapAt Value.string w1 ma ea := by rw [hw1]; exact hm.kept ((Fr.refl N [] [] w).alloc _) (by simp)
  have b0 : w1.cell? ⟨w.heap.size, 0, none⟩ = some (.pointer none) := by rw [hw1]; simp
  have b1 : w1.cell? ⟨w.heap.size, 1, none⟩ = some (.int .i32 i) := by rw [hw1]; simp
  have b2 : w1.cell? ⟨w.heap.size, 2, none⟩ = some (.int .i64 q) := by rw [hw1]; simp
  have hN1 : ∀ k, N k → k < w1.heap.size := fun k hk => by rw [hw1]; have := hN k hk; simp; omega
  have hr1 : Row N w1 111 3 ((get ea id).getD (.slice none 0 0)) n xs := by rw [hw1]; exact hr.kept ((Fr.refl N [] [] w).alloc _) (by simp)
  have hrb : ((get ea id).getD (.slice none 0 0)).ownBlock ≠ some w.heap.size := fun e => by have := hr.lt _ e; omega
  have hl := run_look (KK.string Ybaf.underlying9) Ybaf.underlying64 zero_held (w := w1.drew) hm1 id
  have hl2 := run_look (KK.string Ybaf.underlying9) Ybaf.underlying64 zero_held (w := (w1.alloc (.cells #[.pointer none, .int .i32 i, .int .i64 q] 111)).drew) (hm1.kept ((Fr.refl N [] [] w1).alloc _).drew (by simp)) id
  generalize hx : (get ea id).getD (.slice none 0 0) = sl at hl hl2 hr hr1 hrv hrb ⊢
  obtain ⟨oa, cap, rfl, _, _⟩ := ownsRow_slice hr.1
  have n1 := World.new_ne w1 ⟨v, 10, none⟩ hv1
  have n2 := World.new_ne w1 _ b0
  have HF1 : Hid (Fr N [111] [ma] w w1) := hF1
  have HR1 : Hid (Row N w1 111 3 (.slice oa n cap) n xs) := hr1
  have HM1 : Hid (MapAt Value.string w1 ma ea) := hm1
  have Hw1 : Hid (w1 = w.alloc (.cells #[.pointer none, .int .i32 i, .int .i64 q] 111)) := hw1
  have HN1 : Hid (∀ k, N k → k < w1.heap.size) := hN1
  clear hF1 hr1 hm1 hw1 hN1 hm hr hv hx
  go_enter Ybaf.func42, Ybaf.ntmps42
  go_wp2_with fail
  rw [← Hw1.out]
  have HSZ2 : Hid (w.heap.size ≤ w1.heap.size) := HSZ
  generalize hB : w.heap.size = B at b0 b1 b2 hrb n2 ⊢
  go_region_held3 (fun w' => w'.cell? ⟨v, 10, none⟩ = some (.map (some ma)) ∧ w'.cell? ⟨B, 0, none⟩ = some (.pointer none) ∧ w'.cell? ⟨B, 1, none⟩ = some (.int .i32 i) ∧ w'.cell? ⟨B, 2, none⟩ = some (.int .i64 q))
    (first
      | (go_split_ands
         exact ⟨hs3.cell (by assumption), hs3.cell (by assumption), hs3.cell (by assumption), hs3.cell (by assumption)⟩)
      | (go_split_ands
         exact ⟨hG.cell (by assumption) hrv, hG.cell (by assumption) hrb, hG.cell (by assumption) hrb, hG.cell (by assumption) hrb⟩)
      | (go_keep; done))
    ((refine step_append_row _ (by rfl) _ _ 66 (by rfl) 111 Ybaf.t111 (.agg #[.pointer none, .int .i32 0, .int .i64 0]) 3 24 Ybaf.underlying66 (by kernel_rfl) hz111 rfl rfl rfl (by decide) (N := N) (fun k hk => by have := HN1.out k hk; simp; omega) (.slice oa n cap) n xs (by rfl)
          (HR1.out.kept ((Fr.refl N [] [] w1).alloc _).drew (by simp)) ⟨w1.heap.size, 0, none⟩ 1 1 [.pointer none, .int .i32 i, .int .i64 q] (by rfl) (by rfl) (news_alloc w1 _ _) (by simp [Value.oneCell']) (by simp [maxLen]; omega) (by omega) ?_
      intro v' w2 hG
      obtain ⟨w3, hrun, hm3, hs3⟩ := run_update (KK.string Ybaf.underlying9) Ybaf.underlying64 (((HM1.out.kept ((Fr.refl N [] [] w1).alloc _).drew (by simp)).kept hG.fr (by simp))) id v'))
  all_goals
    go_wp2_with fail
    go_end0
    have hfa : Fr N [111] [ma] w (w1.alloc (.cells #[.pointer none, .int .i32 i, .int .i64 q] 111)).drew := (HF1.out.alloc _).drew
    have hf2 : Fr N [111] [ma] w w2 := hfa.trans (hG.fr.wider (by simp) (by simp))
    have hf3 : Fr N [111] [ma] w w3 := hf2.mapSet hs3 (by simp) hma
    refine ⟨rfl, v', hm3, hG.row.kept (W := []) (M := [ma]) (hs3.fr [] hma) (by simp), hf3, ?_, ?_⟩
    · refine Typed.mapSet ?_ hs3 ?_
      · exact hG.typed _ ((HT1.out.alloc _ _ (fun _ j u hj => HeldΦ.triple hi q j u (by simpa using hj))).drew) (HeldΦ.triple hi q) (HeldΦ.zero (by omega))
      · obtain ⟨arr, clock, h, _⟩ := hm3
        exact ⟨arr, clock, h⟩
    · rcases hG.at_ with h | h
      · exact .inl h
      · refine .inr ⟨_, h, ?_⟩
        have := HSZ.out
        simp
        omega
end Go.Proofs.YbulkkeiFmt
