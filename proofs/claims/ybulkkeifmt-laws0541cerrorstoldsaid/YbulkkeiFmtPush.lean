/-
  THE READY QUEUE: push.
-/
import Derived.Test.YbulkkeiFmtWake
import Derived.BigRegion
import Derived.BigQuiet
import Derived.Deep.CutRange
namespace Go.Proofs.YbulkkeiFmt
open Go.RowKit Go.Extern.Stop Go.Stop Go.Extern
set_option maxRecDepth 8000
attribute [local go_sem ↓] Go.wp_at_zero Go.wp_at_succ

/-- A row of ready blocks: each cell of the n triples by its place. -/
structure RRow (N : Nat → Prop) (w : World) (g n cap : Nat) (Φ : Nat → Value → Prop) (cur : Array Value) : Prop where
  mine : ¬ N g
  block : w.heap[g]? = some (.cells cur 111 (0, 0))
  le : n ≤ cap
  max : cap ≤ maxLen
  size : cur.size = cap * 3
  ok : ∀ (j : Nat) (u : Value), j < n * 3 → cur[j]? = some u → Φ (j % 3) u
def ReadyAt (N : Nat → Prop) (w : World) (rd : Value) (n : Nat) (Φ : Nat → Value → Prop) : Prop := (rd = .slice none 0 0 ∧ n = 0) ∨ ∃ g cap cur, rd = .slice (some ⟨g, 0, none⟩) n cap ∧ RRow N w g n cap Φ cur

theorem ReadyAt.row {N : Nat → Prop} {w : World} {rd : Value} {n : Nat} {Φ : Nat → Value → Prop} (h : ReadyAt N w rd n Φ) : ∃ xs, Row N w 111 3 rd n xs ∧ ∀ (j : Nat) (u : Value), xs[j]? = some u → Φ (j % 3) u := by
  rcases h with ⟨rfl, rfl⟩ | ⟨g, cap, cur, rfl, h⟩
  · exact ⟨[], Row.nil N w 111 3, by simp⟩
  · refine ⟨cur.toList.take (n * 3), ⟨⟨?_, .inr ⟨g, cap, cur, rfl, Nat.zero_le _, h.block, h.le, h.max, h.size, rfl⟩⟩, ?_⟩, ?_⟩
    · rw [List.length_take, Array.length_toList, h.size]
      have := h.le
      omega
    · intro k hk
      simp [Value.ownBlock] at hk
      subst hk
      exact h.mine
    · intro j u hj
      rw [List.getElem?_take] at hj
      split at hj
      · exact h.ok j u (by assumption) (by simpa using hj)
      · cases hj
theorem ReadyAt.of_row {N : Nat → Prop} {w : World} {rd : Value} {n : Nat} {Φ : Nat → Value → Prop} {xs : List Value} (h : Row N w 111 3 rd n xs) (hx : ∀ (j : Nat) (u : Value), xs[j]? = some u → Φ (j % 3) u) : ReadyAt N w rd n Φ := by
  rcases h.cases with ⟨rfl, rfl, _⟩ | ⟨g, cap, cur, rfl, h1, h2, h3, h4, h5, h6⟩
  · exact .inl ⟨rfl, rfl⟩
  · refine .inr ⟨g, cap, cur, rfl, h1, h2, h3, h4, h5, fun j u hj hu => hx j u ?_⟩
    rw [← h6, List.getElem?_take, if_pos hj]
    simpa using hu
theorem RRow.set {N : Nat → Prop} {w : World} {g n cap : Nat} {Φ : Nat → Value → Prop} {cur : Array Value} (h : RRow N w g n cap Φ cur) (o : Nat) (u : Value) (hu : Φ (o % 3) u) : RRow N (w.setCell ⟨g, o, none⟩ u) g n cap Φ (cur.setIfInBounds o u) where
  mine := h.mine
  block := heap_setCell_same w h.block
  le := h.le
  max := h.max
  size := by simp [h.size]
  ok j x hj hx := by
    by_cases e : o = j
    · subst e
      rw [Array.getElem?_setIfInBounds_self] at hx
      split at hx
      · cases hx; exact hu
      · cases hx
    · rw [Array.getElem?_setIfInBounds_ne (by omega)] at hx
      exact h.ok j x hj hx
/-- The cells of triple i. -/
theorem RRow.get {N : Nat → Prop} {w : World} {g n cap : Nat} {Φ : Nat → Value → Prop} {cur : Array Value} (h : RRow N w g n cap Φ cur) {i : Nat} (hi : i < n) {j : Nat} (hj : j < 3) : ∃ u, w.cell? ⟨g, i * 3 + j, none⟩ = some u ∧ Φ j u := by
  have hlt : i * 3 + j < cur.size := by rw [h.size]; have := h.le; omega
  refine ⟨cur[i * 3 + j], ?_, ?_⟩
  · simp [World.cell?, h.block, hlt]
  · have := h.ok (i * 3 + j) cur[i * 3 + j] (by omega) (by simp [hlt])
    rwa [show (i * 3 + j) % 3 = j by omega] at this
theorem RRow.cell {N : Nat → Prop} {w : World} {g n cap : Nat} {Φ : Nat → Value → Prop} {cur : Array Value} (h : RRow N w g n cap Φ cur) {nv : Nat} (hΦ : ∀ j u, Φ j u → HeldΦ nv j u) {i : Nat} (hi : i < n) :
    ∃ (a : Nat) (q : Int), w.cell? ⟨g, i * 3, none⟩ = some (.pointer none) ∧ w.cell? ⟨g, i * 3 + 1, none⟩ = some (.int .i32 a) ∧ w.cell? ⟨g, i * 3 + 2, none⟩ = some (.int .i64 q) ∧ Φ 0 (.pointer none) ∧ Φ 1 (.int .i32 a) ∧ Φ 2 (.int .i64 q) := by
  obtain ⟨u0, c0, p0⟩ := h.get hi (j := 0) (by omega)
  obtain ⟨u1, c1, p1⟩ := h.get hi (j := 1) (by omega)
  obtain ⟨u2, c2, p2⟩ := h.get hi (j := 2) (by omega)
  have e0 := (hΦ _ _ p0).1 rfl
  obtain ⟨a, e1, _⟩ := (hΦ _ _ p1).2.1 rfl
  obtain ⟨q, e2⟩ := (hΦ _ _ p2).2.2 rfl
  subst e0 e1 e2
  exact ⟨a, q, c0, c1, c2, p0, p1, p2⟩
theorem RRow.free {N : Nat → Prop} {w : World} {g n cap : Nat} {Φ : Nat → Value → Prop} {cur : Array Value} (h : RRow N w g n cap Φ cur) (o : Nat) : w.frozen? ⟨g, o, none⟩ = false := by
  simp [World.frozen?, h.block]

theorem Typed.setIn {N : Nat → Prop} {w : World} {sz : Nat} {e : TypeId} {Φ : Nat → Value → Prop} (h : Typed N w e sz Φ) {k o : Nat} {u : Value} {c : Array Value} {f : Nat × Nat} (hk : w.heap[k]? = some (.cells c e f)) (hu : Φ (o % sz) u) : Typed N (w.setCell ⟨k, o, none⟩ u) e sz Φ := by
  intro j c' f' hj hb i x hi
  by_cases hjk : j = k
  · subst hjk
    rw [heap_setCell_same w hk] at hb
    cases hb
    by_cases e : o = i
    · subst e
      rw [Array.getElem?_setIfInBounds_self] at hi
      split at hi
      · cases hi; exact hu
      · cases hi
    · rw [Array.getElem?_setIfInBounds_ne (by omega)] at hi
      exact h j c _ hj hk i x hi
  · rw [heap_setCell_other w hjk] at hb
    exact h j c' f' hj hb i x hi

/-- Only block g has turned. -/
structure Only (g : Nat) (w w' : World) : Prop where
  os : w'.os = w.os
  tape : w'.tape = w.tape
  output : w'.output = w.output
  size : w'.heap.size = w.heap.size
  other : ∀ k, k ≠ g → w'.heap[k]? = w.heap[k]?
theorem Only.refl (g : Nat) (w : World) : Only g w w := ⟨rfl, rfl, rfl, rfl, fun _ _ => rfl⟩
theorem Only.set {g : Nat} {w w' : World} (h : Only g w w') (o : Nat) (u : Value) : Only g w (w'.setCell ⟨g, o, none⟩ u) := ⟨h.os, h.tape, h.output, by simp [h.size], fun k hk => (heap_setCell_other w' hk).trans (h.other k hk)⟩
theorem Only.drewN {g : Nat} {w w' : World} (h : Only g w w') (n : Nat) : Only g w (w'.drewN n) := ⟨h.os, h.tape, h.output, h.size, h.other⟩
theorem Only.drew {g : Nat} {w w' : World} (h : Only g w w') : Only g w w'.drew := ⟨h.os, h.tape, h.output, h.size, h.other⟩
theorem Only.fr {g : Nat} {w w' : World} (h : Only g w w') {N : Nat → Prop} {W : List TypeId} {M : List Nat} {w0 : World} (h0 : Fr N W M w0 w) {c c' : Array Value} {e : TypeId} {f : Nat × Nat} (h1 : w.heap[g]? = some (.cells c e f)) (h2 : w'.heap[g]? = some (.cells c' e f)) (hs : c'.size = c.size) (he : e ∈ W) (hg : ¬ N g) : Fr N W M w0 w' :=
  h0.block h1 he hg hs h2 (fun j hj => h.other j hj) h.size h.os h.tape h.output

/-- What a push to the ready blocks leaves. -/
structure PushedR (N : Nat → Prop) (v : Nat) (c : Array Value) (Φ : Nat → Value → Prop) (nv n : Nat) (rd : Value) (w : World) (rd' : Value) (w' : World) : Prop where
  ready : ReadyAt N w' rd' (n + 1) Φ
  view : w'.heap[v]? = some (.cells (c.setIfInBounds 13 rd') 70 (0, 0))
  fr : Fr N [70, 111] [] w w'
  typed : Typed N w' 111 3 (HeldΦ nv)
  own : ∀ k, rd'.ownBlock = some k → rd.ownBlock = some k ∨ w.heap.size ≤ k
  other : ∀ k, k < w.heap.size → k ≠ v → rd.ownBlock ≠ some k → w'.heap[k]? = w.heap[k]?

/-- .. and midway, block and capacity named. -/
structure PushMid (N : Nat → Prop) (v : Nat) (c : Array Value) (Φ : Nat → Value → Prop) (nv n : Nat) (rd : Value) (w : World) (g cap : Nat) (w' : World) : Prop where
  cur : ∃ cur, RRow N w' g (n + 1) cap Φ cur
  view : w'.heap[v]? = some (.cells (c.setIfInBounds 13 (.slice (some ⟨g, 0, none⟩) (n + 1) cap)) 70 (0, 0))
  fr : Fr N [70, 111] [] w w'
  typed : Typed N w' 111 3 (HeldΦ nv)
  own : rd.ownBlock = some g ∨ w.heap.size ≤ g
  other : ∀ k, k < w.heap.size → k ≠ v → rd.ownBlock ≠ some k → w'.heap[k]? = w.heap[k]?
theorem PushMid.done {N : Nat → Prop} {v : Nat} {c : Array Value} {Φ : Nat → Value → Prop} {nv n : Nat} {rd : Value} {w : World} {g cap : Nat} {w' : World} (h : PushMid N v c Φ nv n rd w g cap w') : PushedR N v c Φ nv n rd w (.slice (some ⟨g, 0, none⟩) (n + 1) cap) w' := by
  obtain ⟨cur, hc⟩ := h.cur
  refine ⟨.inr ⟨g, cap, cur, rfl, hc⟩, h.view, h.fr, h.typed, ?_, h.other⟩
  intro k hk
  simp [Value.ownBlock] at hk
  subst hk
  exact h.own
theorem PushMid.drewN {N : Nat → Prop} {v : Nat} {c : Array Value} {Φ : Nat → Value → Prop} {nv n : Nat} {rd : Value} {w : World} {g cap : Nat} {w' : World} (h : PushMid N v c Φ nv n rd w g cap w') (m : Nat) : PushMid N v c Φ nv n rd w g cap (w'.drewN m) := by
  obtain ⟨⟨cur, hc⟩, h2, h3, h4, h5, h6⟩ := h
  exact ⟨⟨cur, hc.mine, hc.block, hc.le, hc.max, hc.size, hc.ok⟩, h2, h3.drewN m, h4, h5, h6⟩
theorem PushMid.drew {N : Nat → Prop} {v : Nat} {c : Array Value} {Φ : Nat → Value → Prop} {nv n : Nat} {rd : Value} {w : World} {g cap : Nat} {w' : World} (h : PushMid N v c Φ nv n rd w g cap w') : PushMid N v c Φ nv n rd w g cap w'.drew := by
  obtain ⟨⟨cur, hc⟩, h2, h3, h4, h5, h6⟩ := h
  exact ⟨⟨cur, hc.mine, hc.block, hc.le, hc.max, hc.size, hc.ok⟩, h2, h3.drew, h4, h5, h6⟩
theorem PushMid.set {N : Nat → Prop} {v : Nat} {c : Array Value} {Φ : Nat → Value → Prop} {nv n : Nat} {rd : Value} {w : World} {g cap : Nat} {w' : World} (h : PushMid N v c Φ nv n rd w g cap w') (hΦ : ∀ j u, Φ j u → HeldΦ nv j u) (o : Nat) (u : Value) (hu : Φ (o % 3) u) : PushMid N v c Φ nv n rd w g cap (w'.setCell ⟨g, o, none⟩ u) := by
  obtain ⟨⟨cur, hc⟩, h2, h3, h4, h5, h6⟩ := h
  have hvg : v ≠ g := by
    intro e
    subst e
    rw [hc.block] at h2
    cases h2
  refine ⟨⟨_, hc.set o u hu⟩, (heap_setCell_other w' hvg).trans h2, h3.setCell hc.block (by simp) hc.mine, h4.setIn hc.block (hΦ _ _ hu), h5, fun k hk hkv hkr => ?_⟩
  refine (heap_setCell_other w' ?_).trans (h6 k hk hkv hkr)
  intro e
  subst e
  rcases h5 with h5 | h5
  · exact hkr h5
  · omega

set_option maxHeartbeats 6400000 in
theorem push_ok {N : Nat → Prop} {w : World} {v : Nat} {rd : Value} {n nv : Nat} {Φ : Nat → Value → Prop} {c : Array Value} (hv : w.heap[v]? = some (.cells c 70 (0, 0))) (hv13 : w.cell? ⟨v, 13, none⟩ = some rd) (hN : ∀ k, N k → k < w.heap.size) (hnv : ¬ N v)
    (hr : ReadyAt N w rd n Φ) (hn : n < 1000) (hΦ : ∀ j u, Φ j u → HeldΦ nv j u) (i : Nat) (hi : i < nv) (q : Int) (hq : Φ 0 (.pointer none) ∧ Φ 1 (.int .i32 i) ∧ Φ 2 (.int .i64 q)) (hT : Typed N w 111 3 (HeldΦ nv)) :
    Calls Ybaf.prog 43 #[.pointer (some ⟨v, 13, none⟩), .agg #[.pointer none, .int .i32 i, .int .i64 q]] w fun e w' => e = .returned (.tuple #[]) ∧ ∃ rd', PushedR N v c Φ nv n rd w rd' w' := by
  obtain ⟨w1, hw1⟩ : ∃ w1, w1 = w.alloc (.cells #[.pointer none, .int .i32 i, .int .i64 q] 111) := ⟨_, rfl⟩
  obtain ⟨xs, hrow, hxs⟩ := hr.row
  obtain ⟨oa, cap, rfl, _, _⟩ := ownsRow_slice hrow.1
  have hrb := hrow.ne hv (by decide)
  have hv1 : w1.cell? ⟨v, 13, none⟩ = some (.slice oa n cap) := by rw [hw1]; exact cell_alloc hv13 _
  have b0 : w1.cell? ⟨w.heap.size, 0, none⟩ = some (.pointer none) := by rw [hw1]; simp
  have b1 : w1.cell? ⟨w.heap.size, 1, none⟩ = some (.int .i32 i) := by rw [hw1]; simp
  have b2 : w1.cell? ⟨w.heap.size, 2, none⟩ = some (.int .i64 q) := by rw [hw1]; simp
  have HR1 : Hid (Row N w1 111 3 (.slice oa n cap) n xs) := by rw [hw1]; exact hrow.kept ((Fr.refl N [] [] w).alloc _) (by simp)
  have HN1 : Hid (∀ k, N k → k < w1.heap.size) := fun k hk => by rw [hw1]; have := hN k hk; simp; omega
  have HV1 : Hid (w1.heap[v]? = some (.cells c 70 (0, 0))) := by rw [hw1]; exact (Below.heap_alloc w _ v (Array.getElem?_eq_some_iff.1 hv).1).trans hv
  have HT1 : Hid (Typed N w1 111 3 (HeldΦ nv)) := by rw [hw1]; exact hT.alloc _ _ (fun _ j u hj => HeldΦ.triple hi q j u (by simpa using hj))
  have HF1 : Hid (Fr N [70, 111] [] w w1) := by rw [hw1]; exact (Fr.refl N _ _ w).alloc _
  have HO1 : Hid (∀ k, k < w.heap.size → w1.heap[k]? = w.heap[k]?) := by rw [hw1]; exact fun k hk => Below.heap_alloc w _ k hk
  have Hw1 : Hid (w1 = w.alloc (.cells #[.pointer none, .int .i32 i, .int .i64 q] 111)) := hw1
  have hcs : 13 < c.size := by
    simp [World.cell?, hv] at hv13
    exact (Array.getElem?_eq_some_iff.1 hv13).1
  clear hw1 hr hrow hv13 hv
  go_enter Ybaf.func43, Ybaf.ntmps43
  go_upto_region 1 with fail
  go_cut [] from 6 to 13 (fun wx => ∃ g cap2, PushMid N v c Φ nv n (.slice oa n cap) w g cap2 wx)
  case first =>
    rw [← Hw1.out]
    have z1 := blk hv1
    have z2 := blk b0
    go_region_law
     ((refine step_append_row _ (by rfl) _ _ 67 (by rfl) 111 Ybaf.t111 (.agg #[.pointer none, .int .i32 0, .int .i64 0]) 3 24 Ybaf.underlying67 (by kernel_rfl) hz111 rfl rfl rfl (by decide) (N := N) (fun k hk => by have := HN1.out k hk; simp; omega) (.slice oa n cap) n xs (by rfl)
            (HR1.out.kept ((Fr.refl N [] [] w1).alloc _).drew (by simp)) ⟨w1.heap.size, 0, none⟩ 1 1 [.pointer none, .int .i32 i, .int .i64 q] (by rfl) (by rfl) (news_alloc w1 _ _) (by simp [Value.oneCell']) (by simp [maxLen]; omega) (by omega) ?_
       intro v' w2 hG
       obtain ⟨o2, cap2, rfl, _, _⟩ := ownsRow_slice hG.row.1
       have hva : w2.heap[v]? = some (.cells c 70 (0, 0)) := hG.fr.keepC v _ _ _ ((((Fr.refl N [] [] w1).alloc _).drew).keepC v _ _ _ HV1.out (by simp)) (by decide)
       have u13 := hG.cell (b := v) (o := 13) (u := .slice oa n cap) (cell_alloc hv1 _) hrb
       have f13 : w2.frozen? ⟨v, 13, none⟩ = false := by simp [World.frozen?, hva]))
    all_goals
      obtain ⟨g, rfl⟩ : ∃ g, o2 = some ⟨g, 0, none⟩ := by
        obtain ⟨g, cap3, _, e, _⟩ := hG.row.form (by omega)
        cases e
        exact ⟨g, rfl⟩
      have hR3 : ReadyAt N (w2.setCell ⟨v, 13, none⟩ (.slice (some ⟨g, 0, none⟩) (n + 1) cap2)) (.slice (some ⟨g, 0, none⟩) (n + 1) cap2) (n + 1) Φ := by
        refine ReadyAt.of_row (hG.row.setCell (hG.row.ne hva (by decide))) ?_
        intro j u hj
        rw [List.getElem?_append] at hj
        split at hj
        · exact hxs j u hj
        · have hlx := HR1.out.len
          rcases (by have := (List.getElem?_eq_some_iff.1 hj).1; simp at this; omega : j = n * 3 ∨ j = n * 3 + 1 ∨ j = n * 3 + 2) with rfl | rfl | rfl
          · rw [show n * 3 - xs.length = 0 by omega] at hj; simp at hj; subst hj; rw [show n * 3 % 3 = 0 by omega]; exact hq.1
          · rw [show n * 3 + 1 - xs.length = 1 by omega] at hj; simp at hj; subst hj; rw [show (n * 3 + 1) % 3 = 1 by omega]; exact hq.2.1
          · rw [show n * 3 + 2 - xs.length = 2 by omega] at hj; simp at hj; subst hj; rw [show (n * 3 + 2) % 3 = 2 by omega]; exact hq.2.2
      obtain ⟨cur, hcur⟩ : ∃ cur, RRow N (w2.setCell ⟨v, 13, none⟩ (.slice (some ⟨g, 0, none⟩) (n + 1) cap2)) g (n + 1) cap2 Φ cur := by
        rcases hR3 with ⟨e, _⟩ | ⟨g', cap', cur, e, h⟩
        · cases e
        · cases e; exact ⟨cur, h⟩
      have hT2 : Typed N w2 111 3 (HeldΦ nv) := hG.typed _ ((HT1.out.alloc _ _ (fun _ j u hj => HeldΦ.triple hi q j u (by simpa using hj))).drew) (HeldΦ.triple hi q) (HeldΦ.zero (by omega))
      have hF2 : Fr N [70, 111] [] w w2 := ((HF1.out.alloc _).drew).trans (hG.fr.wider (by simp) (by simp))
      have hsz := HF1.out.size
      go_wp2_with fail
      go_meet
      refine ⟨g, cap2, ⟨cur, hcur⟩, heap_setCell_same w2 hva, hF2.setCell hva (by simp) hnv, hT2.set hva (by decide), ?_, ?_⟩
      · rcases hG.at_ with h | h
        · exact .inl (by rw [← h]; rfl)
        · right
          simp [Value.ownBlock] at h
          omega
      · intro k hk hkv hkr
        rw [heap_setCell_other w2 hkv, hG.other k (by simp; omega) (Ne.symm hkr)]
        have e1 : ((w1.alloc (.cells #[.pointer none, .int .i32 i, .int .i64 q] 111)).drew).heap[k]? = w1.heap[k]? := Below.heap_alloc w1 _ k (by omega)
        rw [e1]
        exact HO1.out k hk
  case rest =>
    obtain ⟨g, cap2, hM⟩ := hcut
    clear hv1 b0 b1 b2 HR1 HN1 HV1 HT1 HF1 HO1 Hw1 hxs hT hN hrb
    have hcap : n + 1 ≤ cap2 ∧ cap2 ≤ 9223372036854775807 := by
      obtain ⟨cur, hc⟩ := hM.cur
      exact ⟨hc.le, by simpa [maxLen] using hc.max⟩
    obtain ⟨hcap1, hcap2⟩ := hcap
    have c13 : wc.cell? ⟨v, 13, none⟩ = some (.slice (some ⟨g, 0, none⟩) (n + 1) cap2) := by simp [World.cell?, hM.view, hcs]
    have HM : Hid (PushMid N v c Φ nv n (.slice oa n cap) w g cap2 wc) := hM
    clear hM
    go_wp2_with fail
    go_loopw [4] (fun s4 wr => ∃ j : Nat, s4 = .int .i64 j ∧ j ≤ n ∧ PushMid N v c Φ nv n (.slice oa n cap) w g cap2 wr) (fun s4 _ => (intOf s4).toNat)
    case atStart => exact ⟨n, by simp, Nat.le_refl _, HM.out⟩
    case round =>
      clear HM c13
      obtain ⟨j, rfl, hj, hM⟩ := hrel
      by_cases hj0 : j = 0
      · subst hj0
        have HM : Hid (PushMid N v c Φ nv n (.slice oa n cap) w g cap2 wr) := hM
        clear hM
        go_wp2_with fail
        go_end0
        exact ⟨rfl, _, HM.out.done⟩
      · have hjp : (0 : Int) < j := by omega
        have c13 : wr.cell? ⟨v, 13, none⟩ = some (.slice (some ⟨g, 0, none⟩) (n + 1) cap2) := by simp [World.cell?, hM.view, hcs]
        have hdiv : Int.tdiv ((j : Int) - 1) 2 = ((j - 1) / 2 : Nat) := by
          rw [show ((j : Int) - 1) = ((j - 1 : Nat) : Int) by omega]
          rfl
        obtain ⟨p, hp⟩ : ∃ p, p = (j - 1) / 2 := ⟨_, rfl⟩
        rw [← hp] at hdiv
        have hpj : p < j := by omega
        clear hp
        obtain ⟨cur, hc⟩ := hM.cur
        obtain ⟨a1, q1, d0, d1, d2, p0, p1, p2⟩ := hc.cell hΦ (i := j) (by omega)
        obtain ⟨a2, q2, e0, e1, e2, r0, r1, r2⟩ := hc.cell hΦ (i := p) (by omega)
        have fg := hc.free
        clear hc
        have HM : Hid (PushMid N v c Φ nv n (.slice oa n cap) w g cap2 wr) := hM
        clear hM
        go_wp2_with fail
        go_quiet (fail)
        generalize hwq : wr.drewN nq = wq
        have d0 : wq.cell? ⟨g, j * 3, none⟩ = some (.pointer none) := by rw [← hwq]; exact d0
        have d1 : wq.cell? ⟨g, j * 3 + 1, none⟩ = some (.int .i32 a1) := by rw [← hwq]; exact d1
        have d2 : wq.cell? ⟨g, j * 3 + 2, none⟩ = some (.int .i64 q1) := by rw [← hwq]; exact d2
        have e0 : wq.cell? ⟨g, p * 3, none⟩ = some (.pointer none) := by rw [← hwq]; exact e0
        have e1 : wq.cell? ⟨g, p * 3 + 1, none⟩ = some (.int .i32 a2) := by rw [← hwq]; exact e1
        have e2 : wq.cell? ⟨g, p * 3 + 2, none⟩ = some (.int .i64 q2) := by rw [← hwq]; exact e2
        have c13 : wq.cell? ⟨v, 13, none⟩ = some (.slice (some ⟨g, 0, none⟩) (n + 1) cap2) := by rw [← hwq]; exact c13
        have fg : ∀ o, wq.frozen? ⟨g, o, none⟩ = false := by rw [← hwq]; exact fg
        have f0 := fg (j * 3)
        have f1 := fg (j * 3 + 1)
        have f2 := fg (j * 3 + 2)
        have f3 := fg (p * 3)
        have f4 := fg (p * 3 + 1)
        have f5 := fg (p * 3 + 2)
        have HMq : Hid (PushMid N v c Φ nv n (.slice oa n cap) w g cap2 wq) := by rw [← hwq]; exact HM.out.drewN _
        clear hwq fg
        go_wp2_with fail
        · go_end0
          exact ⟨rfl, _, HMq.out.done⟩
        · go_region
          have hM6 := (((((((HMq.out.set hΦ (p * 3) (.pointer none) (by rw [show p * 3 % 3 = 0 by omega]; exact p0)).set hΦ (p * 3 + 1) (.int .i32 a1) (by rw [show (p * 3 + 1) % 3 = 1 by omega]; exact p1)).set hΦ (p * 3 + 2) (.int .i64 q1) (by rw [show (p * 3 + 2) % 3 = 2 by omega]; exact p2)).set hΦ
            (j * 3) (.pointer none) (by rw [show j * 3 % 3 = 0 by omega]; exact r0)).set hΦ (j * 3 + 1) (.int .i32 a2) (by rw [show (j * 3 + 1) % 3 = 1 by omega]; exact r1)).set hΦ (j * 3 + 2) (.int .i64 q2) (by rw [show (j * 3 + 2) % 3 = 2 by omega]; exact r2))).drew
          have HM6 := hM6
          have HM7 : Hid (PushMid N v c Φ nv n (.slice oa n cap) w g cap2 _) := HM6
          clear hM6 HM6
          go_wp2_with fail
          go_roundw
          case rel => exact ⟨p, rfl, by omega, HM7.out⟩
          case measure => simp [intOf]; omega
end Go.Proofs.YbulkkeiFmt
