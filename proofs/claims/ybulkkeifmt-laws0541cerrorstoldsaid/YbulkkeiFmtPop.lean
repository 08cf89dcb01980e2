/-
  THE READY QUEUE: pop.
-/
import Derived.Test.YbulkkeiFmtPush
namespace Go.Proofs.YbulkkeiFmt
open Go.RowKit Go.Extern.Stop Go.Stop Go.Extern
set_option maxRecDepth 8000
attribute [local go_sem ↓] Go.wp_at_zero Go.wp_at_succ

theorem idx0 (x y : Int) (w : World) : (Instr.index 137 (.agg #[.int .i64 x, .int .i64 y]) (.int .i64 0)).run Ybaf.prog w = .ok (.int .i64 x) w := by kernel_rfl
theorem idx1 (x y : Int) (w : World) : (Instr.index 137 (.agg #[.int .i64 x, .int .i64 y]) (.int .i64 1)).run Ybaf.prog w = .ok (.int .i64 y) w := by kernel_rfl
attribute [local go_sem] idx0 idx1

/-- What a pop leaves, but for the view's own block; midway too. -/
structure PopMid (N : Nat → Prop) (v : Nat) (c' : Array Value) (Φ : Nat → Value → Prop) (nv n : Nat) (w : World) (g cap : Nat) (w' : World) : Prop where
  cur : ∃ cur, RRow N w' g n cap Φ cur
  view : w'.heap[v]? = some (.cells c' 70 (0, 0))
  fr : Fr N [70, 111] [] w w'
  typed : Typed N w' 111 3 (HeldΦ nv)
  other : ∀ k, k < w.heap.size → k ≠ v → k ≠ g → w'.heap[k]? = w.heap[k]?
section
variable {N : Nat → Prop} {v : Nat} {c' : Array Value} {Φ : Nat → Value → Prop} {nv n : Nat} {w : World} {g cap : Nat} {w' : World}
theorem PopMid.drewN (h : PopMid N v c' Φ nv n w g cap w') (m : Nat) : PopMid N v c' Φ nv n w g cap (w'.drewN m) := by
  obtain ⟨⟨cur, hc⟩, h2, h3, h4, h6⟩ := h
  exact ⟨⟨cur, hc.mine, hc.block, hc.le, hc.max, hc.size, hc.ok⟩, h2, h3.drewN m, h4, h6⟩
theorem PopMid.drew (h : PopMid N v c' Φ nv n w g cap w') : PopMid N v c' Φ nv n w g cap w'.drew := by
  obtain ⟨⟨cur, hc⟩, h2, h3, h4, h6⟩ := h
  exact ⟨⟨cur, hc.mine, hc.block, hc.le, hc.max, hc.size, hc.ok⟩, h2, h3.drew, h4, h6⟩
theorem PopMid.vg (h : PopMid N v c' Φ nv n w g cap w') : v ≠ g := by
  obtain ⟨cur, hc⟩ := h.cur
  intro e
  subst e
  have := h.view
  rw [hc.block] at this
  cases this
theorem PopMid.set (h : PopMid N v c' Φ nv n w g cap w') (hΦ : ∀ j u, Φ j u → HeldΦ nv j u) (o : Nat) (u : Value) (hu : Φ (o % 3) u) : PopMid N v c' Φ nv n w g cap (w'.setCell ⟨g, o, none⟩ u) := by
  have hvg := h.vg
  obtain ⟨⟨cur, hc⟩, h2, h3, h4, h6⟩ := h
  exact ⟨⟨_, hc.set o u hu⟩, (heap_setCell_other w' hvg).trans h2, h3.setCell hc.block (by simp) hc.mine, h4.setIn hc.block (hΦ _ _ hu), fun k hk hkv hkg => (heap_setCell_other w' hkg).trans (h6 k hk hkv hkg)⟩
theorem PopMid.alloc (h : PopMid N v c' Φ nv n w g cap w') (cs : Array Value) (hcs : ∀ (j : Nat) (u : Value), cs[j]? = some u → HeldΦ nv (j % 3) u) : PopMid N v c' Φ nv n w g cap (w'.alloc (.cells cs 111)) := by
  obtain ⟨⟨cur, hc⟩, h2, h3, h4, h6⟩ := h
  refine ⟨⟨cur, hc.mine, (Below.heap_alloc w' _ g (Array.getElem?_eq_some_iff.1 hc.block).1).trans hc.block, hc.le, hc.max, hc.size, hc.ok⟩, (Below.heap_alloc w' _ v (Array.getElem?_eq_some_iff.1 h2).1).trans h2, h3.alloc _, h4.alloc _ _ (fun _ => hcs), fun k hk hkv hkg => (Below.heap_alloc w' _ k ?_).trans (h6 k hk hkv hkg)⟩
  have := h3.size
  omega
/-- A store into a block of our own making. -/
theorem PopMid.setNew (h : PopMid N v c' Φ nv n w g cap w') {k : Nat} {cs : Array Value} (hk : w'.heap[k]? = some (.cells cs 111 (0, 0))) (hnew : w.heap.size ≤ k) (hkg : k ≠ g) (hN : ∀ k, N k → k < w.heap.size) (o : Nat) (u : Value) (hu : HeldΦ nv (o % 3) u) : PopMid N v c' Φ nv n w g cap (w'.setCell ⟨k, o, none⟩ u) := by
  obtain ⟨⟨cur, hc⟩, h2, h3, h4, h6⟩ := h
  have hkv : v ≠ k := by
    intro e
    subst e
    rw [hk] at h2
    cases h2
  have hNk : ¬ N k := fun hn => by have := hN k hn; omega
  refine ⟨⟨cur, hc.mine, (heap_setCell_other w' (Ne.symm hkg)).trans hc.block, hc.le, hc.max, hc.size, hc.ok⟩, (heap_setCell_other w' hkv).trans h2, h3.setCell hk (by simp) hNk, h4.setIn hk hu, fun j hj hjv hjg => (heap_setCell_other w' ?_).trans (h6 j hj hjv hjg)⟩
  omega
theorem PopMid.setV (h : PopMid N v c' Φ nv n w g cap w') (hnv : ¬ N v) (o : Nat) (u : Value) : PopMid N v (c'.setIfInBounds o u) Φ nv n w g cap (w'.setCell ⟨v, o, none⟩ u) := by
  have hvg := h.vg
  obtain ⟨⟨cur, hc⟩, h2, h3, h4, h6⟩ := h
  exact ⟨⟨cur, hc.mine, (heap_setCell_other w' (Ne.symm hvg)).trans hc.block, hc.le, hc.max, hc.size, hc.ok⟩, heap_setCell_same w' h2, h3.setCell h2 (by simp) hnv, h4.set h2 (by decide), fun k hk hkv hkg => (heap_setCell_other w' hkv).trans (h6 k hk hkv hkg)⟩
end

/-- The two variables of pop: the first block, and what is handed back. -/
structure PopVars (R : Nat) (a1 : Nat) (q1 : Int) (w' : World) : Prop where
  res : w'.heap[R]? = some (.cells #[.pointer none, .int .i32 0, .int .i64 0] 111 (0, 0))
  fst : w'.heap[R + 1]? = some (.cells #[.pointer none, .int .i32 a1, .int .i64 q1] 111 (0, 0))
theorem PopVars.set {R a1 : Nat} {q1 : Int} {w' : World} (h : PopVars R a1 q1 w') {g : Nat} (hg : g < R) (o : Nat) (u : Value) : PopVars R a1 q1 (w'.setCell ⟨g, o, none⟩ u) :=
  ⟨(heap_setCell_other w' (by omega)).trans h.res, (heap_setCell_other w' (by omega)).trans h.fst⟩

theorem PopVars.drew {R a1 : Nat} {q1 : Int} {w' : World} (h : PopVars R a1 q1 w') : PopVars R a1 q1 w'.drew := ⟨h.res, h.fst⟩

set_option maxHeartbeats 6400000 in
theorem pop_ok {N : Nat → Prop} {w : World} {v : Nat} {n nv g cap : Nat} {Φ : Nat → Value → Prop} {c : Array Value} (hv : w.heap[v]? = some (.cells c 70 (0, 0))) (hv13 : w.cell? ⟨v, 13, none⟩ = some (.slice (some ⟨g, 0, none⟩) n cap)) (hN : ∀ k, N k → k < w.heap.size) (hnv : ¬ N v)
    (hr : ∃ cur, RRow N w g n cap Φ cur) (hn : n < 1000) (hn0 : 0 < n) (hΦ : ∀ j u, Φ j u → HeldΦ nv j u) (hT : Typed N w 111 3 (HeldΦ nv)) (hnv0 : 0 < nv) :
    Calls Ybaf.prog 39 #[.pointer (some ⟨v, 13, none⟩)] w fun e w' => ∃ (a : Nat) (q : Int), e = .returned (.agg #[.pointer none, .int .i32 a, .int .i64 q]) ∧ Φ 1 (.int .i32 a) ∧ PopMid N v (c.setIfInBounds 13 (.slice (some ⟨g, 0, none⟩) (n - 1) cap)) Φ nv n w g cap w' := by
  obtain ⟨cur, hr⟩ := hr
  obtain ⟨a1, q1, d0, d1, d2, p0, p1, p2⟩ := hr.cell hΦ (i := 0) hn0
  obtain ⟨a2, q2, e0, e1, e2, r0, r1, r2⟩ := hr.cell hΦ (i := n - 1) (by omega)
  simp only [Nat.zero_mul, Nat.zero_add] at d0 d1 d2
  have hcap1 := hr.le
  have hcap2 : cap ≤ 9223372036854775807 := by simpa [maxLen] using hr.max
  have zv := blk hv13
  have zg := blk d0
  have f0 := hr.free 0
  have f1 := hr.free 1
  have f2 := hr.free 2
  have f13 : w.frozen? ⟨v, 13, none⟩ = false := by simp [World.frozen?, hv]
  have hvg : v ≠ g := by
    intro e
    subst e
    rw [hr.block] at hv
    cases hv
  have hlast : ((n : Int) - 1) = ((n - 1 : Nat) : Int) := by omega
  go_enter Ybaf.func39, Ybaf.ntmps39
  go_wp2_with fail
  have hM0 : PopMid N v c Φ nv n w g cap w := ⟨⟨cur, hr⟩, hv, Fr.refl .., hT, fun _ _ _ _ => rfl⟩
  have hM1 := ((((((hM0.set hΦ 0 (.pointer none) r0).set hΦ 1 (.int .i32 a2) r1).set hΦ 2 (.int .i64 q2) r2).setV hnv 13 (.slice (some ⟨g, 0, none⟩) (n - 1) cap)).alloc #[.pointer none, .int .i32 0, .int .i64 0] (fun j u hj => HeldΦ.triple (i := 0) hnv0 0 j u (by simpa using hj))).alloc #[.pointer none, .int .i32 a1, .int .i64 q1]
    (fun j u hj => by
      obtain ⟨a, e, ha⟩ := (hΦ 1 _ p1).2.1 rfl
      cases e
      exact HeldΦ.triple ha q1 j u (by simpa using hj)))
  have hP1 : PopVars w.heap.size a1 q1 ((((((w.setCell ⟨g, 0, none⟩ (.pointer none)).setCell ⟨g, 1, none⟩ (.int .i32 a2)).setCell ⟨g, 2, none⟩ (.int .i64 q2)).setCell ⟨v, 13, none⟩ (.slice (some ⟨g, 0, none⟩) (n - 1) cap)).alloc (.cells #[.pointer none, .int .i32 0, .int .i64 0] 111)).alloc (.cells #[.pointer none, .int .i32 a1, .int .i64 q1] 111)) := by
    constructor
    · rw [Below.heap_alloc _ _ _ (by simp)]
      have := heap_alloc_new ((((w.setCell ⟨g, 0, none⟩ (.pointer none)).setCell ⟨g, 1, none⟩ (.int .i32 a2)).setCell ⟨g, 2, none⟩ (.int .i64 q2)).setCell ⟨v, 13, none⟩ (.slice (some ⟨g, 0, none⟩) (n - 1) cap)) (.cells #[.pointer none, .int .i32 0, .int .i64 0] 111)
      simpa using this
    · have := heap_alloc_new (((((w.setCell ⟨g, 0, none⟩ (.pointer none)).setCell ⟨g, 1, none⟩ (.int .i32 a2)).setCell ⟨g, 2, none⟩ (.int .i64 q2)).setCell ⟨v, 13, none⟩ (.slice (some ⟨g, 0, none⟩) (n - 1) cap)).alloc (.cells #[.pointer none, .int .i32 0, .int .i64 0] 111)) (.cells #[.pointer none, .int .i32 a1, .int .i64 q1] 111)
      simpa using this
  generalize (((((w.setCell ⟨g, 0, none⟩ (.pointer none)).setCell ⟨g, 1, none⟩ (.int .i32 a2)).setCell ⟨g, 2, none⟩ (.int .i64 q2)).setCell ⟨v, 13, none⟩ (.slice (some ⟨g, 0, none⟩) (n - 1) cap)).alloc (.cells #[.pointer none, .int .i32 0, .int .i64 0] 111)).alloc (.cells #[.pointer none, .int .i32 a1, .int .i64 q1] 111) = w1 at hM1 hP1 ⊢
  have HΦ1 : Hid (Φ 1 (.int .i32 a1)) := p1
  clear hM0 hr hv hv13 d0 d1 d2 e0 e1 e2 f0 f1 f2 f13 p0 p1 p2 r0 r1 r2 hT
  obtain ⟨c', hc'⟩ : ∃ c', c' = c.setIfInBounds 13 (.slice (some ⟨g, 0, none⟩) (n - 1) cap) := ⟨_, rfl⟩
  rw [← hc'] at hM1
  obtain ⟨L, hL⟩ : ∃ L, n = L + 1 := ⟨n - 1, by omega⟩
  subst hL
  simp only [Nat.add_sub_cancel] at hlast hc' ⊢
  have HC : Hid (c' = c.setIfInBounds 13 (.slice (some ⟨g, 0, none⟩) L cap)) := hc'
  clear hc'
  push_cast
  go_loopw [6] (fun s6 wr => ∃ i : Nat, s6 = .int .i64 i ∧ (i = 0 ∨ i < L) ∧ PopMid N v c' Φ nv (L + 1) w g cap wr ∧ PopVars w.heap.size a1 q1 wr) (fun s6 _ => L - (intOf s6).toNat)
  case atStart => exact ⟨0, rfl, .inl rfl, hM1, hP1⟩
  case round =>
    clear hM1 hP1
    obtain ⟨i, rfl, hi, hM, hP⟩ := hrel
    have HM : Hid (PopMid N v c' Φ nv (L + 1) w g cap wr) := hM
    have HP : Hid (PopVars w.heap.size a1 q1 wr) := hP
    clear hM hP
    have hi1000 : (i : Int) < 1000 := by omega
    go_wp2_with fail
    go_loopw [7, 38] (fun s7 s38 wr => ∃ k m : Nat, s38 = .int .i64 k ∧ k ≤ 2 ∧ s7 = .int .i64 m ∧ (m = i ∨ (i < m ∧ m < L)) ∧ PopMid N v c' Φ nv (L + 1) w g cap wr ∧ PopVars w.heap.size a1 q1 wr) (fun _ s38 _ => 2 - (intOf s38).toNat)
    case atStart => exact ⟨0, i, rfl, by omega, rfl, .inl rfl, HM.out, HP.out⟩
    case round =>
      clear HM HP
      obtain ⟨k, m, rfl, hk, rfl, hm, hM, hP⟩ := hrel
      rcases (by omega : k < 2 ∨ k = 2) with hk2 | rfl
      · obtain ⟨x, hx⟩ : ∃ x : Nat, x = 2 * i + 1 + k := ⟨_, rfl⟩
        have hix : i < x := by omega
        obtain ⟨curm, hcm⟩ := hM.cur
        obtain ⟨b1, s1, m0, m1, m2, _, _, _⟩ := hcm.cell hΦ (i := m) (by omega)
        have HM : Hid (PopMid N v c' Φ nv (L + 1) w g cap wr) := hM
        have HP : Hid (PopVars w.heap.size a1 q1 wr) := hP
        clear hM hP
        by_cases hxL : x < L
        · obtain ⟨b2, s2, n0, n1, n2, _, _, _⟩ := hcm.cell hΦ (i := x) (by omega)
          clear hcm
          have hd : decide ((x : Int) < (L : Int)) = true := by simp; omega
          have hd2 : decide ((x : Nat) < (L : Nat)) = true := by simp; omega
          rcases (by omega : k = 0 ∨ k = 1) with rfl | rfl
          · have Hxe : Hid (2 * (i : Int) + 1 = (x : Int)) := by show 2 * (i : Int) + 1 = (x : Int); omega
            clear hx
            go_wp2_with fail
            rw [Hxe.out]
            go_quiet (fail)
            go_wp2_with fail
            · rw [← Hxe.out]
              go_roundw
              case rel => exact ⟨1, 2 * i + 1, rfl, by omega, by simp, .inr ⟨by omega, by have := Hxe.out; omega⟩, HM.out.drewN _, HP.out.res, HP.out.fst⟩
              case measure => simp [intOf]
            · rw [← Hxe.out]
              go_roundw
              case rel => exact ⟨1, m, rfl, by omega, rfl, hm, HM.out.drewN _, HP.out.res, HP.out.fst⟩
              case measure => simp [intOf]
          · have Hxe : Hid (2 * (i : Int) + 2 = (x : Int)) := by show 2 * (i : Int) + 2 = (x : Int); omega
            clear hx
            go_wp2_with fail
            rw [Hxe.out]
            go_quiet (fail)
            go_wp2_with fail
            · rw [← Hxe.out]
              go_roundw
              case rel => exact ⟨2, 2 * i + 2, rfl, by omega, by simp, .inr ⟨by omega, by have := Hxe.out; omega⟩, HM.out.drewN _, HP.out.res, HP.out.fst⟩
              case measure => simp [intOf]
            · rw [← Hxe.out]
              go_roundw
              case rel => exact ⟨2, m, rfl, by omega, rfl, hm, HM.out.drewN _, HP.out.res, HP.out.fst⟩
              case measure => simp [intOf]
        · clear hcm
          have hd : decide ((x : Int) < (L : Int)) = false := by simp; omega
          have hd2 : decide ((x : Nat) < (L : Nat)) = false := by simp; omega
          rcases (by omega : k = 0 ∨ k = 1) with rfl | rfl
          · have Hxe : Hid (2 * (i : Int) + 1 = (x : Int)) := by show 2 * (i : Int) + 1 = (x : Int); omega
            clear hx
            go_wp2_with fail
            rw [Hxe.out]
            go_quiet (fail)
            go_wp2_with fail
            rw [← Hxe.out]
            go_roundw
            case rel => exact ⟨1, m, rfl, by omega, rfl, hm, HM.out.drewN _, HP.out.res, HP.out.fst⟩
            case measure => simp [intOf]
          · have Hxe : Hid (2 * (i : Int) + 2 = (x : Int)) := by show 2 * (i : Int) + 2 = (x : Int); omega
            clear hx
            go_wp2_with fail
            rw [Hxe.out]
            go_quiet (fail)
            go_wp2_with fail
            rw [← Hxe.out]
            go_roundw
            case rel => exact ⟨2, m, rfl, by omega, rfl, hm, HM.out.drewN _, HP.out.res, HP.out.fst⟩
            case measure => simp [intOf]
      · have HM : Hid (PopMid N v c' Φ nv (L + 1) w g cap wr) := hM
        have HP : Hid (PopVars w.heap.size a1 q1 wr) := hP
        have t0 : wr.cell? ⟨w.heap.size + 1, 0, none⟩ = some (.pointer none) := by simp [World.cell?, hP.fst]
        have t1 : wr.cell? ⟨w.heap.size + 1, 1, none⟩ = some (.int .i32 a1) := by simp [World.cell?, hP.fst]
        have t2 : wr.cell? ⟨w.heap.size + 1, 2, none⟩ = some (.int .i64 q1) := by simp [World.cell?, hP.fst]
        have t3 : wr.cell? ⟨w.heap.size, 0, none⟩ = some (.pointer none) := by simp [World.cell?, hP.res]
        have t4 : wr.cell? ⟨w.heap.size, 1, none⟩ = some (.int .i32 0) := by simp [World.cell?, hP.res]
        have t5 : wr.cell? ⟨w.heap.size, 2, none⟩ = some (.int .i64 0) := by simp [World.cell?, hP.res]
        have t6 : wr.frozen? ⟨w.heap.size, 0, none⟩ = false := by simp [World.frozen?, hP.res]
        have t7 : wr.frozen? ⟨w.heap.size, 1, none⟩ = false := by simp [World.frozen?, hP.res]
        have t8 : wr.frozen? ⟨w.heap.size, 2, none⟩ = false := by simp [World.frozen?, hP.res]
        by_cases hmi : m = i
        · subst hmi
          clear hM hP
          go_wp2_with fail
          have hM9 := (((HM.out.setNew HP.out.res (Nat.le_refl _) (by omega) hN 0 (.pointer none) ⟨fun _ => rfl, by simp, by simp⟩).setNew (heap_setCell_same wr HP.out.res) (Nat.le_refl _) (by omega) hN 1 (.int .i32 a1) (hΦ 1 _ HΦ1.out)).setNew (heap_setCell_same _ (heap_setCell_same wr HP.out.res)) (Nat.le_refl _) (by omega) hN 2 (.int .i64 q1) ⟨by simp, by simp, fun _ => ⟨_, rfl⟩⟩)
          refine bodyPost_ret (v := .agg #[.pointer none, .int .i32 a1, .int .i64 q1]) ?_ rfl ⟨a1, ⟨q1, rfl⟩, HΦ1.out, by rw [← HC.out]; exact hM9⟩
          simp [results]
          go_simp
        · have hne : ((m : Int) == (i : Int)) = false := by
            rw [beq_eq_false_iff_ne]
            omega
          obtain ⟨curm, hcm⟩ := hM.cur
          obtain ⟨b1, s1, m0, m1, m2, v0, v1, v2⟩ := hcm.cell hΦ (i := m) (by omega)
          obtain ⟨b2, s2, n0, n1, n2, x0, x1, x2⟩ := hcm.cell hΦ (i := i) (by omega)
          have fg := hcm.free
          have f0 := fg (m * 3)
          have f1 := fg (m * 3 + 1)
          have f2 := fg (m * 3 + 2)
          have f3 := fg (i * 3)
          have f4 := fg (i * 3 + 1)
          have f5 := fg (i * 3 + 2)
          have him : i < m := by omega
          have hmL : m < L := by omega
          have hb1 : (i : Int) < (L : Int) + 1 := by omega
          have hb2 : (m : Int) < (L : Int) + 1 := by omega
          clear hM hP hcm fg t0 t1 t2 t3 t4 t5 t6 t7 t8 hm hmi hi hk
          go_wp2_with fail
          go_region_law (fail)
          all_goals
            have hM6 := (((((((HM.out.set hΦ (m * 3) (.pointer none) (by rw [show m * 3 % 3 = 0 by omega]; exact x0)).set hΦ (m * 3 + 1) (.int .i32 b2) (by rw [show (m * 3 + 1) % 3 = 1 by omega]; exact x1)).set hΦ (m * 3 + 2) (.int .i64 s2) (by rw [show (m * 3 + 2) % 3 = 2 by omega]; exact x2)).set hΦ
              (i * 3) (.pointer none) (by rw [show i * 3 % 3 = 0 by omega]; exact v0)).set hΦ (i * 3 + 1) (.int .i32 b1) (by rw [show (i * 3 + 1) % 3 = 1 by omega]; exact v1)).set hΦ (i * 3 + 2) (.int .i64 s1) (by rw [show (i * 3 + 2) % 3 = 2 by omega]; exact v2))).drew
            have hP6 := ((((((HP.out.set zg (m * 3) (.pointer none)).set zg (m * 3 + 1) (.int .i32 b2)).set zg (m * 3 + 2) (.int .i64 s2)).set zg (i * 3) (.pointer none)).set zg (i * 3 + 1) (.int .i32 b1)).set zg (i * 3 + 2) (.int .i64 s1)).drew
            generalize ((((((wr.setCell ⟨g, m * 3, none⟩ (.pointer none)).setCell ⟨g, m * 3 + 1, none⟩ (.int .i32 b2)).setCell ⟨g, m * 3 + 2, none⟩ (.int .i64 s2)).setCell ⟨g, i * 3, none⟩ (.pointer none)).setCell ⟨g, i * 3 + 1, none⟩ (.int .i32 b1)).setCell ⟨g, i * 3 + 2, none⟩ (.int .i64 s1)).drew = w9 at hM6 hP6 ⊢
            have HM7 : Hid (PopMid N v c' Φ nv (L + 1) w g cap w9) := hM6
            have HP7 : Hid (PopVars w.heap.size a1 q1 w9) := hP6
            clear hM6 hP6 m0 m1 m2 n0 n1 n2 f0 f1 f2 f3 f4 f5
            go_wp2_with fail
            go_roundw
            case rel => exact ⟨m, rfl, .inr hmL, HM7.out, HP7.out⟩
            case measure => simp [intOf]; omega
end Go.Proofs.YbulkkeiFmt
