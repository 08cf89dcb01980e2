/-
  THE VIEW (3): settleVoter, tellCandidates, notarize.
-/
import Derived.Test.YbulkkeiFmtLater
import Derived.Deep.RegionLaw
import Derived.Deep.DrawnRows
namespace Go.Proofs.YbulkkeiFmt
open Go.RowKit Go.Extern.Stop Go.Stop Go.Extern
set_option maxRecDepth 8000
attribute [local go_sem ↓] Go.wp_at_zero Go.wp_at_succ

theorem vrs_set3 : ∀ (l : List VR) (i : Nat) (r r' : VR) (j1 j2 j3 : Nat) (u1 u2 u3 : Value), l[i]? = some r → j1 < 10 → j2 < 10 → j3 < 10 → ((r.enc.set j1 u1).set j2 u2).set j3 u3 = r'.enc → (((vrs l).set (i * 10 + j1) u1).set (i * 10 + j2) u2).set (i * 10 + j3) u3 = vrs (l.set i r')
  | [], i, r, r', j1, j2, j3, u1, u2, u3, h, _, _, _, _ => by simp at h
  | q :: l, 0, r, r', j1, j2, j3, u1, u2, u3, h, h1, h2, h3, he => by
    simp at h
    subst h
    rw [List.set_cons_zero, vrs, vrs, List.flatMap_cons, List.flatMap_cons, Nat.zero_mul, Nat.zero_add, Nat.zero_add, Nat.zero_add, List.set_append_left _ _ (by simpa [VR.enc] using h1), List.set_append_left _ _ (by simpa [VR.enc] using h2), List.set_append_left _ _ (by simpa [VR.enc] using h3), he]
  | q :: l, i + 1, r, r', j1, j2, j3, u1, u2, u3, h, h1, h2, h3, he => by
    have ih := vrs_set3 l i r r' j1 j2 j3 u1 u2 u3 (by simpa using h) h1 h2 h3 he
    have hl : q.enc.length = 10 := by simp [VR.enc]
    rw [List.set_cons_succ, vrs, vrs, List.flatMap_cons, List.flatMap_cons, List.set_append_right _ _ (by omega), List.set_append_right _ _ (by omega), List.set_append_right _ _ (by omega), ← vrs, ← vrs, ← ih, hl,
      show (i + 1) * 10 + j1 - 10 = i * 10 + j1 by omega, show (i + 1) * 10 + j2 - 10 = i * 10 + j2 by omega, show (i + 1) * 10 + j3 - 10 = i * 10 + j3 by omega]

section
variable {N : Nat → Prop} {w : World} {s : Nat} {ch : Int} {mi : Nat} {vs gp : Value} {ms : Nat} {co : Value} {mr mu : Nat}

set_option maxHeartbeats 3200000 in
theorem settleVoter_old (hS : StoreAt w s ch mi vs gp ms co mr mu) {l : List VR} (hr : Row N w 122 10 vs l.length (vrs l)) (i : Nat) (r : VR) (hi : l[i]? = some r) (hs : r.settled = true) :
    Calls Ybaf.prog 48 #[.pointer (some ⟨s, 0, none⟩), .int .i32 i] w fun e w' => e = .returned (.tuple #[]) ∧ w' = w := by
  obtain ⟨s0, s1, s2, s3, s5, s6, s7, s8, s9⟩ := hS.cells
  have hin : i < l.length := (List.getElem?_eq_some_iff.1 hi).1
  obtain ⟨g, cap, cur, rfl, -, -, h1, h2, -, -⟩ := hr.form (by omega)
  simp only [maxLen] at h2
  obtain ⟨c0, c1, c2, c3, c4, c5, c6, c7, c8, c9⟩ := hr.vcell rfl hi
  rw [hs] at c5
  clear hr hS
  go_enter Ybaf.func48, Ybaf.ntmps48
  go_wp2_with fail
  refine bodyPost_ret (v := .tuple #[]) (by simp [results]) rfl ?_
  exact ⟨rfl, rfl⟩

/-- The five stores. -/
theorem settle_row {l : List VR} {g cap : Nat} (hr : Row N w 122 10 (.slice (some ⟨g, 0, none⟩) l.length cap) l.length (vrs l)) {i : Nat} {r : VR} (hi : l[i]? = some r) (h : Nat) :
    Row N (((w.setCell ⟨g, i * 10 + 5, none⟩ (.bool true)).setCell ⟨g, i * 10 + 6, none⟩ (.bool true)).setCell ⟨g, i * 10 + 7, none⟩ (.int .i32 h)) 122 10 (.slice (some ⟨g, 0, none⟩) l.length cap) l.length (vrs (l.set i { r with settled := true, height := h })) := by
  have h1 := ((hr.setAt (g := g) rfl (i * 10 + 5) (.bool true)).setAt (g := g) rfl (i * 10 + 6) (.bool true)).setAt (g := g) rfl (i * 10 + 7) (.int .i32 h)
  rwa [vrs_set3 l i r { r with settled := true, height := h } 5 6 7 _ _ _ hi (by omega) (by omega) (by omega) rfl] at h1

/-- Behind the first three stores: the two last ones store what lies there. -/
theorem settle_tail {l : List VR} {g cap : Nat} {cur : Array Value} (hr : Row N w 122 10 (.slice (some ⟨g, 0, none⟩) l.length cap) l.length (vrs l)) {i : Nat} {r : VR} (hi : l[i]? = some r) (hbk : w.heap[g]? = some (.cells cur 122 (0, 0))) (hNg : ¬ N g) {B : Nat} (hgB : g ≠ B) {w1 : World} (hf : Fr N [] [] w w1) {cb : Array Value} (hb : w1.heap[B]? = some (.cells cb 122 (0, 0))) (h8 : cb[8]? = some (.int .i32 0)) (h9 : cb[9]? = some (.int .i32 0)) {h : Nat} {Q : World → Prop}
    (hQ : ∀ w3 : World, w3.cell? ⟨B, 8, none⟩ = some (.int .i32 0) → w3.cell? ⟨B, 9, none⟩ = some (.int .i32 0) → w3.cell? ⟨g, i * 10 + 8, none⟩ = some (.int .i32 0) → w3.cell? ⟨g, i * 10 + 9, none⟩ = some (.int .i32 0) → w3.frozen? ⟨g, i * 10 + 8, none⟩ = false → w3.frozen? ⟨g, i * 10 + 9, none⟩ = false →
      Hid (Row N w3 122 10 (.slice (some ⟨g, 0, none⟩) l.length cap) l.length (vrs (l.set i { r with settled := true, height := h }))) → Hid (Fr N [122] [] w w3) → Q w3) :
    Q (((w1.setCell ⟨g, i * 10 + 5, none⟩ (.bool true)).setCell ⟨g, i * 10 + 6, none⟩ (.bool true)).setCell ⟨g, i * 10 + 7, none⟩ (.int .i32 h)) := by
  have hr1 := hr.kept hf (by simp)
  have hb1 := hf.keepC _ _ _ _ hbk (by simp)
  have hr3 := settle_row hr1 hi h
  have e1 := heap_setCell_same w1 (o := i * 10 + 5) (v := .bool true) hb1
  have e2 := heap_setCell_same _ (o := i * 10 + 6) (v := .bool true) e1
  have e3 := heap_setCell_same _ (o := i * 10 + 7) (v := .int .i32 h) e2
  have k1 := (heap_setCell_other w1 (k := g) (o := i * 10 + 5) (v := .bool true) (Ne.symm hgB)).trans hb
  have k2 := (heap_setCell_other _ (k := g) (o := i * 10 + 6) (v := .bool true) (Ne.symm hgB)).trans k1
  have k3 := (heap_setCell_other _ (k := g) (o := i * 10 + 7) (v := .int .i32 h) (Ne.symm hgB)).trans k2
  obtain ⟨_, _, _, _, _, _, _, _, c8, c9⟩ := hr3.vcell (g := g) rfl (i := i) (r := { r with settled := true, height := h }) (set_at hi)
  refine hQ _ ?_ ?_ c8 c9 ?_ ?_ hr3 ?_
  · simp [World.cell?, k3, h8]
  · simp [World.cell?, k3, h9]
  · simp [World.frozen?, e3]
  · simp [World.frozen?, e3]
  · exact (((hf.wider (by simp) (by simp)).setCell hb1 (by simp) hNg).setCell e1 (by simp) hNg).setCell e2 (by simp) hNg

set_option maxHeartbeats 6400000 in
theorem settleVoter_gen (hS : StoreAt w s ch mi vs gp ms co mr mu) {l : List VR} (hr : Row N w 122 10 vs l.length (vrs l)) (i : Nat) (r : VR) (hi : l[i]? = some r) (hs : r.settled = false) (hp : r.par = -1) :
    Calls Ybaf.prog 48 #[.pointer (some ⟨s, 0, none⟩), .int .i32 i] w fun e w' => e = .returned (.tuple #[]) ∧ Row N w' 122 10 vs l.length (vrs (l.set i { r with settled := true, height := 1 })) ∧ Fr N [122] [] w w' := by
  obtain ⟨s0, s1, s2, s3, s5, s6, s7, s8, s9⟩ := hS.cells
  have hin : i < l.length := (List.getElem?_eq_some_iff.1 hi).1
  obtain ⟨g, cap, cur, rfl, hNg, hbk, h1, h2, -, -⟩ := hr.form (by omega)
  simp only [maxLen] at h2
  obtain ⟨c0, c1, c2, c3, c4, c5, c6, c7, c8, c9⟩ := hr.vcell rfl hi
  rw [hs] at c5 c6
  rw [hp] at c2
  have f5 : w.frozen? ⟨g, i * 10 + 5, none⟩ = false := by simp [World.frozen?, hbk]
  have f6 : w.frozen? ⟨g, i * 10 + 6, none⟩ = false := by simp [World.frozen?, hbk]
  have f7 : w.frozen? ⟨g, i * 10 + 7, none⟩ = false := by simp [World.frozen?, hbk]
  have f8 : w.frozen? ⟨g, i * 10 + 8, none⟩ = false := by simp [World.frozen?, hbk]
  have f9 : w.frozen? ⟨g, i * 10 + 9, none⟩ = false := by simp [World.frozen?, hbk]
  have zg := blk c0
  have zs := blk s1
  have hgs : s ≠ g := by
    intro e
    subst e
    have := hS
    unfold StoreAt at this
    rw [hbk] at this
    cases this
  have HR : Hid (Row N w 122 10 (.slice (some ⟨g, 0, none⟩) l.length cap) l.length (vrs l)) := hr
  have HI : Hid (l[i]? = some r) := hi
  have HBK : Hid (w.heap[g]? = some (.cells cur 122 (0, 0))) := hbk
  clear hr hS hbk
  go_enter Ybaf.func48, Ybaf.ntmps48
  go_wp2_with fail
  go_quiet (fail)
  rename_i nq
  go_wp2_with fail
  obtain ⟨w1, hw1⟩ : ∃ w1, w1 = (w.alloc (.cells #[.string ⟨#[]⟩, .int .i32 0, .int .i32 0, .int .i32 0, .int .i32 0, .bool false, .bool false, .int .i32 0, .int .i32 0, .int .i32 0] 122)).drewN nq := ⟨_, rfl⟩
  rw [← hw1]
  have hf1 : Fr N [] [] w w1 := by rw [hw1]; exact ((Fr.refl N [] [] w).alloc _).drewN nq
  have hb1 : w1.heap[w.heap.size]? = some (.cells #[.string ⟨#[]⟩, .int .i32 0, .int .i32 0, .int .i32 0, .int .i32 0, .bool false, .bool false, .int .i32 0, .int .i32 0, .int .i32 0] 122 (0, 0)) := by
    rw [hw1]
    exact heap_alloc_new w _
  refine settle_tail HR.out HI.out HBK.out hNg (by omega) hf1 hb1 rfl rfl ?_
  intro w3 b8 b9 n8 n9 g8 g9 HR3 HF3
  clear c0 c1 c2 c3 c4 c5 c6 c7 c8 c9 f5 f6 f7 f8 f9 s0 s1 s2 s3 s5 s6 s7 s8 s9 hw1 hf1 hb1
  go_region_law (fail)
  all_goals
    rw [setCell_same n8, setCell_same n9]
    go_wp2_with fail
    go_loopw [79] (fun s79 wr => s79 = .int .i64 0 ∧ wr = w3.drew) (fun _ _ => 0)
    case atStart => exact ⟨rfl, rfl⟩
    case round =>
      obtain ⟨rfl, rfl⟩ := hrel
      go_wp2_with fail
      go_end0
      exact ⟨rfl, HR3.out.same (fun _ _ => rfl), HF3.out.drew⟩

set_option maxHeartbeats 6400000 in
theorem settleVoter_par (hS : StoreAt w s ch mi vs gp ms co mr mu) {l : List VR} (hr : Row N w 122 10 vs l.length (vrs l)) (i : Nat) (r : VR) (hi : l[i]? = some r) (hs : r.settled = false) (j : Nat) (q : VR) (hp : r.par = j) (hj : l[j]? = some q) (hh : q.height < 100) :
    Calls Ybaf.prog 48 #[.pointer (some ⟨s, 0, none⟩), .int .i32 i] w fun e w' => e = .returned (.tuple #[]) ∧ Row N w' 122 10 vs l.length (vrs (l.set i { r with settled := true, height := q.height + 1 })) ∧ Fr N [122] [] w w' := by
  obtain ⟨s0, s1, s2, s3, s5, s6, s7, s8, s9⟩ := hS.cells
  have hin : i < l.length := (List.getElem?_eq_some_iff.1 hi).1
  have hjn : j < l.length := (List.getElem?_eq_some_iff.1 hj).1
  obtain ⟨g, cap, cur, rfl, hNg, hbk, h1, h2, -, -⟩ := hr.form (by omega)
  simp only [maxLen] at h2
  obtain ⟨c0, c1, c2, c3, c4, c5, c6, c7, c8, c9⟩ := hr.vcell rfl hi
  obtain ⟨d0, d1, d2, d3, d4, d5, d6, d7, d8, d9⟩ := hr.vcell rfl hj
  rw [hs] at c5 c6
  rw [hp] at c2
  have f5 : w.frozen? ⟨g, i * 10 + 5, none⟩ = false := by simp [World.frozen?, hbk]
  have f6 : w.frozen? ⟨g, i * 10 + 6, none⟩ = false := by simp [World.frozen?, hbk]
  have f7 : w.frozen? ⟨g, i * 10 + 7, none⟩ = false := by simp [World.frozen?, hbk]
  have zg := blk c0
  have zs := blk s1
  have hgs : s ≠ g := by
    intro e
    subst e
    have := hS
    unfold StoreAt at this
    rw [hbk] at this
    cases this
  have hjI : (j : Int) < (l.length : Int) := by omega
  have hne1 : ((j : Int) != -1) = true := by rw [bne_iff_ne]; omega
  have HR : Hid (Row N w 122 10 (.slice (some ⟨g, 0, none⟩) l.length cap) l.length (vrs l)) := hr
  have HI : Hid (l[i]? = some r) := hi
  have HBK : Hid (w.heap[g]? = some (.cells cur 122 (0, 0))) := hbk
  clear hr hS hbk
  go_enter Ybaf.func48, Ybaf.ntmps48
  go_wp2_with fail
  go_region_law (fail)
  all_goals
    go_wp2_with fail
    go_quiet (fail)
    rename_i nq
    go_wp2_with fail
    obtain ⟨w1, hw1⟩ : ∃ w1, w1 = (w.alloc (.cells #[.string q.id, .int .i32 q.slot, .int .i32 q.par, .int .i32 0, .int .i32 0, .bool q.settled, .bool q.settled, .int .i32 q.height, .int .i32 0, .int .i32 0] 122)).drewN (1 + nq) := ⟨_, rfl⟩
    rw [← hw1, show ((q.height : Int) + 1) = ((q.height + 1 : Nat) : Int) by omega]
    have hf1 : Fr N [] [] w w1 := by rw [hw1]; exact ((Fr.refl N [] [] w).alloc _).drewN (1 + nq)
    have hb1 : w1.heap[w.heap.size]? = some (.cells #[.string q.id, .int .i32 q.slot, .int .i32 q.par, .int .i32 0, .int .i32 0, .bool q.settled, .bool q.settled, .int .i32 q.height, .int .i32 0, .int .i32 0] 122 (0, 0)) := by
      rw [hw1]
      exact heap_alloc_new w _
    refine settle_tail (h := q.height + 1) HR.out HI.out HBK.out hNg (by omega) hf1 hb1 rfl rfl ?_
    intro w3 b8 b9 n8 n9 g8 g9 HR3 HF3
    clear c0 c1 c2 c3 c4 c5 c6 c7 c8 c9 d0 d1 d2 d3 d4 d5 d6 d7 d8 d9 f5 f6 f7 s0 s1 s2 s3 s5 s6 s7 s8 s9 hw1 hf1 hb1
    go_region_law (fail)
    all_goals
      rw [setCell_same n8, setCell_same n9]
      go_wp2_with fail
      go_loopw [79] (fun s79 wr => s79 = .int .i64 0 ∧ wr = w3.drew) (fun _ _ => 0)
      case atStart => exact ⟨rfl, rfl⟩
      case round =>
        obtain ⟨rfl, rfl⟩ := hrel
        go_wp2_with fail
        go_end0
        exact ⟨rfl, HR3.out.same (fun _ _ => rfl), HF3.out.drew⟩
end
end Go.Proofs.YbulkkeiFmt
