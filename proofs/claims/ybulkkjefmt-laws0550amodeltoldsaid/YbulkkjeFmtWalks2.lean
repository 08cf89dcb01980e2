/-
  THE WALKS of this seat, II: the model function, the check, the two laws' bodies.
-/
import Derived.Test.YbulkkjeFmtWalks
namespace Go.Proofs.YbulkkjeFmt
open Go.RowKit Go.Extern.Stop Go.Stop Go.Extern
set_option maxHeartbeats 1000000 in
theorem model_ok (x y : Int) (w : World) (h : okV x y) :
    Calls Ybaf.prog 8 #[.int .u16 x, .int .u16 y] w fun e w' => e = .returned (.tuple #[.int .u16 (orV x), .int .u16 (orV y), .bool true]) ∧ w' = w := by
  by_cases hx : x = 0 <;> by_cases hy : y = 0 <;> simp only [okV, orV, hx, hy, if_true, if_false] at h ⊢
  · go_enter Ybaf.func8, Ybaf.ntmps8
    go_wp2
    go_ret3
    exact ⟨rfl, rfl⟩
  · have e2 : (y == 0) = false := beq_eq_false_iff_ne.2 hy
    obtain ⟨h1, h2, h3, h4, h5⟩ := h
    go_enter Ybaf.func8, Ybaf.ntmps8
    go_wp2
    go_ret3
    exact ⟨rfl, rfl⟩
  · have e2 : (x == 0) = false := beq_eq_false_iff_ne.2 hx
    obtain ⟨h1, h2, h3, h4, h5⟩ := h
    go_enter Ybaf.func8, Ybaf.ntmps8
    go_wp2
    go_ret3
    exact ⟨rfl, rfl⟩
  · have e2 : (y == 0) = false := beq_eq_false_iff_ne.2 hy
    have e1 : (x == 0) = false := beq_eq_false_iff_ne.2 hx
    obtain ⟨h1, h2, h3, h4, h5⟩ := h
    go_enter Ybaf.func8, Ybaf.ntmps8
    go_wp2
    go_ret3
    exact ⟨rfl, rfl⟩

/-- The five ways in which the bounds are refused, in the order of the test. -/
theorem bad_ways (lo hi : Int) (h : ¬ (769 ≤ lo ∧ lo ≤ 771 ∧ 769 ≤ hi ∧ hi ≤ 771 ∧ lo ≤ hi)) :
    lo < 769 ∨ (769 ≤ lo ∧ 771 < lo) ∨ (769 ≤ lo ∧ lo ≤ 771 ∧ hi < 769) ∨ (769 ≤ lo ∧ lo ≤ 771 ∧ 769 ≤ hi ∧ 771 < hi) ∨ (769 ≤ lo ∧ lo ≤ 771 ∧ 769 ≤ hi ∧ hi ≤ 771 ∧ hi < lo) := by
  omega

set_option maxHeartbeats 2000000 in
theorem model_bad (x y : Int) (w : World) (h : ¬ okV x y) :
    Calls Ybaf.prog 8 #[.int .u16 x, .int .u16 y] w fun e w' => e = .returned (.tuple #[.int .u16 0, .int .u16 0, .bool false]) ∧ w' = w := by
  have h' := bad_ways (orV x) (orV y) h
  clear h
  by_cases hx : x = 0 <;> by_cases hy : y = 0 <;> simp only [orV, hx, hy, if_true, if_false] at h' ⊢
  · omega
  · have e2 : (y == 0) = false := beq_eq_false_iff_ne.2 hy
    rcases h' with h | ⟨_, h⟩ | ⟨h1, h2, h⟩ | ⟨h1, h2, h3, h⟩ | ⟨h1, h2, h3, h4, h⟩ 
    all_goals first | (exfalso; omega) | skip
    all_goals
      go_enter Ybaf.func8, Ybaf.ntmps8
      go_wp2
      go_ret3
      exact ⟨rfl, rfl⟩
  · have e2 : (x == 0) = false := beq_eq_false_iff_ne.2 hx
    rcases h' with h | ⟨h1, h⟩ | ⟨h1, h2, h⟩ | ⟨h1, h2, h3, h⟩ | ⟨h1, h2, h3, h4, h⟩ 
    all_goals first | (exfalso; omega) | skip
    all_goals
      go_enter Ybaf.func8, Ybaf.ntmps8
      go_wp2
      go_ret3
      exact ⟨rfl, rfl⟩
  · have e2 : (y == 0) = false := beq_eq_false_iff_ne.2 hy
    have e1 : (x == 0) = false := beq_eq_false_iff_ne.2 hx
    rcases h' with h | ⟨h1, h⟩ | ⟨h1, h2, h⟩ | ⟨h1, h2, h3, h⟩ | ⟨h1, h2, h3, h4, h⟩ 
    all_goals
      go_enter Ybaf.func8, Ybaf.ntmps8
      go_wp2
      go_ret3
      exact ⟨rfl, rfl⟩

set_option maxHeartbeats 2000000 in
theorem check_c (F : Interp) (x y : Int) (w : World) (hF : F.answers w.tape) :
    Calls Ybaf.prog 5 #[.int .u16 x, .int .u16 y] w fun e w' => e = .returned (.bool true) ∧ Below w.heap.size w w' := by
  go_enter Ybaf.func5, Ybaf.ntmps5
  go_wp2_with fail
  refine (versions_c F _ x y _ (by exact hF) (by simp) (by go_simp) (by go_simp)).mono ?_
  rintro e w1 h
  have hbel : ∃ O, Below (w.alloc O).heap.size (w.alloc O) w1 ∧ (w.alloc O).cell? ⟨w.heap.size, 4, none⟩ = some (.int .u16 x) ∧ (w.alloc O).cell? ⟨w.heap.size, 5, none⟩ = some (.int .u16 y) := by
    rcases h with ⟨_, _, hb⟩ | ⟨_, _, _, hb⟩
    · exact ⟨_, hb, by go_simp, by go_simp⟩
    · exact ⟨_, hb, by go_simp, by go_simp⟩
  obtain ⟨O, hb1, hc4, hc5⟩ := hbel
  have hd4 : w1.cell? ⟨w.heap.size, 4, none⟩ = some (.int .u16 x) := (hb1.cell (p := ⟨w.heap.size, 4, none⟩) (by simp)).trans hc4
  have hd5 : w1.cell? ⟨w.heap.size, 5, none⟩ = some (.int .u16 y) := (hb1.cell (p := ⟨w.heap.size, 5, none⟩) (by simp)).trans hc5
  have hbw : Below w.heap.size w w1 := ((Below.refl _ w).alloc (Nat.le_refl _) O).trans (hb1.mono (by simp))
  clear hb1 hc4 hc5
  have HB : Hid (Below w.heap.size w w1) := hbw
  clear hbw
  rcases h with ⟨ho, rfl, _⟩ | ⟨ho, a, rfl, _⟩
  · have HO : Hid (okV x y) := ho
    clear ho
    go_wp2_with fail
    refine (model_ok x y _ HO.out).mono ?_
    rintro e w2 ⟨rfl, rfl⟩
    go_wp2_with fail
    go_ret
    exact ⟨rfl, HB.out⟩
  · have HO : Hid (¬ okV x y) := ho
    clear ho
    go_wp2_with fail
    refine (model_bad x y _ HO.out).mono ?_
    rintro e w2 ⟨rfl, rfl⟩
    go_wp2_with fail
    go_ret
    exact ⟨rfl, HB.out⟩

theorem raw_c (F : Interp) (x y : Int) (w : World) (hF : F.answers w.tape) :
    Calls Ybaf.prog 4 #[.int .u16 x, .int .u16 y] w fun e w' => e = .returned (.bool true) ∧ Below w.heap.size w w' := by
  go_enter Ybaf.func4, Ybaf.ntmps4
  go_wp2_with fail
  refine (check_c F x y _ (by exact hF)).mono ?_
  rintro e w1 ⟨rfl, hb⟩
  go_wp2_with fail
  go_ret
  exact ⟨rfl, hb⟩

theorem pick_c (s x : Int) (w : World) (s0 : 0 ≤ s) (s1 : s ≤ 255) :
    Calls Ybaf.prog 6 #[.int .u8 s, .int .u16 x] w fun e w' => ∃ v, e = .returned (.int .u16 v) ∧ w' = w := by
  go_enter Ybaf.func6, Ybaf.ntmps6
  go_wp2
  all_goals (go_ret; exact ⟨_, rfl, rfl⟩)

theorem model_c (F : Interp) (s t x y : Int) (w : World) (hF : F.answers w.tape) (s0 : 0 ≤ s) (s1 : s ≤ 255) (t0 : 0 ≤ t) (t1 : t ≤ 255) :
    Calls Ybaf.prog 3 #[.int .u8 s, .int .u8 t, .int .u16 x, .int .u16 y] w fun e w' => e = .returned (.bool true) ∧ Below w.heap.size w w' := by
  go_enter Ybaf.func3, Ybaf.ntmps3
  go_wp2_with fail
  refine (pick_c s x _ s0 s1).mono ?_
  rintro e w1 ⟨v, rfl, rfl⟩
  go_wp2_with fail
  refine (pick_c t y _ t0 t1).mono ?_
  rintro e w1 ⟨u, rfl, rfl⟩
  go_wp2_with fail
  refine (check_c F _ _ _ (by exact hF)).mono ?_
  rintro e w1 ⟨rfl, hb⟩
  go_wp2_with fail
  go_ret
  exact ⟨rfl, hb⟩
end Go.Proofs.YbulkkjeFmt
