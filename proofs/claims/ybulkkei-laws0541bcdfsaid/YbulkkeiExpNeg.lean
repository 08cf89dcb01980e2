/-
  FLOATS, expNeg AND newPoisson's FIRST LOOP: what they come to.
-/
import Derived.Test.YbulkkeiTerms
namespace Go.Proofs.Ybulkkei.Fl
open Ieee
set_option linter.unusedVariables false

theorem pw_lo : ∀ j : Nat, j ≤ 16 → (1 : Rat) / 2 ^ 24 ≤ pw cE j := by
  have h : ∀ j : _root_.Fin 17, (1 : Rat) / 2 ^ 24 ≤ pw cE j.val := by decide +kernel
  intro j hj
  exact h ⟨j, by omega⟩

theorem y_zero {f : Nat} {v : Rat} (hf : F f v) (hv1 : v ≤ 1) : double.div wOne (sW f 20) = some (yW (sW f 20) 0) ∧ F (yW (sW f 20) 0) (val (yW (sW f 20) 0)) ∧ Rel (1 / 2 ^ 38) 1 (val (yW (sW f 20) 0) * S v 20) := by
  obtain ⟨t, s, ht, hs, a1, a2, b1, b2⟩ := ts_ok hf hv1 20 (by omega)
  have hv0 := hf.nonneg
  obtain ⟨S0, S1⟩ := S_range hv0 hv1 20
  have e20 : ((20 : Nat) : Rat) = 20 := rfl
  rw [e20] at S1 b1 b2
  have hspos : 0 < s := by grind
  obtain ⟨q, hq⟩ : ∃ q, q = 1 / s := ⟨_, rfl⟩
  have hqs : q * s = 1 := by rw [hq]; exact Rat.div_mul_cancel (by grind)
  have hq0 : 0 < q := by rw [hq, Rat.div_def, Rat.one_mul]; exact Rat.inv_pos.2 hspos
  have hq2 : q ≤ 2 := by
    have h1 : q * (1 / 2) ≤ q * s := Rat.mul_le_mul_of_nonneg_left (by grind) (Rat.le_of_lt hq0)
    grind
  obtain ⟨y, y1, y2, y3⟩ := divW_ok F_one hs hspos (by rw [← hq]; grind)
  have e : yW (sW f 20) 0 = divW wOne (sW f 20) := rfl
  rw [e, y2.val]
  refine ⟨y1, y2, ?_⟩
  rw [← hq] at y3
  have u1 := y3.up
  have u2 := y3.dn
  have hsm := iU_small
  have hs0 := iU_pos
  have hy0 := y2.nonneg
  generalize S v 20 = Sv at *
  generalize 1 / U = iU at *
  have c1 := Rat.mul_le_mul_of_nonneg_right u1 (Rat.le_of_lt hspos)
  have c2 := Rat.mul_le_mul_of_nonneg_right u2 (Rat.le_of_lt hspos)
  have c3 : iU * s ≤ iU * 22 := Rat.mul_le_mul_of_nonneg_left (by grind) (Rat.le_of_lt hs0)
  have e1 : (q + q / 2 ^ 52 + iU) * s = q * s + q * s / 2 ^ 52 + iU * s := by grind
  have e2 : (y + q / 2 ^ 52 + iU) * s = y * s + q * s / 2 ^ 52 + iU * s := by grind
  rw [e1, hqs] at c1
  rw [e2, hqs] at c2
  have d1 : (Sv - s) * y ≤ 480 / 2 ^ 49 * y := Rat.mul_le_mul_of_nonneg_right (by grind) hy0
  have d2 : (s - Sv) * y ≤ 480 / 2 ^ 49 * y := Rat.mul_le_mul_of_nonneg_right (by grind) hy0
  have hid : y * Sv = y * s + (Sv - s) * y := by grind
  have hid2 : (Sv - s) * y = -((s - Sv) * y) := by grind
  rw [hid]
  generalize y * s = A at *
  generalize iU * s = V at *
  refine ⟨?_, ?_⟩
  · rw [hid2]; grind
  · grind

theorem y_ok {f : Nat} {v : Rat} (hf : F f v) (hv1 : v ≤ 1) : ∀ j : Nat, j ≤ 16 → F (yW (sW f 20) j) (val (yW (sW f 20) j)) ∧ Rel (1 / 2 ^ 38 + (j : Rat) / 2 ^ 50) (pw cE j) (val (yW (sW f 20) j) * S v 20)
  | 0, _ => by
    obtain ⟨_, h1, h2⟩ := y_zero hf hv1
    have e : ((0 : Nat) : Rat) = 0 := rfl
    have e2 : (1 : Rat) / 2 ^ 38 + 0 / 2 ^ 50 = 1 / 2 ^ 38 := by decide +kernel
    rw [e, e2]
    exact ⟨h1, h2⟩
  | j + 1, hj => by
    obtain ⟨h1, h2⟩ := y_ok hf hv1 j (by omega)
    have hv0 := hf.nonneg
    obtain ⟨S0, S1⟩ := S_range hv0 hv1 20
    have e20 : ((20 : Nat) : Rat) = 20 := rfl
    rw [e20] at S1
    obtain ⟨c0, c1⟩ := cE_range
    obtain ⟨p0, p1⟩ := pw_range (c := cE) (by grind) (by grind) j
    have plo := pw_lo j (by omega)
    have hj16 : (j : Rat) ≤ 16 := by exact_mod_cast (by omega : j ≤ 16)
    have hj0 : (0 : Rat) ≤ (j : Rat) := Rat.natCast_nonneg
    have hy0 := h1.nonneg
    have e : yW (sW f 20) (j + 1) = mulW (yW (sW f 20) j) wE := rfl
    generalize val (yW (sW f 20) j) = y at *
    generalize S v 20 = Sv at *
    obtain ⟨g, hg⟩ : ∃ g, g = 1 / 2 ^ 38 + (j : Rat) / 2 ^ 50 := ⟨_, rfl⟩
    rw [← hg] at h2
    have hg0 : 0 ≤ g := by grind
    have hg1 : g ≤ 1 / 2 ^ 37 := by grind
    -- y lies between
    have k1 : pw cE j * g ≤ pw cE j * (1 / 2 ^ 37) := Rat.mul_le_mul_of_nonneg_left hg1 p0
    have k2 : y * Sv ≤ y * 21 := Rat.mul_le_mul_of_nonneg_left (by grind) hy0
    have k3 : y * 1 ≤ y * Sv := Rat.mul_le_mul_of_nonneg_left S0 hy0
    have l1 := h2.lo
    have l2 := h2.hi
    have ylo : 1 / 2 ^ 30 ≤ y := by grind
    have yhi : y ≤ 2 := by grind
    have m1 : y * cE ≤ y * 1 := Rat.mul_le_mul_of_nonneg_left (by grind) hy0
    have m2 : y * (1 / 3) ≤ y * cE := Rat.mul_le_mul_of_nonneg_left c0 hy0
    obtain ⟨r, r1, r2, r3⟩ := mulW_ok h1 F_E (by grind)
    have rr := rel_of_rnd r3 (by grind)
    rw [e, r2.val]
    refine ⟨r2, ?_⟩
    have q1 : Rel g (pw cE j * cE) (y * Sv * cE) := h2.scale (by grind)
    have q2 : Rel (1 / 2 ^ 52) (y * cE * Sv) (r * Sv) := rr.scale (by grind)
    have e3 : y * Sv * cE = y * cE * Sv := by grind
    rw [e3] at q1
    have pc0 : 0 ≤ pw cE j * cE := Rat.mul_nonneg p0 (by grind)
    have q3 := q1.trans pc0 q2 hg0 (by grind) (by grind) (by grind)
    have hn : ((j + 1 : Nat) : Rat) = (j : Rat) + 1 := by exact_mod_cast rfl
    have e4 : pw cE (j + 1) = pw cE j * cE := rfl
    rw [e4]
    refine q3.mono pc0 ?_
    rw [hn, hg]
    grind

theorem y_valid {f : Nat} {v : Rat} (hf : F f v) (hv1 : v ≤ 1) (j : Nat) (hj : j < 16) : double.mul (yW (sW f 20) j) wE = some (yW (sW f 20) (j + 1)) := by
  obtain ⟨h1, h2⟩ := y_ok hf hv1 j (by omega)
  have hv0 := hf.nonneg
  obtain ⟨S0, S1⟩ := S_range hv0 hv1 20
  obtain ⟨c0, c1⟩ := cE_range
  obtain ⟨p0, p1⟩ := pw_range (c := cE) (by grind) (by grind) j
  have hj16 : (j : Rat) ≤ 16 := by exact_mod_cast (by omega : j ≤ 16)
  have hj0 : (0 : Rat) ≤ (j : Rat) := Rat.natCast_nonneg
  have hy0 := h1.nonneg
  generalize val (yW (sW f 20) j) = y at *
  generalize S v 20 = Sv at *
  obtain ⟨g, hg⟩ : ∃ g, g = 1 / 2 ^ 38 + (j : Rat) / 2 ^ 50 := ⟨_, rfl⟩
  rw [← hg] at h2
  have k1 : pw cE j * g ≤ pw cE j * 1 := Rat.mul_le_mul_of_nonneg_left (by grind) p0
  have k3 : y * 1 ≤ y * Sv := Rat.mul_le_mul_of_nonneg_left S0 hy0
  have l2 := h2.hi
  have m1 : y * cE ≤ y * 1 := Rat.mul_le_mul_of_nonneg_left (by grind) hy0
  obtain ⟨r, r1, _⟩ := mulW_ok h1 F_E (by grind)
  exact r1

/-- expNeg: the word that it gives. -/
def expW (f k : Nat) : Nat := yW (sW f 20) k
theorem exp_start {f k x : Nat} {v a : Rat} (hf : F f v) (hv1 : v ≤ 1) (hk : k ≤ 16) (hx : F x a) (ha : a ≤ 16) : Start (expW f k) x (val (expW f k)) a := by
  obtain ⟨h1, h2⟩ := y_ok hf hv1 k hk
  have hv0 := hf.nonneg
  obtain ⟨S0, S1⟩ := S_range hv0 hv1 20
  have e20 : ((20 : Nat) : Rat) = 20 := rfl
  rw [e20] at S1
  obtain ⟨c0, c1⟩ := cE_range
  obtain ⟨p0, p1⟩ := pw_range (c := cE) (by grind) (by grind) k
  have plo := pw_lo k hk
  have hj16 : (k : Rat) ≤ 16 := by exact_mod_cast hk
  have hj0 : (0 : Rat) ≤ (k : Rat) := Rat.natCast_nonneg
  have hy0 := h1.nonneg
  refine ⟨h1, hx, ha, ?_, ?_⟩
  all_goals
    unfold expW
    generalize val (yW (sW f 20) k) = y at *
    generalize S v 20 = Sv at *
    obtain ⟨g, hg⟩ : ∃ g, g = 1 / 2 ^ 38 + (k : Rat) / 2 ^ 50 := ⟨_, rfl⟩
    rw [← hg] at h2
    have k1 : pw cE k * g ≤ pw cE k * (1 / 2 ^ 37) := Rat.mul_le_mul_of_nonneg_left (by grind) p0
    have k2 : y * Sv ≤ y * 21 := Rat.mul_le_mul_of_nonneg_left (by grind) hy0
    have k3 : y * 1 ≤ y * Sv := Rat.mul_le_mul_of_nonneg_left S0 hy0
    have l1 := h2.lo
    have l2 := h2.hi
    grind

/-! ### The first loop: the mean, halved -/
def qW (b j : Nat) : Nat := divW b (natW (2 ^ j))
theorem q_ok {b j : Nat} {M : Rat} (hb : F b M) (hM : M ≤ 1000000000) (hj : j ≤ 30) : double.div b (natW (2 ^ j)) = some (qW b j) ∧ F (qW b j) (val (qW b j)) ∧ Err (M / ((2 ^ j : Nat) : Rat)) (val (qW b j)) := by
  have hM0 := hb.nonneg
  have hlt : 2 ^ j < 2 ^ 53 := Nat.pow_lt_pow_right (by omega) (by omega)
  have hpos : 0 < 2 ^ j := Nat.two_pow_pos _
  obtain ⟨i, hi⟩ : ∃ i, 2 ^ j = i + 1 := ⟨2 ^ j - 1, by omega⟩
  unfold qW
  rw [hi] at hlt ⊢
  obtain ⟨w0, w1⟩ := inv_le_one i
  have hp' : (0 : Rat) < ((i + 1 : Nat) : Rat) := by exact_mod_cast (by omega : 0 < i + 1)
  have k : M * (1 / ((i + 1 : Nat) : Rat)) ≤ M * 1 := Rat.mul_le_mul_of_nonneg_left w1 hM0
  obtain ⟨r, r1, r2, r3⟩ := divW_ok hb (natW_ok (i + 1) hlt) hp' (by rw [div_as_mul]; grind)
  rw [r2.val]
  exact ⟨r1, r2, r3⟩
theorem q_26 {b : Nat} {M : Rat} (hb : F b M) (hM : M ≤ 1000000000) : val (qW b 26) ≤ 16 := by
  obtain ⟨_, h2, h3⟩ := q_ok (j := 26) hb hM (by omega)
  have u := h3.up
  have e : ((2 ^ 26 : Nat) : Rat) = 2 ^ 26 := by decide +kernel
  rw [e] at u
  have hs := iU_small
  have hM0 := hb.nonneg
  grind
end Go.Proofs.Ybulkkei.Fl
