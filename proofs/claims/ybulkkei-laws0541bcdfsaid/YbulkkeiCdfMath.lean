/-
  FLOATS, THE TABLE's END: while the sums move every error is a relative one; where they stop the rest of the series is nothing: the last sum is 1 but for 2 ^ -34.
-/
import Derived.Test.YbulkkeiExp
namespace Go.Proofs.Ybulkkei.Fl
open Ieee
set_option linter.unusedVariables false
set_option linter.unusedSimpArgs false

theorem Rel.add {g x y c d : Rat} (h1 : Rel g x c) (h2 : Rel g y d) : Rel g (x + y) (c + d) := by
  obtain ⟨a1, a2⟩ := h1
  obtain ⟨b1, b2⟩ := h2
  exact ⟨by grind, by grind⟩
theorem Rel.refl {g x : Rat} (hx : 0 ≤ x) (hg : 0 ≤ g) : Rel g x x := by
  have := Rat.mul_nonneg hx hg
  exact ⟨by grind, by grind⟩

section
variable {p0 x K : Nat} {P0 a : Rat}

/-- A step that moves the sum has a term that is not nothing. -/
theorem term_lo (st : Start p0 x P0 a) (j : Nat) (hj : j < 400) (hmv : val (cW p0 x j) ≠ val (cW p0 x (j + 1))) : 1 / 2 ^ 140 ≤ val (pW p0 x (j + 1)) := by
  obtain ⟨_, _, _, r, _⟩ := c_step st j hj
  obtain ⟨h1, h2, h3⟩ := c_all st j (by omega)
  obtain ⟨g1, g2⟩ := p_all st (j + 1) (by omega)
  have hlo := st.lo
  have hp0 := g1.nonneg
  by_cases h : val (pW p0 x (j + 1)) ≤ val (cW p0 x j) / 2 ^ 110
  · exact absurd (absorb r h1.rep (by grind) hp0 h).symm hmv
  · grind

/-- The terms, relatively. -/
theorem terms_rel (st : Start p0 x P0 a) (hK : K < 400) (hmv : ∀ i, i < K → val (cW p0 x i) ≠ val (cW p0 x (i + 1))) : ∀ j, j ≤ K → Rel ((j : Rat) / 2 ^ 48) (P0 * T a j) (val (pW p0 x j))
  | 0, _ => by
    have e : val (pW p0 x 0) = P0 := st.hp.val
    have e2 : P0 * T a 0 = P0 := by unfold T; grind
    have hlo := st.lo
    have e3 : ((0 : Nat) : Rat) = 0 := rfl
    rw [e, e2, e3]
    exact Rel.refl (by grind) (by decide +kernel)
  | j + 1, hj => by
    have ih := terms_rel st hK hmv j (by omega)
    have hlo := term_lo st j (by omega) (hmv j (by omega))
    obtain ⟨f1, f2⟩ := p_all st j (by omega)
    obtain ⟨_, _, d, d1, d2, d3⟩ := p_step (j := j) f1 st.hx st.ha (by grind) (by omega)
    have e : val (pW p0 x (j + 1)) = d := d1.val
    rw [e] at hlo ⊢
    have ha0 := st.hx.nonneg
    have hs := iU_small
    have hs0 := iU_pos
    obtain ⟨w0, w1⟩ := inv_le_one j
    have hj4 : (j : Rat) ≤ 400 := by exact_mod_cast (by omega : j ≤ 400)
    have hj0 : (0 : Rat) ≤ (j : Rat) := Rat.natCast_nonneg
    have hP0 : 0 ≤ P0 := by have := st.lo; grind
    have hT := T_nonneg ha0 j
    have r1 : Rel (1 / 2 ^ 49) (val (pW p0 x j) * a / ((j + 1 : Nat) : Rat)) d := by
      generalize val (pW p0 x j) * a / ((j + 1 : Nat) : Rat) = z at *
      exact ⟨by grind, by grind⟩
    have aw0 : 0 ≤ a * (1 / ((j + 1 : Nat) : Rat)) := Rat.mul_nonneg ha0 (Rat.le_of_lt w0)
    have r2 := ih.scale aw0
    have e1 : P0 * T a j * (a * (1 / ((j + 1 : Nat) : Rat))) = P0 * T a (j + 1) := by
      have : T a (j + 1) = T a j * a / ((j + 1 : Nat) : Rat) := rfl
      rw [this, div_as_mul (T a j * a)]
      grind
    have e2 : val (pW p0 x j) * (a * (1 / ((j + 1 : Nat) : Rat))) = val (pW p0 x j) * a / ((j + 1 : Nat) : Rat) := by
      rw [div_as_mul (val (pW p0 x j) * a)]
      grind
    rw [e1, e2] at r2
    have hnn : 0 ≤ P0 * T a (j + 1) := Rat.mul_nonneg hP0 (T_nonneg ha0 (j + 1))
    have r3 := r2.trans hnn r1 (by grind) (by grind) (by grind) (by grind)
    refine r3.mono hnn ?_
    have hn : ((j + 1 : Nat) : Rat) = (j : Rat) + 1 := by exact_mod_cast rfl
    rw [hn]
    grind

/-- The sums, relatively. -/
theorem sums_rel (st : Start p0 x P0 a) (hK : K < 400) (hmv : ∀ i, i < K → val (cW p0 x i) ≠ val (cW p0 x (i + 1))) : ∀ j, j ≤ K → Rel (1 / 2 ^ 39 + (j : Rat) / 2 ^ 50) (P0 * S a j) (val (cW p0 x j))
  | 0, _ => by
    have e : val (cW p0 x 0) = P0 := st.hp.val
    have e2 : P0 * S a 0 = P0 := by unfold S; grind
    have hlo := st.lo
    have e3 : ((0 : Nat) : Rat) = 0 := rfl
    rw [e, e2, e3]
    exact Rel.refl (by grind) (by decide +kernel)
  | j + 1, hj => by
    have ih := sums_rel st hK hmv j (by omega)
    have ht := terms_rel st hK hmv (j + 1) hj
    obtain ⟨_, _, _, r, _⟩ := c_step st j (by omega)
    obtain ⟨h1, h2, h3⟩ := c_all st j (by omega)
    obtain ⟨g1, g2⟩ := p_all st (j + 1) (by omega)
    have hlo := st.lo
    have hp0 := g1.nonneg
    have ha0 := st.hx.nonneg
    have hP0 : 0 ≤ P0 := by grind
    have hj4 : (j : Rat) ≤ 399 := by exact_mod_cast (by omega : j ≤ 399)
    have hj0 : (0 : Rat) ≤ (j : Rat) := Rat.natCast_nonneg
    have hn : ((j + 1 : Nat) : Rat) = (j : Rat) + 1 := by exact_mod_cast rfl
    have r1 := rel_of_rnd r (by grind)
    have hT : 0 ≤ P0 * T a (j + 1) := Rat.mul_nonneg hP0 (T_nonneg ha0 (j + 1))
    have hS0 : 0 ≤ S a j := by have := S_one ha0 j; grind
    have hS : 0 ≤ P0 * S a j := Rat.mul_nonneg hP0 hS0
    have ht2 : Rel (1 / 2 ^ 39 + (j : Rat) / 2 ^ 50) (P0 * T a (j + 1)) (val (pW p0 x (j + 1))) := ht.mono hT (by rw [hn]; grind)
    have r2 := ih.add ht2
    have e : P0 * S a j + P0 * T a (j + 1) = P0 * S a (j + 1) := by
      have : S a (j + 1) = S a j + T a (j + 1) := rfl
      rw [this]; grind
    have hnn : 0 ≤ P0 * S a (j + 1) := by rw [← e]; grind
    rw [e] at r2
    have r3 := r2.trans hnn r1 (by grind) (by grind) (by grind) (by grind)
    refine r3.mono hnn ?_
    rw [hn]
    grind

/-- As long as the terms rise their sum is at most so many of the last. -/
theorem S_rise (ha0 : 0 ≤ a) : ∀ n : Nat, (n : Rat) ≤ a → S a n ≤ ((n : Rat) + 1) * T a n
  | 0, _ => by unfold S T; decide +kernel
  | n + 1, h => by
    have hn : ((n + 1 : Nat) : Rat) = (n : Rat) + 1 := by exact_mod_cast rfl
    have ih := S_rise ha0 n (by rw [hn] at h; grind)
    have hn0 : (0 : Rat) ≤ (n : Rat) := Rat.natCast_nonneg
    have hT := T_nonneg ha0 n
    have e := T_succ a n
    have hp := cast_pos n
    have k : T a n * ((n + 1 : Nat) : Rat) ≤ T a n * a := Rat.mul_le_mul_of_nonneg_left h hT
    rw [← e] at k
    have k2 := Rat.le_of_mul_le_mul_right k hp
    have k3 : ((n : Rat) + 1) * T a n ≤ ((n : Rat) + 1) * T a (n + 1) := Rat.mul_le_mul_of_nonneg_left k2 (by grind)
    have e2 : S a (n + 1) = S a n + T a (n + 1) := rfl
    rw [e2, hn]
    grind

/-- Behind the place where the terms fall the rest of the series is at most so many of the first. -/
theorem S_fall (ha0 : 0 ≤ a) (ha : a ≤ 16) (n : Nat) (h : a < ((n + 1 : Nat) : Rat)) : ∀ m, S a (n + 1 + m) + 16 * T a (n + 1 + m) ≤ S a n + 17 * T a (n + 1)
  | 0 => by
    have e : S a (n + 1 + 0) = S a n + T a (n + 1) := rfl
    have e2 : T a (n + 1 + 0) = T a (n + 1) := rfl
    rw [e, e2]
    grind
  | m + 1 => by
    have ih := S_fall ha0 ha n h m
    have e : S a (n + 1 + (m + 1)) = S a (n + 1 + m) + T a (n + 1 + m + 1) := rfl
    have e2 : T a (n + 1 + (m + 1)) = T a (n + 1 + m + 1) := rfl
    rw [e, e2]
    have hc : ((n + 1 : Nat) : Rat) + 1 ≤ ((n + 1 + m + 1 : Nat) : Rat) := by exact_mod_cast (by omega : n + 1 + 1 ≤ n + 1 + m + 1)
    have hT := T_nonneg ha0 (n + 1 + m)
    have es := T_succ a (n + 1 + m)
    have hp := cast_pos (n + 1 + m)
    have k : T a (n + 1 + m) * (17 * a) ≤ T a (n + 1 + m) * (16 * ((n + 1 + m + 1 : Nat) : Rat)) := Rat.mul_le_mul_of_nonneg_left (by grind) hT
    have k2 : 17 * T a (n + 1 + m + 1) ≤ 16 * T a (n + 1 + m) := by
      refine Rat.le_of_mul_le_mul_right (c := ((n + 1 + m + 1 : Nat) : Rat)) ?_ hp
      have : 17 * T a (n + 1 + m + 1) * ((n + 1 + m + 1 : Nat) : Rat) = T a (n + 1 + m) * (17 * a) := by grind
      rw [this]
      grind
    grind

/-- THE END: the last sum beside the whole series. -/
theorem end_rel (st : Start p0 x P0 a) (hK : K < 400) (hmv : ∀ i, i < K → val (cW p0 x i) ≠ val (cW p0 x (i + 1))) (hst : val (cW p0 x (K + 1)) = val (cW p0 x K)) : Rel (1 / 2 ^ 37) (P0 * S a 400) (val (cW p0 x K)) := by
  have hs := sums_rel st hK hmv K (by omega)
  have ht := terms_rel st hK hmv K (by omega)
  obtain ⟨_, _, _, r, _⟩ := c_step st K hK
  obtain ⟨h1, h2, h3⟩ := c_all st K (by omega)
  obtain ⟨f1, f2⟩ := p_all st K (by omega)
  obtain ⟨g1, g2⟩ := p_all st (K + 1) (by omega)
  obtain ⟨_, _, d, d1, d2, d3⟩ := p_step (j := K) f1 st.hx st.ha (by grind) (by omega)
  have e : val (pW p0 x (K + 1)) = d := d1.val
  rw [hst] at r
  have u := r.dn
  rw [half_iU, e] at u
  rw [e] at g1
  have hd0 := g1.nonneg
  have hlo := st.lo
  have ha := st.ha
  have ha0 := st.hx.nonneg
  have hP0 : 0 < P0 := by grind
  have hsm := iU_small
  have hs0 := iU_pos
  have hK4 : (K : Rat) ≤ 400 := by exact_mod_cast (by omega : K ≤ 400)
  have hK0 : (0 : Rat) ≤ (K : Rat) := Rat.natCast_nonneg
  have hSK := S_one ha0 K
  have hTK := T_nonneg ha0 K
  have hTK1 := T_nonneg ha0 (K + 1)
  obtain ⟨w0, w1⟩ := inv_le_one K
  -- the sum itself
  have hC : P0 * 1 ≤ P0 * S a K := Rat.mul_le_mul_of_nonneg_left hSK (Rat.le_of_lt hP0)
  have hrel : Rel (1 / 2 ^ 38) (P0 * S a K) (val (cW p0 x K)) := hs.mono (by grind) (by grind)
  have l1 := hrel.lo
  have l2 := hrel.hi
  -- the next term of the series is nothing beside it
  have hz : val (pW p0 x K) * a / ((K + 1 : Nat) : Rat) ≤ val (cW p0 x K) / 2 ^ 50 := by
    generalize val (pW p0 x K) * a / ((K + 1 : Nat) : Rat) = z at *
    grind
  have hPT : P0 * T a K ≤ 2 * val (pW p0 x K) := by
    have hPK : 0 ≤ P0 * T a K := Rat.mul_nonneg (Rat.le_of_lt hP0) hTK
    have l3 := (ht.mono hPK (by grind : (K : Rat) / 2 ^ 48 ≤ 1 / 2)).lo
    grind
  have hPT1 : P0 * T a (K + 1) ≤ 2 * (val (pW p0 x K) * a / ((K + 1 : Nat) : Rat)) := by
    have aw0 : 0 ≤ a * (1 / ((K + 1 : Nat) : Rat)) := Rat.mul_nonneg ha0 (Rat.le_of_lt w0)
    have k := Rat.mul_le_mul_of_nonneg_right hPT aw0
    have e1 : P0 * T a K * (a * (1 / ((K + 1 : Nat) : Rat))) = P0 * T a (K + 1) := by
      have : T a (K + 1) = T a K * a / ((K + 1 : Nat) : Rat) := rfl
      rw [this, div_as_mul (T a K * a)]
      grind
    have e2 : 2 * val (pW p0 x K) * (a * (1 / ((K + 1 : Nat) : Rat))) = 2 * (val (pW p0 x K) * a / ((K + 1 : Nat) : Rat)) := by
      rw [div_as_mul (val (pW p0 x K) * a)]
      grind
    rw [e1, e2] at k
    exact k
  have hnext : P0 * T a (K + 1) ≤ P0 * S a K / 2 ^ 48 := by grind
  -- the terms fall there
  have hfall : a < ((K + 1 : Nat) : Rat) := by
    by_cases hlt : a < ((K + 1 : Nat) : Rat)
    · exact hlt
    · exfalso
      have hn : ((K + 1 : Nat) : Rat) = (K : Rat) + 1 := by exact_mod_cast rfl
      have hr := S_rise ha0 (K + 1) (by grind)
      have hle : S a K ≤ S a (K + 1) := S_mono' ha0 (by omega)
      rw [hn] at hr hlt
      have k1 : ((K : Rat) + 1 + 1) * T a (K + 1) ≤ 17 * T a (K + 1) := Rat.mul_le_mul_of_nonneg_right (by grind) hTK1
      have k2 : P0 * S a K ≤ P0 * (17 * T a (K + 1)) := Rat.mul_le_mul_of_nonneg_left (by grind) (Rat.le_of_lt hP0)
      have k3 : P0 * (17 * T a (K + 1)) = 17 * (P0 * T a (K + 1)) := by grind
      rw [k3] at k2
      grind
  obtain ⟨m, hm⟩ : ∃ m, 400 = K + 1 + m := ⟨400 - (K + 1), by omega⟩
  have ft := S_fall ha0 ha K hfall m
  rw [← hm] at ft
  have hT400 := T_nonneg ha0 400
  have hmono := S_mono' ha0 (show K ≤ 400 by omega)
  have k1 : P0 * S a 400 ≤ P0 * (S a K + 17 * T a (K + 1)) := Rat.mul_le_mul_of_nonneg_left (by grind) (Rat.le_of_lt hP0)
  have k2 : P0 * (S a K + 17 * T a (K + 1)) = P0 * S a K + 17 * (P0 * T a (K + 1)) := by grind
  have k3 : P0 * S a K ≤ P0 * S a 400 := Rat.mul_le_mul_of_nonneg_left hmono (Rat.le_of_lt hP0)
  rw [k2] at k1
  exact ⟨by grind, by grind⟩
end

/-- THE LAST SUM IS 1 BUT FOR 2 ^ -34. -/
theorem last_near {f k x K : Nat} {a : Rat} (hx : F x a) (ha : a ≤ 16) (hk : k ≤ 16) (hka : (k : Rat) ≤ a) (hak : a < (k : Rat) + 1) (hf : F f (a - (k : Rat))) (hK : K < 400)
    (hmv : ∀ i, i < K → val (cW (expW f k) x i) ≠ val (cW (expW f k) x (i + 1))) (hst : val (cW (expW f k) x (K + 1)) = val (cW (expW f k) x K)) :
    1 - 1 / 2 ^ 34 ≤ val (cW (expW f k) x K) ∧ val (cW (expW f k) x K) ≤ 1 + 1 / 2 ^ 34 := by
  have st := exp_start hf (by grind) hk hx ha
  have h1 := end_rel st hK hmv hst
  obtain ⟨y1, y2⟩ := y_ok hf (by grind) k hk
  have hk16 : (k : Rat) ≤ 16 := by exact_mod_cast hk
  obtain ⟨c0, c1⟩ := cE_range
  obtain ⟨p0, p1⟩ := pw_range (c := cE) (by grind) (by grind) k
  have y3 : Rel (1 / 2 ^ 37) (pw cE k) (val (expW f k) * S (a - (k : Rat)) 20) := y2.mono p0 (by grind)
  have h2 := S_near hk (by grind) (by grind) st.hp.nonneg y3
  have e : (k : Rat) + (a - (k : Rat)) = a := by grind
  rw [e] at h2
  have a1 := h1.lo
  have a2 := h1.hi
  have b1 := h2.lo
  have b2 := h2.hi
  exact ⟨by grind, by grind⟩
end Go.Proofs.Ybulkkei.Fl
