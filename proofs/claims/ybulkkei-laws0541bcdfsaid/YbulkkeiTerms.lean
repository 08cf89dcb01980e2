/-
  FLOATS, newPoisson's TERMS: relative errors; the sums do not fall and stand still in the end.
-/
import Derived.Test.YbulkkeiSeries
namespace Go.Proofs.Ybulkkei.Fl
open Ieee
set_option linter.unusedVariables false

/-! ### Relative errors -/
structure Rel (g x c : Rat) : Prop where
  lo : x - x * g ≤ c
  hi : c ≤ x + x * g

theorem Rel.trans {g h x c d : Rat} (hx : 0 ≤ x) (h1 : Rel g x c) (h2 : Rel h c d) (hg0 : 0 ≤ g) (hg : g ≤ 1) (hh0 : 0 ≤ h) (hh : h ≤ 1) : Rel (g + 2 * h) x d := by
  obtain ⟨a1, a2⟩ := h1
  obtain ⟨b1, b2⟩ := h2
  have k1 : c * h ≤ (x + x * g) * h := Rat.mul_le_mul_of_nonneg_right a2 hh0
  have hxh : 0 ≤ x * h := Rat.mul_nonneg hx hh0
  have hgxh : (x * h) * g ≤ (x * h) * 1 := Rat.mul_le_mul_of_nonneg_left hg hxh
  have hgx0 : 0 ≤ (x * h) * g := Rat.mul_nonneg hxh hg0
  have e1 : (x + x * g) * h = x * h + (x * h) * g := by grind
  have e2 : x * (g + 2 * h) = x * g + 2 * (x * h) := by grind
  refine ⟨?_, ?_⟩
  · rw [e2]; grind
  · rw [e2]; grind

theorem Rel.scale {g x c s : Rat} (h : Rel g x c) (hs : 0 ≤ s) : Rel g (x * s) (c * s) := by
  have k1 := Rat.mul_le_mul_of_nonneg_right h.lo hs
  have k2 := Rat.mul_le_mul_of_nonneg_right h.hi hs
  exact ⟨by grind, by grind⟩

theorem rel_of_rnd {x c : Rat} (h : Rnd x c) (hx : 1 / 2 ^ 180 ≤ x) : Rel (1 / 2 ^ 52) x c := by
  have u1 := h.up
  have u2 := h.dn
  rw [half_iU] at u1 u2
  have hs := iU_small
  have hs0 := iU_pos
  exact ⟨by grind, by grind⟩
theorem rel_of_err {x c : Rat} (h : Err x c) (hx : 1 / 2 ^ 180 ≤ x) : Rel (1 / 2 ^ 51) x c := by
  have u1 := h.up
  have u2 := h.dn
  have hs := iU_small
  have hs0 := iU_pos
  exact ⟨by grind, by grind⟩
theorem Rel.mono {g g' x c : Rat} (h : Rel g x c) (hx : 0 ≤ x) (hg : g ≤ g') : Rel g' x c := by
  have k : x * g ≤ x * g' := Rat.mul_le_mul_of_nonneg_left hg hx
  exact ⟨by have := h.lo; grind, by have := h.hi; grind⟩

/-! ### What a word stands for, as a function -/
def val (b : Nat) : Rat := match double.read b with
  | .number _ m i => (m : Rat) * 2 ^ (i + 1074).toNat / U
  | _ => 0
theorem F.val {b : Nat} {v : Rat} (h : F b v) : val b = v := by
  obtain ⟨neg, m, i, hr, hi, hv, _⟩ := h.fin_mag
  unfold Fl.val
  rw [hr]
  simp only
  rw [← hv]
  have := U_pos
  exact Rat.mul_div_cancel (by grind)
theorem F.self {b : Nat} {v : Rat} (h : F b v) : F b (Fl.val b) := by rw [h.val]; exact h

/-- One round of the Poisson terms. -/
theorem p_step {p x j : Nat} {pv a : Rat} (hp : F p pv) (hx : F x a) (ha : a ≤ 16) (hpv : pv ≤ 2 ^ 180) (hj : j < 1000) :
    double.mul p x = some (mulW p x) ∧ double.div (mulW p x) (natW (j + 1)) = some (divW (mulW p x) (natW (j + 1))) ∧ ∃ d, F (divW (mulW p x) (natW (j + 1))) d ∧
      d ≤ pv * a / ((j + 1 : Nat) : Rat) + pv * a / ((j + 1 : Nat) : Rat) / 2 ^ 50 + 2 * (1 / U) ∧ pv * a / ((j + 1 : Nat) : Rat) ≤ d + pv * a / ((j + 1 : Nat) : Rat) / 2 ^ 50 + 2 * (1 / U) := by
  have ha0 := hx.nonneg
  have hp0 := hp.nonneg
  obtain ⟨w0, w1⟩ := inv_le_one j
  have k1 : pv * a ≤ pv * 16 := Rat.mul_le_mul_of_nonneg_left ha hp0
  have k0 : 0 ≤ pv * a := Rat.mul_nonneg hp0 ha0
  obtain ⟨m, m1, m2, m3⟩ := mulW_ok hp hx (by grind)
  have u1 := m3.up
  have u2 := m3.dn
  rw [half_iU] at u1 u2
  have hs := iU_small
  have hs0 := iU_pos
  have hm0 := m2.nonneg
  have hmw : m * (1 / ((j + 1 : Nat) : Rat)) ≤ m * 1 := Rat.mul_le_mul_of_nonneg_left w1 hm0
  have hpos : (0 : Rat) < ((j + 1 : Nat) : Rat) := by exact_mod_cast (by omega : 0 < j + 1)
  obtain ⟨d, d1, d2, d3⟩ := divW_ok m2 (natW_ok (j + 1) (by omega)) hpos (by rw [div_as_mul]; grind)
  refine ⟨m1, d1, d, d2, ?_⟩
  have v1 := d3.up
  have v2 := d3.dn
  rw [div_as_mul] at v1 v2
  rw [div_as_mul (pv * a)]
  generalize 1 / ((j + 1 : Nat) : Rat) = w at *
  generalize pv * a = X at *
  have b1 := Rat.mul_le_mul_of_nonneg_right u1 (Rat.le_of_lt w0)
  have b2 := Rat.mul_le_mul_of_nonneg_right u2 (Rat.le_of_lt w0)
  have b3 : (1 / U) * w ≤ (1 / U) * 1 := Rat.mul_le_mul_of_nonneg_left w1 (Rat.le_of_lt hs0)
  have b4 : 0 ≤ (1 / U) * w := Rat.mul_nonneg (Rat.le_of_lt hs0) (Rat.le_of_lt w0)
  have b5 : 0 ≤ X * w := Rat.mul_nonneg k0 (Rat.le_of_lt w0)
  have b6 : 0 ≤ m * w := Rat.mul_nonneg hm0 (Rat.le_of_lt w0)
  generalize 1 / U = iU at *
  have e1 : (X + X / 2 ^ 53 + iU / 2) * w = X * w + X * w / 2 ^ 53 + iU * w / 2 := by grind
  have e2 : (m + X / 2 ^ 53 + iU / 2) * w = m * w + X * w / 2 ^ 53 + iU * w / 2 := by grind
  rw [e1] at b1
  rw [e2] at b2
  generalize X * w = Y at *
  generalize m * w = M at *
  generalize iU * w = V at *
  exact ⟨by grind, by grind⟩

/-- Two numbers of the format lie apart. -/
theorem rep_apart {c r : Rat} (hc : RepV c) (hr : RepV r) (h0 : 0 < c) (h : c < r) : c / (2 ^ 53 - 1) ≤ r - c := by
  have hU := U_pos
  obtain ⟨k, j, hk, hk53⟩ := hc
  obtain ⟨k', j', hk', hk53'⟩ := hr
  have hlt : c * U < r * U := (Rat.mul_lt_mul_right hU).2 h
  rw [hk, hk'] at hlt
  -- (2^53 - 1) (r - c) >= c
  have key : (k : Rat) * 2 ^ j ≤ (2 ^ 53 - 1) * ((k' : Rat) * 2 ^ j' - (k : Rat) * 2 ^ j) := by
    by_cases hj : j ≤ j'
    · obtain ⟨q, rfl⟩ : ∃ q, j' = j + q := ⟨j' - j, by omega⟩
      have e : (k' : Rat) * 2 ^ (j + q) = ((k' * 2 ^ q : Nat) : Rat) * 2 ^ j := by rw [cast_mp, rpow_add]; grind
      rw [e] at hlt ⊢
      have hp := rpow_pos j
      have h1 := (Rat.mul_lt_mul_right hp).1 hlt
      have h2 : k < k' * 2 ^ q := by exact_mod_cast h1
      have h3 : (k : Rat) + 1 ≤ ((k' * 2 ^ q : Nat) : Rat) := by exact_mod_cast (by omega : k + 1 ≤ k' * 2 ^ q)
      have h4 : (k : Rat) ≤ 2 ^ 53 - 1 := by
        have : (k : Rat) + 1 ≤ 2 ^ 53 := by exact_mod_cast (by omega : k + 1 ≤ 2 ^ 53)
        grind
      have h5 : (k : Rat) * 2 ^ j ≤ (2 ^ 53 - 1) * 2 ^ j := Rat.mul_le_mul_of_nonneg_right h4 (Rat.le_of_lt hp)
      have h6 : ((k : Rat) + 1) * 2 ^ j ≤ ((k' * 2 ^ q : Nat) : Rat) * 2 ^ j := Rat.mul_le_mul_of_nonneg_right h3 (Rat.le_of_lt hp)
      grind
    · obtain ⟨q, rfl⟩ : ∃ q, j = j' + q := ⟨j - j', by omega⟩
      have e : (k : Rat) * 2 ^ (j' + q) = ((k * 2 ^ q : Nat) : Rat) * 2 ^ j' := by rw [cast_mp, rpow_add]; grind
      rw [e] at hlt ⊢
      have hp := rpow_pos j'
      have h1 := (Rat.mul_lt_mul_right hp).1 hlt
      have h2 : k * 2 ^ q < k' := by exact_mod_cast h1
      have h3 : ((k * 2 ^ q : Nat) : Rat) + 1 ≤ (k' : Rat) := by exact_mod_cast (by omega : k * 2 ^ q + 1 ≤ k')
      have h4 : ((k * 2 ^ q : Nat) : Rat) ≤ 2 ^ 53 - 1 := by
        have : ((k * 2 ^ q : Nat) : Rat) + 1 ≤ 2 ^ 53 := by exact_mod_cast (by omega : k * 2 ^ q + 1 ≤ 2 ^ 53)
        grind
      have h5 : ((k * 2 ^ q : Nat) : Rat) * 2 ^ j' ≤ (2 ^ 53 - 1) * 2 ^ j' := Rat.mul_le_mul_of_nonneg_right h4 (Rat.le_of_lt hp)
      have h6 : (((k * 2 ^ q : Nat) : Rat) + 1) * 2 ^ j' ≤ (k' : Rat) * 2 ^ j' := Rat.mul_le_mul_of_nonneg_right h3 (Rat.le_of_lt hp)
      grind
  rw [← hk, ← hk'] at key
  have key2 : c * U ≤ ((2 ^ 53 - 1) * (r - c)) * U := by grind
  have key3 := Rat.le_of_mul_le_mul_right key2 hU
  grind

/-- A sum with a term that is nothing beside it. -/
theorem absorb {c p r : Rat} (h : Rnd (c + p) r) (hc : RepV c) (h0 : 1 / 2 ^ 100 ≤ c) (hp0 : 0 ≤ p) (hp : p ≤ c / 2 ^ 110) : r = c := by
  have h1 := h.mono c hc (by grind)
  by_cases he : r = c
  · exact he
  · exfalso
    have hlt : c < r := by grind
    have h2 := rep_apart hc h.rep (by grind) hlt
    have u1 := h.up
    rw [half_iU] at u1
    have hs := iU_small
    grind

/-! ### The Poisson terms and their sums -/
def pW (p0 x : Nat) : Nat → Nat
  | 0 => p0
  | j + 1 => divW (mulW (pW p0 x j) x) (natW (j + 1))
def cW (p0 x : Nat) : Nat → Nat
  | 0 => p0
  | j + 1 => addW (cW p0 x j) (pW p0 x (j + 1))

/-- What is asked of the first term and of the mean. -/
structure Start (p0 x : Nat) (P0 a : Rat) : Prop where
  hp : F p0 P0
  hx : F x a
  ha : a ≤ 16
  lo : 1 / 2 ^ 30 ≤ P0
  hi : P0 ≤ 2

theorem pow32 (j : Nat) (h : j ≤ 33) : (1 : Rat) ≤ 32 ^ j ∧ (32 : Rat) ^ j ≤ 2 ^ 165 := by
  have h1 : 32 ^ j ≤ 2 ^ 165 := Nat.le_trans (Nat.pow_le_pow_right (by omega) h) (by decide)
  have h2 : 1 ≤ 32 ^ j := Nat.pow_pos (by omega)
  exact ⟨by exact_mod_cast h2, by exact_mod_cast h1⟩

theorem p_crude1 {p0 x : Nat} {P0 a : Rat} (st : Start p0 x P0 a) : ∀ j, j ≤ 33 → F (pW p0 x j) (val (pW p0 x j)) ∧ val (pW p0 x j) ≤ 2 * 32 ^ j
  | 0, _ => by
    have h := st.hp.val
    unfold pW
    rw [h]
    have := st.hi
    simp only [Rat.pow_zero]
    exact ⟨st.hp, by grind⟩
  | j + 1, hj => by
    obtain ⟨h1, h2⟩ := p_crude1 st j (by omega)
    obtain ⟨q1, q2⟩ := pow32 j (by omega)
    obtain ⟨_, _, d, d1, d2, d3⟩ := p_step (j := j) h1 st.hx st.ha (by grind) (by omega)
    have e : pW p0 x (j + 1) = divW (mulW (pW p0 x j) x) (natW (j + 1)) := rfl
    rw [e, d1.val]
    refine ⟨d1, ?_⟩
    have ha0 := st.hx.nonneg
    have ha := st.ha
    have hp0 := h1.nonneg
    obtain ⟨w0, w1⟩ := inv_le_one j
    rw [div_as_mul] at d2
    generalize val (pW p0 x j) = pv at *
    have k1 : pv * a ≤ pv * 16 := Rat.mul_le_mul_of_nonneg_left ha hp0
    have k0 : 0 ≤ pv * a := Rat.mul_nonneg hp0 ha0
    have k2 : pv * a * (1 / ((j + 1 : Nat) : Rat)) ≤ pv * a * 1 := Rat.mul_le_mul_of_nonneg_left w1 k0
    have hs := iU_small
    rw [Rat.pow_succ]
    grind

def D : Nat → Rat
  | 0 => 2 ^ 166
  | i + 1 => D i / 2
theorem D_range : ∀ i, 0 ≤ D i ∧ D i ≤ 2 ^ 166
  | 0 => ⟨by unfold D; decide +kernel, by unfold D; decide +kernel⟩
  | i + 1 => by
    obtain ⟨a, b⟩ := D_range i
    unfold D
    exact ⟨by grind, by grind⟩
theorem D_367 : D 367 ≤ 1 / 2 ^ 200 := by decide +kernel

theorem inv_34 (i : Nat) : 1 / ((33 + i + 1 : Nat) : Rat) ≤ 1 / 34 := by
  have h1 : (34 : Rat) ≤ ((33 + i + 1 : Nat) : Rat) := by exact_mod_cast (by omega : 34 ≤ 33 + i + 1)
  obtain ⟨h3, _⟩ := inv_le_one (33 + i)
  have h4 : (1 / ((33 + i + 1 : Nat) : Rat)) * 34 ≤ (1 / ((33 + i + 1 : Nat) : Rat)) * ((33 + i + 1 : Nat) : Rat) := Rat.mul_le_mul_of_nonneg_left h1 (Rat.le_of_lt h3)
  rw [Rat.div_mul_cancel (by grind)] at h4
  grind

theorem p_crude2 {p0 x : Nat} {P0 a : Rat} (st : Start p0 x P0 a) : ∀ i, i ≤ 400 → F (pW p0 x (33 + i)) (val (pW p0 x (33 + i))) ∧ val (pW p0 x (33 + i)) ≤ D i + 4 * (1 / U)
  | 0, _ => by
    obtain ⟨h1, h2⟩ := p_crude1 st 33 (by omega)
    refine ⟨h1, ?_⟩
    have e : (2 : Rat) * 32 ^ 33 = D 0 := by decide +kernel
    have := iU_pos
    rw [e] at h2
    have e2 : 33 + 0 = 33 := rfl
    rw [e2]
    grind
  | i + 1, hi => by
    obtain ⟨h1, h2⟩ := p_crude2 st i (by omega)
    obtain ⟨q1, q2⟩ := D_range i
    have hs := iU_small
    have hs0 := iU_pos
    obtain ⟨_, _, d, d1, d2, d3⟩ := p_step (j := 33 + i) h1 st.hx st.ha (by grind) (by omega)
    have e : pW p0 x (33 + (i + 1)) = divW (mulW (pW p0 x (33 + i)) x) (natW (33 + i + 1)) := rfl
    rw [e, d1.val]
    refine ⟨d1, ?_⟩
    have ha0 := st.hx.nonneg
    have ha := st.ha
    have hp0 := h1.nonneg
    obtain ⟨w0, w1⟩ := inv_le_one (33 + i)
    have w2 := inv_34 i
    rw [div_as_mul] at d2
    generalize val (pW p0 x (33 + i)) = pv at *
    have k1 : pv * a ≤ pv * 16 := Rat.mul_le_mul_of_nonneg_left ha hp0
    have k0 : 0 ≤ pv * a := Rat.mul_nonneg hp0 ha0
    have k2 : pv * a * (1 / ((33 + i + 1 : Nat) : Rat)) ≤ pv * a * (1 / 34) := Rat.mul_le_mul_of_nonneg_left w2 k0
    have eD : D (i + 1) = D i / 2 := rfl
    rw [eD]
    grind

theorem p_all {p0 x : Nat} {P0 a : Rat} (st : Start p0 x P0 a) (j : Nat) (hj : j ≤ 400) : F (pW p0 x j) (val (pW p0 x j)) ∧ val (pW p0 x j) ≤ 2 ^ 167 := by
  by_cases h : j ≤ 33
  · obtain ⟨h1, h2⟩ := p_crude1 st j h
    obtain ⟨q1, q2⟩ := pow32 j h
    exact ⟨h1, by grind⟩
  · obtain ⟨i, rfl⟩ : ∃ i, j = 33 + i := ⟨j - 33, by omega⟩
    obtain ⟨h1, h2⟩ := p_crude2 st i (by omega)
    obtain ⟨q1, q2⟩ := D_range i
    have hs := iU_small
    exact ⟨h1, by grind⟩

theorem c_all {p0 x : Nat} {P0 a : Rat} (st : Start p0 x P0 a) : ∀ j, j ≤ 400 → F (cW p0 x j) (val (cW p0 x j)) ∧ P0 ≤ val (cW p0 x j) ∧ val (cW p0 x j) ≤ ((j : Rat) + 1) * 2 ^ 168
  | 0, _ => by
    have h := st.hp.val
    unfold cW
    rw [h]
    have := st.hi
    have e : ((0 : Nat) : Rat) = 0 := rfl
    rw [e]
    exact ⟨st.hp, by grind, by grind⟩
  | j + 1, hj => by
    obtain ⟨h1, h2, h3⟩ := c_all st j (by omega)
    obtain ⟨g1, g2⟩ := p_all st (j + 1) hj
    have hj4 : (j : Rat) ≤ 400 := by exact_mod_cast (by omega : j ≤ 400)
    have hn : ((j + 1 : Nat) : Rat) = (j : Rat) + 1 := by exact_mod_cast rfl
    obtain ⟨r, r1, r2, r3⟩ := addW_ok h1 g1 (by grind)
    have e : cW p0 x (j + 1) = addW (cW p0 x j) (pW p0 x (j + 1)) := rfl
    rw [e, r2.val, hn]
    have hp0 := g1.nonneg
    have m := r3.mono _ h1.rep (by grind)
    have u1 := r3.up
    rw [half_iU] at u1
    have hs := iU_small
    exact ⟨r2, by grind, by grind⟩

/-- One round of the sums: valid; it does not fall; and what the rounding did. -/
theorem c_step {p0 x : Nat} {P0 a : Rat} (st : Start p0 x P0 a) (j : Nat) (hj : j < 400) :
    double.mul (pW p0 x j) x = some (mulW (pW p0 x j) x) ∧ double.div (mulW (pW p0 x j) x) (natW (j + 1)) = some (pW p0 x (j + 1)) ∧ double.add (cW p0 x j) (pW p0 x (j + 1)) = some (cW p0 x (j + 1)) ∧
      Rnd (val (cW p0 x j) + val (pW p0 x (j + 1))) (val (cW p0 x (j + 1))) ∧ val (cW p0 x j) ≤ val (cW p0 x (j + 1)) := by
  obtain ⟨h1, h2, h3⟩ := c_all st j (by omega)
  obtain ⟨f1, f2⟩ := p_all st j (by omega)
  obtain ⟨g1, g2⟩ := p_all st (j + 1) (by omega)
  have hj4 : (j : Rat) ≤ 400 := by exact_mod_cast (by omega : j ≤ 400)
  obtain ⟨r, r1, r2, r3⟩ := addW_ok h1 g1 (by grind)
  obtain ⟨m1, m2, _⟩ := p_step (j := j) f1 st.hx st.ha (by grind) (by omega)
  have e : val (cW p0 x (j + 1)) = r := r2.val
  have hp0 := g1.nonneg
  rw [e]
  exact ⟨m1, m2, r1, r3, r3.mono _ h1.rep (by grind)⟩

/-- The sums stand still in the end. -/
theorem c_ends {p0 x : Nat} {P0 a : Rat} (st : Start p0 x P0 a) (n : Nat) (hn : n = 399) : val (cW p0 x (n + 1)) = val (cW p0 x n) := by
  obtain ⟨_, _, _, r, _⟩ := c_step st n (by omega)
  obtain ⟨h1, h2, h3⟩ := c_all st n (by omega)
  obtain ⟨i, hi⟩ : ∃ i, i = 367 := ⟨_, rfl⟩
  obtain ⟨g1, g2⟩ := p_crude2 st i (by omega)
  have e : 33 + i = n + 1 := by omega
  rw [e] at g1 g2
  rw [hi] at g2
  have hd := D_367
  have hs := iU_small
  have hlo := st.lo
  exact absorb r h1.rep (by grind) g1.nonneg (by grind)
end Go.Proofs.Ybulkkei.Fl
