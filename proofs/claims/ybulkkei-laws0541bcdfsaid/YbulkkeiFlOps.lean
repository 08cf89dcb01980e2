/-
  FLOATS, THE OPERATIONS: product, sum, difference, quotient, comparison, whole numbers: each in rationals.
-/
import Derived.Test.YbulkkeiFl
namespace Go.Proofs.Ybulkkei.Fl
open Ieee

theorem U_pow (s : Nat) (h : s = 1074) : U = (2 : Rat) ^ s := by
  have : UN = 2 ^ s := by subst h; rfl
  unfold U
  rw [this]
  exact_mod_cast rfl

theorem rpow_add (a b : Nat) : (2 : Rat) ^ (a + b) = 2 ^ a * 2 ^ b := by
  have : 2 ^ (a + b) = 2 ^ a * 2 ^ b := Nat.pow_add 2 a b
  exact_mod_cast this
theorem rpow_pos (a : Nat) : (0 : Rat) < 2 ^ a := Rat.pow_pos (by decide)

theorem cast_mp (m k : Nat) : ((m * 2 ^ k : Nat) : Rat) = (m : Rat) * 2 ^ k := by exact_mod_cast rfl
theorem cast_mul (m k : Nat) : ((m * k : Nat) : Rat) = (m : Rat) * (k : Rat) := by exact_mod_cast rfl

theorem F.nonneg {b : Nat} {v : Rat} (h : F b v) : 0 ≤ v := by
  obtain ⟨n, _, hv⟩ := h
  have h0 : (0 : Rat) * U ≤ v * U := by rw [hv, Rat.zero_mul]; exact Rat.natCast_nonneg
  exact Rat.le_of_mul_le_mul_right h0 U_pos

theorem RepV.zero : RepV 0 := ⟨0, 0, by simp, by omega⟩
theorem rnd_zero : Rnd 0 0 := by
  have h1 : (0 : Rat) < 1 / (2 * U) := by have := U_pos; rw [Rat.div_def, Rat.one_mul]; exact Rat.inv_pos.2 (by grind)
  exact ⟨by grind, by grind, RepV.zero, fun _ _ h => h, fun _ _ h => h⟩
theorem F_zero {b : Nat} (h : Fin b 0) : F b 0 := ⟨0, h, by simp⟩

/-- 'nearest' of a number with no sign, or nought. -/
theorem near (neg : Bool) (mag : Nat) (place : Int) (x : Rat) (s t : Nat) (hn : neg = true → mag = 0) (hst : place + 1074 = (t : Int) - (s : Int)) (hx : x * U * 2 ^ s = (mag : Rat) * 2 ^ t) (hb : x ≤ 2 ^ 200) :
    ∃ c, F (double.nearest neg mag place) c ∧ Rnd x c := by
  by_cases hm : mag = 0
  · subst hm
    have hx0 : x = 0 := by
      have h1 : x * U * 2 ^ s = 0 := by rw [hx]; simp
      have h2 := U_pos
      have h3 := rpow_pos s
      rcases Rat.mul_eq_zero.1 h1 with h | h
      · rcases Rat.mul_eq_zero.1 h with h | h
        · exact h
        · grind
      · grind
    subst hx0
    exact ⟨0, F_zero (nearest_zero neg place), rnd_zero⟩
  · have hf : neg = false := by cases neg <;> simp_all
    subst hf
    exact near_pos mag place x s t hm hst hx hb

theorem F_mul {x y : Nat} {a b : Rat} (hx : F x a) (hy : F y b) (hb : a * b ≤ 2 ^ 200) : ∃ r c, double.mul x y = some r ∧ F r c ∧ Rnd (a * b) c := by
  obtain ⟨n1, ⟨s1, m1, i1, r1, p1, e1, z1⟩, v1⟩ := hx
  obtain ⟨n2, ⟨s2, m2, i2, r2, p2, e2, z2⟩, v2⟩ := hy
  obtain ⟨K, hK⟩ : ∃ K : Nat, K = 1074 := ⟨_, rfl⟩
  obtain ⟨c, hF, hR⟩ := near (s1 ^^ s2) (m1 * m2) (i1 + i2) (a * b) K ((i1 + 1074).toNat + (i2 + 1074).toNat) (by
      intro h
      cases s1 <;> cases s2 <;> simp_all) (by omega) (by
      rw [← U_pow K hK, rpow_add]
      have h1 : a * U = (m1 : Rat) * 2 ^ (i1 + 1074).toNat := by rw [v1, e1, cast_mp]
      have h2 : b * U = (m2 : Rat) * 2 ^ (i2 + 1074).toNat := by rw [v2, e2, cast_mp]
      rw [cast_mul]
      generalize (2 : Rat) ^ (i1 + 1074).toNat = A at *
      generalize (2 : Rat) ^ (i2 + 1074).toNat = B at *
      have : a * b * U * U = (a * U) * (b * U) := by grind
      rw [this, h1, h2]
      grind) hb
  refine ⟨_, c, ?_, hF, hR⟩
  simp [Format.mul, r1, r2, Datum.product, Format.write]

theorem F_add {x y : Nat} {a b : Rat} (hx : F x a) (hy : F y b) (hb : a + b ≤ 2 ^ 200) : ∃ r c, double.add x y = some r ∧ F r c ∧ Rnd (a + b) c := by
  obtain ⟨n1, ⟨s1, m1, i1, r1, p1, e1, z1⟩, v1⟩ := hx
  obtain ⟨n2, ⟨s2, m2, i2, r2, p2, e2, z2⟩, v2⟩ := hy
  have t1 : signed s1 m1 (i1 - min i1 i2).toNat = ((m1 * 2 ^ (i1 - min i1 i2).toNat : Nat) : Int) := by
    unfold signed
    rw [Nat.shiftLeft_eq]
    split
    · rename_i h; rw [z1 h]; simp
    · rfl
  have t2 : signed s2 m2 (i2 - min i1 i2).toNat = ((m2 * 2 ^ (i2 - min i1 i2).toNat : Nat) : Int) := by
    unfold signed
    rw [Nat.shiftLeft_eq]
    split
    · rename_i h; rw [z2 h]; simp
    · rfl
  have hsum : double.add x y = some (double.nearest (if ((m1 * 2 ^ (i1 - min i1 i2).toNat : Nat) : Int) + ((m2 * 2 ^ (i2 - min i1 i2).toNat : Nat) : Int) = 0 then s1 && s2 else decide (((m1 * 2 ^ (i1 - min i1 i2).toNat : Nat) : Int) + ((m2 * 2 ^ (i2 - min i1 i2).toNat : Nat) : Int) < 0))
      (m1 * 2 ^ (i1 - min i1 i2).toNat + m2 * 2 ^ (i2 - min i1 i2).toNat) (min i1 i2)) := by
    simp only [Format.add, r1, r2, Datum.sum, t1, t2, Option.map_some, Format.write]
    rw [← Int.natCast_add, Int.natAbs_natCast]
  obtain ⟨A, hA⟩ : ∃ A, A = (i1 - min i1 i2).toNat := ⟨_, rfl⟩
  obtain ⟨B, hB⟩ : ∃ B, B = (i2 - min i1 i2).toNat := ⟨_, rfl⟩
  obtain ⟨T, hT⟩ : ∃ T, T = (min i1 i2 + 1074).toNat := ⟨_, rfl⟩
  rw [← hA, ← hB] at hsum
  have k1 : (i1 + 1074).toNat = A + T := by omega
  have k2 : (i2 + 1074).toNat = B + T := by omega
  rw [k1] at e1
  rw [k2] at e2
  obtain ⟨c, hF, hR⟩ := near (if ((m1 * 2 ^ A : Nat) : Int) + ((m2 * 2 ^ B : Nat) : Int) = 0 then s1 && s2 else decide (((m1 * 2 ^ A : Nat) : Int) + ((m2 * 2 ^ B : Nat) : Int) < 0)) (m1 * 2 ^ A + m2 * 2 ^ B) (min i1 i2) (a + b) 0 T (by
      intro h
      split at h
      · omega
      · simp only [decide_eq_true_eq] at h
        omega) (by omega) (by
      have h1 : a * U = (m1 : Rat) * 2 ^ (A + T) := by rw [v1, e1, cast_mp]
      have h2 : b * U = (m2 : Rat) * 2 ^ (B + T) := by rw [v2, e2, cast_mp]
      have h3 : ((m1 * 2 ^ A + m2 * 2 ^ B : Nat) : Rat) = (m1 : Rat) * 2 ^ A + (m2 : Rat) * 2 ^ B := by exact_mod_cast rfl
      rw [h3]
      rw [rpow_add] at h1 h2
      simp only [Rat.pow_zero, Rat.mul_one]
      have : (a + b) * U = a * U + b * U := by grind
      rw [this, h1, h2]
      grind) hb
  exact ⟨_, c, hsum, hF, hR⟩

/-- A rounded number of the format is itself. -/
theorem Rnd.eq_of_rep {x c : Rat} (h : Rnd x c) (hr : RepV x) : c = x := by
  have h1 := h.mono x hr (by grind)
  have h2 := h.anti x hr (by grind)
  grind

theorem F_sub {x y : Nat} {a b : Rat} (hx : F x a) (hy : F y b) (hle : b ≤ a) (hb : a ≤ 2 ^ 200) : ∃ r c, double.sub x y = some r ∧ F r c ∧ Rnd (a - b) c := by
  have hb0 := hy.nonneg
  obtain ⟨n1, ⟨s1, m1, i1, r1, p1, e1, z1⟩, v1⟩ := hx
  obtain ⟨n2, ⟨s2, m2, i2, r2, p2, e2, z2⟩, v2⟩ := hy
  have hn : n2 ≤ n1 := by
    have h : b * U ≤ a * U := Rat.mul_le_mul_of_nonneg_right hle (Rat.le_of_lt U_pos)
    rw [v1, v2] at h
    exact_mod_cast h
  have t1 : signed s1 m1 (i1 - min i1 i2).toNat = ((m1 * 2 ^ (i1 - min i1 i2).toNat : Nat) : Int) := by
    unfold signed
    rw [Nat.shiftLeft_eq]
    split
    · rename_i h; rw [z1 h]; simp
    · rfl
  have t2 : signed (!s2) m2 (i2 - min i1 i2).toNat = -((m2 * 2 ^ (i2 - min i1 i2).toNat : Nat) : Int) := by
    unfold signed
    rw [Nat.shiftLeft_eq]
    split
    · rfl
    · rename_i h
      have : s2 = true := by cases s2 <;> simp_all
      rw [z2 this]; simp
  obtain ⟨A, hA⟩ : ∃ A, A = (i1 - min i1 i2).toNat := ⟨_, rfl⟩
  obtain ⟨B, hB⟩ : ∃ B, B = (i2 - min i1 i2).toNat := ⟨_, rfl⟩
  obtain ⟨T, hT⟩ : ∃ T, T = (min i1 i2 + 1074).toNat := ⟨_, rfl⟩
  rw [← hA] at t1
  rw [← hB] at t2
  have k1 : (i1 + 1074).toNat = A + T := by omega
  have k2 : (i2 + 1074).toNat = B + T := by omega
  rw [k1] at e1
  rw [k2] at e2
  have hle2 : m2 * 2 ^ B ≤ m1 * 2 ^ A := by
    have h : m2 * 2 ^ B * 2 ^ T ≤ m1 * 2 ^ A * 2 ^ T := by
      rw [Nat.mul_assoc, ← Nat.pow_add, Nat.mul_assoc, ← Nat.pow_add, ← e1, ← e2]
      exact hn
    exact Nat.le_of_mul_le_mul_right h (Nat.two_pow_pos _)
  have hsum : double.sub x y = some (double.nearest (if ((m1 * 2 ^ A : Nat) : Int) + -((m2 * 2 ^ B : Nat) : Int) = 0 then s1 && !s2 else decide (((m1 * 2 ^ A : Nat) : Int) + -((m2 * 2 ^ B : Nat) : Int) < 0))
      (m1 * 2 ^ A - m2 * 2 ^ B) (min i1 i2)) := by
    simp only [Format.sub, r1, r2, Datum.opposite, Datum.sum, ← hA, ← hB, t1, t2, Option.map_some, Format.write]
    have : (((m1 * 2 ^ A : Nat) : Int) + -((m2 * 2 ^ B : Nat) : Int)).natAbs = m1 * 2 ^ A - m2 * 2 ^ B := by omega
    rw [this]
  obtain ⟨c, hF, hR⟩ := near (if ((m1 * 2 ^ A : Nat) : Int) + -((m2 * 2 ^ B : Nat) : Int) = 0 then s1 && !s2 else decide (((m1 * 2 ^ A : Nat) : Int) + -((m2 * 2 ^ B : Nat) : Int) < 0)) (m1 * 2 ^ A - m2 * 2 ^ B) (min i1 i2) (a - b) 0 T (by
      intro h
      split at h
      · omega
      · simp only [decide_eq_true_eq] at h
        omega) (by omega) (by
      have h1 : a * U = (m1 : Rat) * 2 ^ (A + T) := by rw [v1, e1, cast_mp]
      have h2 : b * U = (m2 : Rat) * 2 ^ (B + T) := by rw [v2, e2, cast_mp]
      have h3 : ((m1 * 2 ^ A - m2 * 2 ^ B : Nat) : Rat) = (m1 : Rat) * 2 ^ A - (m2 : Rat) * 2 ^ B := by
        obtain ⟨d, hd⟩ : ∃ d, m1 * 2 ^ A = m2 * 2 ^ B + d := ⟨m1 * 2 ^ A - m2 * 2 ^ B, by omega⟩
        have h4 : (m1 : Rat) * 2 ^ A = (m2 : Rat) * 2 ^ B + (d : Rat) := by exact_mod_cast hd
        have h5 : m1 * 2 ^ A - m2 * 2 ^ B = d := by omega
        rw [h5, h4]
        grind
      rw [h3]
      rw [rpow_add] at h1 h2
      simp only [Rat.pow_zero, Rat.mul_one]
      have : (a - b) * U = a * U - b * U := by grind
      rw [this, h1, h2]
      grind) (by grind)
  exact ⟨_, c, hsum, hF, hR⟩

/-- The error of one operation, once more loosely (a division's quotient is cut ahead of its rounding). -/
structure Err (x c : Rat) : Prop where
  up : c ≤ x + x / 2 ^ 52 + 1 / U
  dn : x ≤ c + x / 2 ^ 52 + 1 / U
theorem iU_pos : 0 < 1 / U := by have := U_pos; rw [Rat.div_def, Rat.one_mul]; exact Rat.inv_pos.2 this
theorem half_iU : 1 / (2 * U) = 1 / U / 2 := by have := U_pos; grind
theorem Rnd.err {x c : Rat} (h : Rnd x c) (_h0 : 0 ≤ x) : Err x c := by
  have h1 := h.up
  have h2 := h.dn
  have h3 := iU_pos
  rw [half_iU] at h1 h2
  exact ⟨by grind, by grind⟩

theorem F_div {x y : Nat} {a b : Rat} (hx : F x a) (hy : F y b) (hb0 : 0 < b) (hb : a / b ≤ 2 ^ 190) : ∃ r c, double.div x y = some r ∧ F r c ∧ Err (a / b) c := by
  obtain ⟨n1, ⟨s1, m1, i1, r1, p1, e1, z1⟩, v1⟩ := hx
  obtain ⟨n2, ⟨s2, m2, i2, r2, p2, e2, z2⟩, v2⟩ := hy
  have hU := U_pos
  have hm2 : m2 ≠ 0 := by
    rintro rfl
    rw [e2] at v2
    simp at v2
    have : 0 < b * U := Rat.mul_pos hb0 hU
    grind
  have hs2 : s2 = false := by cases s2 <;> simp_all
  subst hs2
  have hlo1 : m1 ≠ 0 → 2 ^ m1.log2 ≤ m1 := fun h => Nat.log2_self_le h
  have hhi2 : m2 < 2 ^ (m2.log2 + 1) := Nat.lt_log2_self
  obtain ⟨mo, hmo⟩ : ∃ mo, mo = 54 + m2.log2 - m1.log2 := ⟨_, rfl⟩
  obtain ⟨dv, hdv⟩ : ∃ dv, dv = m1 * 2 ^ mo := ⟨_, rfl⟩
  obtain ⟨q, hq⟩ : ∃ q, q = dv / m2 := ⟨_, rfl⟩
  obtain ⟨rm, hrm⟩ : ∃ rm, rm = dv % m2 := ⟨_, rfl⟩
  have hdm : m2 * q + rm = dv := by rw [hq, hrm]; exact Nat.div_add_mod dv m2
  have hrlt : rm < m2 := by rw [hrm]; exact Nat.mod_lt _ (by omega)
  obtain ⟨st, hst, hst0, hst1⟩ : ∃ st : Nat, (rm != 0).toNat = st ∧ (rm = 0 → st = 0) ∧ (rm ≠ 0 → st = 1) := ⟨_, rfl, by rintro rfl; rfl, by intro h; simp [h]⟩
  have hres : double.div x y = some (double.nearest s1 (2 * q + st) (i1 - i2 - mo - 1)) := by
    simp only [Format.div, r1, r2, Datum.quotient, if_neg hm2]
    have e52 : double.fractionBits + 2 = 54 := rfl
    simp only [e52, Nat.shiftLeft_eq, ← hmo, ← hdv, ← hq, ← hrm, hst, Option.map_some, Format.write, Bool.xor_false]
  by_cases hm1 : m1 = 0
  · have ha : a = 0 := by
      rw [e1, hm1] at v1
      simp at v1
      rcases Rat.mul_eq_zero.1 v1 with h | h
      · exact h
      · grind
    subst hm1
    have hd0 : dv = 0 := by rw [hdv]; simp
    have hq0 : q = 0 := by rw [hq, hd0]; simp
    have hr0 : rm = 0 := by rw [hrm, hd0]; simp
    have hs0 := hst0 hr0
    subst hq0 hs0
    refine ⟨_, 0, hres, F_zero (nearest_zero s1 _), ?_⟩
    rw [ha, Rat.div_def, Rat.zero_mul]
    have h3 := iU_pos
    exact ⟨by grind, by grind⟩
  · have hs1 : s1 = false := by cases s1 <;> simp_all
    subst hs1
    -- the quotient has 54 digits
    have hbig : 2 ^ 53 * m2 ≤ dv := by
      have h1 := hlo1 hm1
      calc 2 ^ 53 * m2 ≤ 2 ^ 53 * 2 ^ (m2.log2 + 1) := Nat.mul_le_mul_left _ (by omega)
        _ = 2 ^ (54 + m2.log2) := by rw [← Nat.pow_add, show 53 + (m2.log2 + 1) = 54 + m2.log2 by omega]
        _ ≤ 2 ^ (m1.log2 + mo) := Nat.pow_le_pow_right (by omega) (by omega)
        _ = 2 ^ m1.log2 * 2 ^ mo := Nat.pow_add _ _ _
        _ ≤ m1 * 2 ^ mo := Nat.mul_le_mul_right _ h1
        _ = dv := hdv.symm
    obtain ⟨K, hK⟩ : ∃ K : Nat, K = 1074 := ⟨_, rfl⟩
    have hUK := U_pow K hK
    obtain ⟨I, hI⟩ : ∃ I, I = (i1 + 1074).toNat := ⟨_, rfl⟩
    obtain ⟨J, hJ⟩ : ∃ J, J = (i2 + 1074).toNat := ⟨_, rfl⟩
    rw [← hI] at e1
    rw [← hJ] at e2
    have h1 : a * U = (m1 : Rat) * 2 ^ I := by rw [v1, e1, cast_mp]
    have h2 : b * U = (m2 : Rat) * 2 ^ J := by rw [v2, e2, cast_mp]
    have hpI := rpow_pos I
    have hpJ := rpow_pos J
    have hpM := rpow_pos mo
    -- the exact quotient z; dv = m1 2^mo
    obtain ⟨z, hz⟩ : ∃ z, z = a / b := ⟨_, rfl⟩
    have hzb : z * b = a := by rw [hz]; exact Rat.div_mul_cancel (by grind)
    rw [← hz] at hb ⊢
    have hz0 : 0 < z := by
      have hm1' : (0 : Rat) < (m1 : Rat) := by exact_mod_cast (by omega : 0 < m1)
      have ha : 0 < a := by
        have h3 : 0 < a * U := by rw [h1]; exact Rat.mul_pos hm1' hpI
        have h4 : (0 : Rat) * U < a * U := by rw [Rat.zero_mul]; exact h3
        exact (Rat.mul_lt_mul_right hU).1 h4
      rw [hz, Rat.div_def]
      exact Rat.mul_pos ha (Rat.inv_pos.2 hb0)
    have hzm : z * (m2 : Rat) * 2 ^ J * 2 ^ mo = (dv : Rat) * 2 ^ I := by
      have h5 : (dv : Rat) = (m1 : Rat) * 2 ^ mo := by rw [hdv, cast_mp]
      have h6 : z * (b * U) = a * U := by rw [← hzb]; grind
      rw [h1, h2] at h6
      rw [h5]
      grind
    -- what is written, z'
    obtain ⟨z', hz'⟩ : ∃ z', z' = ((2 * q + st : Nat) : Rat) * 2 ^ I / (2 ^ J * 2 ^ mo * 2) := ⟨_, rfl⟩
    have hzz : z' * (2 ^ J * 2 ^ mo * 2) = ((2 * q + st : Nat) : Rat) * 2 ^ I := by
      rw [hz']
      refine Rat.div_mul_cancel ?_
      have : (0 : Rat) < 2 ^ J * 2 ^ mo * 2 := Rat.mul_pos (Rat.mul_pos hpJ hpM) (by decide)
      grind
    have hm2' : (0 : Rat) < (m2 : Rat) := by exact_mod_cast (by omega : 0 < m2)
    have hW : (0 : Rat) < (m2 : Rat) * 2 ^ J * 2 ^ mo * 2 := Rat.mul_pos (Rat.mul_pos (Rat.mul_pos hm2' hpJ) hpM) (by decide)
    -- |(2q+st) m2 - 2 dv| <= m2, and 2^54 m2 <= 2 dv
    have n1' : (2 * q + st) * m2 ≤ 2 * dv + m2 := by
      by_cases h0 : rm = 0
      · rw [hst0 h0]; grind
      · rw [hst1 h0]; grind
    have n2' : 2 * dv ≤ (2 * q + st) * m2 + m2 := by
      by_cases h0 : rm = 0
      · rw [hst0 h0]; grind
      · rw [hst1 h0]; grind
    have c1 : ((2 * q + st : Nat) : Rat) * (m2 : Rat) ≤ 2 * (dv : Rat) + (m2 : Rat) := by exact_mod_cast n1'
    have c2 : 2 * (dv : Rat) ≤ ((2 * q + st : Nat) : Rat) * (m2 : Rat) + (m2 : Rat) := by exact_mod_cast n2'
    have c3 : (2 : Rat) ^ 53 * (m2 : Rat) ≤ (dv : Rat) := by exact_mod_cast hbig
    generalize hQ : ((2 * q + st : Nat) : Rat) = Q at *
    have d1 : z' ≤ z + z / 2 ^ 54 := by
      refine Rat.le_of_mul_le_mul_right (c := (m2 : Rat) * 2 ^ J * 2 ^ mo * 2) ?_ hW
      have l : z' * ((m2 : Rat) * 2 ^ J * 2 ^ mo * 2) = Q * (m2 : Rat) * 2 ^ I := by
        have : z' * ((m2 : Rat) * 2 ^ J * 2 ^ mo * 2) = (z' * (2 ^ J * 2 ^ mo * 2)) * (m2 : Rat) := by grind
        rw [this, hzz]; grind
      have r : (z + z / 2 ^ 54) * ((m2 : Rat) * 2 ^ J * 2 ^ mo * 2) = (2 * (dv : Rat) + 2 * (dv : Rat) / 2 ^ 54) * 2 ^ I := by
        have : (z + z / 2 ^ 54) * ((m2 : Rat) * 2 ^ J * 2 ^ mo * 2) = (2 + 2 / 2 ^ 54) * (z * (m2 : Rat) * 2 ^ J * 2 ^ mo) := by grind
        rw [this, hzm]; grind
      rw [l, r]
      refine Rat.mul_le_mul_of_nonneg_right ?_ (Rat.le_of_lt hpI)
      grind
    have d2 : z ≤ z' + z / 2 ^ 54 := by
      refine Rat.le_of_mul_le_mul_right (c := (m2 : Rat) * 2 ^ J * 2 ^ mo * 2) ?_ hW
      have l : z * ((m2 : Rat) * 2 ^ J * 2 ^ mo * 2) = 2 * (dv : Rat) * 2 ^ I := by
        have : z * ((m2 : Rat) * 2 ^ J * 2 ^ mo * 2) = 2 * (z * (m2 : Rat) * 2 ^ J * 2 ^ mo) := by grind
        rw [this, hzm]; grind
      have r : (z' + z / 2 ^ 54) * ((m2 : Rat) * 2 ^ J * 2 ^ mo * 2) = (Q * (m2 : Rat) + 2 * (dv : Rat) / 2 ^ 54) * 2 ^ I := by
        have : (z' + z / 2 ^ 54) * ((m2 : Rat) * 2 ^ J * 2 ^ mo * 2) = (z' * (2 ^ J * 2 ^ mo * 2)) * (m2 : Rat) + 2 / 2 ^ 54 * (z * (m2 : Rat) * 2 ^ J * 2 ^ mo) := by grind
        rw [this, hzz, hzm]; grind
      rw [l, r]
      refine Rat.mul_le_mul_of_nonneg_right ?_ (Rat.le_of_lt hpI)
      grind
    obtain ⟨c, hF, hR⟩ := near false (2 * q + st) (i1 - i2 - mo - 1) z' (J + mo + 1) (I + K) (by intro h; cases h) (by omega) (by
      rw [hQ, rpow_add I K, ← hUK, rpow_add, rpow_add]
      have : (2 : Rat) ^ 1 = 2 := by decide
      rw [this]
      have e : z' * U * (2 ^ J * 2 ^ mo * 2) = (z' * (2 ^ J * 2 ^ mo * 2)) * U := by grind
      rw [e, hzz]; grind) (by grind)
    refine ⟨_, c, hres, hF, ?_⟩
    have u1 := hR.up
    have u2 := hR.dn
    rw [half_iU] at u1 u2
    have h3 := iU_pos
    exact ⟨by grind, by grind⟩

/-! ### Comparisons -/
theorem order_fin {x y : Nat} {a b : Rat} (hx : F x a) (hy : F y b) : ∃ p q : Int, double.order x y = some (compare p q) ∧ (p < q ↔ a < b) ∧ (p = q ↔ a = b) := by
  obtain ⟨n1, ⟨s1, m1, i1, r1, p1, e1, z1⟩, v1⟩ := hx
  obtain ⟨n2, ⟨s2, m2, i2, r2, p2, e2, z2⟩, v2⟩ := hy
  have hU := U_pos
  have t1 : signed s1 m1 (i1 - min i1 i2).toNat = ((m1 * 2 ^ (i1 - min i1 i2).toNat : Nat) : Int) := by
    unfold signed
    rw [Nat.shiftLeft_eq]
    split
    · rename_i h; rw [z1 h]; simp
    · rfl
  have t2 : signed s2 m2 (i2 - min i1 i2).toNat = ((m2 * 2 ^ (i2 - min i1 i2).toNat : Nat) : Int) := by
    unfold signed
    rw [Nat.shiftLeft_eq]
    split
    · rename_i h; rw [z2 h]; simp
    · rfl
  obtain ⟨A, hA⟩ : ∃ A, A = (i1 - min i1 i2).toNat := ⟨_, rfl⟩
  obtain ⟨B, hB⟩ : ∃ B, B = (i2 - min i1 i2).toNat := ⟨_, rfl⟩
  obtain ⟨T, hT⟩ : ∃ T, T = (min i1 i2 + 1074).toNat := ⟨_, rfl⟩
  have k1 : (i1 + 1074).toNat = A + T := by omega
  have k2 : (i2 + 1074).toNat = B + T := by omega
  rw [k1] at e1
  rw [k2] at e2
  have pT : 0 < 2 ^ T := Nat.two_pow_pos _
  have f1 : n1 = m1 * 2 ^ A * 2 ^ T := by rw [e1, Nat.mul_assoc, ← Nat.pow_add]
  have f2 : n2 = m2 * 2 ^ B * 2 ^ T := by rw [e2, Nat.mul_assoc, ← Nat.pow_add]
  have hlt : a < b ↔ n1 < n2 := by
    rw [← Rat.mul_lt_mul_right hU, v1, v2]
    exact_mod_cast Iff.rfl
  have heq : a = b ↔ n1 = n2 := by
    constructor
    · intro h
      have : (n1 : Rat) = (n2 : Rat) := by rw [← v1, ← v2, h]
      exact_mod_cast this
    · intro h
      have h2 : a * U = b * U := by rw [v1, v2, h]
      have h3 : (a - b) * U = 0 := by grind
      rcases Rat.mul_eq_zero.1 h3 with h4 | h4
      · grind
      · grind
  refine ⟨((m1 * 2 ^ A : Nat) : Int), ((m2 * 2 ^ B : Nat) : Int), ?_, ?_, ?_⟩
  · rw [hA, hB]
    simp only [Format.order, r1, r2, Datum.order, t1, t2]
  · rw [hlt, f1, f2]
    constructor
    · intro h
      exact Nat.mul_lt_mul_of_pos_right (by omega) pT
    · intro h
      have := Nat.lt_of_mul_lt_mul_right h
      omega
  · rw [heq, f1, f2]
    constructor
    · intro h
      have : m1 * 2 ^ A = m2 * 2 ^ B := by omega
      rw [this]
    · intro h
      have := Nat.eq_of_mul_eq_mul_right pT h
      omega

theorem order_lt {x y : Nat} {a b : Rat} (hx : F x a) (hy : F y b) (h : a < b) : double.order x y = some .lt := by
  obtain ⟨p, q, h1, h2, h3⟩ := order_fin hx hy
  rw [h1, Int.compare_eq_lt.2 (h2.2 h)]
theorem order_eq {x y : Nat} {a b : Rat} (hx : F x a) (hy : F y b) (h : a = b) : double.order x y = some .eq := by
  obtain ⟨p, q, h1, h2, h3⟩ := order_fin hx hy
  rw [h1, Int.compare_eq_eq.2 (h3.2 h)]
theorem order_gt {x y : Nat} {a b : Rat} (hx : F x a) (hy : F y b) (h : b < a) : double.order x y = some .gt := by
  obtain ⟨p, q, h1, h2, h3⟩ := order_fin hx hy
  have h4 : ¬ p < q := fun hh => by have := h2.1 hh; grind
  have h5 : ¬ p = q := fun hh => by have := h3.1 hh; grind
  rw [h1, Int.compare_eq_gt.2 (by omega)]

/-! ### Whole numbers -/
theorem F_nat (n : Nat) (h : n < 2 ^ 53) : F (double.nearest false n 0) (n : Rat) := by
  obtain ⟨K, hK⟩ : ∃ K : Nat, K = 1074 := ⟨_, rfl⟩
  have hb : (n : Rat) ≤ 2 ^ 200 := by
    have : n ≤ 2 ^ 200 := by omega
    exact_mod_cast this
  obtain ⟨c, hF, hR⟩ := near false n 0 (n : Rat) 0 K (fun h => by cases h) (by omega) (by rw [U_pow K hK]; simp only [Rat.pow_zero, Rat.mul_one]) hb
  have hrep : RepV (n : Rat) := ⟨n, K, by rw [U_pow K hK], h⟩
  rw [hR.eq_of_rep hrep] at hF
  exact hF

/-- A number of the format, as the word has it, is representable. -/
theorem F.fin_mag {b : Nat} {v : Rat} (h : F b v) : ∃ (neg : Bool) (m : Nat) (i : Int), double.read b = .number neg m i ∧ (-1074 : Int) ≤ i ∧ v * U = (m : Rat) * 2 ^ (i + 1074).toNat ∧ (neg = true → m = 0) := by
  obtain ⟨n, ⟨s, m, i, r, p, e, z⟩, v1⟩ := h
  exact ⟨s, m, i, r, p, by rw [v1, e, cast_mp], z⟩

theorem read_mag_lt {b : Nat} {neg : Bool} {m : Nat} {i : Int} (h : double.read b = .number neg m i) : m < 2 ^ 53 := by
  unfold Format.read at h
  simp only [bin, infR, lp] at h
  split at h
  · rename_i hk
    cases h
    omega
  · split at h
    · rename_i h1 h2
      cases h
      omega
    · split at h
      · cases h
      · cases h

theorem F.rep {b : Nat} {v : Rat} (h : F b v) : RepV v := by
  obtain ⟨neg, m, i, hr, hi, hv, _⟩ := h.fin_mag
  exact ⟨m, _, hv, read_mag_lt hr⟩

/-- A constant. -/
theorem F_const {b m e : Nat} (h : double.read b = .number false m (-(e : Int))) (he : e ≤ 1074) : F b ((m : Rat) / 2 ^ e) := by
  obtain ⟨K, hK⟩ : ∃ K : Nat, K = 1074 := ⟨_, rfl⟩
  obtain ⟨d, hd⟩ : ∃ d, K = e + d := ⟨K - e, by omega⟩
  have e1 : (-(e : Int) + 1074).toNat = d := by omega
  refine ⟨m * 2 ^ d, ⟨false, m, _, h, by omega, by rw [e1], fun hh => by cases hh⟩, ?_⟩
  rw [U_pow K hK, hd, rpow_add, cast_mp]
  have := rpow_pos e
  have e2 : (m : Rat) / 2 ^ e * (2 ^ e * 2 ^ d) = ((m : Rat) / 2 ^ e * 2 ^ e) * 2 ^ d := by grind
  rw [e2, Rat.div_mul_cancel (by grind)]

/-- int(x): the whole part. -/
theorem F_floor {x : Nat} {a : Rat} (hx : F x a) : ∃ k : Nat, (double.read x).toInt .zero = some (k : Int) ∧ (k : Rat) ≤ a ∧ a < (k : Rat) + 1 ∧ RepV (a - (k : Rat)) := by
  obtain ⟨neg, m, i, hr, hi, hv, hz⟩ := hx.fin_mag
  have hm := read_mag_lt hr
  have hU := U_pos
  obtain ⟨K, hK⟩ : ∃ K : Nat, K = 1074 := ⟨_, rfl⟩
  have hUK := U_pow K hK
  have hcut : ∀ n drop : Nat, Toward.zero.cut neg n drop = n / 2 ^ drop := by
    intro n drop
    have hlog : n < 2 ^ (n.log2 + 1) := Nat.lt_log2_self
    unfold Toward.cut
    simp only [Nat.one_shiftLeft, Bool.toNat_false, Nat.add_zero]
    by_cases hd : drop ≤ n.log2 + 2
    · rw [Nat.min_eq_left hd]
    · rw [Nat.min_eq_right (by omega)]
      have h1 : n < 2 ^ (n.log2 + 2) := Nat.lt_of_lt_of_le hlog (Nat.pow_le_pow_right (by omega) (by omega))
      have h3 : 2 ^ (n.log2 + 2) ≤ 2 ^ drop := Nat.pow_le_pow_right (by omega) (by omega)
      rw [Nat.div_eq_of_lt h1, Nat.div_eq_of_lt (by omega)]
  obtain ⟨k, hk⟩ : ∃ k, k = (m * 2 ^ i.toNat) / 2 ^ (-i).toNat := ⟨_, rfl⟩
  have hint : (double.read x).toInt .zero = some (k : Int) := by
    rw [hr]
    simp only [Datum.toInt, Datum.integral, hcut, Nat.shiftLeft_eq, ← hk]
    unfold signed
    split
    · rename_i h
      have h0 := hz h
      subst h0
      have : k = 0 := by rw [hk]; simp
      subst this
      simp
    · simp
  refine ⟨k, hint, ?_⟩
  by_cases h0 : 0 ≤ i
  · -- whole already
    obtain ⟨d, hd⟩ : ∃ d : Nat, i = (d : Int) := ⟨i.toNat, by omega⟩
    subst hd
    have e1 : ((d : Int)).toNat = d := by omega
    have e2 : (-(d : Int)).toNat = 0 := by omega
    have e3 : ((d : Int) + 1074).toNat = d + K := by omega
    rw [e1, e2, Nat.pow_zero, Nat.div_one] at hk
    rw [e3, rpow_add, ← hUK] at hv
    have ha : a = (k : Rat) := by
      have h1 : (a - (k : Rat)) * U = 0 := by
        rw [hk, cast_mp]
        grind
      rcases Rat.mul_eq_zero.1 h1 with h | h
      · grind
      · grind
    rw [ha]
    refine ⟨by grind, by grind, ?_⟩
    have : (k : Rat) - (k : Rat) = 0 := by grind
    rw [this]
    exact RepV.zero
  · obtain ⟨d, hd⟩ : ∃ d : Nat, i = -(d : Int) := ⟨(-i).toNat, by omega⟩
    subst hd
    obtain ⟨I, hI⟩ : ∃ I : Nat, K = d + I := ⟨K - d, by omega⟩
    have e1 : (-(d : Int)).toNat = 0 := by omega
    have e2 : (- -(d : Int)).toNat = d := by omega
    have e3 : (-(d : Int) + 1074).toNat = I := by omega
    rw [e1, e2, Nat.pow_zero, Nat.mul_one] at hk
    rw [e3] at hv
    have hpI := rpow_pos I
    have hpd := rpow_pos d
    rw [hI, rpow_add] at hUK
    have hdm := Nat.div_add_mod m (2 ^ d)
    have hrl := Nat.mod_lt m (Nat.two_pow_pos d)
    rw [← hk] at hdm
    obtain ⟨r, hr'⟩ : ∃ r, r = m % 2 ^ d := ⟨_, rfl⟩
    rw [← hr'] at hdm hrl
    have c1 : (2 : Rat) ^ d * (k : Rat) + (r : Rat) = (m : Rat) := by exact_mod_cast hdm
    have c2 : (r : Rat) < 2 ^ d := by exact_mod_cast hrl
    have c3 : (0 : Rat) ≤ (r : Rat) := Rat.natCast_nonneg
    have hak : (a - (k : Rat)) * U = (r : Rat) * 2 ^ I := by
      have : (a - (k : Rat)) * U = a * U - (k : Rat) * U := by grind
      rw [this, hv, hUK, ← c1]
      grind
    refine ⟨?_, ?_, ⟨r, I, hak, by omega⟩⟩
    · have h1 : (0 : Rat) * U ≤ (a - (k : Rat)) * U := by
        rw [hak, Rat.zero_mul]
        exact Rat.mul_nonneg c3 (Rat.le_of_lt hpI)
      have := Rat.le_of_mul_le_mul_right h1 hU
      grind
    · have h1 : (a - (k : Rat)) * U < 1 * U := by
        rw [hak, Rat.one_mul, hUK]
        exact (Rat.mul_lt_mul_right hpI).2 c2
      have := (Rat.mul_lt_mul_right hU).1 h1
      grind
end Go.Proofs.Ybulkkei.Fl
