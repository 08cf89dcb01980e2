/-
  THE TRUNCATED EXPONENTIAL SUMS, in rationals: S_N(x + y) lies between S_(N/2)(x) S_(N/2)(y) and S_N(x) S_N(y); their tails; numbers. No Go in sight.
-/
import Derived.Test.YbulkkeiExpNeg
namespace Go.Proofs.Ybulkkei.Fl
set_option linter.unusedVariables false
set_option linter.unusedSimpArgs false

def sumTo (f : Nat → Rat) : Nat → Rat
  | 0 => f 0
  | n + 1 => sumTo f n + f (n + 1)

theorem sumTo_congr {f g : Nat → Rat} : ∀ n, (∀ i, i ≤ n → f i = g i) → sumTo f n = sumTo g n
  | 0, h => h 0 (by omega)
  | n + 1, h => by
    unfold sumTo
    rw [sumTo_congr n (fun i hi => h i (by omega)), h (n + 1) (by omega)]
theorem sumTo_le {f g : Nat → Rat} : ∀ n, (∀ i, i ≤ n → f i ≤ g i) → sumTo f n ≤ sumTo g n
  | 0, h => h 0 (by omega)
  | n + 1, h => by
    unfold sumTo
    have h1 := sumTo_le n (fun i hi => h i (by omega))
    have h2 := h (n + 1) (by omega)
    grind
theorem sumTo_add (f g : Nat → Rat) : ∀ n, sumTo (fun i => f i + g i) n = sumTo f n + sumTo g n
  | 0 => rfl
  | n + 1 => by
    unfold sumTo
    rw [sumTo_add f g n]
    grind
theorem sumTo_mul (f : Nat → Rat) (c : Rat) : ∀ n, sumTo (fun i => f i * c) n = sumTo f n * c
  | 0 => rfl
  | n + 1 => by
    unfold sumTo
    rw [sumTo_mul f c n]
    grind
theorem sumTo_shift (f : Nat → Rat) : ∀ n, sumTo f (n + 1) = f 0 + sumTo (fun i => f (i + 1)) n
  | 0 => rfl
  | n + 1 => by
    have h := sumTo_shift f n
    have e1 : sumTo f (n + 1 + 1) = sumTo f (n + 1) + f (n + 1 + 1) := rfl
    have e2 : sumTo (fun i => f (i + 1)) (n + 1) = sumTo (fun i => f (i + 1)) n + f (n + 1 + 1) := rfl
    rw [e1, e2, h]
    grind
theorem sumTo_mono {f : Nat → Rat} (h : ∀ i, 0 ≤ f i) (n : Nat) : ∀ m, sumTo f n ≤ sumTo f (n + m)
  | 0 => by show sumTo f n ≤ sumTo f n; grind
  | m + 1 => by
    have h1 := sumTo_mono h n m
    have h2 := h (n + m + 1)
    have e : sumTo f (n + (m + 1)) = sumTo f (n + m) + f (n + m + 1) := rfl
    rw [e]
    grind

theorem S_sum (x : Rat) : ∀ n, S x n = sumTo (T x) n
  | 0 => rfl
  | n + 1 => by
    unfold S sumTo
    rw [S_sum x n]

theorem cast_pos (i : Nat) : (0 : Rat) < ((i + 1 : Nat) : Rat) := by exact_mod_cast (by omega : 0 < i + 1)
theorem T_succ (x : Rat) (i : Nat) : T x (i + 1) * ((i + 1 : Nat) : Rat) = T x i * x := by
  have h := cast_pos i
  have hne : ((i + 1 : Nat) : Rat) ≠ 0 := by grind
  show T x i * x / ((i + 1 : Nat) : Rat) * ((i + 1 : Nat) : Rat) = T x i * x
  exact Rat.div_mul_cancel hne
theorem T_nonneg {x : Rat} (h : 0 ≤ x) : ∀ i, 0 ≤ T x i
  | 0 => by unfold T; decide
  | i + 1 => by
    have h1 := T_nonneg h i
    unfold T
    rw [div_as_mul]
    exact Rat.mul_nonneg (Rat.mul_nonneg h1 h) (Rat.le_of_lt (inv_le_one i).1)
theorem S_mono {x : Rat} (h : 0 ≤ x) (n m : Nat) : S x n ≤ S x (n + m) := by
  rw [S_sum, S_sum]
  exact sumTo_mono (T_nonneg h) n m
theorem S_mono' {x : Rat} (h : 0 ≤ x) {n m : Nat} (hnm : n ≤ m) : S x n ≤ S x m := by
  obtain ⟨d, rfl⟩ : ∃ d, m = n + d := ⟨m - n, by omega⟩
  exact S_mono h n d
theorem S_one {x : Rat} (h : 0 ≤ x) (n : Nat) : 1 ≤ S x n := by
  have := S_mono' h (Nat.zero_le n)
  exact this

/-- The binomial law, in divided powers. -/
theorem T_add (x y : Rat) : ∀ n, T (x + y) n = sumTo (fun i => T x i * T y (n - i)) n
  | 0 => by unfold T sumTo; simp [T]
  | n + 1 => by
    have ih := T_add x y n
    have hpos := cast_pos n
    -- (n+1) times the sum
    have key : sumTo (fun i => T x i * T y (n + 1 - i)) (n + 1) * ((n + 1 : Nat) : Rat) = sumTo (fun i => T x i * T y (n - i)) n * (x + y) := by
      rw [← sumTo_mul]
      have split : sumTo (fun i => T x i * T y (n + 1 - i) * ((n + 1 : Nat) : Rat)) (n + 1) =
          sumTo (fun i => T x i * (i : Rat) * T y (n + 1 - i)) (n + 1) + sumTo (fun i => T x i * (T y (n + 1 - i) * ((n + 1 - i : Nat) : Rat))) (n + 1) := by
        rw [← sumTo_add]
        apply sumTo_congr
        intro i hi
        have e : ((n + 1 : Nat) : Rat) = (i : Rat) + ((n + 1 - i : Nat) : Rat) := by
          exact_mod_cast (by omega : n + 1 = i + (n + 1 - i))
        rw [e]
        grind
      rw [split, sumTo_shift (fun i => T x i * (i : Rat) * T y (n + 1 - i)) n]
      have z1 : T x 0 * ((0 : Nat) : Rat) * T y (n + 1 - 0) = 0 := by
        have : ((0 : Nat) : Rat) = 0 := rfl
        rw [this]; grind
      have a1 : sumTo (fun i => T x (i + 1) * ((i + 1 : Nat) : Rat) * T y (n + 1 - (i + 1))) n = sumTo (fun i => T x i * T y (n - i)) n * x := by
        rw [← sumTo_mul]
        apply sumTo_congr
        intro i hi
        rw [T_succ, show n + 1 - (i + 1) = n - i by omega]
        grind
      have e2 : sumTo (fun i => T x i * (T y (n + 1 - i) * ((n + 1 - i : Nat) : Rat))) (n + 1) = sumTo (fun i => T x i * (T y (n + 1 - i) * ((n + 1 - i : Nat) : Rat))) n + T x (n + 1) * (T y (n + 1 - (n + 1)) * ((n + 1 - (n + 1) : Nat) : Rat)) := rfl
      have z2 : T x (n + 1) * (T y (n + 1 - (n + 1)) * ((n + 1 - (n + 1) : Nat) : Rat)) = 0 := by
        rw [Nat.sub_self]
        have : ((0 : Nat) : Rat) = 0 := rfl
        rw [this]; grind
      have a2 : sumTo (fun i => T x i * (T y (n + 1 - i) * ((n + 1 - i : Nat) : Rat))) n = sumTo (fun i => T x i * T y (n - i)) n * y := by
        rw [← sumTo_mul]
        apply sumTo_congr
        intro i hi
        rw [show n + 1 - i = (n - i) + 1 by omega, T_succ]
        grind
      rw [z1, a1, e2, z2, a2]
      grind
    have h2 := T_succ (x + y) n
    rw [ih] at h2
    rw [← key] at h2
    have h3 : (T (x + y) (n + 1) - sumTo (fun i => T x i * T y (n + 1 - i)) (n + 1)) * ((n + 1 : Nat) : Rat) = 0 := by grind
    rcases Rat.mul_eq_zero.1 h3 with h | h
    · grind
    · grind

theorem S_add (x y : Rat) : ∀ n, S (x + y) n = sumTo (fun i => T x i * S y (n - i)) n
  | 0 => by unfold S sumTo; simp [T, S]
  | n + 1 => by
    have ih := S_add x y n
    have e0 : S (x + y) (n + 1) = S (x + y) n + T (x + y) (n + 1) := rfl
    rw [e0, ih, T_add x y (n + 1)]
    have e1 : sumTo (fun i => T x i * T y (n + 1 - i)) (n + 1) = sumTo (fun i => T x i * T y (n + 1 - i)) n + T x (n + 1) * T y (n + 1 - (n + 1)) := rfl
    have e2 : sumTo (fun i => T x i * S y (n + 1 - i)) (n + 1) = sumTo (fun i => T x i * S y (n + 1 - i)) n + T x (n + 1) * S y (n + 1 - (n + 1)) := rfl
    have e3 : sumTo (fun i => T x i * S y (n + 1 - i)) n = sumTo (fun i => T x i * S y (n - i)) n + sumTo (fun i => T x i * T y (n + 1 - i)) n := by
      rw [← sumTo_add]
      apply sumTo_congr
      intro i hi
      rw [show n + 1 - i = (n - i) + 1 by omega]
      have : S y (n - i + 1) = S y (n - i) + T y (n - i + 1) := rfl
      rw [this]
      grind
    rw [e1, e2, e3, Nat.sub_self]
    have : S y 0 = T y 0 := rfl
    rw [this]
    grind

theorem S_add_le {x y : Rat} (hx : 0 ≤ x) (hy : 0 ≤ y) (n : Nat) : S (x + y) n ≤ S x n * S y n := by
  rw [S_add, S_sum x n, ← sumTo_mul]
  apply sumTo_le
  intro i hi
  exact Rat.mul_le_mul_of_nonneg_left (S_mono' hy (by omega)) (T_nonneg hx i)
theorem S_add_ge {x y : Rat} (hx : 0 ≤ x) (hy : 0 ≤ y) (n : Nat) : S x n * S y n ≤ S (x + y) (n + n) := by
  rw [S_add, S_sum x n, ← sumTo_mul]
  have h1 : sumTo (fun i => T x i * S y n) n ≤ sumTo (fun i => T x i * S y (n + n - i)) n := by
    apply sumTo_le
    intro i hi
    exact Rat.mul_le_mul_of_nonneg_left (S_mono' hy (by omega)) (T_nonneg hx i)
  have h2 : sumTo (fun i => T x i * S y (n + n - i)) n ≤ sumTo (fun i => T x i * S y (n + n - i)) (n + n) :=
    sumTo_mono (fun i => Rat.mul_nonneg (T_nonneg hx i) (by have := S_one hy (n + n - i); grind)) n n
  grind

/-! ### Tails -/
/-- For x at most 1 the terms from the 21st on are nothing. -/
theorem T_le_one {x : Rat} (h0 : 0 ≤ x) (h1 : x ≤ 1) : ∀ i, T x i ≤ T 1 i
  | 0 => by unfold T; decide
  | i + 1 => by
    have a := T_le_one h0 h1 i
    have b := T_nonneg h0 i
    have c := (inv_le_one i).1
    show T x i * x / ((i + 1 : Nat) : Rat) ≤ T 1 i * 1 / ((i + 1 : Nat) : Rat)
    rw [div_as_mul (T x i * x), div_as_mul (T 1 i * 1)]
    refine Rat.mul_le_mul_of_nonneg_right ?_ (Rat.le_of_lt c)
    have k := shrink (a := T x i) (b := x) (e := T x i) (by grind) (by grind) h0 h1
    grind
theorem T1_21 : T 1 21 ≤ 1 / 2 ^ 60 := by decide +kernel

theorem T_half {x : Rat} (h0 : 0 ≤ x) (i : Nat) (h : 2 * x ≤ ((i + 1 : Nat) : Rat)) : 2 * T x (i + 1) ≤ T x i := by
  have a := T_nonneg h0 i
  have e := T_succ x i
  have hp := cast_pos i
  have k : T x i * (2 * x) ≤ T x i * ((i + 1 : Nat) : Rat) := Rat.mul_le_mul_of_nonneg_left h a
  refine Rat.le_of_mul_le_mul_right (c := ((i + 1 : Nat) : Rat)) ?_ hp
  have e2 : 2 * T x (i + 1) * ((i + 1 : Nat) : Rat) = T x i * (2 * x) := by grind
  rw [e2]
  exact k

/-- A sum whose terms fall by half from the n-th on. -/
theorem S_tail {x : Rat} (h0 : 0 ≤ x) (n : Nat) (h : 2 * x ≤ ((n + 1 : Nat) : Rat)) : ∀ m, S x (n + 1 + m) + T x (n + 1 + m) ≤ S x n + 2 * T x (n + 1)
  | 0 => by
    have e : S x (n + 1 + 0) = S x n + T x (n + 1) := rfl
    have e2 : T x (n + 1 + 0) = T x (n + 1) := rfl
    rw [e, e2]
    grind
  | m + 1 => by
    have ih := S_tail h0 n h m
    have e : S x (n + 1 + (m + 1)) = S x (n + 1 + m) + T x (n + 1 + m + 1) := rfl
    have e2 : T x (n + 1 + (m + 1)) = T x (n + 1 + m + 1) := rfl
    rw [e, e2]
    have hc : ((n + 1 : Nat) : Rat) ≤ ((n + 1 + m + 1 : Nat) : Rat) := by exact_mod_cast (by omega : n + 1 ≤ n + 1 + m + 1)
    have hh := T_half h0 (n + 1 + m) (by grind)
    grind

theorem S_short {v : Rat} (h0 : 0 ≤ v) (h1 : v ≤ 1) (N : Nat) : S v N ≤ S v 20 + 1 / 2 ^ 59 := by
  have hT := T_le_one h0 h1 21
  have h21 := T1_21
  by_cases hN : N ≤ 20
  · have := S_mono' h0 hN
    grind
  · obtain ⟨m, rfl⟩ : ∃ m, N = 20 + 1 + m := ⟨N - 21, by omega⟩
    have h := S_tail h0 20 (by
      have : ((20 + 1 : Nat) : Rat) = 21 := rfl
      rw [this]; grind) m
    have hn := T_nonneg h0 (20 + 1 + m)
    have e : T v (20 + 1) = T v 21 := rfl
    rw [e] at h
    grind

/-! ### Numbers -/
/-- T and S together, reckoned forward. -/
def go (x : Rat) : Nat → Rat × Rat
  | 0 => (1, 1)
  | i + 1 => let r := go x i; let t := r.1 * x / ((i + 1 : Nat) : Rat); (t, r.2 + t)
theorem go_eq (x : Rat) : ∀ n, go x n = (T x n, S x n)
  | 0 => rfl
  | n + 1 => by
    unfold go
    rw [go_eq x n]
    rfl

def numOk (k : Nat) : Bool :=
  let r := go (k : Rat) 99
  let t := r.1 * (k : Rat) / 100
  decide (pw cE k * r.2 ≥ 1 - 1 / 2 ^ 45) && decide (pw cE k * (r.2 + 2 * t) ≤ 1 + 1 / 2 ^ 45)
theorem num_all : ∀ k : _root_.Fin 17, numOk k.val = true := by decide +kernel

theorem num {k : Nat} (hk : k ≤ 16) (N : Nat) (hN : 100 ≤ N) : 1 - 1 / 2 ^ 45 ≤ pw cE k * S (k : Rat) 100 ∧ pw cE k * S (k : Rat) N ≤ 1 + 1 / 2 ^ 45 := by
  have h := num_all ⟨k, by omega⟩
  have hk0 : (0 : Rat) ≤ (k : Rat) := Rat.natCast_nonneg
  have hk16 : (k : Rat) ≤ 16 := by exact_mod_cast hk
  obtain ⟨p0, p1⟩ := pw_range (c := cE) (by decide +kernel) (by decide +kernel) k
  unfold numOk at h
  simp only [go_eq, Bool.and_eq_true, decide_eq_true_eq] at h
  have e1 : T (k : Rat) 99 * (k : Rat) / 100 = T (k : Rat) 100 := rfl
  rw [e1] at h
  have m1 := S_mono' hk0 (show 99 ≤ 100 by omega)
  have m2 : pw cE k * S (k : Rat) 99 ≤ pw cE k * S (k : Rat) 100 := Rat.mul_le_mul_of_nonneg_left m1 p0
  obtain ⟨m, rfl⟩ : ∃ m, N = 99 + 1 + m := ⟨N - 100, by omega⟩
  have t := S_tail hk0 99 (by
    have : ((99 + 1 : Nat) : Rat) = 100 := rfl
    rw [this]; grind) m
  have hn := T_nonneg hk0 (99 + 1 + m)
  have e2 : T (k : Rat) (99 + 1) = T (k : Rat) 100 := rfl
  rw [e2] at t
  have m3 : pw cE k * S (k : Rat) (99 + 1 + m) ≤ pw cE k * (S (k : Rat) 99 + 2 * T (k : Rat) 100) := Rat.mul_le_mul_of_nonneg_left (by grind) p0
  exact ⟨by grind, by grind⟩

/-- The sum at a mean of k + v, beside the series at v: times (1/e)^k it is 1. -/
theorem S_near {k : Nat} {v P : Rat} (hk : k ≤ 16) (h0 : 0 ≤ v) (h1 : v ≤ 1) (hP0 : 0 ≤ P) (hP : Rel (1 / 2 ^ 37) (pw cE k) (P * S v 20)) : Rel (1 / 2 ^ 36) 1 (P * S ((k : Rat) + v) 400) := by
  have hk0 : (0 : Rat) ≤ (k : Rat) := Rat.natCast_nonneg
  obtain ⟨n1, n2⟩ := num hk 400 (by omega)
  obtain ⟨p0, p1⟩ := pw_range (c := cE) (by decide +kernel) (by decide +kernel) k
  have s1 := S_one h0 20
  have sk := S_one hk0 400
  have sk2 := S_one hk0 100
  -- from above
  have u1 := S_add_le hk0 h0 400
  have u2 := S_short h0 h1 400
  have u3 : S v 400 ≤ S v 20 * (1 + 1 / 2 ^ 59) := by grind
  have u4 : S (k : Rat) 400 * S v 400 ≤ S (k : Rat) 400 * (S v 20 * (1 + 1 / 2 ^ 59)) := Rat.mul_le_mul_of_nonneg_left u3 (by grind)
  have u5 : P * S ((k : Rat) + v) 400 ≤ P * (S (k : Rat) 400 * (S v 20 * (1 + 1 / 2 ^ 59))) := Rat.mul_le_mul_of_nonneg_left (by grind) hP0
  have u6 : P * (S (k : Rat) 400 * (S v 20 * (1 + 1 / 2 ^ 59))) = (P * S v 20) * S (k : Rat) 400 * (1 + 1 / 2 ^ 59) := by grind
  have a1 : (P * S v 20) * S (k : Rat) 400 ≤ (pw cE k + pw cE k * (1 / 2 ^ 37)) * S (k : Rat) 400 := Rat.mul_le_mul_of_nonneg_right hP.hi (by grind)
  have a2 : (pw cE k + pw cE k * (1 / 2 ^ 37)) * S (k : Rat) 400 = (pw cE k * S (k : Rat) 400) * (1 + 1 / 2 ^ 37) := by grind
  -- from below
  have l1 := S_add_ge hk0 h0 200
  have l2 := S_mono' hk0 (show 100 ≤ 200 by omega)
  have l3 := S_mono' h0 (show 20 ≤ 200 by omega)
  have l4 : S (k : Rat) 100 * S v 20 ≤ S (k : Rat) 200 * S v 20 := Rat.mul_le_mul_of_nonneg_right l2 (by grind)
  have l5 : S (k : Rat) 200 * S v 20 ≤ S (k : Rat) 200 * S v 200 := Rat.mul_le_mul_of_nonneg_left l3 (by grind)
  have e400 : 200 + 200 = 400 := rfl
  rw [e400] at l1
  have l6 : P * (S (k : Rat) 100 * S v 20) ≤ P * S ((k : Rat) + v) 400 := Rat.mul_le_mul_of_nonneg_left (by grind) hP0
  have l7 : P * (S (k : Rat) 100 * S v 20) = (P * S v 20) * S (k : Rat) 100 := by grind
  have b1 : (pw cE k - pw cE k * (1 / 2 ^ 37)) * S (k : Rat) 100 ≤ (P * S v 20) * S (k : Rat) 100 := Rat.mul_le_mul_of_nonneg_right hP.lo (by grind)
  have b2 : (pw cE k - pw cE k * (1 / 2 ^ 37)) * S (k : Rat) 100 = (pw cE k * S (k : Rat) 100) * (1 - 1 / 2 ^ 37) := by grind
  generalize P * S ((k : Rat) + v) 400 = R at *
  generalize pw cE k * S (k : Rat) 100 = N1 at *
  generalize pw cE k * S (k : Rat) 400 = N2 at *
  generalize (P * S v 20) * S (k : Rat) 400 = Q1 at *
  generalize (P * S v 20) * S (k : Rat) 100 = Q2 at *
  refine ⟨?_, ?_⟩
  · rw [l7] at l6
    rw [b2] at b1
    grind
  · rw [u6] at u5
    rw [a2] at a1
    grind
end Go.Proofs.Ybulkkei.Fl
