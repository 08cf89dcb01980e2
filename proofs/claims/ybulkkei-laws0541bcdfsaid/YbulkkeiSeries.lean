/-
  FLOATS, THE PROGRAM's CONSTANTS AND expNeg's SERIES: the words that the rounds come to, with their errors.
-/
import Derived.Test.YbulkkeiFlOps
namespace Go.Proofs.Ybulkkei.Fl
open Ieee
set_option linter.unusedVariables false

/-! ### The constants of the text -/
abbrev wOne : Nat := 4607182418800017408
abbrev wSixteen : Nat := 4625196817309499392
abbrev wMost : Nat := 4741671816366391296
abbrev wE : Nat := 4600298746774613816
abbrev wLow : Nat := 4607182418791010209
abbrev wHigh : Nat := 4607182418804521008
theorem F_one : F wOne 1 := by
  have h := F_const (b := wOne) (m := 2 ^ 52) (e := 52) (by decide +kernel) (by omega)
  have e : ((2 ^ 52 : Nat) : Rat) / 2 ^ 52 = 1 := by decide +kernel
  rwa [e] at h
theorem F_sixteen : F wSixteen 16 := by
  have h := F_const (b := wSixteen) (m := 2 ^ 52) (e := 48) (by decide +kernel) (by omega)
  have e : ((2 ^ 52 : Nat) : Rat) / 2 ^ 48 = 16 := by decide +kernel
  rwa [e] at h
theorem F_zeroW : F 0 0 := by
  have h := F_const (b := 0) (m := 0) (e := 1074) (by decide +kernel) (by omega)
  have e : ∀ x : Rat, ((0 : Nat) : Rat) / x = 0 := fun x => by
    have : ((0 : Nat) : Rat) = 0 := rfl
    rw [this, Rat.div_def, Rat.zero_mul]
  rwa [e] at h
theorem F_most : F wMost 1000000000 := by
  have h := F_const (b := wMost) (m := 8388608000000000) (e := 23) (by decide +kernel) (by omega)
  have e : ((8388608000000000 : Nat) : Rat) / 2 ^ 23 = 1000000000 := by decide +kernel
  rwa [e] at h
theorem E_read : ∃ m, double.read wE = .number false m (-54) ∧ m = 6627126856707896 := ⟨_, by decide +kernel, rfl⟩
/-- The constant 1/e of the text, as rounded. -/
def cE : Rat := 6627126856707896 / 2 ^ 54
theorem F_E : F wE cE := by
  have h := F_const (b := wE) (m := 6627126856707896) (e := 54) (by decide +kernel) (by omega)
  have e : ((6627126856707896 : Nat) : Rat) / 2 ^ 54 = cE := by decide +kernel
  rwa [e] at h
theorem F_low : F wLow (9007199245733793 / 2 ^ 53) := by
  have h := F_const (b := wLow) (m := 9007199245733793) (e := 53) (by decide +kernel) (by omega)
  have e : ((9007199245733793 : Nat) : Rat) / 2 ^ 53 = 9007199245733793 / 2 ^ 53 := by decide +kernel
  rwa [e] at h
theorem F_high : F wHigh (4503599631874096 / 2 ^ 52) := by
  have h := F_const (b := wHigh) (m := 4503599631874096) (e := 52) (by decide +kernel) (by omega)
  have e : ((4503599631874096 : Nat) : Rat) / 2 ^ 52 = 4503599631874096 / 2 ^ 52 := by decide +kernel
  rwa [e] at h

/-! ### The operations as functions on words -/
def mulW (x y : Nat) : Nat := (double.mul x y).getD 0
def addW (x y : Nat) : Nat := (double.add x y).getD 0
def subW (x y : Nat) : Nat := (double.sub x y).getD 0
def divW (x y : Nat) : Nat := (double.div x y).getD 0
def natW (n : Nat) : Nat := double.nearest false n 0

theorem mulW_ok {x y : Nat} {a b : Rat} (hx : F x a) (hy : F y b) (h : a * b ≤ 2 ^ 200) : ∃ c, double.mul x y = some (mulW x y) ∧ F (mulW x y) c ∧ Rnd (a * b) c := by
  obtain ⟨r, c, h1, h2, h3⟩ := F_mul hx hy h
  have : mulW x y = r := by unfold mulW; rw [h1]; rfl
  rw [this]
  exact ⟨c, h1, h2, h3⟩
theorem addW_ok {x y : Nat} {a b : Rat} (hx : F x a) (hy : F y b) (h : a + b ≤ 2 ^ 200) : ∃ c, double.add x y = some (addW x y) ∧ F (addW x y) c ∧ Rnd (a + b) c := by
  obtain ⟨r, c, h1, h2, h3⟩ := F_add hx hy h
  have : addW x y = r := by unfold addW; rw [h1]; rfl
  rw [this]
  exact ⟨c, h1, h2, h3⟩
theorem divW_ok {x y : Nat} {a b : Rat} (hx : F x a) (hy : F y b) (hb : 0 < b) (h : a / b ≤ 2 ^ 190) : ∃ c, double.div x y = some (divW x y) ∧ F (divW x y) c ∧ Err (a / b) c := by
  obtain ⟨r, c, h1, h2, h3⟩ := F_div hx hy hb h
  have : divW x y = r := by unfold divW; rw [h1]; rfl
  rw [this]
  exact ⟨c, h1, h2, h3⟩
theorem subW_ok {x y : Nat} {a b : Rat} (hx : F x a) (hy : F y b) (hle : b ≤ a) (h : a ≤ 2 ^ 200) (hr : RepV (a - b)) : double.sub x y = some (subW x y) ∧ F (subW x y) (a - b) := by
  obtain ⟨r, c, h1, h2, h3⟩ := F_sub hx hy hle h
  have : subW x y = r := by unfold subW; rw [h1]; rfl
  rw [this]
  rw [h3.eq_of_rep hr] at h2
  exact ⟨h1, h2⟩
theorem natW_ok (n : Nat) (h : n < 2 ^ 53) : F (natW n) (n : Rat) := F_nat n h

/-- One over the unit's inverse is nothing. -/
theorem iU_small : 1 / U ≤ 1 / 2 ^ 250 := by
  have h1 := U_250
  have h2 := U_pos
  have h3 : (0 : Rat) < 2 ^ 250 := Rat.pow_pos (by decide)
  have e1 : (1 / U) * U = 1 := Rat.div_mul_cancel (by grind)
  have e2 : (1 / (2 : Rat) ^ 250) * 2 ^ 250 = 1 := Rat.div_mul_cancel (by grind)
  have h4 := iU_pos
  have h5 : (1 / U) * 2 ^ 250 ≤ (1 / U) * U := Rat.mul_le_mul_of_nonneg_left h1 (Rat.le_of_lt h4)
  refine Rat.le_of_mul_le_mul_right (c := 2 ^ 250) ?_ h3
  rw [e1] at h5
  rw [e2]
  exact h5

theorem shrink {a b e : Rat} (h1 : -e ≤ a) (h2 : a ≤ e) (hb0 : 0 ≤ b) (hb1 : b ≤ 1) : -e ≤ a * b ∧ a * b ≤ e := by
  have he : 0 ≤ e := by grind
  have k1 : a * b ≤ e * b := Rat.mul_le_mul_of_nonneg_right h2 hb0
  have k2 : e * b ≤ e * 1 := Rat.mul_le_mul_of_nonneg_left hb1 he
  have k3 : -e * b ≤ a * b := Rat.mul_le_mul_of_nonneg_right h1 hb0
  have k4 : -e * b = -(e * b) := by grind
  have k5 : e * 1 = e := by grind
  exact ⟨by grind, by grind⟩

/-! ### The truncated exponential sums -/
def T (x : Rat) : Nat → Rat
  | 0 => 1
  | i + 1 => T x i * x / ((i + 1 : Nat) : Rat)
def S (x : Rat) : Nat → Rat
  | 0 => 1
  | i + 1 => S x i + T x (i + 1)

theorem inv_le_one (i : Nat) : 0 < 1 / ((i + 1 : Nat) : Rat) ∧ 1 / ((i + 1 : Nat) : Rat) ≤ 1 := by
  have h1 : (1 : Rat) ≤ ((i + 1 : Nat) : Rat) := by exact_mod_cast (by omega : 1 ≤ i + 1)
  have h2 : (0 : Rat) < ((i + 1 : Nat) : Rat) := by grind
  have h3 : 0 < 1 / ((i + 1 : Nat) : Rat) := by rw [Rat.div_def, Rat.one_mul]; exact Rat.inv_pos.2 h2
  refine ⟨h3, ?_⟩
  have h4 : (1 / ((i + 1 : Nat) : Rat)) * 1 ≤ (1 / ((i + 1 : Nat) : Rat)) * ((i + 1 : Nat) : Rat) := Rat.mul_le_mul_of_nonneg_left h1 (Rat.le_of_lt h3)
  rw [Rat.div_mul_cancel (by grind)] at h4
  grind

theorem div_as_mul (a b : Rat) : a / b = a * (1 / b) := by rw [Rat.div_def, Rat.div_def, Rat.one_mul]

theorem T_range {x : Rat} (h0 : 0 ≤ x) (h1 : x ≤ 1) : ∀ i, 0 ≤ T x i ∧ T x i ≤ 1
  | 0 => ⟨by unfold T; decide, by unfold T; decide⟩
  | i + 1 => by
    obtain ⟨a, b⟩ := T_range h0 h1 i
    obtain ⟨c, d⟩ := inv_le_one i
    unfold T
    rw [div_as_mul]
    have k1 := shrink (a := T x i) (b := x) (e := 1) (by grind) b h0 h1
    have k2 := shrink (a := T x i * x) (b := 1 / ((i + 1 : Nat) : Rat)) (e := 1) k1.1 k1.2 (Rat.le_of_lt c) d
    exact ⟨Rat.mul_nonneg (Rat.mul_nonneg a h0) (Rat.le_of_lt c), k2.2⟩
theorem S_range {x : Rat} (h0 : 0 ≤ x) (h1 : x ≤ 1) : ∀ i, 1 ≤ S x i ∧ S x i ≤ 1 + (i : Rat)
  | 0 => ⟨by unfold S; decide, by unfold S; decide +kernel⟩
  | i + 1 => by
    obtain ⟨a, b⟩ := S_range h0 h1 i
    obtain ⟨c, d⟩ := T_range h0 h1 (i + 1)
    unfold S
    have : ((i + 1 : Nat) : Rat) = (i : Rat) + 1 := by exact_mod_cast rfl
    rw [this]
    exact ⟨by grind, by grind⟩

/-! ### expNeg: the series -/
def tW (f : Nat) : Nat → Nat
  | 0 => wOne
  | i + 1 => divW (mulW (tW f i) f) (natW (i + 1))
def sW (f : Nat) : Nat → Nat
  | 0 => wOne
  | i + 1 => addW (sW f i) (tW f (i + 1))

theorem t_step {t f i : Nat} {tv v Ti e : Rat} (ht : F t tv) (hf : F f v) (hv1 : v ≤ 1) (hT0 : 0 ≤ Ti) (hT1 : Ti ≤ 1) (he : e ≤ 1) (a1 : -e ≤ tv - Ti) (a2 : tv - Ti ≤ e) (hi : i < 1000) :
    double.mul t f = some (mulW t f) ∧ double.div (mulW t f) (natW (i + 1)) = some (divW (mulW t f) (natW (i + 1))) ∧ ∃ d, F (divW (mulW t f) (natW (i + 1))) d ∧
      -(e + 1 / 2 ^ 49) ≤ d - Ti * v / ((i + 1 : Nat) : Rat) ∧ d - Ti * v / ((i + 1 : Nat) : Rat) ≤ e + 1 / 2 ^ 49 := by
  have hv0 := hf.nonneg
  have ht0 := ht.nonneg
  obtain ⟨w0, w1⟩ := inv_le_one i
  have htv := shrink (a := tv) (b := v) (e := 2) (by grind) (by grind) hv0 hv1
  have htv0 := Rat.mul_nonneg ht0 hv0
  obtain ⟨m, m1, m2, m3⟩ := mulW_ok ht hf (by grind)
  have u1 := m3.up
  have u2 := m3.dn
  rw [half_iU] at u1 u2
  have hs := iU_small
  have hs0 := iU_pos
  have hm0 := m2.nonneg
  have hmw := shrink (a := m) (b := 1 / ((i + 1 : Nat) : Rat)) (e := 3) (by grind) (by grind) (Rat.le_of_lt w0) w1
  have hpos : (0 : Rat) < ((i + 1 : Nat) : Rat) := by exact_mod_cast (by omega : 0 < i + 1)
  obtain ⟨d, d1, d2, d3⟩ := divW_ok m2 (natW_ok (i + 1) (by omega)) hpos (by rw [div_as_mul]; grind)
  refine ⟨m1, d1, d, d2, ?_⟩
  have v1 := d3.up
  have v2 := d3.dn
  rw [div_as_mul] at v1 v2
  rw [div_as_mul (Ti * v)]
  generalize 1 / ((i + 1 : Nat) : Rat) = w at *
  have b1 := shrink (a := m - tv * v) (b := w) (e := 1 / 2 ^ 51) (by grind) (by grind) (Rat.le_of_lt w0) w1
  have b2 := shrink (a := tv - Ti) (b := v) (e := e) a1 a2 hv0 hv1
  have b3 := shrink (a := (tv - Ti) * v) (b := w) (e := e) b2.1 b2.2 (Rat.le_of_lt w0) w1
  have hid : d - Ti * v * w = (d - m * w) + (m - tv * v) * w + (tv - Ti) * v * w := by grind
  rw [hid]
  generalize (m - tv * v) * w = A at *
  generalize (tv - Ti) * v * w = B at *
  generalize m * w = M at *
  exact ⟨by grind, by grind⟩

/-- The series, i rounds on. -/
theorem ts_ok {f : Nat} {v : Rat} (hf : F f v) (hv1 : v ≤ 1) : ∀ i : Nat, i ≤ 20 → ∃ t s : Rat, F (tW f i) t ∧ F (sW f i) s ∧
    -((i : Rat) / 2 ^ 49) ≤ t - T v i ∧ t - T v i ≤ (i : Rat) / 2 ^ 49 ∧ -((i : Rat) * 24 / 2 ^ 49) ≤ s - S v i ∧ s - S v i ≤ (i : Rat) * 24 / 2 ^ 49
  | 0, _ => by
    refine ⟨1, 1, F_one, F_one, ?_⟩
    unfold T S
    decide +kernel
  | i + 1, hi => by
    obtain ⟨t, s, ht, hs, a1, a2, b1, b2⟩ := ts_ok hf hv1 i (by omega)
    have hv0 := hf.nonneg
    obtain ⟨T0, T1⟩ := T_range hv0 hv1 i
    obtain ⟨U0, U1⟩ := T_range hv0 hv1 (i + 1)
    obtain ⟨S0, S1⟩ := S_range hv0 hv1 i
    have hi20 : (i : Rat) ≤ 20 := by exact_mod_cast (by omega : i ≤ 20)
    have hi0 : (0 : Rat) ≤ (i : Rat) := Rat.natCast_nonneg
    obtain ⟨_, _, d, hd, c1, c2⟩ := t_step (i := i) ht hf hv1 T0 T1 (e := (i : Rat) / 2 ^ 49) (by grind) a1 a2 (by omega)
    have hT : T v (i + 1) = T v i * v / ((i + 1 : Nat) : Rat) := rfl
    have hS : S v (i + 1) = S v i + T v (i + 1) := rfl
    rw [← hT] at c1 c2
    have hn : ((i + 1 : Nat) : Rat) = (i : Rat) + 1 := by exact_mod_cast rfl
    rw [hn, hS]
    generalize T v (i + 1) = Tn at *
    obtain ⟨r, r1, r2, r3⟩ := addW_ok hs hd (by grind)
    have u1 := r3.up
    have u2 := r3.dn
    rw [half_iU] at u1 u2
    have hsm := iU_small
    have hs0 := iU_pos
    exact ⟨d, r, hd, r2, by grind, by grind, by grind, by grind⟩

/-- All operations of the series are valid. -/
theorem ts_valid {f : Nat} {v : Rat} (hf : F f v) (hv1 : v ≤ 1) (i : Nat) (hi : i < 20) :
    double.mul (tW f i) f = some (mulW (tW f i) f) ∧ double.div (mulW (tW f i) f) (natW (i + 1)) = some (tW f (i + 1)) ∧ double.add (sW f i) (tW f (i + 1)) = some (sW f (i + 1)) := by
  obtain ⟨t, s, ht, hs, a1, a2, b1, b2⟩ := ts_ok hf hv1 i (by omega)
  obtain ⟨t', s', ht', hs', a1', a2', b1', b2'⟩ := ts_ok hf hv1 (i + 1) (by omega)
  have hv0 := hf.nonneg
  obtain ⟨T0, T1⟩ := T_range hv0 hv1 i
  obtain ⟨U0, U1⟩ := T_range hv0 hv1 (i + 1)
  obtain ⟨S0, S1⟩ := S_range hv0 hv1 i
  have hi20 : (i : Rat) ≤ 20 := by exact_mod_cast (by omega : i ≤ 20)
  have hi0 : (0 : Rat) ≤ (i : Rat) := Rat.natCast_nonneg
  have hn : ((i + 1 : Nat) : Rat) = (i : Rat) + 1 := by exact_mod_cast rfl
  rw [hn] at a1' a2'
  obtain ⟨m1, m2, _⟩ := t_step (i := i) ht hf hv1 T0 T1 (e := (i : Rat) / 2 ^ 49) (by grind) a1 a2 (by omega)
  obtain ⟨r, r1, _⟩ := addW_ok hs ht' (by grind)
  exact ⟨m1, m2, r1⟩

/-! ### expNeg: the powers of 1/e -/
def yW (s : Nat) : Nat → Nat
  | 0 => divW wOne s
  | j + 1 => mulW (yW s j) wE

theorem cE_range : (1 : Rat) / 3 ≤ cE ∧ cE ≤ 1 / 2 := by decide +kernel

/-- c ^ j -/
def pw (c : Rat) : Nat → Rat
  | 0 => 1
  | j + 1 => pw c j * c

theorem pw_range {c : Rat} (h0 : 0 ≤ c) (h1 : c ≤ 1) : ∀ j, 0 ≤ pw c j ∧ pw c j ≤ 1
  | 0 => ⟨by unfold pw; decide, by unfold pw; decide⟩
  | j + 1 => by
    obtain ⟨a, b⟩ := pw_range h0 h1 j
    have k := shrink (a := pw c j) (b := c) (e := 1) (by grind) b h0 h1
    exact ⟨Rat.mul_nonneg a h0, k.2⟩
end Go.Proofs.Ybulkkei.Fl
