/-
  FLOATS, THE CORE: what the model of double gives for an exact value, in whole units of 2 ^ -1074 and in rationals: the rounding error, and that rounding keeps to the numbers of the format. No Go in sight.
-/
import Ieee.Arith
namespace Go.Proofs.Ybulkkei.Fl
open Ieee

/-- The word b stands for the number n / 2 ^ 1074, n not negative (a zero may bear a sign). -/
def Fin (b n : Nat) : Prop := ∃ neg mag place, double.read b = .number neg mag place ∧ (-1074 : Int) ≤ place ∧ n = mag * 2 ^ (place + 1074).toNat ∧ (neg = true → mag = 0)

/-- A bound beyond all that is met here, and the unit's inverse, under names (the tactics do not lay them open). -/
def big : Nat := 2 ^ 2000
def UN : Nat := 2 ^ 1074
theorem UN_big : UN * 2 ^ 200 < big := by decide +kernel
theorem UN_pos : 0 < UN := by decide +kernel
theorem UN_200 : 2 ^ 250 ≤ UN := by decide +kernel

theorem lp : double.leastPlace = -1074 := by decide
theorem bin : double.binade = 2 ^ 52 := rfl
theorem infR : double.infRung = 2047 * 2 ^ 52 := by decide
theorem sw : double.signWeight = 2048 * 2 ^ 52 := by decide

/-- Reading back a rung that 'nearest' has made: 'kept' units of place L. -/
theorem read_rung (neg : Bool) (L kept : Nat) (h0 : L = 0 ∨ 2 ^ 52 ≤ kept) (h1 : kept ≤ 2 ^ 53) (hL : L ≤ 2000) (hs : neg = true → L = 0 ∧ kept = 0) :
    Fin (double.word neg (min (L * double.binade + kept) double.infRung)) (kept * 2 ^ L) := by
  have hr : L * 2 ^ 52 + kept < 2047 * 2 ^ 52 := by omega
  rw [bin, infR, Nat.min_eq_left (by omega)]
  unfold Fin
  have hw : (double.word neg (L * 2 ^ 52 + kept)) / double.signWeight % 2 = neg.toNat ∧ (double.word neg (L * 2 ^ 52 + kept)) % double.signWeight = L * 2 ^ 52 + kept := by
    unfold Format.word
    rw [sw]
    cases neg
    · simp only [Bool.false_eq_true, if_false, Bool.toNat_false]
      omega
    · simp only [if_true, Bool.toNat_true]
      omega
  unfold Format.read
  simp only [hw.1, hw.2, bin, infR, lp]
  by_cases hk : L * 2 ^ 52 + kept < 2 ^ 52
  · rw [if_pos hk]
    refine ⟨_, _, _, rfl, by omega, ?_, ?_⟩
    · have : L = 0 := by omega
      subst this
      simp
    · intro h
      have : neg = true := by cases neg <;> simp_all
      have := hs this
      omega
  · rw [if_neg hk, if_pos hr]
    refine ⟨_, _, _, rfl, by omega, ?_, ?_⟩
    · by_cases h53 : kept = 2 ^ 53
      · subst h53
        have e1 : (L * 2 ^ 52 + 2 ^ 53) / 2 ^ 52 = L + 2 := by omega
        have e2 : (L * 2 ^ 52 + 2 ^ 53) % 2 ^ 52 = 0 := by omega
        rw [e1, e2]
        have e3 : ((-1074 : Int) + ((L + 2 - 1 : Nat) : Int) + 1074).toNat = L + 1 := by omega
        rw [e3, Nat.pow_succ]
        omega
      · have e1 : (L * 2 ^ 52 + kept) / 2 ^ 52 = L + 1 := by omega
        have e2 : (L * 2 ^ 52 + kept) % 2 ^ 52 = kept - 2 ^ 52 := by omega
        rw [e1, e2]
        have e3 : ((-1074 : Int) + ((L + 1 - 1 : Nat) : Int) + 1074).toNat = L := by omega
        have e4 : 2 ^ 52 + (kept - 2 ^ 52) = kept := by omega
        rw [e3, e4]
    · intro h
      have : neg = true := by cases neg <;> simp_all
      have := hs this
      omega

/-- 'cut' to the nearest: in whole numbers. -/
theorem cut_even (neg : Bool) (n drop : Nat) : 2 * (Toward.even.cut neg n drop * 2 ^ drop) ≤ 2 * n + 2 ^ drop ∧ 2 * n ≤ 2 * (Toward.even.cut neg n drop * 2 ^ drop) + 2 ^ drop := by
  have hlog : n < 2 ^ (n.log2 + 1) := Nat.lt_log2_self
  unfold Toward.cut
  simp only [Nat.one_shiftLeft]
  by_cases hd : drop ≤ n.log2 + 2
  · rw [Nat.min_eq_left hd]
    have hp : 0 < 2 ^ drop := Nat.two_pow_pos _
    have hdm := Nat.div_add_mod n (2 ^ drop)
    have hmlt := Nat.mod_lt n hp
    generalize hg : 2 ^ drop = g at *
    generalize n / g = q at *
    generalize n % g = r at *
    have hq : q * g = g * q := Nat.mul_comm _ _
    by_cases hm : (decide (g < 2 * r) || (g == 2 * r && q % 2 == 1)) = true
    · rw [hm]
      simp only [Bool.toNat_true, Nat.add_mul, Nat.one_mul]
      have : g ≤ 2 * r := by
        simp only [Bool.or_eq_true, decide_eq_true_eq, Bool.and_eq_true, beq_iff_eq] at hm
        omega
      omega
    · have hm' : (decide (g < 2 * r) || (g == 2 * r && q % 2 == 1)) = false := by simpa using hm
      rw [hm']
      simp only [Bool.toNat_false, Nat.add_zero]
      have : 2 * r ≤ g := by
        simp only [Bool.or_eq_false_iff, decide_eq_false_iff_not] at hm'
        omega
      omega
  · rw [Nat.min_eq_right (by omega)]
    have h1 : n < 2 ^ (n.log2 + 2) := Nat.lt_of_lt_of_le hlog (Nat.pow_le_pow_right (by omega) (by omega))
    have h2 : 2 * n < 2 ^ (n.log2 + 2) := by rw [Nat.pow_succ]; omega
    have h3 : 2 ^ (n.log2 + 2) ≤ 2 ^ drop := Nat.pow_le_pow_right (by omega) (by omega)
    rw [Nat.div_eq_of_lt h1, Nat.mod_eq_of_lt h1]
    have hm' : (decide (2 ^ (n.log2 + 2) < 2 * n) || (2 ^ (n.log2 + 2) == 2 * n && 0 % 2 == 1)) = false := by simp; omega
    rw [hm']
    simp
    omega

/-- A number of the format, in units of 2 ^ -1074. -/
def Rep (m : Nat) : Prop := ∃ k j : Nat, m = k * 2 ^ j ∧ k < 2 ^ 53

/-- THE CORE: what 'nearest' gives for 'mag * 2 ^ place', mag not nought: kept * 2 ^ L units, the exact value being (mag * 2 ^ t / 2 ^ s) units. -/
theorem nearest_core (mag : Nat) (place : Int) (hm : mag ≠ 0) (s t : Nat) (hst : place + 1074 = (t : Int) - (s : Int)) (hbig : mag * 2 ^ t < big * 2 ^ s) :
    ∃ kept L : Nat, Fin (double.nearest false mag place) (kept * 2 ^ L) ∧ 2 * (kept * 2 ^ L * 2 ^ s) ≤ 2 * (mag * 2 ^ t) + 2 ^ L * 2 ^ s ∧ 2 * (mag * 2 ^ t) ≤ 2 * (kept * 2 ^ L * 2 ^ s) + 2 ^ L * 2 ^ s ∧
      (L = 0 ∨ 2 ^ (52 + L) * 2 ^ s ≤ mag * 2 ^ t) ∧ (L = 0 ∨ 2 ^ 52 ≤ kept) ∧ kept ≤ 2 ^ 53 := by
  have hlo : 2 ^ mag.log2 ≤ mag := Nat.log2_self_le hm
  have hhi : mag < 2 ^ (mag.log2 + 1) := Nat.lt_log2_self
  generalize hlg : mag.log2 = lg at hlo hhi
  obtain ⟨L, hL⟩ : ∃ L : Nat, max (place + (lg : Int) - 52) (-1074) = (L : Int) - 1074 := ⟨(max (place + (lg : Int) - 52) (-1074) + 1074).toNat, by omega⟩
  obtain ⟨A, Dp, hAD, hA0, hD0⟩ : ∃ A Dp : Nat, place - ((L : Int) - 1074) = (A : Int) - (Dp : Int) ∧ (place - ((L : Int) - 1074)).toNat = A ∧ (((L : Int) - 1074) - place).toNat = Dp :=
    ⟨_, _, by omega, rfl, rfl⟩
  have hnear : double.nearest false mag place = double.word false (min (L * double.binade + Toward.even.cut false (mag <<< A) Dp) double.infRung) := by
    unfold Format.nearest
    rw [if_neg hm]
    have e52 : (double.fractionBits : Int) = 52 := rfl
    simp only [hlg, e52, lp, hL, hA0, hD0]
    have : ((L : Int) - 1074 - -1074).toNat = L := by omega
    rw [this]
  have hcut := cut_even false (mag <<< A) Dp
  rw [Nat.shiftLeft_eq] at hcut hnear
  generalize Toward.even.cut false (mag * 2 ^ A) Dp = kept at hcut hnear
  have hsum : t + Dp = A + L + s := by omega
  have pD : 0 < 2 ^ Dp := Nat.two_pow_pos _
  -- the two inequalities, scaled
  have ekey : mag * 2 ^ A * 2 ^ (L + s) = mag * 2 ^ t * 2 ^ Dp := by
    rw [Nat.mul_assoc, ← Nat.pow_add, Nat.mul_assoc, ← Nat.pow_add]
    congr 2
    omega
  have ek2 : kept * 2 ^ L * 2 ^ s = kept * 2 ^ (L + s) := by rw [Nat.mul_assoc, ← Nat.pow_add]
  have ek3 : 2 ^ L * 2 ^ s = 2 ^ (L + s) := by rw [← Nat.pow_add]
  have i1 : 2 * (kept * 2 ^ L * 2 ^ s) ≤ 2 * (mag * 2 ^ t) + 2 ^ L * 2 ^ s := by
    rw [ek2, ek3]
    have h := Nat.mul_le_mul_right (2 ^ (L + s)) hcut.1
    apply Nat.le_of_mul_le_mul_right _ pD
    calc 2 * (kept * 2 ^ (L + s)) * 2 ^ Dp = 2 * (kept * 2 ^ Dp) * 2 ^ (L + s) := by grind
      _ ≤ (2 * (mag * 2 ^ A) + 2 ^ Dp) * 2 ^ (L + s) := h
      _ = (2 * (mag * 2 ^ t) + 2 ^ (L + s)) * 2 ^ Dp := by grind
  have i2 : 2 * (mag * 2 ^ t) ≤ 2 * (kept * 2 ^ L * 2 ^ s) + 2 ^ L * 2 ^ s := by
    rw [ek2, ek3]
    have h := Nat.mul_le_mul_right (2 ^ (L + s)) hcut.2
    apply Nat.le_of_mul_le_mul_right _ pD
    calc 2 * (mag * 2 ^ t) * 2 ^ Dp = 2 * (mag * 2 ^ A) * 2 ^ (L + s) := by grind
      _ ≤ (2 * (kept * 2 ^ Dp) + 2 ^ Dp) * 2 ^ (L + s) := h
      _ = (2 * (kept * 2 ^ (L + s)) + 2 ^ (L + s)) * 2 ^ Dp := by grind
  have i3 : L = 0 ∨ 2 ^ (52 + L) * 2 ^ s ≤ mag * 2 ^ t := by
    by_cases h0 : L = 0
    · exact Or.inl h0
    · right
      have e : 52 + L + s = lg + t := by omega
      rw [← Nat.pow_add, e, Nat.pow_add]
      exact Nat.mul_le_mul_right _ hlo
  have i4 : L = 0 ∨ 2 ^ 52 ≤ kept := by
    by_cases h0 : L = 0
    · exact Or.inl h0
    · right
      have e : lg + A = 52 + Dp := by omega
      have h1 : 2 ^ 52 * 2 ^ Dp ≤ mag * 2 ^ A := by
        rw [← Nat.pow_add, ← e, Nat.pow_add]
        exact Nat.mul_le_mul_right _ hlo
      have h2 : 2 * (2 ^ 52 * 2 ^ Dp) ≤ 2 * (kept * 2 ^ Dp) + 2 ^ Dp := by omega
      have h3 : (2 * 2 ^ 52) * 2 ^ Dp ≤ (2 * kept + 1) * 2 ^ Dp := by grind
      have := Nat.le_of_mul_le_mul_right h3 pD
      omega
  have i5 : kept ≤ 2 ^ 53 := by
    have e : lg + 1 + A ≤ 53 + Dp := by omega
    have h1 : mag * 2 ^ A < 2 ^ 53 * 2 ^ Dp := by
      calc mag * 2 ^ A < 2 ^ (lg + 1) * 2 ^ A := Nat.mul_lt_mul_of_pos_right hhi (Nat.two_pow_pos _)
        _ = 2 ^ (lg + 1 + A) := by rw [← Nat.pow_add]
        _ ≤ 2 ^ (53 + Dp) := Nat.pow_le_pow_right (by omega) e
        _ = 2 ^ 53 * 2 ^ Dp := by rw [← Nat.pow_add]
    have h2 : 2 * (kept * 2 ^ Dp) < 2 * (2 ^ 53 * 2 ^ Dp) + 2 ^ Dp := by omega
    have h3 : (2 * kept) * 2 ^ Dp < (2 * 2 ^ 53 + 1) * 2 ^ Dp := by grind
    have := Nat.lt_of_mul_lt_mul_right h3
    omega
  have hL2 : L ≤ 2000 := by
    rcases i3 with h | h
    · omega
    · have h1 : 2 ^ (52 + L) * 2 ^ s < big * 2 ^ s := Nat.lt_of_le_of_lt h hbig
      have h2 : 2 ^ (52 + L) < big := Nat.lt_of_mul_lt_mul_right h1
      have h3 := (Nat.pow_lt_pow_iff_right (by omega : 1 < 2)).1 h2
      omega
  refine ⟨kept, L, ?_, i1, i2, i3, i4, i5⟩
  rw [hnear]
  exact read_rung false L kept i4 i5 hL2 (fun h => by cases h)

/-- 'nearest' at nought. -/
theorem nearest_zero (neg : Bool) (place : Int) : Fin (double.nearest neg 0 place) 0 := by
  unfold Format.nearest
  rw [if_pos rfl]
  have h := read_rung neg 0 0 (Or.inl rfl) (by omega) (by omega) (fun _ => ⟨rfl, rfl⟩)
  simpa [bin, infR] using h

/-! ### In rationals -/
def U : Rat := (UN : Rat)
theorem U_pos : 0 < U := by unfold U; exact_mod_cast UN_pos
theorem U_250 : (2 : Rat) ^ 250 ≤ U := by unfold U; exact_mod_cast UN_200

/-- The word b stands for the rational v, not negative. -/
def F (b : Nat) (v : Rat) : Prop := ∃ n : Nat, Fin b n ∧ v * U = (n : Rat)
/-- v is a number of the format (the range apart). -/
def RepV (v : Rat) : Prop := ∃ k j : Nat, v * U = (k : Rat) * 2 ^ j ∧ k < 2 ^ 53

/-- c is x rounded. -/
structure Rnd (x c : Rat) : Prop where
  up : c ≤ x + x / 2 ^ 53 + 1 / (2 * U)
  dn : x ≤ c + x / 2 ^ 53 + 1 / (2 * U)
  rep : RepV c
  mono : ∀ d, RepV d → d ≤ x → d ≤ c
  anti : ∀ d, RepV d → x ≤ d → c ≤ d

theorem near_pos (mag : Nat) (place : Int) (x : Rat) (s t : Nat) (hm : mag ≠ 0) (hst : place + 1074 = (t : Int) - (s : Int)) (hx : x * U * 2 ^ s = (mag : Rat) * 2 ^ t) (hb : x ≤ 2 ^ 200) :
    ∃ c, F (double.nearest false mag place) c ∧ Rnd x c := by
  have hU := U_pos
  have hps : (0 : Rat) < 2 ^ s := Rat.pow_pos (by decide)
  have hbig : mag * 2 ^ t < big * 2 ^ s := by
    have h1 : x * U * 2 ^ s ≤ 2 ^ 200 * U * 2 ^ s := Rat.mul_le_mul_of_nonneg_right (Rat.mul_le_mul_of_nonneg_right hb (Rat.le_of_lt hU)) (Rat.le_of_lt hps)
    rw [hx] at h1
    have h2 : mag * 2 ^ t ≤ 2 ^ 200 * UN * 2 ^ s := by unfold U at h1; exact_mod_cast h1
    have h3 := UN_big
    have h4 : 2 ^ 200 * UN * 2 ^ s < big * 2 ^ s := Nat.mul_lt_mul_of_pos_right (by rw [Nat.mul_comm]; exact h3) (Nat.two_pow_pos _)
    exact Nat.lt_of_le_of_lt h2 h4
  obtain ⟨kept, L, hF, i1, i2, i3, i4, i5⟩ := nearest_core mag place hm s t hst hbig
  have hLp : (0 : Rat) < 2 ^ L := Rat.pow_pos (by decide)
  -- in units, 2 ^ s struck
  obtain ⟨X, hX⟩ : ∃ X, X = x * U := ⟨_, rfl⟩
  rw [← hX] at hx
  have j1 : 2 * ((kept : Rat) * 2 ^ L) ≤ 2 * X + 2 ^ L := by
    have h : 2 * ((kept : Rat) * 2 ^ L * 2 ^ s) ≤ 2 * ((mag : Rat) * 2 ^ t) + 2 ^ L * 2 ^ s := by exact_mod_cast i1
    rw [← hx] at h
    refine Rat.le_of_mul_le_mul_right ?_ hps
    grind
  have j2 : 2 * X ≤ 2 * ((kept : Rat) * 2 ^ L) + 2 ^ L := by
    have h : 2 * ((mag : Rat) * 2 ^ t) ≤ 2 * ((kept : Rat) * 2 ^ L * 2 ^ s) + 2 ^ L * 2 ^ s := by exact_mod_cast i2
    rw [← hx] at h
    refine Rat.le_of_mul_le_mul_right ?_ hps
    grind
  have j3 : L = 0 ∨ (2 : Rat) ^ (52 + L) ≤ X := by
    rcases i3 with h | h
    · exact Or.inl h
    · right
      have h' : (2 : Rat) ^ (52 + L) * 2 ^ s ≤ (mag : Rat) * 2 ^ t := by exact_mod_cast h
      rw [← hx] at h'
      exact Rat.le_of_mul_le_mul_right h' hps
  have hX0 : 0 ≤ X := by
    have h : (0 : Rat) ≤ (mag : Rat) * 2 ^ t := Rat.mul_nonneg Rat.natCast_nonneg (Rat.le_of_lt (Rat.pow_pos (by decide)))
    rw [← hx] at h
    refine Rat.le_of_mul_le_mul_right (c := 2 ^ s) ?_ hps
    grind
  have e52 : (2 : Rat) ^ (52 + L) = 2 ^ 52 * 2 ^ L := by
    have : 2 ^ (52 + L) = 2 ^ 52 * 2 ^ L := Nat.pow_add 2 52 L
    exact_mod_cast this
  have j4 : (2 : Rat) ^ L ≤ X / 2 ^ 52 + 1 := by
    rcases j3 with h | h
    · subst h
      have : 0 ≤ X / 2 ^ 52 := by grind
      simp only [Rat.pow_zero]
      grind
    · rw [e52] at h
      grind
  clear hbig i1 i2 i3
  have hcU : ((kept : Rat) * 2 ^ L / U) * U = (kept : Rat) * 2 ^ L := Rat.div_mul_cancel (by grind)
  refine ⟨(kept : Rat) * 2 ^ L / U, ⟨kept * 2 ^ L, hF, ?_⟩, ?_, ?_, ?_, ?_, ?_⟩
  · rw [hcU]
    exact_mod_cast rfl
  · refine Rat.le_of_mul_le_mul_right (c := U) ?_ hU
    rw [hcU]
    have : (x + x / 2 ^ 53 + 1 / (2 * U)) * U = X + X / 2 ^ 53 + 1 / 2 := by grind
    rw [this]
    grind
  · refine Rat.le_of_mul_le_mul_right (c := U) ?_ hU
    have : ((kept : Rat) * 2 ^ L / U + x / 2 ^ 53 + 1 / (2 * U)) * U = (kept : Rat) * 2 ^ L + X / 2 ^ 53 + 1 / 2 := by grind
    rw [this]
    grind
  · by_cases h53 : kept < 2 ^ 53
    · exact ⟨kept, L, hcU, h53⟩
    · have : kept = 2 ^ 53 := by omega
      subst this
      refine ⟨2 ^ 52, L + 1, ?_, by omega⟩
      rw [hcU]
      have h2 : 2 ^ 53 * 2 ^ L = 2 ^ 52 * 2 ^ (L + 1) := by rw [Nat.pow_succ 2 L]; omega
      exact_mod_cast h2
  · intro d hd hdx
    obtain ⟨k, j, hk, hk53⟩ := hd
    refine Rat.le_of_mul_le_mul_right (c := U) ?_ hU
    rw [hcU, hk]
    have hkX : (k : Rat) * 2 ^ j ≤ X := by
      rw [← hk, hX]
      exact Rat.mul_le_mul_of_nonneg_right hdx (Rat.le_of_lt hU)
    by_cases hj : L ≤ j
    · obtain ⟨q, rfl⟩ : ∃ q, j = L + q := ⟨j - L, by omega⟩
      have e : (k : Rat) * 2 ^ (L + q) = ((k * 2 ^ q : Nat) : Rat) * 2 ^ L := by
        have : k * 2 ^ (L + q) = k * 2 ^ q * 2 ^ L := by rw [Nat.mul_assoc, ← Nat.pow_add, Nat.add_comm]
        exact_mod_cast this
      rw [e] at hkX ⊢
      by_cases hlt : k * 2 ^ q ≤ kept
      · exact Rat.mul_le_mul_of_nonneg_right (by exact_mod_cast hlt) (Rat.le_of_lt hLp)
      · exfalso
        have h1 : ((kept : Rat) + 1) * 2 ^ L ≤ ((k * 2 ^ q : Nat) : Rat) * 2 ^ L := Rat.mul_le_mul_of_nonneg_right (by exact_mod_cast (by omega : kept + 1 ≤ k * 2 ^ q)) (Rat.le_of_lt hLp)
        grind
    · have hk52 : 2 ^ 52 ≤ kept := by omega
      have h1 : k * 2 ^ j ≤ kept * 2 ^ L := by
        calc k * 2 ^ j ≤ 2 ^ 53 * 2 ^ j := Nat.mul_le_mul_right _ (by omega)
          _ = 2 ^ (53 + j) := by rw [← Nat.pow_add]
          _ ≤ 2 ^ (52 + L) := Nat.pow_le_pow_right (by omega) (by omega)
          _ = 2 ^ 52 * 2 ^ L := by rw [Nat.pow_add]
          _ ≤ kept * 2 ^ L := Nat.mul_le_mul_right _ hk52
      exact_mod_cast h1
  · intro d hd hdx
    obtain ⟨k, j, hk, hk53⟩ := hd
    refine Rat.le_of_mul_le_mul_right (c := U) ?_ hU
    rw [hcU, hk]
    have hkX : X ≤ (k : Rat) * 2 ^ j := by
      rw [← hk, hX]
      exact Rat.mul_le_mul_of_nonneg_right hdx (Rat.le_of_lt hU)
    by_cases hj : L ≤ j
    · obtain ⟨q, rfl⟩ : ∃ q, j = L + q := ⟨j - L, by omega⟩
      have e : (k : Rat) * 2 ^ (L + q) = ((k * 2 ^ q : Nat) : Rat) * 2 ^ L := by
        have : k * 2 ^ (L + q) = k * 2 ^ q * 2 ^ L := by rw [Nat.mul_assoc, ← Nat.pow_add, Nat.add_comm]
        exact_mod_cast this
      rw [e] at hkX ⊢
      by_cases hlt : kept ≤ k * 2 ^ q
      · exact Rat.mul_le_mul_of_nonneg_right (by exact_mod_cast hlt) (Rat.le_of_lt hLp)
      · exfalso
        have h1 : (((k * 2 ^ q : Nat) : Rat) + 1) * 2 ^ L ≤ (kept : Rat) * 2 ^ L := Rat.mul_le_mul_of_nonneg_right (by exact_mod_cast (by omega : k * 2 ^ q + 1 ≤ kept)) (Rat.le_of_lt hLp)
        grind
    · exfalso
      rcases j3 with h | h
      · omega
      · have h1 : k * 2 ^ j < 2 ^ (52 + L) := by
          calc k * 2 ^ j < 2 ^ 53 * 2 ^ j := Nat.mul_lt_mul_of_pos_right hk53 (Nat.two_pow_pos _)
            _ = 2 ^ (53 + j) := by rw [← Nat.pow_add]
            _ ≤ 2 ^ (52 + L) := Nat.pow_le_pow_right (by omega) (by omega)
        have h2 : (k : Rat) * 2 ^ j < 2 ^ (52 + L) := by exact_mod_cast h1
        grind
end Go.Proofs.Ybulkkei.Fl
