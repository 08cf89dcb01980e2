/-
  FLOATS: what the laws' own test says of the mean.
-/
import Derived.Test.YbulkkeiExpNeg
namespace Go.Proofs.Ybulkkei
namespace Fl
open Ieee
theorem read_place_ge {b : Nat} {neg : Bool} {m : Nat} {i : Int} (h : double.read b = .number neg m i) : -1074 ≤ i := by
  unfold Format.read at h
  simp only [bin, infR, lp] at h
  split at h
  · cases h; omega
  · split at h
    · cases h; omega
    · split at h
      · cases h
      · cases h
theorem read_zero : double.read 0 = .number false 0 (-1074) := by decide +kernel
theorem read_most : double.read wMost = .number false 8388608000000000 (-23) := by decide +kernel

/-- The law's own test: a finite mean, not negative, at most 1e9. -/
theorem F_of_range {b : Nat} (h1 : (double.order b 0 == some .gt || double.order b 0 == some .eq) = true) (h2 : (double.order b wMost == some .lt || double.order b wMost == some .eq) = true) :
    ∃ M, F b M ∧ M ≤ 1000000000 := by
  cases hr : double.read b with
  | nan s t => simp [Format.order, hr, Datum.order] at h1
  | infinity s =>
    simp only [Format.order, hr, Datum.order, read_zero, read_most] at h1 h2
    cases s
    · exact absurd h2 (by decide)
    · exact absurd h1 (by decide)
  | number s m i =>
    have hi := read_place_ge hr
    have hz : s = true → m = 0 := by
      intro hs
      subst hs
      simp only [Format.order, hr, Datum.order, read_zero] at h1
      have e : min i (-1074) = -1074 := by omega
      rw [e] at h1
      have e2 : signed false 0 ((-1074 : Int) - -1074).toNat = 0 := by decide
      rw [e2] at h1
      unfold signed at h1
      simp only [if_true, Nat.shiftLeft_eq] at h1
      by_cases hm : m = 0
      · exact hm
      · exfalso
        have hp : 0 < m * 2 ^ (i - -1074).toNat := Nat.mul_pos (by omega) (Nat.two_pow_pos _)
        have hc : compare (-((m * 2 ^ (i - -1074).toNat : Nat) : Int)) 0 = .lt := Int.compare_eq_lt.2 (by omega)
        rw [hc] at h1
        revert h1; decide
    have hF : F b ((m : Rat) * 2 ^ (i + 1074).toNat / U) := by
      refine ⟨m * 2 ^ (i + 1074).toNat, ⟨s, m, i, hr, hi, rfl, hz⟩, ?_⟩
      rw [cast_mp]
      have := U_pos
      exact Rat.div_mul_cancel (by grind)
    refine ⟨_, hF, ?_⟩
    generalize (m : Rat) * 2 ^ (i + 1074).toNat / U = v at *
    by_cases hle : v ≤ 1000000000
    · exact hle
    · exfalso
      rw [order_gt hF F_most (by grind)] at h2
      revert h2; decide
end Fl
end Go.Proofs.Ybulkkei
