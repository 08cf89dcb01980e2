/-
  'Rows.LawS0541BPartsSaid': the law's walk and the row.
-/
import Derived.Test.YbulkkeiWalks
import Derived.Test.YbulkkeiRange
import Derived.Deep.QuietTactic
import Derived.BigQuiet
import Derived.WalkSmall
import Derived.ProofKit
import Derived.OpenShut
import Derived.ShutString
namespace Go.Proofs.Ybulkkei
open Go.RowKit
set_option linter.unusedSimpArgs false


theorem and_pow : ∀ J : Nat, J ≤ 26 → bits BinOp.and IntKind.i64 ((2 ^ J : Nat) : Int) (((2 ^ J : Nat) : Int) - 1) = 0 := by
  have h : ∀ J : Fin 27, bits BinOp.and IntKind.i64 ((2 ^ J.val : Nat) : Int) (((2 ^ J.val : Nat) : Int) - 1) = 0 := by decide +kernel
  intro J hJ
  exact h ⟨J, by omega⟩

/-- The mean is outside the law's range: it answers true at once. -/
theorem parts_out (b : Nat) (w : World) (h : ((FloatKind.f64.format.order b 0 == some .gt || FloatKind.f64.format.order b 0 == some .eq) && (FloatKind.f64.format.order b 4741671816366391296 == some .lt || FloatKind.f64.format.order b 4741671816366391296 == some .eq)) = false) :
    Calls Yba.prog 3 #[.float .f64 b] w fun e w' => e = .returned (.bool true) ∧ Below w.heap.size w w' := by
  cases h1 : (FloatKind.f64.format.order b 0 == some .gt || FloatKind.f64.format.order b 0 == some .eq) with
  | false =>
    clear h
    go_enter Yba.func3, Yba.ntmps3
    go_wp2_with fail
    go_ret
    exact ⟨rfl, Below.refl _ _⟩
  | true =>
    rw [h1, Bool.true_and] at h
    go_enter Yba.func3, Yba.ntmps3
    go_wp2_with fail
    go_ret
    exact ⟨rfl, Below.refl _ _⟩

set_option maxRecDepth 100000 in
set_option maxHeartbeats 2000000 in
theorem parts_in (b : Nat) (w : World) (h1 : (FloatKind.f64.format.order b 0 == some .gt || FloatKind.f64.format.order b 0 == some .eq) = true) (h2 : (FloatKind.f64.format.order b 4741671816366391296 == some .lt || FloatKind.f64.format.order b 4741671816366391296 == some .eq) = true) :
    Calls Yba.prog 3 #[.float .f64 b] w fun e w' => e = .returned (.bool true) ∧ Below w.heap.size w w' := by
  obtain ⟨M, hb, hM⟩ := Fl.F_of_range h1 h2
  have HB : Hid (Fl.F b M ∧ M ≤ 1000000000) := ⟨hb, hM⟩
  clear hb hM
  go_enter Yba.func3, Yba.ntmps3
  go_wp2_with fail
  refine (newPoisson_c b M _ HB.out.1 HB.out.2).mono ?_
  rintro e w1 ⟨J, K, x, k, f, Bp, g, cap, rfl, hm⟩
  clear h1 h2
  have HMd : Hid (Made b w w1 J K x k f Bp g cap) := hm
  have c0 := hm.p0
  have hJ := hm.hJ
  clear hm
  have ha := and_pow J hJ
  obtain ⟨q1, q2, q3⟩ := Fl.q_ok (j := J) HB.out.1 HB.out.2 (by omega)
  have e1 := run_div q1
  have e2 : floatOfInt .f64 ((2 ^ J : Nat) : Int) = Fl.natW (2 ^ J) := fl_nat (2 ^ J)
  have hpow : 2 ^ J ≤ 67108864 := Nat.le_trans (Nat.pow_le_pow_right (by omega) hJ) (by decide)
  have hpow1 : 1 ≤ 2 ^ J := Nat.two_pow_pos J
  have ho : (FloatKind.f64.format.order (Fl.qW b J) 4625196817309499392 == some .lt || FloatKind.f64.format.order (Fl.qW b J) 4625196817309499392 == some .eq) = true := by
    have hle := HMd.out.under
    by_cases h : Fl.val (Fl.qW b J) < 16
    · have : FloatKind.f64.format.order (Fl.qW b J) 4625196817309499392 = some .lt := Fl.order_lt q2 Fl.F_sixteen h
      rw [this]; rfl
    · have : FloatKind.f64.format.order (Fl.qW b J) 4625196817309499392 = some .eq := Fl.order_eq q2 Fl.F_sixteen (by grind)
      rw [this]; rfl
  clear q1 q2 q3
  have hbel := HMd.out.below
  cases J with
  | zero =>
    have e1' : ∀ (t : TypeId) (w : World), (binOp .quo t (.float .f64 b) (.float .f64 (Fl.natW 1))).run Yba.prog w = .ok (.float .f64 (Fl.qW b 0)) w := e1
    have e2' : floatOfInt .f64 1 = Fl.natW 1 := fl_nat 1
    have c0' : w1.cell? ⟨Bp, 0, none⟩ = some (.int .i64 1) := c0
    have ha1 : bits BinOp.and IntKind.i64 1 0 = 0 := by decide
    clear e1 e2 c0 ha hpow hpow1
    go_wp2_with (simp only [e1', e2'])
    go_quiet (fail)
    go_wp2_with (simp only [e1', e2'])
    go_ret
    exact ⟨rfl, below_drewN hbel _⟩
  | succ j =>
    have hov := HMd.out.over j (by omega)
    obtain ⟨q1, q2, q3⟩ := Fl.q_ok (j := j) HB.out.1 HB.out.2 (by omega)
    have e3 := run_div q1
    have e4 : floatOfInt .f64 ((2 ^ j : Nat) : Int) = Fl.natW (2 ^ j) := fl_nat (2 ^ j)
    have ho2 : FloatKind.f64.format.order (Fl.qW b j) 4625196817309499392 = some .gt := Fl.order_gt q2 Fl.F_sixteen hov
    have hpp : 2 ^ (j + 1) = 2 ^ j + 2 ^ j := by rw [Nat.pow_succ]; omega
    have hp1 : 1 ≤ 2 ^ j := Nat.two_pow_pos j
    generalize 2 ^ (j + 1) = P at *
    generalize 2 ^ j = Q at *
    have hP2 : (1 : Int) < (P : Int) := by omega
    have hdiv : (P : Int) / 2 = (Q : Int) := by omega
    clear q1 q2 q3 hov hpp hp1
    go_wp2_with (simp only [e1, e2, e3, e4])
    go_quiet (fail)
    go_wp2_with (simp only [e1, e2, e3, e4])
    go_ret
    exact ⟨rfl, below_drewN hbel _⟩

theorem parts_c (b : Nat) (w : World) : Calls Yba.prog 3 #[.float .f64 b] w fun e w' => e = .returned (.bool true) ∧ Below w.heap.size w w' := by
  cases h : ((FloatKind.f64.format.order b 0 == some .gt || FloatKind.f64.format.order b 0 == some .eq) && (FloatKind.f64.format.order b 4741671816366391296 == some .lt || FloatKind.f64.format.order b 4741671816366391296 == some .eq)) with
  | false => exact parts_out b w h
  | true =>
    rw [Bool.and_eq_true] at h
    exact parts_in b w h.1 h.2

namespace lawS0541BParts
open Go.ChangeShapes Go.WideShapes Go.ChangeAt
theorem own : ownKnob Yba.prog.godebug = none := by kernel_rfl

set_option maxRecDepth 100000 in
theorem lifted (os : Os) (started : os.Started) (H : Type) (enc : TypeId × Value → H) :
    ReturnsInHanded {} Yba.checked os 3 .any (Rows.lawS0541BPartsSpec.pre6 enc Yba.prog Yba.f3 Rows.lawS0541BPartsRow.domain false) (Rows.lawS0541BPartsSpec.post enc Yba.prog Yba.f3 false true false false) := by
  refine returnsInHanded_of_change (C := Yba.checked) own started (by kernel_rfl) Yba.func3
    (ChangeSpec.witness6 (enc := enc) (C := Yba.checked) false ⟨#[], #[.float .f64 0], []⟩ 8 (by kernel_rfl) (by kernel_rfl) (by kernel_rfl) (by kernel_rfl)) ?_
  intro W base args ds gs before hval0 hW hcnd _
  have hval : ∀ (j : Nat) t v, Yba.f3.params[j]? = some t → args[j]? = some v → Value.okWide Yba.prog W .any base t v := hval0
  have hW' := hW
  obtain ⟨p, q, hA0, hV, rfl, hfz, hnd⟩ := hW
  have hA : DataW.TrodAll enc Yba.prog W 0 (fun _ => true) true Yba.f3.params.toList args.toList ds p := hA0
  rw [Yba.params3] at hA hval
  obtain ⟨v0, d0, rfl, rfl, h0⟩ := trodAll_one hA
  obtain ⟨rfl, rfl⟩ := trodVars_none hV
  obtain ⟨b, rfl, rfl, rfl, w0⟩ := open_float Yba.underlying22 (hval 0 22 v0 rfl rfl) h0
  clear hA0 hval0
  refine (parts_c b W).mono fun e W' ⟨he, hb⟩ => ?_
  subst he
  refine ⟨_, rfl, _, _, _, [], [], [], hW', ?_, ?_, rfl, hb.frame _, fun h => by cases h⟩
  · exact trodAll_mk1 (shut_bool Yba.underlying4 _)
  · exact trodAll_mk1 (shut_float Yba.underlying22 w0)

theorem over : Rows.lawS0541BPartsRow.holds Yba.pinned (OpenSpec.ofChange Rows.lawS0541BPartsSpec) :=
  OpenClaim.holds_of_wide 3 Yba.f3 rfl rfl rfl rfl rfl rfl rfl ⟨rfl, rfl, rfl, rfl, rfl⟩ rfl rfl rfl rfl rfl (by kernel_rfl) Yba.func3 (by kernel_rfl)
    (of_decide_eq_true (by kernel_rfl)) (by unfold Func.isWrapper; first | (rw [if_pos (by decide +kernel)]; kernel_rfl) | (rw [if_neg (by decide +kernel)]; exact ⟨rfl, rfl⟩))
    (fun os started H enc _ => lifted os started H enc)

theorem proved : Rows.LawS0541BPartsSaid := over
end lawS0541BParts
end Go.Proofs.Ybulkkei
