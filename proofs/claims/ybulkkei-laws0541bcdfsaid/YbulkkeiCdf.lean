/-
  'Rows.LawS0541BCdfSaid': the law's walk and the row.
-/
import Derived.Test.YbulkkeiWalks
import Derived.Test.YbulkkeiRange
import Derived.Test.YbulkkeiCdfMath
import Derived.Deep.QuietTactic
import Derived.BigQuiet
import Derived.WalkSmall
import Derived.ProofKit
import Derived.OpenShut
import Derived.ShutString
namespace Go.Proofs.Ybulkkei
open Go.RowKit
set_option linter.unusedSimpArgs false

/-- The mean is outside the law's range: it answers true at once. -/
theorem cdf_out (b : Nat) (w : World) (h : ((FloatKind.f64.format.order b 0 == some .gt || FloatKind.f64.format.order b 0 == some .eq) && (FloatKind.f64.format.order b 4741671816366391296 == some .lt || FloatKind.f64.format.order b 4741671816366391296 == some .eq)) = false) :
    Calls Yba.prog 4 #[.float .f64 b] w fun e w' => e = .returned (.bool true) ∧ Below w.heap.size w w' := by
  cases h1 : (FloatKind.f64.format.order b 0 == some .gt || FloatKind.f64.format.order b 0 == some .eq) with
  | false =>
    clear h
    go_enter Yba.func4, Yba.ntmps4
    go_wp2_with fail
    go_ret
    exact ⟨rfl, Below.refl _ _⟩
  | true =>
    rw [h1, Bool.true_and] at h
    go_enter Yba.func4, Yba.ntmps4
    go_wp2_with fail
    go_ret
    exact ⟨rfl, Below.refl _ _⟩

/-- What the law reads of the table. -/
structure Table (w1 : World) (p0 x K Bp g cap : Nat) : Prop where
  p1 : w1.cell? ⟨Bp, 1, none⟩ = some (.slice (some ⟨g, 0, none⟩) (K + 1) cap)
  row : ∀ i, i < K + 1 → w1.cell? ⟨g, i, none⟩ = some (.float .f64 (Fl.cW p0 x i))
  hK : K < 400
  hcap : K + 1 ≤ cap ∧ cap ≤ 9223372036854775807
  first : FloatKind.f64.format.order (Fl.cW p0 x 0) 0 = some .gt
  rises : ∀ i, i < K → FloatKind.f64.format.order (Fl.cW p0 x (i + 1)) (Fl.cW p0 x i) = some .gt
  low : (FloatKind.f64.format.order (Fl.cW p0 x K) 4607182418791010209 == some .gt || FloatKind.f64.format.order (Fl.cW p0 x K) 4607182418791010209 == some .eq) = true
  high : (FloatKind.f64.format.order (Fl.cW p0 x K) 4607182418804521008 == some .lt || FloatKind.f64.format.order (Fl.cW p0 x K) 4607182418804521008 == some .eq) = true

theorem table_of {b J K x k f Bp g cap : Nat} {w w1 : World} {M : Rat} (hb : Fl.F b M) (hM : M ≤ 1000000000) (m : Made b w w1 J K x k f Bp g cap) : Table w1 (Fl.expW f k) x K Bp g cap := by
  have hJ := m.hJ
  obtain ⟨q1, q2, q3⟩ := Fl.q_ok (j := J) hb hM (by omega)
  have hx : Fl.F x (Fl.val x) := by rw [m.hx]; exact q2
  have ha : Fl.val x ≤ 16 := by rw [m.hx]; exact m.under
  have st := Fl.exp_start m.hf (by have := m.hfl; grind) m.hk hx ha
  have hn := Fl.last_near hx ha m.hk m.hfl.1 m.hfl.2 m.hf m.hK0 m.moves m.stops
  have hK := m.hK0
  have hc := m.hcap
  unfold maxLen at hc
  obtain ⟨z1, z2, z3⟩ := Fl.c_all st K (by omega)
  refine ⟨m.p1, m.row, m.hK0, ⟨hc.1, by omega⟩, ?_, ?_, ?_, ?_⟩
  · have hlo := st.lo
    have h0 : Fl.F (Fl.cW (Fl.expW f k) x 0) (Fl.val (Fl.expW f k)) := st.hp
    exact Fl.order_gt h0 Fl.F_zeroW (by grind)
  · intro i hi
    obtain ⟨_, _, _, _, hle⟩ := Fl.c_step st i (by omega)
    have hne := m.moves i hi
    have f1 := (Fl.c_all st (i + 1) (by omega)).1
    have f2 := (Fl.c_all st i (by omega)).1
    exact Fl.order_gt f1 f2 (by grind)
  · have h1 : (9007199245733793 : Rat) / 2 ^ 53 < 1 - 1 / 2 ^ 34 := by decide +kernel
    have : FloatKind.f64.format.order (Fl.cW (Fl.expW f k) x K) 4607182418791010209 = some .gt := Fl.order_gt z1 Fl.F_low (by grind)
    rw [this]; rfl
  · have h1 : (1 : Rat) + 1 / 2 ^ 34 < 4503599631874096 / 2 ^ 52 := by decide +kernel
    have : FloatKind.f64.format.order (Fl.cW (Fl.expW f k) x K) 4607182418804521008 = some .lt := Fl.order_lt z1 Fl.F_high (by grind)
    rw [this]; rfl

set_option maxRecDepth 100000 in
set_option maxHeartbeats 2000000 in
theorem cdf_in (b : Nat) (w : World) (h1 : (FloatKind.f64.format.order b 0 == some .gt || FloatKind.f64.format.order b 0 == some .eq) = true) (h2 : (FloatKind.f64.format.order b 4741671816366391296 == some .lt || FloatKind.f64.format.order b 4741671816366391296 == some .eq) = true) :
    Calls Yba.prog 4 #[.float .f64 b] w fun e w' => e = .returned (.bool true) ∧ Below w.heap.size w w' := by
  obtain ⟨M, hb, hM⟩ := Fl.F_of_range h1 h2
  have HB : Hid (Fl.F b M ∧ M ≤ 1000000000) := ⟨hb, hM⟩
  clear hb hM
  go_enter Yba.func4, Yba.ntmps4
  go_wp2_with fail
  refine (newPoisson_c b M _ HB.out.1 HB.out.2).mono ?_
  rintro e w1 ⟨J, K, x, k, f, Bp, g, cap, rfl, hm⟩
  clear h1 h2
  have hbel := hm.below
  have ht := table_of HB.out.1 HB.out.2 hm
  clear hm HB
  generalize Fl.expW f k = p0 at ht
  have HT : Hid (Table w1 p0 x K Bp g cap) := ht
  have c1 := ht.p1
  have r0 := ht.row 0 (by omega)
  have hK := ht.hK
  have hcap := ht.hcap.1
  have hcap2 := ht.hcap.2
  have hfst := ht.first
  clear ht
  go_wp2_with fail
  clear hfst r0 c1
  go_loopw [5] (fun s5 wr => ∃ i q : Nat, i ≤ K ∧ s5 = .int .i64 ((i + 1 : Nat) : Int) ∧ wr = w1.drewN q) (fun s5 _ => ((K : Int) + 1 - intOf s5).toNat)
  case atStart => exact ⟨0, 0, by omega, rfl, rfl⟩
  case round =>
    obtain ⟨i, q, hi, rfl, rfl⟩ := hrel
    by_cases hlt : i < K
    · have r1 := HT.out.row (i + 1) (by omega)
      have r0 := HT.out.row i (by omega)
      have ho := HT.out.rises i hlt
      have hb1 : (i : Int) + 1 < (K : Int) + 1 := by omega
      have hb2 : (i : Int) < (K : Int) + 1 := by omega
      go_wp2_with fail
      go_quiet (fail)
      go_wp2_with fail
      go_roundw
      case rel => exact ⟨i + 1, _, by omega, by go_num, rfl⟩
      case measure => simp [intOf]; omega
    · have : i = K := by omega
      subst this
      have r1 := HT.out.row i (by omega)
      have hlo := HT.out.low
      have hhi := HT.out.high
      go_wp2_with fail
      go_ret
      exact ⟨rfl, below_drewN hbel _⟩

theorem cdf_c (b : Nat) (w : World) : Calls Yba.prog 4 #[.float .f64 b] w fun e w' => e = .returned (.bool true) ∧ Below w.heap.size w w' := by
  cases h : ((FloatKind.f64.format.order b 0 == some .gt || FloatKind.f64.format.order b 0 == some .eq) && (FloatKind.f64.format.order b 4741671816366391296 == some .lt || FloatKind.f64.format.order b 4741671816366391296 == some .eq)) with
  | false => exact cdf_out b w h
  | true =>
    rw [Bool.and_eq_true] at h
    exact cdf_in b w h.1 h.2

namespace lawS0541BCdf
open Go.ChangeShapes Go.WideShapes Go.ChangeAt
theorem own : ownKnob Yba.prog.godebug = none := by kernel_rfl

set_option maxRecDepth 100000 in
theorem lifted (os : Os) (started : os.Started) (H : Type) (enc : TypeId × Value → H) :
    ReturnsInHanded {} Yba.checked os 4 .any (Rows.lawS0541BCdfSpec.pre6 enc Yba.prog Yba.f4 Rows.lawS0541BCdfRow.domain false) (Rows.lawS0541BCdfSpec.post enc Yba.prog Yba.f4 false true false false) := by
  refine returnsInHanded_of_change (C := Yba.checked) own started (by kernel_rfl) Yba.func4
    (ChangeSpec.witness6 (enc := enc) (C := Yba.checked) false ⟨#[], #[.float .f64 0], []⟩ 8 (by kernel_rfl) (by kernel_rfl) (by kernel_rfl) (by kernel_rfl)) ?_
  intro W base args ds gs before hval0 hW hcnd _
  have hval : ∀ (j : Nat) t v, Yba.f4.params[j]? = some t → args[j]? = some v → Value.okWide Yba.prog W .any base t v := hval0
  have hW' := hW
  obtain ⟨p, q, hA0, hV, rfl, hfz, hnd⟩ := hW
  have hA : DataW.TrodAll enc Yba.prog W 0 (fun _ => true) true Yba.f4.params.toList args.toList ds p := hA0
  rw [Yba.params4] at hA hval
  obtain ⟨v0, d0, rfl, rfl, h0⟩ := trodAll_one hA
  obtain ⟨rfl, rfl⟩ := trodVars_none hV
  obtain ⟨b, rfl, rfl, rfl, w0⟩ := open_float Yba.underlying22 (hval 0 22 v0 rfl rfl) h0
  clear hA0 hval0
  refine (cdf_c b W).mono fun e W' ⟨he, hb⟩ => ?_
  subst he
  refine ⟨_, rfl, _, _, _, [], [], [], hW', ?_, ?_, rfl, hb.frame _, fun h => by cases h⟩
  · exact trodAll_mk1 (shut_bool Yba.underlying4 _)
  · exact trodAll_mk1 (shut_float Yba.underlying22 w0)

theorem over : Rows.lawS0541BCdfRow.holds Yba.pinned (OpenSpec.ofChange Rows.lawS0541BCdfSpec) :=
  OpenClaim.holds_of_wide 4 Yba.f4 rfl rfl rfl rfl rfl rfl rfl ⟨rfl, rfl, rfl, rfl, rfl⟩ rfl rfl rfl rfl rfl (by kernel_rfl) Yba.func4 (by kernel_rfl)
    (of_decide_eq_true (by kernel_rfl)) (by unfold Func.isWrapper; first | (rw [if_pos (by decide +kernel)]; kernel_rfl) | (rw [if_neg (by decide +kernel)]; exact ⟨rfl, rfl⟩))
    (fun os started H enc _ => lifted os started H enc)

theorem proved : Rows.LawS0541BCdfSaid := over
end lawS0541BCdf
end Go.Proofs.Ybulkkei
