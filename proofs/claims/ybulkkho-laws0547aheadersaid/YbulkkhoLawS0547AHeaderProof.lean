/-
  The proof of 'Rows.LawS0547AHeaderSaid': the frame is the kit's shell for this function, the walk is ours: the three flags are parted ahead of the walk, and each of the eight ways runs by itself.
-/
import Derived.Test.YbulkkhoRows
import Derived.WalkKit
import Derived.ProofKit
import Derived.OpenShut
import Derived.ShutString
namespace Go.Proofs.Ybulkkho.lawS0547AHeader
open Go.ChangeShapes Go.WideShapes Go.ChangeAt Go.RowKit
open Go.ChangeMaps (open_string shut_string)
set_option linter.unusedVariables false      -- a walk need not use every 'w<i>' (that an integer argument fits its kind)

theorem own : ownKnob Yba.prog.godebug = none := by kernel_rfl

/-! ### STEP 1: THE WALK: the flags' eight ways, each by itself; the bit operations on the small constants first. -/
theorem bor_0_1 : bits BinOp.or IntKind.u8 0 1 = 1 := by decide
theorem bor_0_2 : bits BinOp.or IntKind.u8 0 2 = 2 := by decide
theorem bor_1_2 : bits BinOp.or IntKind.u8 1 2 = 3 := by decide
theorem bor_0_4 : bits BinOp.or IntKind.u8 0 4 = 4 := by decide
theorem bor_1_4 : bits BinOp.or IntKind.u8 1 4 = 5 := by decide
theorem bor_2_4 : bits BinOp.or IntKind.u8 2 4 = 6 := by decide
theorem bor_3_4 : bits BinOp.or IntKind.u8 3 4 = 7 := by decide
theorem band_0_1 : bits BinOp.and IntKind.u8 0 1 = 0 := by decide
theorem band_0_2 : bits BinOp.and IntKind.u8 0 2 = 0 := by decide
theorem band_0_4 : bits BinOp.and IntKind.u8 0 4 = 0 := by decide
theorem band_1_1 : bits BinOp.and IntKind.u8 1 1 = 1 := by decide
theorem band_1_2 : bits BinOp.and IntKind.u8 1 2 = 0 := by decide
theorem band_1_4 : bits BinOp.and IntKind.u8 1 4 = 0 := by decide
theorem band_2_1 : bits BinOp.and IntKind.u8 2 1 = 0 := by decide
theorem band_2_2 : bits BinOp.and IntKind.u8 2 2 = 2 := by decide
theorem band_2_4 : bits BinOp.and IntKind.u8 2 4 = 0 := by decide
theorem band_3_1 : bits BinOp.and IntKind.u8 3 1 = 1 := by decide
theorem band_3_2 : bits BinOp.and IntKind.u8 3 2 = 2 := by decide
theorem band_3_4 : bits BinOp.and IntKind.u8 3 4 = 0 := by decide
theorem band_4_1 : bits BinOp.and IntKind.u8 4 1 = 0 := by decide
theorem band_4_2 : bits BinOp.and IntKind.u8 4 2 = 0 := by decide
theorem band_4_4 : bits BinOp.and IntKind.u8 4 4 = 4 := by decide
theorem band_5_1 : bits BinOp.and IntKind.u8 5 1 = 1 := by decide
theorem band_5_2 : bits BinOp.and IntKind.u8 5 2 = 0 := by decide
theorem band_5_4 : bits BinOp.and IntKind.u8 5 4 = 4 := by decide
theorem band_6_1 : bits BinOp.and IntKind.u8 6 1 = 0 := by decide
theorem band_6_2 : bits BinOp.and IntKind.u8 6 2 = 2 := by decide
theorem band_6_4 : bits BinOp.and IntKind.u8 6 4 = 4 := by decide
theorem band_7_1 : bits BinOp.and IntKind.u8 7 1 = 1 := by decide
theorem band_7_2 : bits BinOp.and IntKind.u8 7 2 = 2 := by decide
theorem band_7_4 : bits BinOp.and IntKind.u8 7 4 = 4 := by decide
attribute [local go_sem] bor_0_1 bor_0_2 bor_1_2 bor_0_4 bor_1_4 bor_2_4 bor_3_4 band_0_1 band_0_2 band_0_4 band_1_1 band_1_2 band_1_4 band_2_1 band_2_2 band_2_4 band_3_1 band_3_2 band_3_4 band_4_1 band_4_2 band_4_4 band_5_1 band_5_2 band_5_4 band_6_1 band_6_2 band_6_4 band_7_1 band_7_2 band_7_4

theorem walk_false_false_false (a3 : Int) (w : World) :
    Calls Yba.prog 3 #[.bool false, .bool false, .bool false, .int .u64 a3] w fun e w' => e = .returned (.bool true) ∧ Grown w w' := by
  go_enter Yba.func3, Yba.ntmps3
  go_wp2
  go_ret
  exact ⟨rfl, by repeat (first | exact Grown.refl _ | apply Grown.drew | apply Grown.alloc)⟩

theorem walk_false_false_true (a3 : Int) (w : World) :
    Calls Yba.prog 3 #[.bool false, .bool false, .bool true, .int .u64 a3] w fun e w' => e = .returned (.bool true) ∧ Grown w w' := by
  go_enter Yba.func3, Yba.ntmps3
  go_wp2
  go_ret
  exact ⟨rfl, by repeat (first | exact Grown.refl _ | apply Grown.drew | apply Grown.alloc)⟩

theorem walk_false_true_false (a3 : Int) (w : World) :
    Calls Yba.prog 3 #[.bool false, .bool true, .bool false, .int .u64 a3] w fun e w' => e = .returned (.bool true) ∧ Grown w w' := by
  go_enter Yba.func3, Yba.ntmps3
  go_wp2
  go_ret
  exact ⟨rfl, by repeat (first | exact Grown.refl _ | apply Grown.drew | apply Grown.alloc)⟩

theorem walk_false_true_true (a3 : Int) (w : World) :
    Calls Yba.prog 3 #[.bool false, .bool true, .bool true, .int .u64 a3] w fun e w' => e = .returned (.bool true) ∧ Grown w w' := by
  go_enter Yba.func3, Yba.ntmps3
  go_wp2
  go_ret
  exact ⟨rfl, by repeat (first | exact Grown.refl _ | apply Grown.drew | apply Grown.alloc)⟩

theorem walk_true_false_false (a3 : Int) (w : World) :
    Calls Yba.prog 3 #[.bool true, .bool false, .bool false, .int .u64 a3] w fun e w' => e = .returned (.bool true) ∧ Grown w w' := by
  go_enter Yba.func3, Yba.ntmps3
  go_wp2
  go_ret
  exact ⟨rfl, by repeat (first | exact Grown.refl _ | apply Grown.drew | apply Grown.alloc)⟩

theorem walk_true_false_true (a3 : Int) (w : World) :
    Calls Yba.prog 3 #[.bool true, .bool false, .bool true, .int .u64 a3] w fun e w' => e = .returned (.bool true) ∧ Grown w w' := by
  go_enter Yba.func3, Yba.ntmps3
  go_wp2
  go_ret
  exact ⟨rfl, by repeat (first | exact Grown.refl _ | apply Grown.drew | apply Grown.alloc)⟩

theorem walk_true_true_false (a3 : Int) (w : World) :
    Calls Yba.prog 3 #[.bool true, .bool true, .bool false, .int .u64 a3] w fun e w' => e = .returned (.bool true) ∧ Grown w w' := by
  go_enter Yba.func3, Yba.ntmps3
  go_wp2
  go_ret
  exact ⟨rfl, by repeat (first | exact Grown.refl _ | apply Grown.drew | apply Grown.alloc)⟩

theorem walk_true_true_true (a3 : Int) (w : World) :
    Calls Yba.prog 3 #[.bool true, .bool true, .bool true, .int .u64 a3] w fun e w' => e = .returned (.bool true) ∧ Grown w w' := by
  go_enter Yba.func3, Yba.ntmps3
  go_wp2
  go_ret
  exact ⟨rfl, by repeat (first | exact Grown.refl _ | apply Grown.drew | apply Grown.alloc)⟩

theorem walk (a0 : Bool) (a1 : Bool) (a2 : Bool) (a3 : Int) (w3 : (Lit.int .u64 a3).wf = true) (w : World) :
    Calls Yba.prog 3 #[.bool a0, .bool a1, .bool a2, .int .u64 a3] w fun e w' => e = .returned (.bool true) ∧ Grown w w' := by
  cases a0 <;> cases a1 <;> cases a2
  · exact walk_false_false_false a3 w
  · exact walk_false_false_true a3 w
  · exact walk_false_true_false a3 w
  · exact walk_false_true_true a3 w
  · exact walk_true_false_false a3 w
  · exact walk_true_false_true a3 w
  · exact walk_true_true_false a3 w
  · exact walk_true_true_true a3 w

/-! ### THE ROW's STEP: WRITTEN OUT: LEAVE IT -/
set_option maxRecDepth 100000 in
theorem lifted (os : Os) (started : os.Started) (H : Type) (enc : TypeId × Value → H) :
    ReturnsInHanded {} Yba.checked os 3 .any (Rows.lawS0547AHeaderSpec.pre6 enc Yba.prog Yba.f3 Rows.lawS0547AHeaderRow.domain false) (Rows.lawS0547AHeaderSpec.post enc Yba.prog Yba.f3 false true false false) := by
  refine returnsInHanded_of_change (C := Yba.checked) own started (by kernel_rfl) Yba.func3
    (ChangeSpec.witness6 (enc := enc) (C := Yba.checked) false ⟨#[], #[.bool false, .bool false, .bool false, .int .u64 0], []⟩ 8 (by kernel_rfl) (by kernel_rfl) (by kernel_rfl) (by kernel_rfl)) ?_
  intro W base args ds gs before hval0 hW hcnd _
  have hval : ∀ (j : Nat) t v, Yba.f3.params[j]? = some t → args[j]? = some v → Value.okWide Yba.prog W .any base t v := hval0
  have hW' := hW
  obtain ⟨p, q, hA0, hV, rfl, hfz, hnd⟩ := hW
  have hA : DataW.TrodAll enc Yba.prog W 0 (fun _ => true) true Yba.f3.params.toList args.toList ds p := hA0
  rw [Yba.params3] at hA hval
  obtain ⟨v0, vs0, d0, ds0, p0, q0, hargs, rfl, rfl, h0, r0⟩ := trodAll_cons hA
  obtain ⟨v1, vs1, d1, ds1, p1, q1, rfl, rfl, rfl, h1, r1⟩ := trodAll_cons r0
  obtain ⟨v2, vs2, d2, ds2, p2, q2, rfl, rfl, rfl, h2, r2⟩ := trodAll_cons r1
  obtain ⟨v3, vs3, d3, ds3, p3, q3, rfl, rfl, rfl, h3, r3⟩ := trodAll_cons r2
  obtain ⟨rfl, rfl, rfl⟩ := trodAll_nil r3
  obtain rfl : args = #[v0, v1, v2, v3] := by cases args; simp_all
  obtain ⟨rfl, rfl⟩ := trodVars_none hV
  obtain ⟨a0, rfl, rfl, rfl⟩ := open_bool Yba.underlying4 (hval 0 4 v0 rfl rfl) h0
  obtain ⟨a1, rfl, rfl, rfl⟩ := open_bool Yba.underlying4 (hval 1 4 v1 rfl rfl) h1
  obtain ⟨a2, rfl, rfl, rfl⟩ := open_bool Yba.underlying4 (hval 2 4 v2 rfl rfl) h2
  obtain ⟨a3, rfl, rfl, rfl, w3⟩ := open_int Yba.underlying22 (hval 3 22 v3 rfl rfl) h3
  clear hA0 hval0
  simp only [List.append_nil] at hW'
  refine (walk a0 a1 a2 a3 w3 W).mono fun e W' ⟨he, hg⟩ => ?_
  subst he
  exact ⟨_, rfl, post_of_same (pa := []) (pv := []) hW' (fun _ _ _ => (trodAll_cons_mk (shut_bool Yba.underlying4 _) trodAll_mk0)) (fun sp _ => (trodAll_cons_mk (shut_bool Yba.underlying4 _) (trodAll_cons_mk (shut_bool Yba.underlying4 _) (trodAll_cons_mk (shut_bool Yba.underlying4 _) (trodAll_cons_mk (shut_int Yba.underlying22 w3) trodAll_mk0))))) (fun _ _ => rfl) rfl
    (hg.frame _) hg.2.1 (ok_one (by kernel_rfl) rfl (okWide_bool_mk Yba.underlying4 _))⟩

theorem over : Rows.lawS0547AHeaderRow.holds Yba.pinned (OpenSpec.ofChange Rows.lawS0547AHeaderSpec) :=
  OpenClaim.holds_of_wide 3 Yba.f3 rfl rfl rfl rfl rfl rfl rfl ⟨rfl, rfl, rfl, rfl, rfl⟩ rfl rfl rfl rfl rfl (by kernel_rfl) Yba.func3 (by kernel_rfl)
    (of_decide_eq_true (by kernel_rfl)) (by unfold Func.isWrapper; first | (rw [if_pos (by decide +kernel)]; kernel_rfl) | (rw [if_neg (by decide +kernel)]; exact ⟨rfl, rfl⟩))
    (fun os started H enc _ => lifted os started H enc)

/-- ████ THE STATEMENT ████ -/
theorem proved : Rows.LawS0547AHeaderSaid :=
  over
end Go.Proofs.Ybulkkho.lawS0547AHeader
