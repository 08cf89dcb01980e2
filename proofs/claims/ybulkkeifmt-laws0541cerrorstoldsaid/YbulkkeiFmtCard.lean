/-
  'Rows.LawS0541CErrorsToldSaid': the row's step and the told and tied card.
-/
import Derived.Test.YbulkkeiFmtOpen
import Derived.Test.YbulkkeiFmtTie
import Derived.Test.YbulkkeiFmtCards
import Derived.ProofKit
import Derived.OpenShut
import Derived.OpenVars
import Derived.Carry
import Derived.LaidMore
import Derived.Stop.JoinedAt
import Derived.Stop.Texts
import Derived.Stop.JoinedTold
import Derived.SevenTiedAt
import Derived.Deep.DeepWitnessRef
namespace Go.Proofs.YbulkkeiFmt.lawS0541CErrors
open Go.ChangeShapes Go.WideShapes Go.ChangeAt Go.RowKit Go.Kit
open Go.Extern.Stop Go.Stop Go.Extern

theorem own : ownKnob Ybaf.prog.godebug = none := by kernel_rfl
theorem laidOut : laidOutB Ybaf.pinned.checked.prog = true := by kernel_rfl
theorem laidOutP : laidOutB Ybaf.prog = true := laidOut

/-- The door's own heap meets the condition. -/
theorem door_met (os : Os) (args : Array Value) : laidMetH Ybaf.prog Rows.lawS0541CErrorsRow.laid ((World.doorLaid Ybaf.prog 400 os).forCall (fun _ _ => 0) ⟨#[], args, []⟩).memory := by
  rw [MakeChecks.laidMetH_plain _ _ _ (by kernel_rfl)]
  exact laidMet_of_run' 8 (by kernel_rfl) (by kernel_rfl)

/-- One named variable has one reading. -/
theorem vars_one {H : Type} {enc : TypeId × Value → H} {P : Program} {W : World} {sp : Nat → Bool} {n : String} : ∀ {gs : List (DataW H)} {q : List MemPlace}, DataW.TrodVars enc P W sp [n] gs q → ∃ g, gs = [g]
  | [], _, h => h.elim
  | [g], _, _ => ⟨g, rfl⟩
  | _ :: _ :: _, _, h => by
    obtain ⟨_, _, _, _, _, _, _, _, _, _, hs, _⟩ := h
    exact hs.elim

set_option maxRecDepth 100000 in
theorem lifted (os : Os) (started : os.Started) (H : Type) (enc : TypeId × Value → H) :
    ReturnsInTold none {} Ybaf.checked os 3 .any Input.okWide ((OpenSpec.ofChange Rows.lawS0541CErrorsSpec).preRow enc Ybaf.prog Ybaf.f3 [] false Rows.lawS0541CErrorsRow.laid) (fun F => ((OpenSpec.ofChange Rows.lawS0541CErrorsSpec).at F).post enc Ybaf.prog Ybaf.f3 false true false false) (aloneAtReturn Ybaf.prog) nothingAlways := by
  refine returnsInTold_of_row (C := Ybaf.checked) (s := OpenSpec.ofChange Rows.lawS0541CErrorsSpec) (by kernel_rfl) own started (by kernel_rfl) Ybaf.func3
    (OpenSpec.witness_stopped_atRef (enc := enc) (C := Ybaf.checked) (os := os) false (World.doorLaid Ybaf.prog 400 os) #[.int .u8 0, .bool false, .slice none 0 0] rfl (by kernel_rfl) (by kernel_rfl) (by kernel_rfl) (OpenSpec.preRow_of_B rfl 8 (by kernel_rfl) (by kernel_rfl) (door_met os _))) ?_
  intro F W base args ds gs before _ hF hval0 hW _ _ _ _ _
  have hval : ∀ (j : Nat) t v, Ybaf.f3.params[j]? = some t → args[j]? = some v → Value.okWide Ybaf.prog W .any base t v := hval0
  have hW' := hW
  obtain ⟨p, q, hA0, hV0, rfl, hfz, hnd⟩ := hW
  have hA : DataW.TrodAll enc Ybaf.prog W 0 (fun _ => true) true Ybaf.f3.params.toList args.toList ds p := hA0
  have hV : DataW.TrodVars enc Ybaf.prog W (fun _ => true) Rows.lawS0541CErrorsSpec.vars gs q := hV0
  have hlt := hA.lt
  rw [Ybaf.params3] at hA hval
  obtain ⟨v0, vs0, d0, ds0, p0, q0, hargs, rfl, rfl, h0, r0⟩ := trodAll_cons hA
  obtain ⟨v1, vs1, d1, ds1, p1, q1, rfl, rfl, rfl, h1, r1⟩ := trodAll_cons r0
  obtain ⟨v2, vs2, d2, ds2, p2, q2, rfl, rfl, rfl, h2, r2⟩ := trodAll_cons r1
  obtain ⟨rfl, rfl, rfl⟩ := trodAll_nil r2
  obtain rfl : args = #[v0, v1, v2] := by cases args; simp_all
  obtain ⟨g1, rfl⟩ := vars_one hV0
  obtain ⟨a0, e0, e0', e0'', w0⟩ := open_int Ybaf.underlying5 (hval 0 5 v0 rfl rfl) h0
  obtain ⟨a1, e1, e1', e1''⟩ := open_bool Ybaf.underlying4 (hval 1 4 v1 rfl rfl) h1
  obtain ⟨o2, n2, c2, e2⟩ := okWide_slice Ybaf.underlying22 (hval 2 22 v2 rfl rfl)
  have b0 : 0 ≤ a0 ∧ a0 ≤ 255 := u8_bounds w0
  have key : Calls Ybaf.prog 3 #[v0, v1, v2] W fun e W' => e = .returned (.bool true) ∧ Below W.heap.size W W' := by
    obtain ⟨fuel, hfu⟩ := h2
    rw [e0, e1]
    rcases open_steps hfu with hs | ⟨a, n, cap, I, C, P, Sl, Ln, Cp, Z, hs, hS⟩
    · have e3 : v2 = .slice none 0 0 := by
        rw [e2] at hs ⊢
        simpa [Value.cells] using hs
      rw [e3]
      exact law_nil a0 b0 a1 W
    · have e3 : v2 = .slice (some a) n cap := by
        rw [e2] at hs ⊢
        simpa [Value.cells] using hs
      rw [e3]
      exact law_ok F.told a0 b0 a1 W hF a n cap I C P Sl Ln Cp Z hS
  refine key.mono fun e W' ⟨he, hb⟩ => ?_
  subst he
  refine ⟨_, rfl, _, _, _, [], p0 ++ (p1 ++ (p2 ++ [])), q, hW', ?_, ?_, ?_, hb.frame _, fun h => by cases h⟩
  · exact trodAll_mk1 (shut_bool Ybaf.underlying4 _)
  · exact trodAll_cons_mk (Below.trod laidOutP (by kernel_rfl) (of_decide_eq_true (by kernel_rfl)) h0 hb (fun x hx => hlt x (by simp [hx]))) (trodAll_cons_mk (Below.trod laidOutP (by kernel_rfl) (of_decide_eq_true (by kernel_rfl)) h1 hb (fun x hx => hlt x (by simp [hx]))) (trodAll_cons_mk (Below.trod laidOutP (by kernel_rfl) (of_decide_eq_true (by kernel_rfl)) h2 hb (fun x hx => hlt x (by simp [hx]))) trodAll_mk0))
  · exact Below.trodVars laidOutP hb (by kernel_rfl) hV

theorem stops : Ybaf.pinned.checked.prog.stops = Rows.lawS0541CErrorsRow.stops := by kernel_rfl
theorem stopKnobs : Ybaf.pinned.checked.prog.stopKnobs = [] := by kernel_rfl
theorem quiet (os : Os) : Stop.quiet Ybaf.pinned.checked.prog os := by
  intro k hk
  rw [stopKnobs] at hk
  cases hk
theorem proved : Rows.LawS0541CErrorsToldSaid :=
  Claim7.holds_of_told_tied_any_at .later 3 Ybaf.f3 _ _ [] _ _ _ _ _ (by kernel_rfl) rfl rfl rfl laidOut (by kernel_rfl) rfl ⟨rfl, rfl, rfl, rfl, rfl, rfl, rfl⟩ rfl rfl (by kernel_rfl) (by kernel_rfl) Ybaf.func3 (by kernel_rfl)
    (of_decide_eq_true (by kernel_rfl)) (of_decide_eq_true (by kernel_rfl)) stops.symm rfl stopKnobs.symm (by kernel_rfl)
    (by kernel_rfl) (by kernel_rfl) (by kernel_rfl) (by kernel_rfl) (by kernel_rfl) (by kernel_rfl) (by kernel_rfl) (by kernel_rfl) (by kernel_rfl) rfl (by kernel_rfl) rfl rfl
    rfl rfl
    rfl (by kernel_rfl) (by kernel_rfl) (by kernel_rfl) (by decide) (by kernel_rfl) lawS0541CErrors_row_tie
    (OpenClaim.moreEntering_of (by kernel_rfl) (by kernel_rfl) (by kernel_rfl) (by kernel_rfl) (by kernel_rfl) (by kernel_rfl) (by kernel_rfl) (by kernel_rfl) (by kernel_rfl) (by kernel_rfl))
    ⟨_, WideRow.started_initial, quiet _⟩
    (fun os started _ H enc _ => lifted os started H enc)
end Go.Proofs.YbulkkeiFmt.lawS0541CErrors
