/-
  THE WALKS of this seat, I: the leaves: slices.Grow at the nil slice, amountsOf, endOf, head, isHead, covers.
-/
import Derived.Test.YbulkkgmRows
import Derived.WalkKit
import Derived.WalkSpells
import Derived.Below
import Derived.Deep.QuietTactic
import Derived.BigQuiet
import Derived.Lib.AppendZeros
namespace Go.Proofs.Ybulkkgm
open Go.RowKit
theorem grow_run (w : World) (ty : TypeId) : ∃ G, 1 ≤ G ∧ G ≤ 9223372036854775807 ∧ (Builtin.append_ #[26, 3] ty #[.slice none 0 0, .int .i64 1]).run Yba.prog w =
      .ok (.slice (some ⟨w.heap.size, 0, none⟩) 1 G) (w.drew.alloc (.cells (#[.int .i64 0] ++ Builtin.zeroCells #[.int .i64 0] (G - 1)) 2)) := by
  have h := Lib.run_append_nil_zeros (P := Yba.prog) w 26 3 ty 2 Yba.t2 (.int .i64 0) .i64 .i64 Yba.underlying26 Yba.underlying3 (by kernel_rfl) (by kernel_rfl) 1 (by omega) (by decide) (by omega) (by decide)
  have hm := grownCap_le_maxLen w 1 0 2 (by unfold maxLen; omega)
  unfold maxLen at hm
  refine ⟨grownCap w 1 0 2, grownCap_ge w 1 0 2, hm, ?_⟩
  have e1 : Builtin.zeroCells (Value.cells (.int .i64 0)) 1 = #[.int .i64 0] := by kernel_rfl
  have e2 : Value.cells (.int .i64 0) = #[.int .i64 0] := by kernel_rfl
  rw [e1] at h
  rw [e2] at h
  exact h

set_option maxHeartbeats 1000000 in
theorem grow_c (w : World) :
    Calls Yba.prog 9 #[.slice none 0 0, .int .i64 1] w fun e w' => ∃ G : Nat, e = .returned (.slice (some ⟨w.heap.size, 0, none⟩) 0 G) ∧ 1 ≤ G ∧ G ≤ 9223372036854775807 ∧ Below w.heap.size w w' ∧
      w'.cell? ⟨w.heap.size, 0, none⟩ = some (.int .i64 0) ∧ w'.frozen? ⟨w.heap.size, 0, none⟩ = false ∧ w'.heap.size = w.heap.size + 1 := by
  go_enter Yba.func9, Yba.ntmps9
  obtain ⟨G, g1, g2, hr⟩ := grow_run w 26
  have HR : Hid ((Builtin.append_ #[26, 3] 26 #[.slice none 0 0, .int .i64 1]).run Yba.prog w =
      .ok (.slice (some ⟨w.heap.size, 0, none⟩) 1 G) (w.drew.alloc (.cells (#[.int .i64 0] ++ Builtin.zeroCells #[.int .i64 0] (G - 1)) 2))) := hr
  clear hr
  go_wp2_with (at_builtin; refine Lib.wpList_append_run _ rfl _ _ _ _ rfl _ _ rfl rfl _ _ HR.out ?_)
  go_ret
  refine ⟨G, rfl, g1, g2, ?_, ?_, ?_, ?_⟩
  · exact ((Below.refl _ _).drew).alloc (Nat.le_refl _) _
  · show (w.alloc _).cell? _ = _
    go_simp
    simp [Array.getElem?_append]
  · show (w.alloc _).frozen? _ = _
    go_simp
  · simp
theorem amounts_c (g : Nat) (w : World) :
    Calls Yba.prog 10 #[.slice (some ⟨g, 0, none⟩) 1 1, .int .i64 0, .int .i64 1] w fun e w' => e = .returned (.slice (some ⟨g, 0, none⟩) 1 1) ∧ w' = w := by
  go_enter Yba.func10, Yba.ntmps10
  go_wp2
  go_ret
  exact ⟨rfl, rfl⟩

theorem endOf_c (E : Nat) (now r : Int) (w : World) (h : w.cell? ⟨E, 16, none⟩ = some (.int .i64 now)) (n0 : -1000000 ≤ now) (n1 : now ≤ 1000000) (r0 : 0 ≤ r) (r1 : r ≤ 65535) :
    Calls Yba.prog 7 #[.pointer (some ⟨E, 0, none⟩), .int .i64 r] w fun e w' => e = .returned (.int .i64 (now + r)) ∧ w' = w := by
  go_enter Yba.func7, Yba.ntmps7
  go_wp2
  go_ret
  exact ⟨rfl, rfl⟩

theorem head_c (O ub : Nat) (w : World) (h12 : w.cell? ⟨O, 12, none⟩ = some (.slice (some ⟨ub, 0, none⟩) 1 1)) (h14 : w.cell? ⟨O, 14, none⟩ = some (.int .i64 0)) :
    Calls Yba.prog 5 #[.pointer (some ⟨O, 0, none⟩)] w fun e w' => e = .returned (.pointer (some ⟨ub, 0, none⟩)) ∧ ∃ n, w' = w.drewN n := by
  go_enter Yba.func5, Yba.ntmps5
  go_wp2_with fail
  go_quiet (fail)
  go_wp2_with fail
  go_ret
  exact ⟨rfl, _, rfl⟩

theorem isHead_c (O P : Nat) (w : World) (h0 : w.cell? ⟨P, 0, none⟩ = some (.pointer none)) :
    Calls Yba.prog 6 #[.pointer (some ⟨P, 0, none⟩), .pointer (some ⟨O, 0, none⟩)] w fun e w' => e = .returned (.bool false) ∧ ∃ n, w' = w.drewN n := by
  go_enter Yba.func6, Yba.ntmps6
  go_wp2_with fail
  go_quiet (fail)
  go_wp2_with fail
  go_ret
  exact ⟨rfl, _, rfl⟩

theorem covers_c (b g c : Nat) (w : World) (hb : w.cell? ⟨b, 0, none⟩ = some (.int .i64 0)) (hg : w.cell? ⟨g, 0, none⟩ = some (.int .i64 1)) :
    Calls Yba.prog 11 #[.slice (some ⟨b, 0, none⟩) 1 1, .slice (some ⟨g, 0, none⟩) 1 c] w fun e w' => e = .returned (.bool false) ∧ w' = w := by
  go_enter Yba.func11, Yba.ntmps11
  go_wp2
  go_loop [9] (fun i => i = .int .i64 0) (fun i => (1 - intOf i).toNat)
  case atStart => exact rfl
  case round =>
    subst hrel
    go_wp2
    go_ret
    exact ⟨rfl, rfl⟩
end Go.Proofs.Ybulkkgm
