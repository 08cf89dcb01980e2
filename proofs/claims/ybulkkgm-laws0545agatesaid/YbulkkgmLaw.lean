/-
  THE WALKS of this seat, IV: the law's own body.
-/
import Derived.Test.YbulkkgmPart
import Derived.Laws.Tables
namespace Go.Proofs.Ybulkkgm
open Go.RowKit

/-- The zero engine, the zero projection, and an Outcome with four slices set: their cells. -/
def eng0 : Array Value := #[.pointer none, .int .i64 0, .int .i64 0, .slice none 0 0, .slice none 0 0, .slice none 0 0, .slice none 0 0, .int .i64 0, .map none, .slice none 0 0, .slice none 0 0, .slice none 0 0, .slice none 0 0, .slice none 0 0, .nilIface, .nilIface, .int .i64 0, .int .i64 0, .slice none 0 0, .int .i64 0, .slice none 0 0, .int .i64 0, .int .i64 0, .slice none 0 0, .slice none 0 0, .int .i64 0, .pointer none, .bool false, .bool false, .int .i64 0, .nilFunc, .map none, .slice none 0 0, .slice none 0 0, .slice none 0 0, .slice none 0 0, .slice none 0 0, .slice none 0 0, .slice none 0 0, .slice none 0 0, .pointer none, .pointer none, .slice none 0 0, .slice none 0 0, .nilFunc, .pointer none]
def prj0 : Array Value := #[.pointer none, .int .i64 0, .bool false, .bool false, .int .i64 0, .int .i64 0, .slice none 0 0, .slice none 0 0, .int .i64 0, .int .i64 0, .slice none 0 0, .map none, .slice none 0 0, .slice none 0 0, .slice none 0 0, .int .i64 0, .slice none 0 0, .int .i64 0, .slice none 0 0, .int .i64 0, .int .i64 0, .bool false, .slice none 0 0, .bool false, .bool false, .int .i64 0, .int .i64 0, .slice none 0 0, .slice none 0 0, .slice none 0 0, .int .i64 0, .slice none 0 0, .int .i64 0, .slice none 0 0, .slice none 0 0, .slice none 0 0, .slice none 0 0, .slice none 0 0, .int .i64 0, .slice none 0 0, .slice none 0 0, .slice none 0 0, .int .i64 0, .slice none 0 0, .slice none 0 0, .slice none 0 0, .slice none 0 0, .slice none 0 0, .int .i64 0, .nilFunc, .slice none 0 0, .int .i64 0, .nilFunc, .slice none 0 0, .slice none 0 0, .slice none 0 0, .slice none 0 0, .slice none 0 0, .slice none 0 0, .slice none 0 0, .slice none 0 0, .slice none 0 0, .slice none 0 0, .int .i64 0, .slice none 0 0, .nilFunc, .slice none 0 0, .int .i64 0, .int .i64 0, .int .i64 0, .slice none 0 0, .int .i64 0, .int .i64 0]
theorem built55 : Yba.prog.built 55 [] = some eng0 := by kernel_rfl
theorem built87 : Yba.prog.built 87 [] = some prj0 := by kernel_rfl

theorem wp_build_at {P : Program} {o : Oper} {a : Act} {w : World} {K : Act → World → Prop} {Q : Exit → Act → World → Prop} (t : TypeId) (parts : List (Nat × Operand)) (cells : Array Value) (ho : o.op = .build t parts.toArray)
    (hc : P.built t (parts.map fun (i, x) => (i, a.eval x)) = some cells)
    (h : K (a.put o.dst (.agg cells)) w) : o.wp P a w K Q := by
  have e : (parts.toArray.map fun (i, x) => (i, a.eval x)).toList = parts.map fun (i, x) => (i, a.eval x) := by simp
  rw [← e] at hc
  refine wp_build t parts.toArray ho (by rw [hc]; rfl) ?_
  rw [hc]
  exact h

/-- The engine, the projection and the Outcome that the law builds: their cells. -/
def engA (now : Int) : Array Value := ((eng0.setIfInBounds 2 (.int .i64 1)).setIfInBounds 16 (.int .i64 now)).setIfInBounds 29 (.int .i64 0)
def prjA (kn : Bool) (at_ : Int) (a b c : Addr) : Array Value :=
  ((((prj0.setIfInBounds 3 (.bool kn)).setIfInBounds 5 (.int .i64 at_)).setIfInBounds 6 (.slice (some a) 1 1)).setIfInBounds 7 (.slice (some b) 1 1)).setIfInBounds 10 (.slice (some c) 1 1)
theorem engA2 (now : Int) : (engA now)[2]? = some (.int .i64 1) := by kernel_rfl
theorem engA16 (now : Int) : (engA now)[16]? = some (.int .i64 now) := by kernel_rfl
theorem prjA0 (kn : Bool) (at_ : Int) (a b c : Addr) : (prjA kn at_ a b c)[0]? = some (.pointer none) := by kernel_rfl
theorem prjA3 (kn : Bool) (at_ : Int) (a b c : Addr) : (prjA kn at_ a b c)[3]? = some (.bool kn) := by kernel_rfl
theorem prjA5 (kn : Bool) (at_ : Int) (a b c : Addr) : (prjA kn at_ a b c)[5]? = some (.int .i64 at_) := by kernel_rfl
theorem prjA6 (kn : Bool) (at_ : Int) (a b c : Addr) : (prjA kn at_ a b c)[6]? = some (.slice (some a) 1 1) := by kernel_rfl
theorem prjA7 (kn : Bool) (at_ : Int) (a b c : Addr) : (prjA kn at_ a b c)[7]? = some (.slice (some b) 1 1) := by kernel_rfl
theorem prjA10 (kn : Bool) (at_ : Int) (a b c : Addr) : (prjA kn at_ a b c)[10]? = some (.slice (some c) 1 1) := by kernel_rfl
theorem prjA56 (kn : Bool) (at_ : Int) (a b c : Addr) : (prjA kn at_ a b c)[56]? = some (.slice none 0 0) := by kernel_rfl

def lawW (kn : Bool) (now at_ r : Int) (w : World) : World :=
  (((((((((((w.alloc (.cells (engA now) 55)).alloc (.cells (prjA kn at_ ⟨w.heap.size + 1 + 1, 0, none⟩ ⟨w.heap.size + 1 + 1 + 1, 0, none⟩ ⟨w.heap.size + 1 + 1 + 1 + 1, 0, none⟩) 87)).alloc (.cells #[.int .i64 0] 3)).alloc (.cells #[.int .i64 (-1)] 2)).alloc (.cells #[.int .i64 0] 2)).alloc (.cells #[.int .i64 0, .int .i64 0] 89)).alloc
    (.cells #[.slice (some ⟨w.heap.size + 1 + 1 + 1 + 1 + 1, 0, none⟩) 1 1, .int .i64 0, .int .i64 0, .int .i64 0, .int .i64 0, .int .i64 0, .bool false] 94)).alloc (.cells #[.int .i64 1] 2)).alloc (.cells #[.slice (some ⟨w.heap.size + 1 + 1 + 1 + 1 + 1 + 1 + 1, 0, none⟩) 1 1] 26)).alloc (.cells #[.int .i64 r] 2)).alloc (.cells #[.int .i64 0, .int .i64 0, .int .i64 1] 97)).alloc
    (.cells #[.pointer none, .bool false, .int .i64 0, .int .i64 0, .int .i64 0, .bool false, .int .i64 0, .int .i64 0, .slice (some ⟨w.heap.size + 1 + 1 + 1 + 1 + 1 + 1 + 1 + 1, 0, none⟩) 1 1, .slice (some ⟨w.heap.size + 1 + 1 + 1 + 1 + 1 + 1 + 1 + 1 + 1, 0, none⟩) 1 1, .slice none 0 0, .int .i64 0, .slice (some ⟨w.heap.size + 1 + 1 + 1 + 1 + 1 + 1, 0, none⟩) 1 1, .int .i64 0, .int .i64 0, .int .i64 0, .slice none 0 0, .slice (some ⟨w.heap.size + 1 + 1 + 1 + 1 + 1 + 1 + 1 + 1 + 1 + 1, 0, none⟩) 1 1, .int .i64 0, .slice none 0 0, .slice none 0 0, .bool false, .bool false, .bool false, .bool false, .pointer none, .pointer none, .int .i64 0] 104)

attribute [local go_sem] engA2 engA16 prjA0 prjA3 prjA5 prjA6 prjA7 prjA10 prjA56

theorem law_lies (kn : Bool) (now at_ r : Int) (w : World) : Lies w w.heap.size (w.heap.size + 1) (w.heap.size) (w.heap.size + 1 + 1 + 1 + 1 + 1 + 1 + 1) (w.heap.size + 1 + 1 + 1 + 1 + 1 + 1 + 1 + 1 + 1 + 1) (w.heap.size + 1 + 1) (w.heap.size + 1 + 1 + 1) (w.heap.size + 1 + 1 + 1 + 1) (lawW kn now at_ r w) := by
  refine ⟨?_, by omega, by unfold lawW; simp; omega, ?_, ?_, ?_, ?_, ?_, ?_, ?_, ?_, ?_, ?_, ?_⟩
  · unfold lawW
    repeat (first | exact Below.refl _ _ | refine Below.alloc ?_ (by simp <;> omega) _)
  all_goals (unfold lawW; go_simp)

theorem law_part (kn : Bool) (now at_ r : Int) (w : World) : Part (w.heap.size + 1) (w.heap.size) (w.heap.size + 1 + 1 + 1 + 1 + 1 + 1 + 1 + 1 + 1 + 1 + 1) (w.heap.size + 1 + 1 + 1 + 1 + 1 + 1) (w.heap.size + 1 + 1 + 1 + 1 + 1) (w.heap.size + 1 + 1 + 1 + 1 + 1 + 1 + 1 + 1 + 1) (w.heap.size + 1 + 1 + 1 + 1 + 1 + 1 + 1 + 1) (w.heap.size + 1 + 1 + 1 + 1 + 1 + 1 + 1) (w.heap.size + 1 + 1 + 1 + 1 + 1 + 1 + 1 + 1 + 1 + 1) kn now at_ r (lawW kn now at_ r w) := by
  refine ⟨?_, ?_, ?_, ?_, ?_, ?_, ?_, ?_, ?_, ?_, ?_, ?_, ?_⟩
  all_goals (unfold lawW; go_simp)

theorem law_56 (kn : Bool) (now at_ r : Int) (w : World) : (lawW kn now at_ r w).cell? ⟨w.heap.size + 1, 56, none⟩ = some (.slice none 0 0) ∧ (lawW kn now at_ r w).frozen? ⟨w.heap.size + 1, 56, none⟩ = false := by
  refine ⟨?_, ?_⟩
  all_goals (unfold lawW; go_simp)

theorem tmod_bounds (a : Int) : -1000000 ≤ a.tmod 1000000 ∧ a.tmod 1000000 ≤ 1000000 := by
  have h1 := Int.lt_tmod_of_pos a (show (0 : Int) < 1000000 by omega)
  have h2 := Int.tmod_lt_of_pos a (show (0 : Int) < 1000000 by omega)
  omega

set_option maxRecDepth 100000 in
set_option maxHeartbeats 4000000 in
theorem law_c (kn : Bool) (a1 a2 r : Int) (w : World) (r0 : 0 ≤ r) (r1 : r ≤ 65535) :
    Calls Yba.prog 3 #[.bool kn, .int .i64 a1, .int .i64 a2, .int .u16 r] w fun e w' => e = .returned (.bool true) ∧ Below w.heap.size w w' := by
  obtain ⟨n0, n1⟩ := tmod_bounds a1
  obtain ⟨m0, m1⟩ := tmod_bounds a2
  go_enter Yba.func3, Yba.ntmps3
  go_wp2_with fail
  refine wp_build_at 55 [] eng0 rfl built55 ?_
  go_upto_region 8 with fail
  go_wp2_with fail
  refine wp_build_at 87 [] prj0 rfl built87 ?_
  go_upto_region 14 with fail
  go_wp2_with fail
  have L := law_lies kn (a1.tmod 1000000) (a2.tmod 1000000) r w
  have T := law_part kn (a1.tmod 1000000) (a2.tmod 1000000) r w
  have H := law_56 kn (a1.tmod 1000000) (a2.tmod 1000000) r w
  have HH : Hid (((lawW kn (a1.tmod 1000000) (a2.tmod 1000000) r w).cell? ⟨w.heap.size + 1, 56, none⟩ = some (.slice none 0 0)) ∧ (lawW kn (a1.tmod 1000000) (a2.tmod 1000000) r w).frozen? ⟨w.heap.size + 1, 56, none⟩ = false) := H
  clear H
  have HW : Hid (Lies w w.heap.size (w.heap.size + 1) (w.heap.size) (w.heap.size + 1 + 1 + 1 + 1 + 1 + 1 + 1) (w.heap.size + 1 + 1 + 1 + 1 + 1 + 1 + 1 + 1 + 1 + 1) (w.heap.size + 1 + 1) (w.heap.size + 1 + 1 + 1) (w.heap.size + 1 + 1 + 1 + 1) (lawW kn (a1.tmod 1000000) (a2.tmod 1000000) r w)) := L
  have HT : Hid (Part (w.heap.size + 1) (w.heap.size) (w.heap.size + 1 + 1 + 1 + 1 + 1 + 1 + 1 + 1 + 1 + 1 + 1) (w.heap.size + 1 + 1 + 1 + 1 + 1 + 1) (w.heap.size + 1 + 1 + 1 + 1 + 1) (w.heap.size + 1 + 1 + 1 + 1 + 1 + 1 + 1 + 1 + 1) (w.heap.size + 1 + 1 + 1 + 1 + 1 + 1 + 1 + 1) (w.heap.size + 1 + 1 + 1 + 1 + 1 + 1 + 1) (w.heap.size + 1 + 1 + 1 + 1 + 1 + 1 + 1 + 1 + 1 + 1) kn (a1.tmod 1000000) (a2.tmod 1000000) r (lawW kn (a1.tmod 1000000) (a2.tmod 1000000) r w)) := T
  clear L T
  cases kn with
  | false =>
    refine (part_unknown w w.heap.size _ _ _ _ _ _ _ _ _ _ _ _ _ _ _ _ HW.out HT.out).mono ?_
    rintro e w1 ⟨rfl, hB⟩
    go_wp2_with fail
    go_ret
    exact ⟨rfl, hB⟩
  | true =>
    by_cases hlt : a2.tmod 1000000 < a1.tmod 1000000
    · refine (part_past w w.heap.size _ _ _ _ _ _ _ _ _ _ _ _ _ _ _ _ HW.out HT.out hlt).mono ?_
      rintro e w1 ⟨rfl, hB⟩
      go_wp2_with fail
      go_ret
      exact ⟨rfl, hB⟩
    have hle : a1.tmod 1000000 ≤ a2.tmod 1000000 := by omega
    clear hlt
    by_cases hen : a1.tmod 1000000 + r ≤ a2.tmod 1000000
    · refine (part_ends w w.heap.size _ _ _ _ _ _ _ _ _ _ _ _ _ _ _ _ HW.out HT.out hle hen n0 n1 r0 r1).mono ?_
      rintro e w1 ⟨rfl, hB⟩
      go_wp2_with fail
      go_ret
      exact ⟨rfl, hB⟩
    · have hgt : a2.tmod 1000000 < a1.tmod 1000000 + r := by omega
      clear hen
      have k1 : decide (a2.tmod 1000000 < a1.tmod 1000000) = false := by simpa using hle
      have k2 : decide (a1.tmod 1000000 + r ≤ a2.tmod 1000000) = false := by simpa using hgt
      refine (part_leaves w w.heap.size _ _ _ _ _ _ _ _ _ _ _ _ _ _ _ _ HW.out HT.out hle hgt n0 n1 r0 r1 HH.out.1 HH.out.2).mono ?_
      rintro e w1 ⟨rfl, hB⟩
      go_wp2_with fail
      go_ret
      exact ⟨rfl, hB⟩
end Go.Proofs.Ybulkkgm
