/-
  THE WALKS of this seat, III: partLeaves, its four ways.
-/
import Derived.Test.YbulkkgmShares
namespace Go.Proofs.Ybulkkgm
open Go.RowKit

/-- What 'partLeaves' reads beside it. -/
structure Part (P E O ub pb rb db d0 sb : Nat) (kn : Bool) (now at_ r : Int) (w : World) : Prop where
  o12 : w.cell? ⟨O, 12, none⟩ = some (.slice (some ⟨ub, 0, none⟩) 1 1)
  o14 : w.cell? ⟨O, 14, none⟩ = some (.int .i64 0)
  u0 : w.cell? ⟨ub, 0, none⟩ = some (.slice (some ⟨pb, 0, none⟩) 1 1)
  t0 : w.cell? ⟨pb, 0, none⟩ = some (.int .i64 0)
  p0 : w.cell? ⟨P, 0, none⟩ = some (.pointer none)
  p3 : w.cell? ⟨P, 3, none⟩ = some (.bool kn)
  p5 : w.cell? ⟨P, 5, none⟩ = some (.int .i64 at_)
  e16 : w.cell? ⟨E, 16, none⟩ = some (.int .i64 now)
  o9 : w.cell? ⟨O, 9, none⟩ = some (.slice (some ⟨rb, 0, none⟩) 1 1)
  r0 : w.cell? ⟨rb, 0, none⟩ = some (.int .i64 r)
  o8 : w.cell? ⟨O, 8, none⟩ = some (.slice (some ⟨db, 0, none⟩) 1 1)
  d00 : w.cell? ⟨db, 0, none⟩ = some (.slice (some ⟨d0, 0, none⟩) 1 1)
  o17 : w.cell? ⟨O, 17, none⟩ = some (.slice (some ⟨sb, 0, none⟩) 1 1)

theorem Part.drewN {P E O ub pb rb db d0 sb : Nat} {kn : Bool} {now at_ r : Int} {w : World} (L : Part P E O ub pb rb db d0 sb kn now at_ r w) (n : Nat) : Part P E O ub pb rb db d0 sb kn now at_ r (w.drewN n) :=
  ⟨L.o12, L.o14, L.u0, L.t0, L.p0, L.p3, L.p5, L.e16, L.o9, L.r0, L.o8, L.d00, L.o17⟩

set_option maxRecDepth 100000 in
set_option maxHeartbeats 2000000 in
theorem part_unknown (w0 : World) (B P E O ub pb rb db d0 sb nb slb beb : Nat) (now at_ r : Int) (w : World) (L : Lies w0 B P E d0 sb nb slb beb w) (T : Part P E O ub pb rb db d0 sb false now at_ r w) :
    Calls Yba.prog 4 #[.pointer (some ⟨P, 0, none⟩), .pointer (some ⟨E, 0, none⟩), .pointer (some ⟨O, 0, none⟩)] w fun e w' => e = .returned (.bool true) ∧ Below B w0 w' := by
  have HL : Hid (Lies w0 B P E d0 sb nb slb beb w) := L
  clear L
  have HT : Hid (Part P E O ub pb rb db d0 sb false now at_ r w) := T
  have u0 := T.u0
  have t0 := T.t0
  clear T
  go_enter Yba.func4, Yba.ntmps4
  go_wp2_with fail
  refine (head_c O ub _ (by exact HT.out.o12) (by exact HT.out.o14)).mono ?_
  rintro e w1 ⟨rfl, n1, rfl⟩
  have HL1 : Hid (Lies w0 B P E d0 sb nb slb beb (w.drewN n1)) := HL.out.next (below_drewN (Below.refl _ w) n1)
  have HT1 : Hid (Part P E O ub pb rb db d0 sb false now at_ r (w.drewN n1)) := HT.out.drewN n1
  go_wp2_with fail
  clear u0 t0 HT HL
  generalize w.drewN n1 = wa at HL1 HT1 ⊢
  have p3 := HT1.out.p3
  go_quiet (fail)
  go_wp2_with fail
  go_ret
  exact ⟨rfl, below_drewN HL1.out.below _⟩

set_option maxRecDepth 100000 in
set_option maxHeartbeats 2000000 in
theorem part_past (w0 : World) (B P E O ub pb rb db d0 sb nb slb beb : Nat) (now at_ r : Int) (w : World) (L : Lies w0 B P E d0 sb nb slb beb w) (T : Part P E O ub pb rb db d0 sb true now at_ r w) (hlt : at_ < now) :
    Calls Yba.prog 4 #[.pointer (some ⟨P, 0, none⟩), .pointer (some ⟨E, 0, none⟩), .pointer (some ⟨O, 0, none⟩)] w fun e w' => e = .returned (.bool true) ∧ Below B w0 w' := by
  have HL : Hid (Lies w0 B P E d0 sb nb slb beb w) := L
  clear L
  have HT : Hid (Part P E O ub pb rb db d0 sb true now at_ r w) := T
  have u0 := T.u0
  have t0 := T.t0
  clear T
  go_enter Yba.func4, Yba.ntmps4
  go_wp2_with fail
  refine (head_c O ub _ (by exact HT.out.o12) (by exact HT.out.o14)).mono ?_
  rintro e w1 ⟨rfl, n1, rfl⟩
  have HL1 : Hid (Lies w0 B P E d0 sb nb slb beb (w.drewN n1)) := HL.out.next (below_drewN (Below.refl _ w) n1)
  have HT1 : Hid (Part P E O ub pb rb db d0 sb true now at_ r (w.drewN n1)) := HT.out.drewN n1
  go_wp2_with fail
  clear u0 t0 HT HL
  generalize w.drewN n1 = wa at HL1 HT1 ⊢
  have p3 := HT1.out.p3
  have p5 := HT1.out.p5
  have e16 := HT1.out.e16
  go_quiet ((go_at_call 6; exact Calls.quiet_of (isHead_c O P _ (by exact HT1.out.p0))))
  go_wp2_with fail
  go_ret
  exact ⟨rfl, below_drewN HL1.out.below _⟩

set_option maxRecDepth 100000 in
set_option maxHeartbeats 2000000 in
theorem part_ends (w0 : World) (B P E O ub pb rb db d0 sb nb slb beb : Nat) (now at_ r : Int) (w : World) (L : Lies w0 B P E d0 sb nb slb beb w) (T : Part P E O ub pb rb db d0 sb true now at_ r w) (hlt : now ≤ at_) (hle : now + r ≤ at_)
    (n0 : -1000000 ≤ now) (n1 : now ≤ 1000000) (r0 : 0 ≤ r) (r1 : r ≤ 65535) :
    Calls Yba.prog 4 #[.pointer (some ⟨P, 0, none⟩), .pointer (some ⟨E, 0, none⟩), .pointer (some ⟨O, 0, none⟩)] w fun e w' => e = .returned (.bool true) ∧ Below B w0 w' := by
  have HL : Hid (Lies w0 B P E d0 sb nb slb beb w) := L
  clear L
  have HT : Hid (Part P E O ub pb rb db d0 sb true now at_ r w) := T
  have u0 := T.u0
  have t0 := T.t0
  clear T
  go_enter Yba.func4, Yba.ntmps4
  go_wp2_with fail
  refine (head_c O ub _ (by exact HT.out.o12) (by exact HT.out.o14)).mono ?_
  rintro e w1 ⟨rfl, n1, rfl⟩
  have HL1 : Hid (Lies w0 B P E d0 sb nb slb beb (w.drewN n1)) := HL.out.next (below_drewN (Below.refl _ w) n1)
  have HT1 : Hid (Part P E O ub pb rb db d0 sb true now at_ r (w.drewN n1)) := HT.out.drewN n1
  go_wp2_with fail
  clear u0 t0 HT HL
  generalize w.drewN n1 = wa at HL1 HT1 ⊢
  have p3 := HT1.out.p3
  have p5 := HT1.out.p5
  have e16 := HT1.out.e16
  have o9 := HT1.out.o9
  have rr := HT1.out.r0
  have hd : decide (at_ < now) = false := by simpa using hlt
  go_quiet (first | (go_at_call 6; exact Calls.quiet_of (isHead_c O P _ (by exact HT1.out.p0))) | (go_at_call 7; exact Calls.quiet_of_same (endOf_c E now r _ (by exact e16) n0 (by assumption) r0 r1)))
  go_wp2_with fail
  go_ret
  exact ⟨rfl, below_drewN HL1.out.below _⟩

set_option maxRecDepth 100000 in
set_option maxHeartbeats 4000000 in
theorem part_leaves (w0 : World) (B P E O ub pb rb db d0 sb nb slb beb : Nat) (now at_ r : Int) (w : World) (L : Lies w0 B P E d0 sb nb slb beb w) (T : Part P E O ub pb rb db d0 sb true now at_ r w) (hlt : now ≤ at_) (hle : at_ < now + r)
    (n0 : -1000000 ≤ now) (n1 : now ≤ 1000000) (r0 : 0 ≤ r) (r1 : r ≤ 65535) (h56 : w.cell? ⟨P, 56, none⟩ = some (.slice none 0 0)) (f56 : w.frozen? ⟨P, 56, none⟩ = false) :
    Calls Yba.prog 4 #[.pointer (some ⟨P, 0, none⟩), .pointer (some ⟨E, 0, none⟩), .pointer (some ⟨O, 0, none⟩)] w fun e w' => e = .returned (.bool false) ∧ Below B w0 w' := by
  have HL : Hid (Lies w0 B P E d0 sb nb slb beb w) := L
  clear L
  have HT : Hid (Part P E O ub pb rb db d0 sb true now at_ r w) := T
  have u0 := T.u0
  have t0 := T.t0
  clear T
  go_enter Yba.func4, Yba.ntmps4
  go_wp2_with fail
  refine (head_c O ub _ (by exact HT.out.o12) (by exact HT.out.o14)).mono ?_
  rintro e w1 ⟨rfl, m1, rfl⟩
  have HL1 : Hid (Lies w0 B P E d0 sb nb slb beb (w.drewN m1) ∧ (w.drewN m1).cell? ⟨P, 56, none⟩ = some (.slice none 0 0) ∧ (w.drewN m1).frozen? ⟨P, 56, none⟩ = false) := ⟨HL.out.next (below_drewN (Below.refl _ w) m1), h56, f56⟩
  have HT1 : Hid (Part P E O ub pb rb db d0 sb true now at_ r (w.drewN m1)) := HT.out.drewN m1
  go_wp2_with fail
  clear u0 t0 HT HL h56 f56
  generalize w.drewN m1 = wa at HL1 HT1 ⊢
  have p3 := HT1.out.p3
  have p5 := HT1.out.p5
  have e16 := HT1.out.e16
  have o9 := HT1.out.o9
  have rr := HT1.out.r0
  have hd : decide (at_ < now) = false := by simpa using hlt
  go_quiet (first | (go_at_call 6; exact Calls.quiet_of (isHead_c O P _ (by exact HT1.out.p0))) | (go_at_call 7; exact Calls.quiet_of_same (endOf_c E now r _ (by exact e16) n0 n1 r0 r1)))
  have HL2 : Hid (Lies w0 B P E d0 sb nb slb beb (wa.drewN nq) ∧ (wa.drewN nq).cell? ⟨P, 56, none⟩ = some (.slice none 0 0) ∧ (wa.drewN nq).frozen? ⟨P, 56, none⟩ = false) := ⟨HL1.out.1.next (below_drewN (Below.refl _ wa) nq), HL1.out.2.1, HL1.out.2.2⟩
  have HT2 : Hid (Part P E O ub pb rb db d0 sb true now at_ r (wa.drewN nq)) := HT1.out.drewN nq
  clear HL1 HT1 p3 p5 e16 o9 rr
  generalize wa.drewN nq = wb at HL2 HT2 ⊢
  have o8 := HT2.out.o8
  have dd := HT2.out.d00
  have o17 := HT2.out.o17
  go_wp2_with fail
  have hcall := shares_c w0 B P E d0 sb nb slb beb wb.drew (HL2.out.1.next ((Below.refl _ wb).drew)) HL2.out.2.1 HL2.out.2.2
  have HC : Hid (Calls Yba.prog 8 #[.pointer (some ⟨P, 0, none⟩), .pointer (some ⟨E, 0, none⟩), .slice (some ⟨d0, 0, none⟩) 1 1, .slice (some ⟨sb, 0, none⟩) 1 1] wb.drew fun e w' => e = .returned (.bool false) ∧ Below B w0 w') := hcall
  clear hcall
  go_region_with (go_at_call 8; refine HC.out.mono ?_; rintro e w1 ⟨rfl, hB⟩)
  all_goals (go_wp2_with fail; go_ret; exact ⟨rfl, hB⟩)
end Go.Proofs.Ybulkkgm
