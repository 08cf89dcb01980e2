/-
  ERRORS: errors.New, fmt.Errorf at each of the road's formats, usedTwice: an error comes back, nothing old has turned.
-/
import Derived.Test.YbulkkeiFmtFacts
import Derived.Test.YbulkkeiFmtMem2
namespace Go.Proofs.YbulkkeiFmt
open Go.RowKit Go.Extern.Stop Go.Stop Go.Extern
attribute [local go_sem] Ybaf.call27 Ybaf.guard Ybaf.fmt0 Ybaf.fmt0r Ybaf.fmt1 Ybaf.fmt1r Ybaf.fmt2 Ybaf.fmt2r Ybaf.fmt3 Ybaf.fmt3r Ybaf.fmt4 Ybaf.fmt4r Ybaf.fmt5 Ybaf.fmt5r Ybaf.act9_113w Ybaf.op9_113w Ybaf.act9_115w Ybaf.op9_115w Ybaf.act3_100w Ybaf.op3_100w Ybaf.ptr113 Ybaf.elem113 Ybaf.isError113

/-- An error of errors.New's make. -/
def Err (v : Value) : Prop := ∃ a : Addr, v = .iface 113 (.pointer (some a))

theorem errNew (s : ByteArray) (w : World) : Calls Ybaf.prog 15 #[.string s] w fun e w' => (∃ v, e = .returned v ∧ Err v) ∧ Below w.heap.size w w' := by
  go_enter Ybaf.func15, Ybaf.ntmps15
  go_wp2
  go_ret
  exact ⟨⟨_, rfl, _, rfl⟩, (Below.refl _ _).alloc (Nat.le_refl _) _⟩

set_option maxHeartbeats 1600000 in
theorem errf0 (F : Interp) (b : Nat) (a0 : ByteArray) (w : World) (hF : F.answers w.tape) (h0 : w.cell? ⟨b, 0, none⟩ = some (.iface 9 (.string a0))) :
    Calls Ybaf.prog 17 #[.string ⟨#[116, 104, 101, 32, 98, 108, 111, 99, 107, 32, 105, 100, 32, 37, 113, 32, 105, 115, 32, 114, 101, 115, 101, 114, 118, 101, 100]⟩, .slice (some ⟨b, 0, none⟩) 1 1] w fun e w' => (∃ v, e = .returned v ∧ Err v) ∧ Below w.heap.size w w' := by
  have hF' := answers_open hF
  go_enter Ybaf.func17, Ybaf.ntmps17
  go_wp2
  apply rows_value Ybaf.nextTurns
  case hr =>
    go_simp
    exact ⟨rfl, rfl⟩
  case h =>
    go_wp2
    go_ret
    exact ⟨⟨_, rfl, _, rfl⟩, by repeat (first | exact Below.refl _ _ | refine Below.drew ?_ | refine Below.alloc ?_ (by simp) _)⟩

set_option maxHeartbeats 1600000 in
theorem errf1 (F : Interp) (b : Nat) (a0 : ByteArray) (a1 : Int) (a2 : Int) (w : World) (hF : F.answers w.tape) (h0 : w.cell? ⟨b, 0, none⟩ = some (.iface 9 (.string a0))) (h1 : w.cell? ⟨b, 1, none⟩ = some (.iface 3 (.int .i64 a1))) (h2 : w.cell? ⟨b, 2, none⟩ = some (.iface 3 (.int .i64 a2))) :
    Calls Ybaf.prog 17 #[.string ⟨#[98, 108, 111, 99, 107, 32, 37, 113, 32, 105, 115, 32, 111, 110, 32, 99, 104, 97, 105, 110, 32, 37, 100, 44, 32, 111, 117, 116, 115, 105, 100, 101, 32, 48, 32, 116, 111, 32, 37, 100]⟩, .slice (some ⟨b, 0, none⟩) 3 3] w fun e w' => (∃ v, e = .returned v ∧ Err v) ∧ Below w.heap.size w w' := by
  have hF' := answers_open hF
  go_enter Ybaf.func17, Ybaf.ntmps17
  go_wp2
  apply rows_value Ybaf.nextTurns
  case hr =>
    go_simp
    exact ⟨rfl, rfl⟩
  case h =>
    go_wp2
    go_ret
    exact ⟨⟨_, rfl, _, rfl⟩, by repeat (first | exact Below.refl _ _ | refine Below.drew ?_ | refine Below.alloc ?_ (by simp) _)⟩

set_option maxHeartbeats 1600000 in
theorem errf2 (F : Interp) (b : Nat) (a0 : ByteArray) (w : World) (hF : F.answers w.tape) (h0 : w.cell? ⟨b, 0, none⟩ = some (.iface 9 (.string a0))) :
    Calls Ybaf.prog 17 #[.string ⟨#[116, 104, 101, 32, 98, 108, 111, 99, 107, 32, 105, 100, 32, 37, 113, 32, 105, 115, 32, 117, 115, 101, 100, 32, 116, 119, 105, 99, 101]⟩, .slice (some ⟨b, 0, none⟩) 1 1] w fun e w' => (∃ v, e = .returned v ∧ Err v) ∧ Below w.heap.size w w' := by
  have hF' := answers_open hF
  go_enter Ybaf.func17, Ybaf.ntmps17
  go_wp2
  apply rows_value Ybaf.nextTurns
  case hr =>
    go_simp
    exact ⟨rfl, rfl⟩
  case h =>
    go_wp2
    go_ret
    exact ⟨⟨_, rfl, _, rfl⟩, by repeat (first | exact Below.refl _ _ | refine Below.drew ?_ | refine Below.alloc ?_ (by simp) _)⟩

set_option maxHeartbeats 1600000 in
theorem errf3 (F : Interp) (b : Nat) (a0 : ByteArray) (a1 : ByteArray) (w : World) (hF : F.answers w.tape) (h0 : w.cell? ⟨b, 0, none⟩ = some (.iface 9 (.string a0))) (h1 : w.cell? ⟨b, 1, none⟩ = some (.iface 9 (.string a1))) :
    Calls Ybaf.prog 17 #[.string ⟨#[98, 108, 111, 99, 107, 32, 37, 113, 32, 118, 111, 116, 101, 115, 32, 102, 111, 114, 32, 37, 115]⟩, .slice (some ⟨b, 0, none⟩) 2 2] w fun e w' => (∃ v, e = .returned v ∧ Err v) ∧ Below w.heap.size w w' := by
  have hF' := answers_open hF
  go_enter Ybaf.func17, Ybaf.ntmps17
  go_wp2
  apply rows_value Ybaf.nextTurns
  case hr =>
    go_simp
    exact ⟨rfl, rfl⟩
  case h =>
    go_wp2
    go_ret
    exact ⟨⟨_, rfl, _, rfl⟩, by repeat (first | exact Below.refl _ _ | refine Below.drew ?_ | refine Below.alloc ?_ (by simp) _)⟩

set_option maxHeartbeats 1600000 in
theorem errf4 (F : Interp) (b : Nat) (a0 : ByteArray) (a1 : Int) (a2 : ByteArray) (a3 : Int) (w : World) (hF : F.answers w.tape) (h0 : w.cell? ⟨b, 0, none⟩ = some (.iface 9 (.string a0))) (h1 : w.cell? ⟨b, 1, none⟩ = some (.iface 3 (.int .i64 a1))) (h2 : w.cell? ⟨b, 2, none⟩ = some (.iface 9 (.string a2))) (h3 : w.cell? ⟨b, 3, none⟩ = some (.iface 3 (.int .i64 a3))) :
    Calls Ybaf.prog 17 #[.string ⟨#[98, 108, 111, 99, 107, 32, 37, 113, 32, 111, 102, 32, 99, 104, 97, 105, 110, 32, 37, 100, 32, 110, 97, 109, 101, 115, 32, 98, 108, 111, 99, 107, 32, 37, 113, 32, 111, 102, 32, 99, 104, 97, 105, 110, 32, 37, 100, 32, 97, 115, 32, 105, 116, 115, 32, 112, 97, 114, 101, 110, 116]⟩, .slice (some ⟨b, 0, none⟩) 4 4] w fun e w' => (∃ v, e = .returned v ∧ Err v) ∧ Below w.heap.size w w' := by
  have hF' := answers_open hF
  go_enter Ybaf.func17, Ybaf.ntmps17
  go_wp2
  apply rows_value Ybaf.nextTurns
  case hr =>
    go_simp
    exact ⟨rfl, rfl⟩
  case h =>
    go_wp2
    go_ret
    exact ⟨⟨_, rfl, _, rfl⟩, by repeat (first | exact Below.refl _ _ | refine Below.drew ?_ | refine Below.alloc ?_ (by simp) _)⟩

set_option maxHeartbeats 1600000 in
theorem errf5 (F : Interp) (b : Nat) (a0 : ByteArray) (a1 : ByteArray) (w : World) (hF : F.answers w.tape) (h0 : w.cell? ⟨b, 0, none⟩ = some (.iface 9 (.string a0))) (h1 : w.cell? ⟨b, 1, none⟩ = some (.iface 9 (.string a1))) :
    Calls Ybaf.prog 17 #[.string ⟨#[98, 108, 111, 99, 107, 32, 37, 113, 32, 118, 111, 116, 101, 115, 32, 102, 111, 114, 32, 118, 111, 116, 101, 114, 32, 98, 108, 111, 99, 107, 32, 37, 113]⟩, .slice (some ⟨b, 0, none⟩) 2 2] w fun e w' => (∃ v, e = .returned v ∧ Err v) ∧ Below w.heap.size w w' := by
  have hF' := answers_open hF
  go_enter Ybaf.func17, Ybaf.ntmps17
  go_wp2
  apply rows_value Ybaf.nextTurns
  case hr =>
    go_simp
    exact ⟨rfl, rfl⟩
  case h =>
    go_wp2
    go_ret
    exact ⟨⟨_, rfl, _, rfl⟩, by repeat (first | exact Below.refl _ _ | refine Below.drew ?_ | refine Below.alloc ?_ (by simp) _)⟩

theorem Below.alloc_trans {w w' : World} {o : Obj} (h : Below (w.heap.size + 1) (w.alloc o) w') : Below w.heap.size w w' := ((Below.refl _ _).alloc (Nat.le_refl _) o).trans (h.mono (by omega))

set_option maxHeartbeats 800000 in
theorem used2 (F : Interp) (s : ByteArray) (w : World) (hF : F.answers w.tape) : Calls Ybaf.prog 19 #[.string s] w fun e w' => (∃ v, e = .returned v ∧ Err v) ∧ Below w.heap.size w w' := by
  go_enter Ybaf.func19, Ybaf.ntmps19
  go_wp2_with fail
  refine (errf2 F _ s _ (by exact hF) (by simp)).mono ?_
  rintro e w' ⟨⟨v, rfl, hv⟩, hb⟩
  go_wp2
  go_ret
  exact ⟨⟨_, rfl, hv⟩, Below.alloc_trans (by simpa using hb)⟩
end Go.Proofs.YbulkkeiFmt
