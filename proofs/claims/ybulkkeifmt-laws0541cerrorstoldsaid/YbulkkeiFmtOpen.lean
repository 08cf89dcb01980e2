/-
  THE ARGUMENTS, OPENED: the steps' cells.
-/
import Derived.Test.YbulkkeiFmtLaw
import Derived.Deep.Slices
import Derived.ChangeSlices
namespace Go.Proofs.YbulkkeiFmt
open Go.ChangeShapes Go.WideShapes Go.RowKit Go.Deep

theorem c5 : Ybaf.prog.cellsOf 5 = 1 := by kernel_rfl
theorem c23 : Ybaf.prog.cellsOf 23 = 1 := by kernel_rfl
theorem c24 : Ybaf.prog.cellsOf 24 = 1 := by kernel_rfl
theorem c26 : Ybaf.prog.cellsOf 26 = 4 := by kernel_rfl

theorem u8_bounds {a : Int} (h : (Lit.int .u8 a).wf = true) : 0 ≤ a ∧ a ≤ 255 := by
  simp [Lit.wf, IntKind.min, IntKind.max, IntKind.signed, IntKind.bits] at h
  omega
theorem i8_bounds {a : Int} (h : (Lit.int .i8 a).wf = true) : -128 ≤ a ∧ a ≤ 127 := by
  simp [Lit.wf, IntKind.min, IntKind.max, IntKind.signed, IntKind.bits] at h
  omega

theorem list4 {α : Type} : ∀ {cs : List α}, cs.length = 4 → ∃ k0 k1 k2 k3, cs = [k0, k1, k2, k3]
  | [k0, k1, k2, k3], _ => ⟨k0, k1, k2, k3, rfl⟩

section
variable {H : Type} {enc : TypeId × Value → H} {w : World} {base : Nat} {spare : Nat → Bool} {held : Bool} {fuel : Nat} {cs : List Value} {x : DataW H × List MemPlace}

/-- A row of small numbers. -/
theorem open_votes (h : DataW.trod enc Ybaf.prog w base spare held fuel 24 cs = some x) :
    ∃ (o : Option Addr) (ln cp : Nat) (Z : Nat → Int), cs = [.slice o ln cp] ∧ ln ≤ cp ∧ cp ≤ maxLen ∧ (o = none → ln = 0) ∧ (∀ a, o = some a → ∀ j, j < ln → w.cell? (a.add j) = some (.int .u8 (Z j))) ∧ ∀ j, j < ln → 0 ≤ Z j ∧ Z j ≤ 255 := by
  rcases open_ints Ybaf.underlying24 Ybaf.underlying5 c5 h with ⟨rfl, _⟩ | ⟨a, len, cap, zs, rfl, _, h1, h2, h3, _, h4, h5⟩
  · exact ⟨none, 0, 0, fun _ => 0, rfl, Nat.le_refl _, by simp [maxLen], fun _ => rfl, fun _ e => (by cases e), fun j hj => absurd hj (Nat.not_lt_zero _)⟩
  · have hle : len ≤ zs.length := by rw [h3]; split <;> omega
    refine ⟨some a, len, cap, fun j => zs.getD j 0, rfl, h1, h2, fun e => (by cases e), fun a' e j hj => ?_, fun j hj => ?_⟩
    · cases e
      exact h4 j (by omega)
    · have hj' : j < zs.length := by omega
      refine u8_bounds (h5 _ ?_)
      show zs.getD j 0 ∈ zs
      rw [List.getD_eq_getElem?_getD, List.getElem?_eq_getElem hj']
      exact List.getElem_mem hj'

/-- One step. -/
theorem open_step (h : DataW.trod enc Ybaf.prog w base spare held fuel 26 cs = some x) :
    ∃ (I C P : Int) (o : Option Addr) (ln cp : Nat) (Z : Nat → Int), cs = [.int .u8 I, .int .i8 C, .int .u8 P, .slice o ln cp] ∧ (0 ≤ I ∧ I ≤ 255) ∧ (-128 ≤ C ∧ C ≤ 127) ∧ (0 ≤ P ∧ P ≤ 255) ∧
      ln ≤ cp ∧ cp ≤ maxLen ∧ (o = none → ln = 0) ∧ (∀ a, o = some a → ∀ j, j < ln → w.cell? (a.add j) = some (.int .u8 (Z j))) ∧ ∀ j, j < ln → 0 ≤ Z j ∧ Z j ≤ 255 := by
  obtain ⟨xs, n, rfl, _, hl, hxl, hf⟩ := DataW.trod_struct Ybaf.underlying26 h
  rw [c26] at hl
  have hx4 : xs.length = 4 := hxl
  obtain ⟨k0, k1, k2, k3, hcs⟩ := list4 hl
  rw [hcs] at hf ⊢
  have f0 : DataW.trod enc Ybaf.prog w base spare held n 5 (([k0, k1, k2, k3].drop 0).take (Ybaf.prog.cellsOf 5)) = xs[0]? := hf 0 _ rfl
  have f1 : DataW.trod enc Ybaf.prog w base spare held n 23 (([k0, k1, k2, k3].drop 1).take (Ybaf.prog.cellsOf 23)) = xs[1]? := hf 1 _ rfl
  have f2 : DataW.trod enc Ybaf.prog w base spare held n 5 (([k0, k1, k2, k3].drop 2).take (Ybaf.prog.cellsOf 5)) = xs[2]? := hf 2 _ rfl
  have f3 : DataW.trod enc Ybaf.prog w base spare held n 24 (([k0, k1, k2, k3].drop 3).take (Ybaf.prog.cellsOf 24)) = xs[3]? := hf 3 _ rfl
  rw [c5, List.getElem?_eq_getElem (by omega)] at f0 f2
  rw [c23, List.getElem?_eq_getElem (by omega)] at f1
  rw [c24, List.getElem?_eq_getElem (by omega)] at f3
  obtain ⟨I, e0, _, b0⟩ := DataW.trod_int Ybaf.underlying5 f0
  obtain ⟨C, e1, _, b1⟩ := DataW.trod_int Ybaf.underlying23 f1
  obtain ⟨P, e2, _, b2⟩ := DataW.trod_int Ybaf.underlying5 f2
  obtain ⟨o, ln, cp, Z, e3, g1, g2, g3, g4, g5⟩ := open_votes f3
  have e0' : k0 = .int .u8 I := by simpa using e0
  have e1' : k1 = .int .i8 C := by simpa using e1
  have e2' : k2 = .int .u8 P := by simpa using e2
  have e3' : k3 = .slice o ln cp := by simpa using e3
  rw [e0', e1', e2', e3']
  exact ⟨I, C, P, o, ln, cp, Z, rfl, u8_bounds b0, i8_bounds b1, u8_bounds b2, g1, g2, g3, g4, g5⟩

/-- The steps. -/
theorem open_steps (h : DataW.trod enc Ybaf.prog w base spare held fuel 22 cs = some x) :
    cs = [.slice none 0 0] ∨ ∃ (a : Addr) (n cap : Nat) (I C P : Nat → Int) (Sl : Nat → Option Addr) (Ln Cp : Nat → Nat) (Z : Nat → Nat → Int), cs = [.slice (some a) n cap] ∧ StepsAt w a n I C P Sl Ln Cp Z := by
  rcases open_slice Ybaf.underlying22 h with ⟨rfl, _⟩ | ⟨a, len, cap, m, n, D, Pl, rfl, _, _, _, hm, _, hx⟩
  · exact .inl rfl
  · right
    have hle : len ≤ m := by rw [hm]; split <;> omega
    rw [c26] at hx
    obtain ⟨f, hf⟩ := choose_lt (α := Int × Int × Int × Option Addr × Nat × Nat × (Nat → Int)) (n := len) (p := fun i t =>
      w.cells? base (a.add (i * 4)) 4 = some [.int .u8 t.1, .int .i8 t.2.1, .int .u8 t.2.2.1, .slice t.2.2.2.1 t.2.2.2.2.1 t.2.2.2.2.2.1] ∧ (0 ≤ t.1 ∧ t.1 ≤ 255) ∧ (-128 ≤ t.2.1 ∧ t.2.1 ≤ 127) ∧ (0 ≤ t.2.2.1 ∧ t.2.2.1 ≤ 255) ∧
      t.2.2.2.2.1 ≤ t.2.2.2.2.2.1 ∧ t.2.2.2.2.2.1 ≤ maxLen ∧ (t.2.2.2.1 = none → t.2.2.2.2.1 = 0) ∧ (∀ a, t.2.2.2.1 = some a → ∀ j, j < t.2.2.2.2.1 → w.cell? (a.add j) = some (.int .u8 (t.2.2.2.2.2.2 j))) ∧ ∀ j, j < t.2.2.2.2.1 → 0 ≤ t.2.2.2.2.2.2 j ∧ t.2.2.2.2.2.2 j ≤ 255) (fun i hi => by
        obtain ⟨cs', h1, h2⟩ := hx i (by omega)
        obtain ⟨I, C, P, o, ln, cp, Z, rfl, r⟩ := open_step h2
        exact ⟨(I, C, P, o, ln, cp, Z), h1, r⟩)
    refine ⟨a, len, cap, fun i => (f i).1, fun i => (f i).2.1, fun i => (f i).2.2.1, fun i => (f i).2.2.2.1, fun i => (f i).2.2.2.2.1, fun i => (f i).2.2.2.2.2.1, fun i => (f i).2.2.2.2.2.2, rfl, ?_⟩
    have cell : ∀ i, i < len → ∀ j, j < 4 → w.cell? ((a.add (i * 4)).add j) = ([Value.int .u8 (f i).1, .int .i8 (f i).2.1, .int .u8 (f i).2.2.1, .slice (f i).2.2.2.1 (f i).2.2.2.2.1 (f i).2.2.2.2.2.1] : List Value)[j]? := fun i hi j hj => (World.cells?_some (hf i hi).1).2.2 j hj
    refine ⟨fun i hi => ?_, fun i hi => ?_, fun i hi => ?_, fun i hi => ?_, fun i hi => ?_, fun i hi => ?_, fun i hi a' ha' j hj => ?_, fun i hi a' ha' j hj => ?_, fun i hi => ?_, fun i hi => ?_, fun i hi => ?_, fun i hi j hj => ?_⟩
    · have := cell i hi 0 (by omega)
      exact World.block_lt_of_cell? w _ this
    · exact cell i hi 0 (by omega)
    · exact cell i hi 1 (by omega)
    · exact cell i hi 2 (by omega)
    · exact cell i hi 3 (by omega)
    · obtain ⟨_, _, _, _, r1, r2, r3, _⟩ := hf i hi
      exact ⟨r1, r2, r3⟩
    · obtain ⟨_, _, _, _, _, _, _, r4, _⟩ := hf i hi
      exact r4 a' ha' j hj
    · obtain ⟨_, _, _, _, _, _, _, r4, _⟩ := hf i hi
      exact World.block_lt_of_cell? w _ (r4 a' ha' j hj)
    · exact (hf i hi).2.1
    · exact (hf i hi).2.2.1
    · exact (hf i hi).2.2.2.1
    · obtain ⟨_, _, _, _, _, _, _, _, r5⟩ := hf i hi
      exact r5 j hj
end
end Go.Proofs.YbulkkeiFmt
