/-
  THE LAW (1): where it stands.
-/
import Derived.Test.YbulkkeiFmtPlain
import Derived.Test.YbulkkeiFmtNew
import Derived.Deep.CutRange
namespace Go.Proofs.YbulkkeiFmt
open Go.RowKit Go.Extern.Stop Go.Stop Go.Extern
set_option maxRecDepth 8000
attribute [local go_sem ↓] Go.wp_at_zero Go.wp_at_succ

/-- The steps, as they came in. -/
structure StepsAt (w : World) (a : Addr) (n : Nat) (I C P : Nat → Int) (Sl : Nat → Option Addr) (Ln Cp : Nat → Nat) (Z : Nat → Nat → Int) : Prop where
  lt : ∀ i, i < n → (a.add (i * 4)).block < w.heap.size
  c0 : ∀ i, i < n → w.cell? (a.add (i * 4)) = some (.int .u8 (I i))
  c1 : ∀ i, i < n → w.cell? ⟨(a.add (i * 4)).block, (a.add (i * 4)).off + 1, none⟩ = some (.int .i8 (C i))
  c2 : ∀ i, i < n → w.cell? ⟨(a.add (i * 4)).block, (a.add (i * 4)).off + 2, none⟩ = some (.int .u8 (P i))
  c3 : ∀ i, i < n → w.cell? ⟨(a.add (i * 4)).block, (a.add (i * 4)).off + 3, none⟩ = some (.slice (Sl i) (Ln i) (Cp i))
  ln : ∀ i, i < n → Ln i ≤ Cp i ∧ Cp i ≤ maxLen ∧ (Sl i = none → Ln i = 0)
  z : ∀ i, i < n → ∀ a', Sl i = some a' → ∀ j, j < Ln i → w.cell? (a'.add j) = some (.int .u8 (Z i j))
  lz : ∀ i, i < n → ∀ a', Sl i = some a' → ∀ j, j < Ln i → (a'.add j).block < w.heap.size
  bi : ∀ i, i < n → 0 ≤ I i ∧ I i ≤ 255
  bc : ∀ i, i < n → -128 ≤ C i ∧ C i ≤ 127
  bp : ∀ i, i < n → 0 ≤ P i ∧ P i ≤ 255
  bz : ∀ i, i < n → ∀ j, j < Ln i → 0 ≤ Z i j ∧ Z i j ≤ 255

def pendV (l : List (Bool × Int)) : List Value := l.flatMap fun p => [.bool p.1, .int .i64 p.2]
/-- What was there ahead of the law. -/
def lowN (z : Nat) : Nat → Prop := fun k => k < z
/-- The law's own memory. -/
structure LawMem (L : Nat → Prop) (z ad co pe : Nat) (m : LM) (wr : World) : Prop where
  hAd : wr.heap[ad]? = some (.cells #[.bool (m.added 0), .bool (m.added 1), .bool (m.added 2), .bool (m.added 3)] 35 (0, 0))
  hCo : wr.heap[co]? = some (.cells #[.int .i64 (m.chain 0), .int .i64 (m.chain 1), .int .i64 (m.chain 2), .int .i64 (m.chain 3)] 36 (0, 0))
  hPe : ∃ pv : Nat → Value, wr.heap[pe]? = some (.cells #[pv 0, pv 1, pv 2, pv 3] 38 (0, 0)) ∧ (∀ k, k < 4 → Row (lowN z) wr 45 2 (pv k) (m.pend k).length (pendV (m.pend k)) ∧ ∀ b, (pv k).ownBlock = some b → L b) ∧ ∀ k k' b, k < 4 → k' < 4 → k ≠ k' → (pv k).ownBlock = some b → (pv k').ownBlock ≠ some b
  inL : L ad ∧ L co ∧ L pe
  lo : z ≤ ad ∧ z ≤ co ∧ z ≤ pe
/-- Where the law stands behind j steps. -/
def LawInv (V : VA) (A : SA) (w0 : World) (ad co pe j : Nat) (wr : World) : Prop :=
  ∃ (L : Nat → Prop) (g : SG) (x : VG) (m : LM), Both V A L wr g x ∧ x.ss.length = g.l.length ∧ x.cnt + lenV x.wo ≤ j ∧ Rel g m ∧ LawMem L w0.heap.size ad co pe m wr ∧ (∀ k, k < w0.heap.size → L k) ∧ (∀ k, (m.pend k).length ≤ 300 * j) ∧ Below w0.heap.size w0 wr

theorem lawInv_start {V : VA} {A : SA} {w w1 w2 : World} (hB1 : Below w.heap.size w w1) (hBo : Both V A (fun k => k < w.heap.size) w2 SG.empty VG.empty) (hF2 : Fr (fun k => k < w.heap.size) [29] [] w1 w2) :
    LawInv V A w w2.heap.size (w2.heap.size + 1) (w2.heap.size + 1 + 1) 0 (((w2.alloc (.cells #[.bool false, .bool false, .bool false, .bool false] 35)).alloc (.cells #[.int .i64 0, .int .i64 0, .int .i64 0, .int .i64 0] 36)).alloc (.cells #[.slice none 0 0, .slice none 0 0, .slice none 0 0, .slice none 0 0] 38)) := by
  obtain ⟨w3, hw3⟩ : ∃ w3, w3 = (((w2.alloc (.cells #[.bool false, .bool false, .bool false, .bool false] 35)).alloc (.cells #[.int .i64 0, .int .i64 0, .int .i64 0, .int .i64 0] 36)).alloc (.cells #[.slice none 0 0, .slice none 0 0, .slice none 0 0, .slice none 0 0] 38)) := ⟨_, rfl⟩
  have hf : Fr noN [] [] w2 w3 := by rw [hw3]; exact (((Fr.refl noN [] [] w2).alloc _).alloc _).alloc _
  have hsz : w3.heap.size = w2.heap.size + 3 := by rw [hw3]; simp
  have h12 : w1.heap.size ≤ w2.heap.size := hF2.size
  have h01 := hB1.size
  have hBl2 : Below w.heap.size w w2 := ⟨hF2.os.trans hB1.os, hF2.tape.trans hB1.tape, hF2.output.trans hB1.output, by omega, fun k hk => (hF2.old k (by omega) hk).trans (hB1.block k hk)⟩
  have hBl3 : Below w.heap.size w w3 := by rw [hw3]; exact ((hBl2.alloc (by omega) _).alloc (by simp; omega) _).alloc (by simp; omega) _
  have a0 : w3.heap[w2.heap.size]? = some (.cells #[.bool false, .bool false, .bool false, .bool false] 35 (0, 0)) := by
    rw [hw3, Below.heap_alloc _ _ _ (by simp <;> omega), Below.heap_alloc _ _ _ (by simp)]
    exact heap_alloc_new w2 _
  have a1 : w3.heap[w2.heap.size + 1]? = some (.cells #[.int .i64 0, .int .i64 0, .int .i64 0, .int .i64 0] 36 (0, 0)) := by
    rw [hw3, Below.heap_alloc _ _ _ (by simp)]
    have := heap_alloc_new (w2.alloc (.cells #[.bool false, .bool false, .bool false, .bool false] 35)) (.cells #[.int .i64 0, .int .i64 0, .int .i64 0, .int .i64 0] 36)
    simpa using this
  have a2 : w3.heap[w2.heap.size + 1 + 1]? = some (.cells #[.slice none 0 0, .slice none 0 0, .slice none 0 0, .slice none 0 0] 38 (0, 0)) := by
    rw [hw3]
    have := heap_alloc_new ((w2.alloc (.cells #[.bool false, .bool false, .bool false, .bool false] 35)).alloc (.cells #[.int .i64 0, .int .i64 0, .int .i64 0, .int .i64 0] 36)) (.cells #[.slice none 0 0, .slice none 0 0, .slice none 0 0, .slice none 0 0] 38)
    simpa using this
  rw [← hw3]
  refine ⟨fun k => k < w.heap.size ∨ (w2.heap.size ≤ k ∧ k < w2.heap.size + 3), SG.empty, VG.empty, ⟨fun _ => false, fun _ => 0, fun _ => []⟩, ?_, rfl, Nat.le_refl _, Rel.empty rfl rfl, ⟨a0, a1, ⟨fun _ => .slice none 0 0, a2, fun k _ => ⟨Row.nil _ w3 45 2, by simp [Value.ownBlock]⟩, by simp [Value.ownBlock]⟩, ?_, ⟨by omega, by omega, by omega⟩⟩, fun k hk => .inl hk, fun k => Nat.le_refl _, hBl3⟩
  · refine hBo.growAny hf (by simp) ?_ ?_
    · rintro k (hk | hk)
      · exact .inl hk
      · exact .inr hk.1
    · rintro k (hk | hk)
      · omega
      · omega
  · refine ⟨.inr ?_, .inr ?_, .inr ?_⟩ <;> omega

end Go.Proofs.YbulkkeiFmt
