/-
  THE LAW (1b): the selections and the votes of one step, as they are made.
-/
import Derived.Test.YbulkkeiFmtLawInv
import Derived.Laws.MakeOwn
namespace Go.Proofs.YbulkkeiFmt
open Go.RowKit Go.Extern.Stop Go.Stop Go.Extern

theorem i64s_append (a b : List Int) : i64s (a ++ b) = i64s a ++ i64s b := by simp [i64s]
theorem strs_append (a b : List ByteArray) : strs (a ++ b) = strs a ++ strs b := by simp [strs]

/-- Two rows of a round's own: numbers (type 3), names (type 9); the round's two boxes. base: the world as the round begins. -/
structure SelAt (base : World) (c26 c42 : Array Value) (l22 : List Int) (l23 : List ByteArray) (v22 v23 : Value) (wx : World) : Prop where
  r22 : Row noN wx 3 1 v22 l22.length (i64s l22)
  r23 : Row noN wx 9 1 v23 l23.length (strs l23)
  o22 : ∀ b, v22.ownBlock = some b → base.heap.size ≤ b
  o23 : ∀ b, v23.ownBlock = some b → base.heap.size ≤ b
  below : Below base.heap.size base wx
  b26 : wx.heap[base.heap.size]? = some (.cells c26 26 (0, 0))
  b42 : wx.heap[base.heap.size + 1]? = some (.cells c42 42 (0, 0))
  s23 : ∃ gb cb : Nat, v23 = .slice (some ⟨gb, 0, none⟩) l23.length cb

section
variable {base : World} {c26 c42 : Array Value} {l22 : List Int} {l23 : List ByteArray} {v22 v23 : Value} {wx w' : World} {z v' : Value} {c : Array Value}
theorem below_grew {N : Nat → Prop} {e : TypeId} {sz n m : Nat} {xs news : List Value} {v : Value} (hB : Below base.heap.size base wx) (ho : ∀ b, v.ownBlock = some b → base.heap.size ≤ b) {e' : TypeId} (hG : Grew N e sz z v n m xs news (wx.alloc (.cells c e')) v' w') : Below base.heap.size base w' ∧ ∀ b, v'.ownBlock = some b → base.heap.size ≤ b := by
  have h3 := hB.size
  refine ⟨hB.trans ⟨hG.fr.os, hG.fr.tape, hG.fr.output, ?_, fun k hk => ?_⟩, fun b hb => ?_⟩
  · have h2 := hG.fr.size
    simp at h2
    omega
  · rw [hG.other k (by simp; omega) ?_]
    · exact Below.heap_alloc wx _ k (by omega)
    · intro e
      have := ho k e.symm
      omega
  · rcases hG.at_ with h2 | h2
    · rw [h2] at hb
      exact ho b hb
    · rw [h2] at hb
      cases hb
      simp
      omega
theorem SelAt.push22 (h : SelAt base c26 c42 l22 l23 v22 v23 wx) (k : Int) (hG : Grew noN 3 1 z v22 l22.length 1 (i64s l22) [.int .i64 k] (wx.alloc (.cells c 3)) v' w') : SelAt base c26 c42 (l22 ++ [k]) l23 v' v23 w' := by
  obtain ⟨h1, h2⟩ := below_grew h.below h.o22 hG
  have hf : Fr noN [3] [] wx w' := ((Fr.refl noN [3] [] wx).alloc _).trans hG.fr
  refine ⟨?_, h.r23.keptF hf (by decide), h2, h.o23, h1, hf.keepC _ _ _ _ h.b26 (by decide), hf.keepC _ _ _ _ h.b42 (by decide), h.s23⟩
  rw [List.length_append, i64s_append]
  exact hG.row
theorem SelAt.push23 (h : SelAt base c26 c42 l22 l23 v22 v23 wx) (s : ByteArray) (hG : Grew noN 9 1 z v23 l23.length 1 (strs l23) [.string s] (wx.alloc (.cells c 9)) v' w') : SelAt base c26 c42 l22 (l23 ++ [s]) v22 v' w' := by
  obtain ⟨h1, h2⟩ := below_grew h.below h.o23 hG
  have hf : Fr noN [9] [] wx w' := ((Fr.refl noN [9] [] wx).alloc _).trans hG.fr
  obtain ⟨gb, cb, cur, hv, -⟩ := hG.row.form (by omega)
  refine ⟨h.r22.keptF hf (by decide), ?_, h.o22, h2, h1, hf.keepC _ _ _ _ h.b26 (by decide), hf.keepC _ _ _ _ h.b42 (by decide), ⟨gb, cb, by rw [hv, List.length_append]; rfl⟩⟩
  rw [List.length_append, strs_append]
  exact hG.row
end

/-- The selections. -/
def selOf (Z : Nat → Int) (t : Nat) : List Nat := (List.range t).map fun j => (Z j % 7).toNat
theorem selOf_succ (Z : Nat → Int) (t : Nat) : selOf Z (t + 1) = selOf Z t ++ [(Z t % 7).toNat] := by simp [selOf, List.range_succ]
theorem selOf_len (Z : Nat → Int) (t : Nat) : (selOf Z t).length = t := by simp [selOf]
theorem selOf_lt (Z : Nat → Int) (t : Nat) : ∀ k ∈ selOf Z t, k < 7 := by
  intro k hk
  simp only [selOf, List.mem_map] at hk
  obtain ⟨j, _, rfl⟩ := hk
  omega

theorem mk_ints (c : Nat) (hc : c ≤ 256) (w : World) : (Instr.makeSlice 43 (.int .i64 0) (.int .i64 (c : Int))).run Ybaf.prog w = .ok (.slice (some ⟨w.heap.size, 0, none⟩) 0 c) (w.alloc (.cells (madeCells (Value.cells (.int .i64 0)) (c * 1)) 3)) := by
  have h1 := run_makeSlice (P := Ybaf.prog) (w := w) 43 3 Ybaf.t3 (.int .i64 0) Ybaf.underlying43 (by kernel_rfl) rfl .i64 .i64 0 (c : Int) (by omega) (by omega) (by simp only [Int.toNat_natCast]; show c * 1 ≤ _; omega) (by show ((8 : Nat) : Int) * _ ≤ _; omega) (by omega)
  simp only [Int.toNat_natCast, Int.toNat_zero] at h1
  exact h1
theorem mk_strs (c : Nat) (hc : c ≤ 256) (w : World) : (Instr.makeSlice 40 (.int .i64 0) (.int .i64 (c : Int))).run Ybaf.prog w = .ok (.slice (some ⟨w.heap.size, 0, none⟩) 0 c) (w.alloc (.cells (madeCells (Value.cells (.string ⟨#[]⟩)) (c * 1)) 9)) := by
  have h1 := run_makeSlice (P := Ybaf.prog) (w := w) 40 9 Ybaf.t9 (.string ⟨#[]⟩) Ybaf.underlying40 (by kernel_rfl) rfl .i64 .i64 0 (c : Int) (by omega) (by omega) (by simp only [Int.toNat_natCast]; show c * 1 ≤ _; omega) (by show ((16 : Nat) : Int) * _ ≤ _; omega) (by omega)
  simp only [Int.toNat_natCast, Int.toNat_zero] at h1
  exact h1

theorem SelAt.start {base : World} {c26 c42 : Array Value} (n : Nat) (hn : n ≤ 256) {a3 a9 : Array Value} (h3 : a3.size = n * 1) (h9 : a9.size = n * 1) :
    SelAt base c26 c42 [] [] (.slice (some ⟨base.heap.size + 1 + 1, 0, none⟩) 0 n) (.slice (some ⟨base.heap.size + 1 + 1 + 1, 0, none⟩) 0 n) ((((base.alloc (.cells c26 26)).alloc (.cells c42 42)).alloc (.cells a3 3)).alloc (.cells a9 9)) := by
  have hm : n ≤ maxLen := by simp [maxLen]; omega
  have e1 : ((base.alloc (.cells c26 26)).alloc (.cells c42 42)).heap.size = base.heap.size + 1 + 1 := by simp
  have e2 : (((base.alloc (.cells c26 26)).alloc (.cells c42 42)).alloc (.cells a3 3)).heap.size = base.heap.size + 1 + 1 + 1 := by simp
  have r3 := World.ownsRow_made (e := 3) (base := 0) (size := 1) ((base.alloc (.cells c26 26)).alloc (.cells c42 42)) a3 n (Nat.zero_le _) hm h3
  have r9 := World.ownsRow_made (e := 9) (base := 0) (size := 1) (((base.alloc (.cells c26 26)).alloc (.cells c42 42)).alloc (.cells a3 3)) a9 n (Nat.zero_le _) hm h9
  rw [e1] at r3
  rw [e2] at r9
  refine ⟨⟨ownsRow_kept r3 ((Fr.refl noN [] [] _).alloc _) (by simp), fun _ _ h => h⟩, ⟨r9, fun _ _ h => h⟩, ?_, ?_, ?_, ?_, ?_, ⟨_, _, rfl⟩⟩
  · intro b hb
    simp [Value.ownBlock] at hb
    omega
  · intro b hb
    simp [Value.ownBlock] at hb
    omega
  · exact ((((Below.refl _ base).alloc (Nat.le_refl _) _).alloc (by simp) _).alloc (by simp; omega) _).alloc (by simp; omega) _
  · rw [Below.heap_alloc _ _ _ (by simp <;> omega), Below.heap_alloc _ _ _ (by simp <;> omega), Below.heap_alloc _ _ _ (by simp)]
    exact heap_alloc_new base _
  · rw [Below.heap_alloc _ _ _ (by simp <;> omega), Below.heap_alloc _ _ _ (by simp)]
    have := heap_alloc_new (base.alloc (.cells c26 26)) (.cells c42 42)
    simpa using this
end Go.Proofs.YbulkkeiFmt
