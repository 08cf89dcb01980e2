/-
  THE LAW (2): the round's statements, by their place; the law's own memory.
-/
import Derived.Test.YbulkkeiFmtLawSel
namespace Go.Proofs.YbulkkeiFmt
open Go.RowKit Go.Extern.Stop Go.Stop Go.Extern

def cTl : Code → Code
  | .seq _ b => b
  | c => c
def cHd : Code → Code
  | .seq a _ => a
  | c => c
def cIn : Code → Code
  | .block _ c => c
  | .loop c => c
  | c => c
def cEl : Code → Code
  | .cond _ _ b => b
  | c => c
def cTh : Code → Code
  | .cond _ a _ => a
  | c => c
def cTln : Nat → Code → Code
  | 0, c => c
  | n + 1, c => cTln n (cTl c)
/-- The body of the loop over the steps, from its n-th statement on. -/
def rdT (n : Nat) (f : Func) : Code :=
  match f.body with
  | some b => cTln n (cIn (cHd (cTl (cTl (cIn (cIn (cTl (cHd (cTln 10 b)))))))))
  | none => .skip

/-- An array of four. -/
theorem four_cell {w : World} {b : Nat} {e : TypeId} {f : Nat → Value} (h : w.heap[b]? = some (.cells #[f 0, f 1, f 2, f 3] e (0, 0))) {k : Nat} (hk : k < 4) : w.cell? ⟨b, k, none⟩ = some (f k) := by
  rcases (by omega : k = 0 ∨ k = 1 ∨ k = 2 ∨ k = 3) with rfl | rfl | rfl | rfl <;> simp [World.cell?, h]

theorem pendV_get : ∀ (l : List (Bool × Int)) (i : Nat) (r : Bool × Int), l[i]? = some r → (pendV l)[i * 2]? = some (.bool r.1) ∧ (pendV l)[i * 2 + 1]? = some (.int .i64 r.2)
  | [], i, r, h => by simp at h
  | p :: l, 0, r, h => by
    simp at h
    subst h
    exact ⟨rfl, rfl⟩
  | p :: l, i + 1, r, h => by
    have := pendV_get l i r (by simpa using h)
    rw [show (i + 1) * 2 = i * 2 + 2 by omega, show i * 2 + 2 + 1 = i * 2 + 1 + 2 by omega]
    exact this
theorem pendV_append (a b : List (Bool × Int)) : pendV (a ++ b) = pendV a ++ pendV b := by simp [pendV]
theorem pendV_len (l : List (Bool × Int)) : (pendV l).length = l.length * 2 := by
  induction l with
  | nil => rfl
  | cons p l ih => simp [pendV] at ih ⊢; omega
theorem i64s_get (l : List Int) (i : Nat) (k : Int) (h : l[i]? = some k) : (i64s l)[i]? = some (.int .i64 k) := by simp [i64s, h]

section
variable {L L' : Nat → Prop} {z ad co pe : Nat} {m : LM} {w w' : World}
theorem LawMem.below (h : LawMem L z ad co pe m w) (hB : Below w.heap.size w w') : LawMem L z ad co pe m w' := by
  obtain ⟨pv, h1, h2, h3⟩ := h.hPe
  have up : ∀ {b : Nat} {o : Obj}, w.heap[b]? = some o → w'.heap[b]? = some o := fun hb => (hB.block _ (Array.getElem?_eq_some_iff.1 hb).1).trans hb
  exact ⟨up h.hAd, up h.hCo, ⟨pv, up h1, fun k hk => ⟨(h2 k hk).1.keptF (Fr.of_below (N := noN) (W := []) (M := []) hB) (by simp), (h2 k hk).2⟩, h3⟩, h.inL, h.lo⟩
theorem LawMem.addCell (h : LawMem L z ad co pe m w) {k : Nat} (hk : k < 4) : w.cell? ⟨ad, k, none⟩ = some (.bool (m.added k)) := four_cell (f := fun k => .bool (m.added k)) h.hAd hk
theorem LawMem.chCell (h : LawMem L z ad co pe m w) {k : Nat} (hk : k < 4) : w.cell? ⟨co, k, none⟩ = some (.int .i64 (m.chain k)) := four_cell (f := fun k => .int .i64 (m.chain k)) h.hCo hk
theorem LawMem.peCell (h : LawMem L z ad co pe m w) {k : Nat} (hk : k < 4) : ∃ (o : Option Addr) (cap : Nat), w.cell? ⟨pe, k, none⟩ = some (.slice o (m.pend k).length cap) ∧ Row (lowN z) w 45 2 (.slice o (m.pend k).length cap) (m.pend k).length (pendV (m.pend k)) ∧ (m.pend k).length ≤ cap ∧ cap ≤ maxLen := by
  obtain ⟨pv, h1, h2, h3⟩ := h.hPe
  obtain ⟨o, cap, e, q1, q2⟩ := ownsRow_slice (h2 k hk).1.1
  refine ⟨o, cap, ?_, ?_, q1, q2⟩
  · rw [← e]
    exact four_cell h1 hk
  · rw [← e]
    exact (h2 k hk).1
end
theorem Row.pendCell {N : Nat → Prop} {w : World} {o : Option Addr} {n cap : Nat} {l : List (Bool × Int)} (h : Row N w 45 2 (.slice o n cap) n (pendV l)) {i : Nat} {r : Bool × Int} (hi : l[i]? = some r) : ∃ g, o = some ⟨g, 0, none⟩ ∧ w.cell? ⟨g, i * 2, none⟩ = some (.bool r.1) ∧ w.cell? ⟨g, i * 2 + 1, none⟩ = some (.int .i64 r.2) := by
  have hl := h.len
  rw [pendV_len] at hl
  have hlt := (List.getElem?_eq_some_iff.1 hi).1
  obtain ⟨g, cap', cur, hv, -⟩ := h.form (by omega)
  cases hv
  obtain ⟨h1, h2⟩ := pendV_get l i r hi
  exact ⟨g, rfl, h.cell rfl h1, h.cell rfl h2⟩
theorem Row.i64Cell {N : Nat → Prop} {w : World} {o : Option Addr} {n cap : Nat} {l : List Int} (h : Row N w 3 1 (.slice o n cap) n (i64s l)) {i : Nat} {k : Int} (hi : l[i]? = some k) : ∃ g, o = some ⟨g, 0, none⟩ ∧ w.cell? ⟨g, i, none⟩ = some (.int .i64 k) := by
  have hl := h.len
  have hlt := (List.getElem?_eq_some_iff.1 hi).1
  have : (i64s l).length = l.length := by simp [i64s]
  obtain ⟨g, cap', cur, hv, -⟩ := h.form (by omega)
  cases hv
  exact ⟨g, rfl, h.cell rfl (i64s_get l i k hi)⟩

theorem Row.selCell {N : Nat → Prop} {w : World} {o : Option Addr} {n cap : Nat} {sel : List Nat} (h : Row N w 3 1 (.slice o n cap) n (i64s (sel.map Int.ofNat))) {i k : Nat} (hi : sel[i]? = some k) : ∃ g, o = some ⟨g, 0, none⟩ ∧ w.cell? ⟨g, i, none⟩ = some (.int .i64 (k : Int)) :=
  h.i64Cell (by rw [List.getElem?_map, hi]; rfl)

/-- What is looked through, row by row. -/
theorem any_take_succ {α : Type} (f : α → Bool) {l : List α} {i : Nat} {r : α} (h : l[i]? = some r) : (l.take (i + 1)).any f = ((l.take i).any f || f r) := by
  rw [List.take_add_one, h]
  simp

theorem SelAt.grown {base : World} {c26 c42 : Array Value} {l22 : List Int} {l23 : List ByteArray} {v22 v23 : Value} {w w' : World} (h : SelAt base c26 c42 l22 l23 v22 v23 w) (hB : Below w.heap.size w w') : SelAt base c26 c42 l22 l23 v22 v23 w' := by
  have up : ∀ {b : Nat} {o : Obj}, w.heap[b]? = some o → w'.heap[b]? = some o := fun hb => (hB.block _ (Array.getElem?_eq_some_iff.1 hb).1).trans hb
  have hf : Fr noN [] [] w w' := Fr.of_below hB
  exact ⟨h.r22.keptF hf (by simp), h.r23.keptF hf (by simp), h.o22, h.o23, h.below.trans (hB.mono h.below.size), up h.b26, up h.b42, h.s23⟩
theorem SelAt.set42 {base : World} {c26 c42 : Array Value} {l22 : List Int} {l23 : List ByteArray} {v22 v23 : Value} {w : World} (h : SelAt base c26 c42 l22 l23 v22 v23 w) (o : Nat) (u : Value) : SelAt base c26 (c42.setIfInBounds o u) l22 l23 v22 v23 (w.setCell ⟨base.heap.size + 1, o, none⟩ u) := by
  have hf : Fr noN [42] [] w (w.setCell ⟨base.heap.size + 1, o, none⟩ u) := (Fr.refl noN [42] [] w).setCell h.b42 (by simp) (fun h => h)
  exact ⟨h.r22.keptF hf (by decide), h.r23.keptF hf (by decide), h.o22, h.o23, h.below.setCell (p := ⟨base.heap.size + 1, o, none⟩) (by simp) _, hf.keepC _ _ _ _ h.b26 (by decide), heap_setCell_same w h.b42, h.s23⟩
end Go.Proofs.YbulkkeiFmt
