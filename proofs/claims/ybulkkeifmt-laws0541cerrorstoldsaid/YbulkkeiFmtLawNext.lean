/-
  THE LAW (5b): where it stands behind one step more.
-/
import Derived.Test.YbulkkeiFmtLawPend
namespace Go.Proofs.YbulkkeiFmt
open Go.RowKit Go.Extern.Stop Go.Stop Go.Extern

/-- The callers' blocks, those of the round included. -/
def inRound (L : Nat → Prop) (base w : World) : Nat → Prop := fun k => L k ∨ (base.heap.size ≤ k ∧ k < w.heap.size)

section
variable {V : VA} {A : SA} {L : Nat → Prop} {g g' : SG} {x x' : VG} {m : LM} {ad co pe i : Nat} {w0 base w w5 w6 : World}
theorem round_both (h : Both V A L base g x) (hB : Below base.heap.size base w) : Both V A (inRound L base w) w g x := by
  refine h.growAny (Fr.of_below (N := noN) (W := []) (M := []) hB) (by simp) ?_ ?_
  · rintro k (h1 | h1)
    · exact .inl h1
    · exact .inr h1.1
  · rintro k (h1 | h1)
    · exact Nat.lt_of_lt_of_le (h.low k h1) hB.size
    · exact h1.2

theorem lawInv_refused (hBo : Both V A L base g x) (hfu : x.ss.length = g.l.length) (hcn : x.cnt + lenV x.wo ≤ i) (hRel : Rel g m) (hMem : LawMem L w0.heap.size ad co pe m base) (hLin : ∀ k, k < w0.heap.size → L k) (hPl : ∀ k, (m.pend k).length ≤ 300 * i) (hBl : Below w0.heap.size w0 base)
    (hB : Below base.heap.size base w) (hB5 : Below w.heap.size w w5) : LawInv V A w0 ad co pe (i + 1) w5 := by
  have hB6 : Below base.heap.size base w5 := hB.trans (hB5.mono hB.size)
  refine ⟨L, g, x, m, hBo.growAny (Fr.of_below (N := noN) (W := []) (M := []) hB6) (by simp) (fun k hk => .inl hk) (fun k hk => Nat.lt_of_lt_of_le (hBo.low k hk) hB6.size), hfu, by omega, hRel, hMem.below hB6, hLin, fun k => ?_, hBl.trans (hB6.mono hBl.size)⟩
  have := hPl k
  omega

theorem round_mem (hMem : LawMem L w0.heap.size ad co pe m base) (hB : Below base.heap.size base w) {M : List Nat} {W : List TypeId} (hF : Fr (inRound L base w) W M w w5) : LawMem (fun k => inRound L base w k ∨ w5.heap.size ≤ k) w0.heap.size ad co pe m w5 :=
  (((hMem.below hB).widen (L' := inRound L base w) (fun _ hb _ => .inl hb)).keptL hF).widen (fun _ hb _ => .inl hb)

theorem lawInv_added {idx : Nat} {c par : Int} {sel : List Nat} (hcn : x.cnt + lenV x.wo ≤ i) (hRel : Rel g m) (hLin : ∀ k, k < w0.heap.size → L k) (hPl : ∀ k, (m.pend k).length ≤ 300 * i) (hBl : Below w0.heap.size w0 base)
    (hB : Below base.heap.size base w) (hi : idx < 4) (hpar : par < idx) (hs : ∀ k ∈ sel, k < 7) (hsl : sel.length ≤ 256)
    (hB5 : Both V A (inRound L base w) w5 g' x') {M : List Nat} {W : List TypeId} (hF5 : Fr (inRound L base w) W M w w5) (hfu : x'.ss.length = g'.l.length) (hcn' : x'.cnt + lenV x'.wo ≤ x.cnt + lenV x.wo + 1)
    (h1 : ∀ y, (get g'.es y).isSome = ((get g.es y).isSome || decide (y = nameB idx))) (h2 : ∀ y, kcOf g' y = if y = nameB idx then some c else kcOf g y)
    (h3 : g'.R = fileR (fun y => (get g'.es y).isSome) (upd g.R (nameB idx) []) (mkRefs (nameB idx) c (parB par) (sel.map voteB)))
    (hM6 : LawMem (fun k => inRound L base w k ∨ w5.heap.size ≤ k) w0.heap.size ad co pe (m.step idx c par sel) w6) (hF6 : Fr (lowN w0.heap.size) [35, 36, 38, 45] [] w5 w6) : LawInv V A w0 ad co pe (i + 1) w6 := by
  have s1 := hBl.size
  have s2 := hB.size
  have s3 := hF5.size
  have s4 := hF6.size
  refine ⟨fun k => (inRound L base w k ∨ w5.heap.size ≤ k) ∧ k < w6.heap.size, g', x', m.step idx c par sel, hB5.growAny hF6 (by decide) (fun k hk => hk.1) (fun k hk => hk.2), hfu, by omega, hRel.step hi hpar hs h1 h2 h3, hM6.widen (fun b hb hlt => ⟨hb, hlt⟩), fun k hk => ⟨.inl (.inl (hLin k hk)), by omega⟩, fun k => ?_, ?_⟩
  · have e1 := step_len m idx c par sel k
    have e2 := hPl k
    omega
  · refine ⟨?_, ?_, ?_, by omega, fun k hk => ?_⟩
    · rw [hF6.os, hF5.os, hB.os, hBl.os]
    · rw [hF6.tape, hF5.tape, hB.tape, hBl.tape]
    · rw [hF6.output, hF5.output, hB.output, hBl.output]
    · rw [hF6.old k (by omega) hk, hF5.old k (by omega) (.inl (hLin k hk)), hB.block k (by omega), hBl.block k hk]

theorem round_row {k26 c42 : Array Value} {l22 : List Int} {l23 : List ByteArray} {v22 v23 : Value} (hS : SelAt base k26 c42 l22 l23 v22 v23 w) {M : List Nat} {W : List TypeId} (hF : Fr (inRound L base w) W M w w5) : Row noN w5 3 1 v22 l22.length (i64s l22) :=
  hS.r22.same fun b hb => hF.old b (hS.r22.lt b hb) (.inr ⟨hS.o22 b hb, hS.r22.lt b hb⟩)
end

theorem par_less {idx : Nat} {par : Int} (hi : idx < 4) (hpar : par < idx) : parB par = gen ∨ Less (parB par) (nameB idx) := by
  unfold parB
  by_cases h : par < 0
  · rw [if_pos h]
    exact .inl rfl
  · rw [if_neg h]
    exact .inr ⟨par.toNat, idx, rfl, rfl, by omega, hi⟩
end Go.Proofs.YbulkkeiFmt
