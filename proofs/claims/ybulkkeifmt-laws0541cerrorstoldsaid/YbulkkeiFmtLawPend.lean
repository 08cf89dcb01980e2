/-
  THE LAW (5): its own memory, as it is written.
-/
import Derived.Test.YbulkkeiFmtLawCut
namespace Go.Proofs.YbulkkeiFmt
open Go.RowKit Go.Extern.Stop Go.Stop Go.Extern

theorem four_set (f : Nat → Value) (u : Value) {k : Nat} (hk : k < 4) : (#[f 0, f 1, f 2, f 3] : Array Value).setIfInBounds k u = #[(if 0 = k then u else f 0), (if 1 = k then u else f 1), (if 2 = k then u else f 2), (if 3 = k then u else f 3)] := by
  rcases (by omega : k = 0 ∨ k = 1 ∨ k = 2 ∨ k = 3) with rfl | rfl | rfl | rfl <;> simp

section
variable {L L' : Nat → Prop} {z ad co pe : Nat} {m : LM} {w w' : World}

theorem LawMem.widen (h : LawMem L z ad co pe m w) (hL : ∀ b, L b → b < w.heap.size → L' b) : LawMem L' z ad co pe m w := by
  obtain ⟨pv, h1, h2, h3⟩ := h.hPe
  have lt : ∀ {b : Nat} {o : Obj}, w.heap[b]? = some o → b < w.heap.size := fun hb => (Array.getElem?_eq_some_iff.1 hb).1
  exact ⟨h.hAd, h.hCo, ⟨pv, h1, fun k hk => ⟨(h2 k hk).1, fun b hb => hL b ((h2 k hk).2 b hb) ((h2 k hk).1.lt b hb)⟩, h3⟩, ⟨hL _ h.inL.1 (lt h.hAd), hL _ h.inL.2.1 (lt h.hCo), hL _ h.inL.2.2 (lt h1)⟩, h.lo⟩

/-- What the view's own doing leaves alone. -/
theorem LawMem.keptL (h : LawMem L z ad co pe m w) {W : List TypeId} {M : List Nat} (hf : Fr L W M w w') : LawMem L z ad co pe m w' := by
  obtain ⟨pv, h1, h2, h3⟩ := h.hPe
  have lt : ∀ {b : Nat} {o : Obj}, w.heap[b]? = some o → b < w.heap.size := fun hb => (Array.getElem?_eq_some_iff.1 hb).1
  exact ⟨(hf.old _ (lt h.hAd) h.inL.1).trans h.hAd, (hf.old _ (lt h.hCo) h.inL.2.1).trans h.hCo, ⟨pv, (hf.old _ (lt h1) h.inL.2.2).trans h1, fun k hk => ⟨(h2 k hk).1.same (fun b hb => hf.old b ((h2 k hk).1.lt b hb) ((h2 k hk).2 b hb)), (h2 k hk).2⟩, h3⟩, h.inL, h.lo⟩

theorem LawMem.mark (h : LawMem L z ad co pe m w) {idx : Nat} (hi : idx < 4) (c : Int) :
    LawMem L z ad co pe (m.mark idx c) ((w.setCell ⟨ad, idx, none⟩ (.bool true)).setCell ⟨co, idx, none⟩ (.int .i64 c)) ∧ Fr (lowN z) [35, 36] [] w ((w.setCell ⟨ad, idx, none⟩ (.bool true)).setCell ⟨co, idx, none⟩ (.int .i64 c)) := by
  obtain ⟨pv, h1, h2, h3⟩ := h.hPe
  have f1 : Fr (lowN z) [35] [] w (w.setCell ⟨ad, idx, none⟩ (.bool true)) := (Fr.refl (lowN z) [35] [] w).setCell h.hAd (by simp) (Nat.not_lt.2 h.lo.1)
  have hCo1 := f1.keepC _ _ _ _ h.hCo (by decide)
  have f2 : Fr (lowN z) [36] [] (w.setCell ⟨ad, idx, none⟩ (.bool true)) ((w.setCell ⟨ad, idx, none⟩ (.bool true)).setCell ⟨co, idx, none⟩ (.int .i64 c)) := (Fr.refl (lowN z) [36] [] _).setCell hCo1 (by simp) (Nat.not_lt.2 h.lo.2.1)
  refine ⟨⟨?_, ?_, ⟨pv, f2.keepC _ _ _ _ (f1.keepC _ _ _ _ h1 (by decide)) (by decide), fun k hk => ⟨((h2 k hk).1.keptF f1 (by decide)).keptF f2 (by decide), (h2 k hk).2⟩, h3⟩, h.inL, h.lo⟩, (f1.wider (by simp) (by simp)).trans (f2.wider (by simp) (by simp))⟩
  · have := f2.keepC _ _ _ _ (heap_setCell_same w (o := idx) (v := .bool true) h.hAd) (by decide)
    rw [four_set (fun k => .bool (m.added k)) _ hi] at this
    rw [this]
    simp only [LM.mark]
    have e : ∀ a : Nat, (if a = idx then (.bool true : Value) else .bool (m.added a)) = .bool (if a = idx then true else m.added a) := fun a => by split <;> rfl
    rw [e, e, e, e]
  · have := heap_setCell_same (w.setCell ⟨ad, idx, none⟩ (.bool true)) (o := idx) (v := .int .i64 c) hCo1
    rw [four_set (fun k => .int .i64 (m.chain k)) _ hi] at this
    rw [this]
    simp only [LM.mark]
    have e : ∀ a : Nat, (if a = idx then (.int .i64 c : Value) else .int .i64 (m.chain a)) = .int .i64 (if a = idx then c else m.chain a) := fun a => by split <;> rfl
    rw [e, e, e, e]

theorem LawMem.push (h : LawMem L z ad co pe m w) (hL : ∀ b, w.heap.size ≤ b → L b) {k : Nat} (hk : k < 4) (hna : m.added k = false) (r : Bool × Int) {pvk zz v' : Value} (hpv : w.cell? ⟨pe, k, none⟩ = some pvk) {c : Array Value}
    (hG : Grew (lowN z) 45 2 zz pvk (m.pend k).length 1 (pendV (m.pend k)) [.bool r.1, .int .i64 r.2] (w.alloc (.cells c 45)) v' w') :
    LawMem L z ad co pe (m.note k r) (w'.setCell ⟨pe, k, none⟩ v') ∧ Fr (lowN z) [38, 45] [] w (w'.setCell ⟨pe, k, none⟩ v') := by
  obtain ⟨pv, h1, h2, h3⟩ := h.hPe
  have hpk : pv k = pvk := by
    have := (four_cell h1 hk).symm.trans hpv
    exact Option.some.inj this
  subst hpk
  have fa : Fr (lowN z) [38, 45] [] w w' := (((Fr.refl (lowN z) [45] [] w).alloc _).trans hG.fr).wider (by simp) (by simp)
  have fb : Fr (lowN z) [45] [] w w' := ((Fr.refl (lowN z) [45] [] w).alloc _).trans hG.fr
  have hPe' := fb.keepC _ _ _ _ h1 (by decide)
  have fc : Fr (lowN z) [38] [] w' (w'.setCell ⟨pe, k, none⟩ v') := (Fr.refl (lowN z) [38] [] w').setCell hPe' (by simp) (Nat.not_lt.2 h.lo.2.2)
  have hnote : m.note k r = { m with pend := fun j => if j = k then m.pend j ++ [r] else m.pend j } := by unfold LM.note; rw [if_neg (by rw [hna]; simp)]
  have hrow : Row (lowN z) (w'.setCell ⟨pe, k, none⟩ v') 45 2 v' ((m.pend k ++ [r]).length) (pendV (m.pend k ++ [r])) := by
    rw [List.length_append, pendV_append]
    exact hG.row.keptF fc (by decide)
  rw [hnote]
  refine ⟨⟨fc.keepC _ _ _ _ (fb.keepC _ _ _ _ h.hAd (by decide)) (by decide), fc.keepC _ _ _ _ (fb.keepC _ _ _ _ h.hCo (by decide)) (by decide), ⟨fun j => if j = k then v' else pv j, ?_, fun j hj => ?_, ?_⟩, h.inL, h.lo⟩, fa.trans (fc.wider (by simp) (by simp))⟩
  · have := heap_setCell_same w' (o := k) (v := v') hPe'
    rw [four_set pv _ hk] at this
    exact this
  · by_cases e : j = k
    · subst e
      simp only [if_true]
      refine ⟨hrow, fun b hb => ?_⟩
      rcases hG.at_ with h4 | h4
      · rw [h4] at hb
        exact (h2 j hj).2 b hb
      · rw [h4] at hb
        cases hb
        exact hL _ (by simp)
    · simp only [if_neg e]
      refine ⟨((h2 j hj).1.same (w' := w') fun b hb => ?_).keptF fc (by decide), (h2 j hj).2⟩
      have hlt := (h2 j hj).1.lt b hb
      rw [hG.other b (by simp; omega) (fun e2 => h3 j k b hj hk e hb e2.symm)]
      exact Below.heap_alloc w _ b hlt
  · have hv' : ∀ j b, j < 4 → j ≠ k → v'.ownBlock = some b → (pv j).ownBlock ≠ some b := by
      intro j b hj e hb
      rcases hG.at_ with h4 | h4
      · rw [h4] at hb
        exact h3 k j b hk hj (Ne.symm e) hb
      · rw [h4] at hb
        cases hb
        intro hb2
        have := (h2 j hj).1.lt _ hb2
        simp at this
        omega
    intro j j' b hj hj' hne hb
    simp only at hb ⊢
    by_cases e : j = k
    · subst e
      simp only [if_true] at hb
      rw [if_neg (Ne.symm hne)]
      exact hv' j' b hj' (Ne.symm hne) hb
    · rw [if_neg e] at hb
      by_cases e' : j' = k
      · rw [if_pos e']
        exact fun hb2 => hv' j b hj e hb2 hb
      · rw [if_neg e']
        exact h3 j j' b hj hj' hne hb
end

theorem votes_snoc (m : LM) (sel : List Nat) (k : Nat) : m.votes (sel ++ [k]) = (m.votes sel).vote k := by simp [LM.votes]
theorem votes_take (m : LM) {sel : List Nat} {t k : Nat} (h : sel[t]? = some k) : m.votes (sel.take (t + 1)) = (m.votes (sel.take t)).vote k := by
  rw [List.take_add_one, h]
  exact votes_snoc m _ k
theorem note_len (m : LM) (k : Nat) (r : Bool × Int) (j : Nat) : ((m.note k r).pend j).length ≤ (m.pend j).length + 1 := by
  unfold LM.note
  split
  · omega
  · simp only
    split <;> simp
theorem vote_len (m : LM) (k j : Nat) : ((m.vote k).pend j).length ≤ (m.pend j).length + 1 := by
  unfold LM.vote
  split
  · exact note_len ..
  · omega
theorem votes_len : ∀ (sel : List Nat) (m : LM) (j : Nat), ((m.votes sel).pend j).length ≤ (m.pend j).length + sel.length
  | [], m, j => Nat.le_refl _
  | k :: sel, m, j => by
    have h1 := votes_len sel (m.vote k) j
    have h2 := vote_len m k j
    show (((m.vote k).votes sel).pend j).length ≤ _
    simp only [List.length_cons]
    omega
theorem parent_len (m : LM) (par c : Int) (j : Nat) : ((m.parent par c).pend j).length ≤ (m.pend j).length + 1 := by
  unfold LM.parent
  split
  · omega
  · exact note_len ..
theorem step_len (m : LM) (idx : Nat) (c par : Int) (sel : List Nat) (j : Nat) : ((m.step idx c par sel).pend j).length ≤ (m.pend j).length + 1 + sel.length := by
  have h1 := votes_len sel ((m.mark idx c).parent par c) j
  have h2 := parent_len (m.mark idx c) par c j
  have h3 : ((m.mark idx c).pend j).length = (m.pend j).length := rfl
  unfold LM.step
  omega
end Go.Proofs.YbulkkeiFmt
