/-
  THE VIEW (4): tellCandidates, notarize, chain.
-/
import Derived.Test.YbulkkeiFmtLater
import Derived.Test.YbulkkeiFmtWake
import Derived.Deep.RegionLaw
namespace Go.Proofs.YbulkkeiFmt
open Go.RowKit Go.Extern.Stop Go.Stop Go.Extern
set_option maxRecDepth 8000
attribute [local go_sem ↓] Go.wp_at_zero Go.wp_at_succ

set_option maxHeartbeats 1600000 in
theorem tell_ok {w : World} {v : Nat} (h : w.cell? ⟨v, 16, none⟩ = some (.slice none 0 0)) (slot : Nat) (ht : Int) (f : Value) :
    Calls Ybaf.prog 53 #[.pointer (some ⟨v, 0, none⟩), .int .i32 slot, .int .i64 ht, f] w fun e w' => e = .returned (.tuple #[]) ∧ w' = w := by
  go_enter Ybaf.func53, Ybaf.ntmps53
  go_wp2_with fail
  go_loopw [15] (fun s15 wr => s15 = .int .i64 0 ∧ wr = w) (fun _ _ => 0)
  case atStart => exact ⟨rfl, rfl⟩
  case round =>
    obtain ⟨rfl, rfl⟩ := hrel
    go_wp2_with fail
    go_end0
    exact ⟨rfl, rfl⟩

theorem clear_nil (w : World) : (Builtin.clear_ #[60] 0 #[.slice none 0 0]).run Ybaf.prog w = .ok (.tuple #[]) w := by kernel_rfl

set_option maxHeartbeats 1600000 in
theorem notarize_ok {w : World} {v : Nat} (h : w.cell? ⟨v, 16, none⟩ = some (.slice none 0 0)) (hf : w.frozen? ⟨v, 16, none⟩ = false) :
    Calls Ybaf.prog 51 #[.pointer (some ⟨v, 0, none⟩)] w fun e w' => e = .returned (.tuple #[]) ∧ w' = w := by
  have H := setCell_same h
  have hcl := clear_nil w
  go_enter Ybaf.func51, Ybaf.ntmps51
  go_wp2_with fail
  go_loopw [2, 15] (fun s2 s15 wr => s2 = .slice none 0 0 ∧ s15 = .int .i64 0 ∧ wr = w) (fun _ _ _ => 0)
  case atStart => exact ⟨rfl, rfl, rfl⟩
  case round =>
    obtain ⟨rfl, rfl, rfl⟩ := hrel
    go_wp2_with fail
    go_end0
    exact ⟨rfl, rfl⟩

/-- The main chains. -/
def chs (l : List (Int × Nat)) : List Value := l.flatMap fun p => [.int .i32 p.1, .int .i64 p.2]
theorem chs_len (l : List (Int × Nat)) : (chs l).length = l.length * 2 := by
  induction l with
  | nil => rfl
  | cons r l ih => rw [chs, List.flatMap_cons, List.length_append, ← chs, ih]; simp; omega
theorem chs_append (a b : List (Int × Nat)) : chs (a ++ b) = chs a ++ chs b := by simp [chs]
theorem chs_get : ∀ (l : List (Int × Nat)) (i : Nat) (p : Int × Nat), l[i]? = some p → (chs l)[i * 2]? = some (.int .i32 p.1) ∧ (chs l)[i * 2 + 1]? = some (.int .i64 p.2)
  | [], i, p, h => by simp at h
  | q :: l, 0, p, h => by
    simp at h
    subst h
    simp [chs]
  | q :: l, i + 1, p, h => by
    have := chs_get l i p (by simpa using h)
    rw [chs, List.flatMap_cons, List.getElem?_append_right (by simp; omega), List.getElem?_append_right (by simp; omega), ← chs]
    simp only [List.length_cons, List.length_nil]
    rw [show (i + 1) * 2 - (0 + 1 + 1) = i * 2 by omega, show (i + 1) * 2 + 1 - (0 + 1 + 1) = i * 2 + 1 by omega]
    exact this
theorem chs_set : ∀ (l : List (Int × Nat)) (i : Nat) (p : Int × Nat), i < l.length → ((chs l).set (i * 2) (.int .i32 p.1)).set (i * 2 + 1) (.int .i64 p.2) = chs (l.set i p)
  | [], i, p, h => by simp at h
  | q :: l, 0, p, h => by simp [chs]
  | q :: l, i + 1, p, h => by
    have ih := chs_set l i p (by simpa using h)
    rw [List.set_cons_succ, chs, chs, List.flatMap_cons, List.flatMap_cons, List.set_append_right _ _ (by simp; omega), List.set_append_right _ _ (by simp; omega), ← chs, ← chs, ← ih]
    simp only [List.length_cons, List.length_nil]
    rw [show (i + 1) * 2 - (0 + 1 + 1) = i * 2 by omega, show (i + 1) * 2 + 1 - (0 + 1 + 1) = i * 2 + 1 by omega]

theorem hz143 : Ybaf.t143.zero = some (.agg #[.int .i32 0, .int .i64 0]) := rfl

/-- What chain leaves. -/
structure Chained (N : Nat → Prop) (K : VK) (v s : Nat) (st : Value) (re : Int) (ma : Nat) (wo rd : Value) (cl : List (Int × Nat)) (w : World) (ch' : Value) (cl' : List (Int × Nat)) (w' : World) : Prop where
  view : ViewAt K w' v s st ch' re ma wo rd
  row : Row N w' 143 2 ch' cl'.length (chs cl')
  pre : ∃ t, cl' = cl ++ t ∧ ∀ p ∈ t, p = (-1, 0)
  fr : Fr N [70, 143] [] w w'

set_option maxHeartbeats 6400000 in
theorem chain_ok {N : Nat → Prop} {K : VK} {w : World} {v s : Nat} {st ch : Value} {re : Int} {ma : Nat} {wo rd : Value} (hV : ViewAt K w v s st ch re ma wo rd) (hN : ∀ k, N k → k < w.heap.size) (hnv : ¬ N v) {cl : List (Int × Nat)} (hr : Row N w 143 2 ch cl.length (chs cl)) (hcl : cl.length < 1000) (slot : Nat) (hs : slot < 1000) :
    Calls Ybaf.prog 49 #[.pointer (some ⟨v, 0, none⟩), .int .i32 slot] w fun e w' => ∃ gc cap cl', slot < cl'.length ∧ cl'.length ≤ max cl.length (slot + 1) ∧ e = .returned (.pointer (some ⟨gc, slot * 2, none⟩)) ∧ Chained N K v s st re ma wo rd cl w (.slice (some ⟨gc, 0, none⟩) cl'.length cap) cl' w' := by
  have HN : Hid (∀ k, N k → k < w.heap.size) := hN
  have HC : Hid (Chained N K v s st re ma wo rd cl w ch cl w) := ⟨hV, hr, ⟨[], by simp, by simp⟩, Fr.refl ..⟩
  clear hV hr hN
  go_enter Ybaf.func49, Ybaf.ntmps49
  go_wp2_with fail
  go_loopw [] (fun wr => ∃ ch' cl', cl'.length ≤ max cl.length (slot + 1) ∧ Chained N K v s st re ma wo rd cl w ch' cl' wr) (fun wr => slot + 1 - lenV ((wr.cell? ⟨v, 6, none⟩).getD undef))
  case atStart => exact ⟨ch, cl, by omega, HC.out⟩
  case round =>
    obtain ⟨ch', cl', hlen, hC⟩ := hrel
    have HC1 : Hid (Chained N K v s st re ma wo rd cl w ch' cl' wr) := hC
    have hlen1000 : cl'.length ≤ 1000 := by omega
    obtain ⟨o1, c1, rfl, q1, q2⟩ := ownsRow_slice hC.row.1
    simp only [maxLen] at q2
    obtain ⟨v0, v4, v5, v6, v7, v10, v12, v13, v16⟩ := hC.view.cells
    have f6 := hC.view.free 6
    clear hC HC
    by_cases hsl : slot < cl'.length
    · have hslI : (slot : Int) < (cl'.length : Int) := by omega
      obtain ⟨gc, capc, curc, hvc, -, -, _, _, -, -⟩ := HC1.out.row.form (by omega)
      simp only [Value.slice.injEq] at hvc
      obtain ⟨rfl, -, rfl⟩ := hvc
      go_wp2_with fail
      all_goals try (exfalso; omega)
      go_ret
      exact ⟨gc, c1, cl', hsl, hlen, rfl, HC1.out⟩
    · go_wp2_with ((at_builtin; refine Stop'.intro ?_))
      all_goals try (exfalso; omega)
      unfold Stop'
      refine wpList_append_row _ rfl _ _ 62 rfl 143 Ybaf.t143 (.agg #[.int .i32 0, .int .i64 0]) 2 16 Ybaf.underlying62 (by kernel_rfl) hz143 rfl rfl rfl (by decide) (N := N) ?n1 (.slice o1 cl'.length c1) cl'.length (chs cl') rfl (HC1.out.row.kept ((Fr.refl N [] [] wr).alloc _) (by simp)) ⟨wr.heap.size, 0, none⟩ 1 1 [.int .i32 (-1), .int .i64 0] rfl rfl (news_alloc wr _ _) (by simp [Value.oneCell']) (by simp [maxLen]; omega) (by omega) ?_
      case n1 => exact fun k hk => by have h1 := HN.out k hk; have h2 := HC1.out.fr.size; simp; omega
      intro v' w2 hGr
      obtain ⟨o2, c2, rfl, _, _⟩ := ownsRow_slice hGr.row.1
      have hV2 : ViewAt K w2 v s st (.slice o1 cl'.length c1) re ma wo rd := hGr.fr.keepC _ _ _ _ (((Fr.refl N [] [] wr).alloc _).keepC _ _ _ _ HC1.out.view (by simp)) (by decide)
      have u6 := hV2.cells.2.2.2.1
      have g6 := hV2.free 6
      have HCn : Hid (Chained N K v s st re ma wo rd cl w (.slice o2 (cl'.length + 1) c2) (cl' ++ [(-1, 0)]) (w2.setCell ⟨v, 6, none⟩ (.slice o2 (cl'.length + 1) c2))) := by
        have hf2 : Fr N [70, 143] [] w w2 := (HC1.out.fr.alloc _).trans (hGr.fr.wider (by simp) (by simp))
        refine ⟨hV2.setCh _, ?_, ?_, hf2.setCell hV2 (by simp) hnv⟩
        · have h1 := hGr.row.setCell (k := v) (o := 6) (u := .slice o2 (cl'.length + 1) c2) (hGr.row.ne hV2 (by decide))
          rw [chs_append, List.length_append]
          exact h1
        · obtain ⟨t, rfl, ht⟩ := HC1.out.pre
          refine ⟨t ++ [(-1, 0)], by simp, ?_⟩
          intro p hp
          simp at hp
          rcases hp with hp | hp
          · exact ht p hp
          · exact hp
      have hm2 : ((w2.setCell ⟨v, 6, none⟩ (.slice o2 (cl'.length + 1) c2)).cell? ⟨v, 6, none⟩) = some (.slice o2 (cl'.length + 1) c2) := HCn.out.view.cells.2.2.2.1
      have HM2 : Hid (((w2.setCell ⟨v, 6, none⟩ (.slice o2 (cl'.length + 1) c2)).cell? ⟨v, 6, none⟩) = some (.slice o2 (cl'.length + 1) c2)) := hm2
      have HM1 : Hid (wr.cell? ⟨v, 6, none⟩ = some (.slice o1 cl'.length c1)) := v6
      clear hGr hV2 hm2
      go_wp2_with fail
      go_roundw
      case rel => exact ⟨_, cl' ++ [(-1, 0)], by simp; omega, HCn.out⟩
      case measure =>
        rw [HM2.out, HM1.out]
        simp [lenV]
        omega
end Go.Proofs.YbulkkeiFmt
