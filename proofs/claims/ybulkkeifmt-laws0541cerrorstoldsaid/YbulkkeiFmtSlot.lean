/-
  THE STORE (1): slot.
-/
import Derived.Test.YbulkkeiFmtSame2
import Derived.OwnWalk
namespace Go.Proofs.YbulkkeiFmt
open Go.RowKit Go.Extern.Stop Go.Stop Go.Extern
set_option maxRecDepth 8000

theorem news_alloc (w : World) (xs : List Value) (e : TypeId) : ∀ (j : Nat) (u : Value), xs[j]? = some u → (w.alloc (.cells xs.toArray e)).cell? ((⟨w.heap.size, 0, none⟩ : Addr).add j) = some u := fun j u hu => by
  have hadd : (⟨w.heap.size, 0, none⟩ : Addr).add j = ⟨w.heap.size, j, none⟩ := by unfold Addr.add; split <;> simp_all
  rw [hadd]
  simpa using hu
/-- A walk stands still here. -/
def Stop' (p : Prop) : Prop := p
theorem Stop'.intro {p : Prop} (h : Stop' p) : p := h

/-- The slots' map and their chains. -/
structure SlotsOk (em : List (Int × Value)) (cs : List Int) : Prop where
  out : ∀ c, get em c = none → c ∉ cs
  inn : ∀ c v, get em c = some v → ∃ j : Nat, v = .int .i32 j ∧ cs[j]? = some c

theorem SlotsOk.next {em : List (Int × Value)} {cs : List Int} (h : SlotsOk em cs) {c : Int} (hc : get em c = none) : SlotsOk (put c (.int .i32 cs.length) em) (cs ++ [c]) where
  out d hd := by
    by_cases e : d = c
    · subst e; rw [get_put_same] at hd; cases hd
    · rw [get_put_other _ _ _ e] at hd
      have := h.out d hd
      simp [this, e]
  inn d v hd := by
    by_cases e : d = c
    · subst e
      rw [get_put_same] at hd
      cases hd
      exact ⟨_, rfl, by simp⟩
    · rw [get_put_other _ _ _ e] at hd
      obtain ⟨j, h1, h2⟩ := h.inn d v hd
      exact ⟨j, h1, by rw [List.getElem?_append_left (List.getElem?_eq_some_iff.1 h2).1]; exact h2⟩

theorem MapSet.cell {m : Nat} {w w' : World} (h : MapSet m w w') {b o : Nat} {v : Value} (hc : w.cell? ⟨b, o, none⟩ = some v) : w'.cell? ⟨b, o, none⟩ = some v := by
  obtain ⟨arr, clock, hm⟩ := h.wasMap
  have hne : b ≠ m := by
    intro e
    subst e
    simp [World.cell?, hm] at hc
  exact (World.cell?_of_block (w := w) (h.other b hne)).trans hc
theorem MapSet.block {m : Nat} {w w' : World} (h : MapSet m w w') {b : Nat} {c : Array Value} {e : TypeId} {f : Nat × Nat} (hc : w.heap[b]? = some (.cells c e f)) : w'.heap[b]? = some (.cells c e f) := by
  obtain ⟨arr, clock, hm⟩ := h.wasMap
  have hne : b ≠ m := by
    intro e
    subst e
    rw [hm] at hc
    cases hc
  exact (h.other b hne).trans hc
theorem MapSet.fr {m : Nat} {w w' : World} (h : MapSet m w w') {N : Nat → Prop} (W : List TypeId) (hN : ¬ N m) : Fr N W [m] w w' := (Fr.refl N W [m] w).mapSet h (by simp) hN

theorem StoreAt.setCo {w : World} {s : Nat} {ch : Int} {mi : Nat} {vs gp : Value} {ms : Nat} {co : Value} {mr mu : Nat} (h : StoreAt w s ch mi vs gp ms co mr mu) (co' : Value) : StoreAt (w.setCell ⟨s, 7, none⟩ co') s ch mi vs gp ms co' mr mu :=
  heap_setCell_same w h
theorem StoreAt.setVs {w : World} {s : Nat} {ch : Int} {mi : Nat} {vs gp : Value} {ms : Nat} {co : Value} {mr mu : Nat} (h : StoreAt w s ch mi vs gp ms co mr mu) (vs' : Value) : StoreAt (w.setCell ⟨s, 2, none⟩ vs') s ch mi vs' gp ms co mr mu :=
  heap_setCell_same w h
theorem StoreAt.setTg {w : World} {s : Nat} {ch : Int} {mi : Nat} {vs gp : Value} {ms : Nat} {co : Value} {mr mu : Nat} (h : StoreAt w s ch mi vs gp ms co mr mu) : StoreAt (w.setCell ⟨s, 5, none⟩ (.slice none 0 0)) s ch mi vs gp ms co mr mu :=
  heap_setCell_same w h
theorem Row.setCell {N : Nat → Prop} {w : World} {e : TypeId} {sz : Nat} {v : Value} {n : Nat} {xs : List Value} (h : Row N w e sz v n xs) {k o : Nat} {u : Value} (hk : v.ownBlock ≠ some k) : Row N (w.setCell ⟨k, o, none⟩ u) e sz v n xs :=
  h.same fun _ hj => heap_setCell_other w (fun e => hk (e ▸ hj))
theorem Row.ne {N : Nat → Prop} {w : World} {e : TypeId} {sz : Nat} {v : Value} {n : Nat} {xs : List Value} (h : Row N w e sz v n xs) {k : Nat} {c : Array Value} {e' : TypeId} {f : Nat × Nat} (hk : w.heap[k]? = some (.cells c e' f)) (hne : e ≠ e') : v.ownBlock ≠ some k := by
  intro hv
  rcases h.cases with ⟨rfl, _, _⟩ | ⟨g, cap, cur, rfl, _, hb, _⟩
  · simp [Value.ownBlock] at hv
  · simp [Value.ownBlock] at hv
    subst hv
    rw [hk] at hb
    cases hb
    exact hne rfl

set_option maxHeartbeats 3200000 in
theorem slot_ok {N : Nat → Prop} {w : World} {s : Nat} {ch : Int} {mi : Nat} {vs gp : Value} {ms : Nat} {co : Value} {mr mu : Nat} (hS : StoreAt w s ch mi vs gp ms co mr mu) (hN : ∀ k, N k → k < w.heap.size) (hs : ¬ N s) (hms : ¬ N ms)
    {em : List (Int × Value)} (hm : MapAt (Value.int .i64) w ms em) {cs : List Int} (hr : Row N w 3 1 co cs.length (i64s cs)) (hok : SlotsOk em cs) (hlen : cs.length < 1000) (c : Int) :
    Calls Ybaf.prog 31 #[.pointer (some ⟨s, 0, none⟩), .int .i64 c] w fun e w' => ∃ (j : Nat) (em' : List (Int × Value)) (cs' : List Int) (co' : Value), e = .returned (.int .i32 j) ∧ cs'[j]? = some c ∧ StoreAt w' s ch mi vs gp ms co' mr mu ∧
      MapAt (Value.int .i64) w' ms em' ∧ Row N w' 3 1 co' cs'.length (i64s cs') ∧ SlotsOk em' cs' ∧ cs <+: cs' ∧ cs'.length ≤ cs.length + 1 ∧ Fr N [83, 3] [ms] w w' := by
  obtain ⟨s0, s1, s2, s3, s5, s6, s7, s8, s9⟩ := hS.cells
  have hl := run_look_ok (KK.int Ybaf.underlying3) Ybaf.underlying79 zero_i32 hm c
  cases hg : get em c with
  | some v =>
    rw [hg] at hl
    obtain ⟨j, rfl, hj⟩ := hok.inn c v hg
    have HJ : Hid (cs[j]? = some c) := hj
    clear hj hg
    go_enter Ybaf.func31, Ybaf.ntmps31
    go_wp2
    go_ret
    exact ⟨j, em, cs, co, rfl, HJ.out, hS, hm, hr, hok, List.prefix_refl _, by omega, Fr.refl ..⟩
  | none =>
    rw [hg] at hl
    obtain ⟨oa, cap, rfl, _, h2⟩ := ownsRow_slice hr.1
    simp only [maxLen] at h2
    have HG : Hid (get em c = none) := hg
    have HS : Hid (StoreAt w s ch mi vs gp ms (.slice oa cs.length cap) mr mu) := hS
    have HR : Hid (Row N w 3 1 (.slice oa cs.length cap) cs.length (i64s cs)) := hr
    clear hg hS hr
    go_enter Ybaf.func31, Ybaf.ntmps31
    go_wp2_with ((at_mapUpdate; refine Stop'.intro ?_))
    unfold Stop'
    refine wpList_mapUpdate_at (KK.int Ybaf.underlying3) _ rfl _ _ _ 79 _ rfl Ybaf.underlying79 ms em rfl hm c rfl _ rfl ?_
    intro w1 hm1 hs1
    have HM1 : Hid (MapAt (Value.int .i64) w1 ms (put c (.int .i32 cs.length) em)) := hm1
    have HF1 : Hid (Fr N [83, 3] [ms] w w1) := (hs1.fr [83, 3] hms)
    have HS1 : Hid (StoreAt w1 s ch mi vs gp ms (.slice oa cs.length cap) mr mu) := hs1.block HS.out
    have t7 := hs1.cell s7
    have z7 := blk t7
    have HR1 : Hid (Row N w1 3 1 (.slice oa cs.length cap) cs.length (i64s cs)) := HR.out.kept (Fr.wider (W' := [83]) (M' := [ms]) (hs1.fr [] hms) (by simp) (by simp)) (by decide)
    have HN1 : Hid (∀ k, N k → k < w1.heap.size) := fun k hk => by rw [hs1.size]; exact hN k hk
    clear hm1 hs1 hl hm s0 s1 s2 s3 s5 s6 s7 s8 s9
    go_wp2_with ((at_builtin; refine Stop'.intro ?_))
    unfold Stop'
    refine wpList_append_row _ rfl _ _ 43 rfl 3 Ybaf.t3 (.int .i64 0) 1 8 Ybaf.underlying43 (by kernel_rfl) rfl rfl rfl rfl (by decide) (N := N) ?n1 (.slice oa cs.length cap) cs.length (i64s cs) rfl (HR1.out.kept ((Fr.refl N [] [] _).alloc _) (by simp)) ⟨w1.heap.size, 0, none⟩ 1 1 [.int .i64 c] rfl rfl ?n2 ?n3 ?n4 ?n5 ?_
    case n1 => exact fun k hk => by have := HN1.out k hk; simp; omega
    case n2 => exact news_alloc w1 [.int .i64 c] 3
    case n3 => simp [Value.oneCell']
    case n4 => simp [maxLen]; omega
    case n5 => omega
    intro v' w2 hG
    obtain ⟨o2, cap2, rfl, _, _⟩ := ownsRow_slice hG.row.1
    have hS2 : StoreAt w2 s ch mi vs gp ms (.slice oa cs.length cap) mr mu := hG.fr.keepC _ _ _ _ (((Fr.refl N [] [] w1).alloc _).keepC _ _ _ _ HS1.out (by simp)) (by decide)
    have u7 := hS2.cells.2.2.2.2.2.2.1
    have f7 := hS2.free 7
    have HF2 : Hid (Fr N [83, 3] [ms] w w2) := (HF1.out.alloc _).trans (hG.fr.wider (by simp) (by simp))
    have HM2 : Hid (MapAt (Value.int .i64) w2 ms (put c (.int .i32 cs.length) em)) := (HM1.out.kept ((Fr.refl N [] [] _).alloc _) (by simp)).kept hG.fr (by simp)
    have HS2 : Hid (StoreAt w2 s ch mi vs gp ms (.slice oa cs.length cap) mr mu) := hS2
    have HG2 : Hid (Row N w2 3 1 (.slice o2 (cs.length + 1) cap2) (cs.length + 1) (i64s cs ++ [.int .i64 c])) := hG.row
    clear hS2 hG
    go_wp2_with fail
    go_ret
    refine ⟨cs.length, put c (.int .i32 cs.length) em, cs ++ [c], .slice o2 (cs.length + 1) cap2, rfl, by simp, HS2.out.setCo _, HM2.out.kept ((Fr.refl N [83] [] _).setCell HS2.out (by simp) hs) (by simp), ?_, hok.next HG.out, List.prefix_append _ _, by simp, HF2.out.setCell HS2.out (by simp) hs⟩
    have := HG2.out.setCell (k := s) (o := 7) (u := .slice o2 (cs.length + 1) cap2) (HG2.out.ne HS2.out (by decide))
    simpa [i64s] using this
end Go.Proofs.YbulkkeiFmt
