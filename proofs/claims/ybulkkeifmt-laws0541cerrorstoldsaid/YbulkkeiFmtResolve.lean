/-
  THE STORE (2): resolve.
-/
import Derived.Test.YbulkkeiFmtSlot
import Derived.Deep.DrawnRows
namespace Go.Proofs.YbulkkeiFmt
open Go.RowKit Go.Extern.Stop Go.Stop Go.Extern
set_option maxRecDepth 8000
attribute [local go_sem ↓] Go.wp_at_zero Go.wp_at_succ

/-- A store of what a cell holds. -/
theorem setCell_same {w : World} {b o : Nat} {v : Value} (h : w.cell? ⟨b, o, none⟩ = some v) : w.setCell ⟨b, o, none⟩ v = w := by
  have hlt := blk h
  have hx : w.heap[b]? = some w.heap[b] := Array.getElem?_eq_getElem hlt
  have : (w.heap.modify b fun ob => match ob with | .cells c e f => .cells (c.setIfInBounds o v) e f | x => x) = w.heap := by
    apply Array.ext_getElem?
    intro k
    rw [Array.getElem?_modify]
    split
    · rename_i e
      subst e
      rw [hx]
      simp only [World.cell?, hx] at h
      cases hb : w.heap[b] with
      | cells c e f =>
        rw [hb] at h
        simp only at h
        simp only [Option.map_some, Option.some.injEq, Obj.cells.injEq, and_true]
        apply Array.ext_getElem?
        intro j
        rw [Array.getElem?_setIfInBounds]
        split
        · rename_i e
          subst e
          split
          · exact h.symm
          · rename_i hh
            simp [Array.getElem?_eq_none (Nat.le_of_not_lt hh)]
        · rfl
      | _ => simp
    · rfl
  exact (congrArg (fun h => { w with heap := h }) this : _)

/-- One cell of a row is written. -/
theorem Row.setAt {N : Nat → Prop} {w : World} {e : TypeId} {sz : Nat} {v : Value} {n : Nat} {xs : List Value} (h : Row N w e sz v n xs) {g : Nat} (hg : v.ownBlock = some g) (j : Nat) (u : Value) : Row N (w.setCell ⟨g, j, none⟩ u) e sz v n (xs.set j u) := by
  obtain ⟨⟨h1, h2⟩, h3⟩ := h
  refine ⟨⟨by simpa using h1, ?_⟩, h3⟩
  rcases h2 with h2 | ⟨k, cap, cur, a1, a2, a3, a4, a5, a6, a7⟩
  · exact .inl h2
  · rw [a1] at hg
    simp [Value.ownBlock] at hg
    subst hg
    refine .inr ⟨k, cap, cur.setIfInBounds j u, a1, a2, heap_setCell_same w a3, a4, a5, by simpa using a6, ?_⟩
    rw [← a7]
    simp [List.take_set]
theorem vrs_set : ∀ (l : List VR) (i : Nat) (r r' : VR) (j : Nat) (u : Value), l[i]? = some r → j < 10 → r.enc.set j u = r'.enc → (vrs l).set (i * 10 + j) u = vrs (l.set i r')
  | [], i, r, r', j, u, h, _, _ => by simp at h
  | q :: l, 0, r, r', j, u, h, hj, he => by
    simp at h
    subst h
    rw [List.set_cons_zero, vrs, vrs, List.flatMap_cons, List.flatMap_cons, Nat.zero_mul, Nat.zero_add, List.set_append_left _ _ (by simpa [VR.enc] using hj), he]
  | q :: l, i + 1, r, r', j, u, h, hj, he => by
    have ih := vrs_set l i r r' j u (by simpa using h) hj he
    rw [List.set_cons_succ, vrs, vrs, List.flatMap_cons, List.flatMap_cons, List.set_append_right _ _ (by simp [VR.enc]; omega), ← vrs, ← vrs, ← ih]
    congr 2
    simp [VR.enc]
    omega
theorem Row.setV {N : Nat → Prop} {w : World} {v : Value} {n : Nat} {l : List VR} (h : Row N w 122 10 v n (vrs l)) {g : Nat} (hg : v.ownBlock = some g) {i : Nat} {r : VR} (r' : VR) (hi : l[i]? = some r) (j : Nat) (hj : j < 10) (u : Value) (he : r.enc.set j u = r'.enc) :
    Row N (w.setCell ⟨g, i * 10 + j, none⟩ u) 122 10 v n (vrs (l.set i r')) := by
  have := h.setAt hg (i * 10 + j) u
  rwa [vrs_set l i r r' j u hi hj he] at this

section
variable {N : Nat → Prop} {w : World} {s : Nat} {ch : Int} {mi : Nat} {vs gp : Value} {ms : Nat} {co : Value} {mr mu : Nat} {es : List (ByteArray × Value)}

set_option maxHeartbeats 3200000 in
/-- The parent is not known. -/
theorem resolve_par (hS : StoreAt w s ch mi vs gp ms co mr mu) (hm : MapAt Value.string w mi es) (i : Nat) {u : Nat} {p : ByteArray} (u2 : w.cell? ⟨u, 2, none⟩ = some (.string p)) (hp : p ≠ gen) (hg : get es p = none) :
    Calls Ybaf.prog 33 #[.pointer (some ⟨s, 0, none⟩), .int .i32 i, .pointer (some ⟨u, 0, none⟩)] w fun e w' => e = .returned (.bool false) ∧ ∃ q, w' = w.drewN q := by
  obtain ⟨s0, s1, s2, s3, s5, s6, s7, s8, s9⟩ := hS.cells
  have hl : ∀ q, (Instr.lookup 74 (.map (some mi)) (.string p) true).run Ybaf.prog (w.drewN q) = .ok (.tuple #[.int .i32 0, .bool false]) (w.drewN q) := by
    intro q
    have := run_look_ok (KK.string Ybaf.underlying9) Ybaf.underlying74 zero_i32 (w := w.drewN q) hm p
    rwa [hg] at this
  have e1 := ne_gen hp
  clear hm hS
  go_enter Ybaf.func33, Ybaf.ntmps33
  go_wp2_with fail
  go_quiet (fail)
  go_wp2_with fail
  go_ret
  exact ⟨rfl, _, rfl⟩

set_option maxHeartbeats 6400000 in
/-- The first vote is not known. -/
theorem resolve_vote (hS : StoreAt w s ch mi vs gp ms co mr mu) (hm : MapAt Value.string w mi es) (i : Nat) {u : Nat} {p : ByteArray} (u2 : w.cell? ⟨u, 2, none⟩ = some (.string p)) (hp : p = gen ∨ (p ≠ gen ∧ ∃ j : Nat, get es p = some (.int .i32 j)))
    {vv : Value} {x : ByteArray} {xs : List ByteArray} (u3 : w.cell? ⟨u, 3, none⟩ = some vv) (hv : w.ownsRow 0 9 1 vv (xs.length + 1) (strs (x :: xs))) (hx : get es x = none) :
    Calls Ybaf.prog 33 #[.pointer (some ⟨s, 0, none⟩), .int .i32 i, .pointer (some ⟨u, 0, none⟩)] w fun e w' => e = .returned (.bool false) ∧ ∃ q, w' = w.drewN q := by
  have HS5 : Hid (w.cell? ⟨s, 5, none⟩ = some (.slice none 0 0)) := hS.cells.2.2.2.2.1
  obtain ⟨s0, s1, s2, s3, s5, s6, s7, s8, s9⟩ := hS.cells
  have f5 := hS.free 5
  have hl2 : ∀ q, (Instr.lookup 74 (.map (some mi)) (.string x) true).run Ybaf.prog (w.drewN q) = .ok (.tuple #[.int .i32 0, .bool false]) (w.drewN q) := by
    intro q
    have := run_look_ok (KK.string Ybaf.underlying9) Ybaf.underlying74 zero_i32 (w := w.drewN q) hm x
    rwa [hx] at this
  rcases hv.2 with ⟨_, h0⟩ | ⟨g, cap, cur, rfl, _, hb, h1, h2, _, _⟩
  · omega
  simp only [maxLen] at h2
  have hc0 := hv.cells (g := g) rfl 0 (.string x) (by simp [strs])
  rw [show (⟨g, 0, none⟩ : Addr).add 0 = ⟨g, 0, none⟩ by unfold Addr.add; split <;> simp_all] at hc0
  rcases hp with rfl | ⟨hp, j, hj⟩
  · have e1 := is_gen (rfl : gen = gen)
    have hl3 := hl2 0
    simp only [World.drewN_zero] at hl3
    clear hm hS hv hb hl2
    go_enter Ybaf.func33, Ybaf.ntmps33
    go_wp2_with fail
    go_loopw [46] (fun s46 wr => s46 = .int .i64 0 ∧ wr = w) (fun _ _ => 0)
    case atStart => exact ⟨rfl, rfl⟩
    case round =>
      obtain ⟨rfl, rfl⟩ := hrel
      go_wp2_with fail
      go_ret
      rw [setCell_same HS5.out]
      exact ⟨rfl, 0, rfl⟩
  · have hl : ∀ q, (Instr.lookup 74 (.map (some mi)) (.string p) true).run Ybaf.prog (w.drewN q) = .ok (.tuple #[.int .i32 j, .bool true]) (w.drewN q) := by
      intro q
      have := run_look_ok (KK.string Ybaf.underlying9) Ybaf.underlying74 zero_i32 (w := w.drewN q) hm p
      rwa [hj] at this
    have e1 := ne_gen hp
    clear hm hS hv hb
    go_enter Ybaf.func33, Ybaf.ntmps33
    go_wp2_with fail
    go_quiet (fail)
    go_wp2_with fail
    go_loopw [46] (fun s46 wr => s46 = .int .i64 0 ∧ ∃ q, wr = w.drewN q) (fun _ _ => 0)
    case atStart => exact ⟨rfl, _, rfl⟩
    case round =>
      obtain ⟨rfl, q, rfl⟩ := hrel
      have hl3 := hl2 q
      have HS6 : Hid ((w.drewN q).cell? ⟨s, 5, none⟩ = some (.slice none 0 0)) := HS5.out
      have t1 : (w.drewN q).cell? ⟨s, 1, none⟩ = some (.map (some mi)) := s1
      have t5 : (w.drewN q).cell? ⟨s, 5, none⟩ = some (.slice none 0 0) := s5
      have tc : (w.drewN q).cell? ⟨g, 0, none⟩ = some (.string x) := hc0
      have tf : (w.drewN q).frozen? ⟨s, 5, none⟩ = false := f5
      obtain ⟨wq, Hw⟩ : ∃ wq, Hid (wq = w.drewN q) := ⟨_, rfl⟩
      rw [← Hw.out] at hl3 HS6 t1 t5 tc tf ⊢
      clear hl2 hl
      go_wp2_with fail
      go_ret
      rw [setCell_same HS6.out]
      exact ⟨rfl, q, Hw.out⟩

set_option maxHeartbeats 6400000 in
/-- All is known: there are no votes. -/
theorem resolve_yes (hS : StoreAt w s ch mi vs gp ms co mr mu) (hm : MapAt Value.string w mi es) {l : List VR} (hr : Row N w 122 10 vs l.length (vrs l)) (i : Nat) (r : VR) (hi : l[i]? = some r) {u : Nat} {p : ByteArray} (u2 : w.cell? ⟨u, 2, none⟩ = some (.string p)) (par : Int)
    (hp : (p = gen ∧ par = -1) ∨ (p ≠ gen ∧ ∃ j : Nat, par = j ∧ get es p = some (.int .i32 j))) {vv : Value} (u3 : w.cell? ⟨u, 3, none⟩ = some vv) (hv : w.ownsRow 0 9 1 vv 0 []) :
    Calls Ybaf.prog 33 #[.pointer (some ⟨s, 0, none⟩), .int .i32 i, .pointer (some ⟨u, 0, none⟩)] w fun e w' => e = .returned (.bool true) ∧ Row N w' 122 10 vs l.length (vrs (l.set i { r with par := par })) ∧ Fr N [122] [] w w' := by
  obtain ⟨s0, s1, s2, s3, s5, s6, s7, s8, s9⟩ := hS.cells
  have hin : i < l.length := (List.getElem?_eq_some_iff.1 hi).1
  obtain ⟨g, cap, cur, rfl, hNg, hbk, h1, h2, _, _⟩ := hr.form (by omega)
  simp only [maxLen] at h2
  obtain ⟨c0, c1, c2, c3, c4, c5, c6, c7, c8, c9⟩ := hr.vcell rfl hi
  have f2 : w.frozen? ⟨g, i * 10 + 2, none⟩ = false := by simp [World.frozen?, hbk]
  have f3 : w.frozen? ⟨g, i * 10 + 3, none⟩ = false := by simp [World.frozen?, hbk]
  have f4 : w.frozen? ⟨g, i * 10 + 4, none⟩ = false := by simp [World.frozen?, hbk]
  have hgs : s ≠ g := by
    intro e
    subst e
    have := hS
    unfold StoreAt at this
    rw [hbk] at this
    cases this
  have HC3 : Hid ((w.setCell ⟨g, i * 10 + 2, none⟩ (.int .i32 par)).cell? ⟨g, i * 10 + 3, none⟩ = some (.int .i32 0)) := by
    have := (hr.setV (g := g) rfl { r with par := par } hi 2 (by omega) (.int .i32 par) rfl).vcell (g := g) rfl (i := i) (r := { r with par := par }) (by simp [hin])
    exact this.2.2.2.1
  have HC4 : Hid ((w.setCell ⟨g, i * 10 + 2, none⟩ (.int .i32 par)).cell? ⟨g, i * 10 + 4, none⟩ = some (.int .i32 0)) := by
    have := (hr.setV (g := g) rfl { r with par := par } hi 2 (by omega) (.int .i32 par) rfl).vcell (g := g) rfl (i := i) (r := { r with par := par }) (by simp [hin])
    exact this.2.2.2.2.1
  have HF : Hid (Fr N [122] [] w (w.setCell ⟨g, i * 10 + 2, none⟩ (.int .i32 par))) := (Fr.refl N [122] [] w).setCell hbk (by simp) hNg
  have HR : Hid (Row N (w.setCell ⟨g, i * 10 + 2, none⟩ (.int .i32 par)) 122 10 (.slice (some ⟨g, 0, none⟩) l.length cap) l.length (vrs (l.set i { r with par := par }))) := hr.setV rfl { r with par := par } hi 2 (by omega) (.int .i32 par) rfl
  obtain ⟨ov, cv, rfl, _, _⟩ := ownsRow_slice hv
  rcases hp with ⟨rfl, rfl⟩ | ⟨hp, j, rfl, hj⟩
  · have e1 := is_gen (rfl : gen = gen)
    clear hm hS hv hbk hr
    go_enter Ybaf.func33, Ybaf.ntmps33
    go_wp2_with fail
    go_loopw [46] (fun s46 wr => s46 = .int .i64 0 ∧ wr = w) (fun _ _ => 0)
    case atStart => exact ⟨rfl, rfl⟩
    case round =>
      obtain ⟨rfl, rfl⟩ := hrel
      go_wp2_with fail
      go_ret
      rw [setCell_same HC3.out, setCell_same HC4.out]
      exact ⟨rfl, HR.out, HF.out⟩
  · have hl : ∀ q, (Instr.lookup 74 (.map (some mi)) (.string p) true).run Ybaf.prog (w.drewN q) = .ok (.tuple #[.int .i32 j, .bool true]) (w.drewN q) := by
      intro q
      have := run_look_ok (KK.string Ybaf.underlying9) Ybaf.underlying74 zero_i32 (w := w.drewN q) hm p
      rwa [hj] at this
    have e1 := ne_gen hp
    clear hm hS hv hbk hr
    go_enter Ybaf.func33, Ybaf.ntmps33
    go_wp2_with fail
    go_quiet (fail)
    go_wp2_with fail
    go_loopw [46] (fun s46 wr => s46 = .int .i64 0 ∧ ∃ q, wr = w.drewN q) (fun _ _ => 0)
    case atStart => exact ⟨rfl, _, rfl⟩
    case round =>
      obtain ⟨rfl, q, rfl⟩ := hrel
      have t5 : (w.drewN q).cell? ⟨s, 5, none⟩ = some (.slice none 0 0) := s5
      have t2 : (w.drewN q).cell? ⟨s, 2, none⟩ = some (.slice (some ⟨g, 0, none⟩) l.length cap) := s2
      have tc2 : (w.drewN q).cell? ⟨g, i * 10 + 2, none⟩ = some (.int .i32 r.par) := c2
      have tc3 : (w.drewN q).cell? ⟨g, i * 10 + 3, none⟩ = some (.int .i32 0) := c3
      have tc4 : (w.drewN q).cell? ⟨g, i * 10 + 4, none⟩ = some (.int .i32 0) := c4
      have tf2 : (w.drewN q).frozen? ⟨g, i * 10 + 2, none⟩ = false := f2
      have tf3 : (w.drewN q).frozen? ⟨g, i * 10 + 3, none⟩ = false := f3
      have tf4 : (w.drewN q).frozen? ⟨g, i * 10 + 4, none⟩ = false := f4
      have HC3 : Hid (((w.drewN q).setCell ⟨g, i * 10 + 2, none⟩ (.int .i32 j)).cell? ⟨g, i * 10 + 3, none⟩ = some (.int .i32 0)) := HC3.out
      have HC4 : Hid (((w.drewN q).setCell ⟨g, i * 10 + 2, none⟩ (.int .i32 j)).cell? ⟨g, i * 10 + 4, none⟩ = some (.int .i32 0)) := HC4.out
      have HF : Hid (Fr N [122] [] w ((w.drewN q).setCell ⟨g, i * 10 + 2, none⟩ (.int .i32 j))) := HF.out.drewN q
      have HR : Hid (Row N ((w.drewN q).setCell ⟨g, i * 10 + 2, none⟩ (.int .i32 j)) 122 10 (.slice (some ⟨g, 0, none⟩) l.length cap) l.length (vrs (l.set i { r with par := j }))) := HR.out
      generalize w.drewN q = wq at t5 t2 tc2 tc3 tc4 tf2 tf3 tf4 HC3 HC4 HF HR ⊢
      go_wp2_with fail
      go_ret
      rw [setCell_same HC3.out, setCell_same HC4.out]
      exact ⟨rfl, HR.out, HF.out⟩
end
end Go.Proofs.YbulkkeiFmt
