/-
  THE STORE (9): AddVoter.
-/
import Derived.Test.YbulkkeiFmtAdd2
import Derived.Test.YbulkkeiFmtAdmit
import Derived.Deep.RegionHeld3
import Derived.Laws.MakeOwn
namespace Go.Proofs.YbulkkeiFmt
open Go.RowKit Go.Extern.Stop Go.Stop Go.Extern
set_option maxRecDepth 8000
attribute [local go_sem ↓] Go.wp_at_zero Go.wp_at_succ

def entryV (s : Value) (n : Int) : Value := .agg #[s, .int .i32 n]
/-- What AddVoter hands back. -/
def Adds (A : SA) (L : Nat → Prop) (g : SG) (k : Nat) (c : Int) (p : ByteArray) (xs : List ByteArray) (w : World) (e : Ending) (w' : World) : Prop :=
  (∃ (v : Value), e = .returned (.tuple #[.agg #[.pointer none, .int .i32 0], v]) ∧ Err v ∧ (4 ≤ k ∨ c < 0 ∨ A.ch ≤ c ∨ (get g.es (nameB k)).isSome = true ∨ admitBad (kcOf g) g.R (nameB k) c (mkRefs (nameB k) c p xs) = true) ∧ Below w.heap.size w w') ∨
  (∃ (i : Nat) (r : VR), k < 4 ∧ ¬ c < 0 ∧ ¬ A.ch ≤ c ∧ e = .returned (.tuple #[entryV (.pointer (some ⟨A.s, 0, none⟩)) i, .nilIface]) ∧ get g.es (nameB k) = some (.int .i32 i) ∧ g.l[i]? = some r ∧ Below w.heap.size w w') ∨
  (∃ (slot : Nat) (vs co : Value) (par : Int) (cs : List Int) (er : List (ByteArray × Value)) (em eu : List (Int × Value)), k < 4 ∧ ¬ c < 0 ∧ ¬ A.ch ≤ c ∧ get g.es (nameB k) = none ∧ admitBad (kcOf g) g.R (nameB k) c (mkRefs (nameB k) c p xs) = false ∧ e = .returned (.tuple #[entryV (.pointer (some ⟨A.s, 0, none⟩)) g.l.length, .nilIface]) ∧ StoreOk A L w' (g.add vs co (nameB k) slot par cs er em eu (mkRefs (nameB k) c p xs)) ∧ g.cs <+: cs ∧ cs[slot]? = some c ∧ Fr L [83, 3, 122, 103] [A.ms, A.mi, A.mr, A.mu] w w')
theorem Adds.refused {A : SA} {L : Nat → Prop} {g : SG} {k : Nat} {c : Int} {p : ByteArray} {xs : List ByteArray} {w : World} {e : Ending} {w' : World} (v : Value) (h1 : e = .returned (.tuple #[.agg #[.pointer none, .int .i32 0], v])) (h2 : Err v) (h3 : (4 ≤ k ∨ c < 0 ∨ A.ch ≤ c ∨ (get g.es (nameB k)).isSome = true ∨ admitBad (kcOf g) g.R (nameB k) c (mkRefs (nameB k) c p xs) = true)) (h4 : Below w.heap.size w w') : Adds A L g k c p xs w e w' := .inl ⟨v, h1, h2, h3, h4⟩
theorem Adds.known {A : SA} {L : Nat → Prop} {g : SG} {k : Nat} {c : Int} {p : ByteArray} {xs : List ByteArray} {w : World} {e : Ending} {w' : World} (i : Nat) (r : VR) (h1 : k < 4) (h2 : ¬ c < 0) (h3 : ¬ A.ch ≤ c) (h4 : e = .returned (.tuple #[entryV (.pointer (some ⟨A.s, 0, none⟩)) i, .nilIface])) (h5 : get g.es (nameB k) = some (.int .i32 i)) (h6 : g.l[i]? = some r) (h7 : Below w.heap.size w w') : Adds A L g k c p xs w e w' := .inr (.inl ⟨i, r, h1, h2, h3, h4, h5, h6, h7⟩)
theorem Adds.new {A : SA} {L : Nat → Prop} {g : SG} {k : Nat} {c : Int} {p : ByteArray} {xs : List ByteArray} {w : World} {e : Ending} {w' : World} (slot : Nat) (vs co : Value) (par : Int) (cs : List Int) (er : List (ByteArray × Value)) (em eu : List (Int × Value)) (h1 : k < 4) (h2 : ¬ c < 0) (h3 : ¬ A.ch ≤ c) (h4 : get g.es (nameB k) = none) (h5 : admitBad (kcOf g) g.R (nameB k) c (mkRefs (nameB k) c p xs) = false) (h6 : e = .returned (.tuple #[entryV (.pointer (some ⟨A.s, 0, none⟩)) g.l.length, .nilIface])) (h7 : StoreOk A L w' (g.add vs co (nameB k) slot par cs er em eu (mkRefs (nameB k) c p xs))) (h8 : g.cs <+: cs) (h9 : cs[slot]? = some c) (h10 : Fr L [83, 3, 122, 103] [A.ms, A.mi, A.mr, A.mu] w w') : Adds A L g k c p xs w e w' := .inr (.inr ⟨slot, vs, co, par, cs, er, em, eu, h1, h2, h3, h4, h5, h6, h7, h8, h9, h10⟩)

set_option maxHeartbeats 12800000 in
theorem storeAdd_bad (F : Interp) {A : SA} {L : Nat → Prop} {w : World} {g : SG} (hF : F.answers w.tape) {k : Nat} (hk : k = 4 ∨ k = 5) (c : Int) (p : ByteArray) (vb : Value) (xs : List ByteArray) :
    Calls Ybaf.prog 11 #[.pointer (some ⟨A.s, 0, none⟩), blockV (nameB k) c p vb] w fun e w' => Adds A L g k c p xs w e w' := by
  unfold blockV
  have hw2 : F.answers ((w.alloc (.cells #[.string (nameB k), .int .i64 c, .string p, vb] 42)).alloc (.cells #[.pointer none, .int .i32 0] 57)).tape := hF
  have HF : Hid (F.answers ((w.alloc (.cells #[.string (nameB k), .int .i64 c, .string p, vb] 42)).alloc (.cells #[.pointer none, .int .i32 0] 57)).tape) := hw2
  have hlook : Calls Ybaf.prog 16 #[.pointer (some ⟨A.s, 0, none⟩), .string (nameB k)] ((w.alloc (.cells #[.string (nameB k), .int .i64 c, .string p, vb] 42)).alloc (.cells #[.pointer none, .int .i32 0] 57)) fun e w' => Below ((w.alloc (.cells #[.string (nameB k), .int .i64 c, .string p, vb] 42)).alloc (.cells #[.pointer none, .int .i32 0] 57)).heap.size ((w.alloc (.cells #[.string (nameB k), .int .i64 c, .string p, vb] 42)).alloc (.cells #[.pointer none, .int .i32 0] 57)) w' ∧ ∃ v, e = .returned (.tuple #[.int .i32 0, .bool false, v]) ∧ Err v := by
    rcases hk with rfl | rfl
    · exact lookUp_empty _ _
    · exact lookUp_gen F _ _ HF.out
  clear hw2
  go_enter Ybaf.func11, Ybaf.ntmps11
  go_wp2_with fail
  refine hlook.mono ?_
  rintro e w3 ⟨hB, v, rfl, a, rfl⟩
  have hb0 : w3.heap[w.heap.size + 1]? = some (.cells #[.pointer none, .int .i32 0] 57 (0, 0)) := by
    rw [hB.block (w.heap.size + 1) (by simp)]
    have := heap_alloc_new (w.alloc (.cells #[.string (nameB k), .int .i64 c, .string p, vb] 42)) (.cells #[.pointer none, .int .i32 0] 57)
    simpa using this
  have t0 : w3.cell? ⟨w.heap.size + 1, 0, none⟩ = some (.pointer none) := by simp [World.cell?, hb0]
  have t1 : w3.cell? ⟨w.heap.size + 1, 1, none⟩ = some (.int .i32 0) := by simp [World.cell?, hb0]
  have t2 : w3.frozen? ⟨w.heap.size + 1, 0, none⟩ = false := by simp [World.frozen?, hb0]
  have t3 : w3.frozen? ⟨w.heap.size + 1, 1, none⟩ = false := by simp [World.frozen?, hb0]
  have s0 := setCell_same t0
  have s1 := setCell_same t1
  have HB3 : Hid (Below w.heap.size w w3) := by
    have h1 : Below w.heap.size w ((w.alloc (.cells #[.string (nameB k), .int .i64 c, .string p, vb] 42)).alloc (.cells #[.pointer none, .int .i32 0] 57)) := ((Below.refl _ w).alloc (Nat.le_refl _) _).alloc (by simp) _
    exact h1.trans (hB.mono (by simp; omega))
  clear hB hb0
  go_wp2_with fail
  refine bodyPost_ret (v := .tuple #[.agg #[.pointer none, .int .i32 0], .iface 113 (.pointer (some a))]) ?_ rfl ?_
  · simp [results]
    go_simp
  · exact .refused _ rfl ⟨a, rfl⟩ (.inl (by omega)) HB3.out

/-- The variables of AddVoter: the block that came in, the entry that goes out. -/
structure SaVars (w : World) (id : ByteArray) (c : Int) (p : ByteArray) (vb : Value) (w' : World) : Prop where
  box : w'.heap[w.heap.size]? = some (.cells #[.string id, .int .i64 c, .string p, vb] 42 (0, 0))
  res : w'.heap[w.heap.size + 1]? = some (.cells #[.pointer none, .int .i32 0] 57 (0, 0))
theorem SaVars.below {w w1 w' : World} {id : ByteArray} {c : Int} {p : ByteArray} {vb : Value} (h : SaVars w id c p vb w1) (hB : Below w1.heap.size w1 w') : SaVars w id c p vb w' :=
  ⟨(hB.block _ (Array.getElem?_eq_some_iff.1 h.box).1).trans h.box, (hB.block _ (Array.getElem?_eq_some_iff.1 h.res).1).trans h.res⟩
theorem SaVars.cells {w w' : World} {id : ByteArray} {c : Int} {p : ByteArray} {vb : Value} (h : SaVars w id c p vb w') :
    w'.cell? ⟨w.heap.size, 0, none⟩ = some (.string id) ∧ w'.cell? ⟨w.heap.size, 1, none⟩ = some (.int .i64 c) ∧ w'.cell? ⟨w.heap.size, 2, none⟩ = some (.string p) ∧ w'.cell? ⟨w.heap.size, 3, none⟩ = some vb ∧
    w'.cell? ⟨w.heap.size + 1, 0, none⟩ = some (.pointer none) ∧ w'.cell? ⟨w.heap.size + 1, 1, none⟩ = some (.int .i32 0) ∧ w'.frozen? ⟨w.heap.size + 1, 0, none⟩ = false ∧ w'.frozen? ⟨w.heap.size + 1, 1, none⟩ = false := by
  refine ⟨?_, ?_, ?_, ?_, ?_, ?_, ?_, ?_⟩
  all_goals first | (simp [World.cell?, h.box]; done) | (simp [World.cell?, h.res]; done) | (simp [World.frozen?, h.res]; done)

section
variable {A : SA} {L : Nat → Prop} {w : World} {g : SG}
/-- The block is known: is it the same? -/
theorem same_both (hG : StoreOk A L w g) {i : Nat} {r : VR} (hi : g.l[i]? = some r) (id : ByteArray) (c : Int) (p : ByteArray) {vb : Value} {xs : List ByteArray} (hv : w.ownsRow 0 9 1 vb xs.length (strs xs)) :
    Calls Ybaf.prog 18 #[.pointer (some ⟨A.s, 0, none⟩), .int .i32 i, blockV id c p vb] w fun e w' => ∃ v, e = .returned v ∧ IsBool v ∧ Below w.heap.size w w' := by
  have hS := hG.at_.cells
  by_cases hp : r.par = -2
  · obtain ⟨u, cu, pu, vu, ys, k1, k2, k3⟩ := hG.boxes i r hi hp
    exact sameVoter_un (cu := cu) (pu := pu) (vu := vu) hS.2.2.2.2.2.2.2.2 hG.unres k1 (by simp [World.cell?, k2.box]) (by simp [World.cell?, k2.box]) (by simp [World.cell?, k2.box]) k2.row.1 id c p hv
  · have hnone : get g.eu (i : Int) = none := by
      cases hk : get g.eu (i : Int) with
      | none => rfl
      | some v =>
        obtain ⟨r', h1, h2⟩ := hG.plain.eu i v hk
        rw [hi] at h1
        cases h1
        exact absurd h2 hp
    have hsl := hG.plain.slot i r hi
    rcases hG.plain.recs.par i r hi with h1 | h1 | ⟨j, q, h1, h2, _⟩
    · exact absurd h1 hp
    · exact sameVoter_res hS.2.2.1 hS.2.2.2.2.2.2.1 hS.2.2.2.2.2.2.2.2 hG.unres i hnone hG.vrow r hi hG.crow _ (List.getElem?_eq_getElem hsl) gen (.inl ⟨h1, rfl⟩) id c p hv
    · exact sameVoter_res hS.2.2.1 hS.2.2.2.2.2.2.1 hS.2.2.2.2.2.2.2.2 hG.unres i hnone hG.vrow r hi hG.crow _ (List.getElem?_eq_getElem hsl) q.id (.inr ⟨j, q, h1, h2, rfl⟩) id c p hv
end

/-- The row of references, as it is made. -/
structure RefsMade (w3 : World) (rf : List RF) (v : Value) (wr : World) : Prop where
  row : Row noN wr 103 4 v rf.length (rfs rf)
  own : ∀ b, v.ownBlock = some b → w3.heap.size ≤ b
  below : Below w3.heap.size w3 wr
theorem RefsMade.grew {w3 wr w' : World} {rf : List RF} {v v' z : Value} (h : RefsMade w3 rf v wr) (r : RF) {c : Array Value} (hG : Grew noN 103 4 z v rf.length 1 (rfs rf) r.enc (wr.alloc (.cells c 103)) v' w') : RefsMade w3 (rf ++ [r]) v' w' where
  row := by
    rw [List.length_append, rfs_append]
    have := hG.row
    simpa [rfs] using this
  own b hb := by
    rcases hG.at_ with h2 | h2
    · rw [h2] at hb
      exact h.own b hb
    · rw [h2] at hb
      cases hb
      have := h.below.size
      simp
      omega
  below := by
    refine h.below.trans ⟨hG.fr.os, hG.fr.tape, hG.fr.output, ?_, fun k hk => ?_⟩
    · have h2 := hG.fr.size
      simp at h2
      omega
    · have h3 := h.below.size
      rw [hG.other k (by simp; omega) ?_]
      · exact Below.heap_alloc wr _ k (by omega)
      · intro e
        have := h.own k e.symm
        omega
theorem StoreOk.mono {A : SA} {N N' : Nat → Prop} {w : World} {g : SG} (h : StoreOk A N' w g) (hN : ∀ k, N k → N' k) : StoreOk A N w g := by
  have r : ∀ {e : TypeId} {sz : Nat} {v : Value} {n : Nat} {xs : List Value}, Row N' w e sz v n xs → Row N w e sz v n xs := fun hr => ⟨hr.1, fun k hk hn => hr.2 k hk (hN k hn)⟩
  refine ⟨h.at_, h.index, h.slots, h.refs, h.unres, h.once, h.onceU, ⟨fun k => r (h.rok.row k), h.rok.apart⟩, r h.vrow, r h.crow, h.sok, ?_, h.plain⟩
  intro i q hi hp
  obtain ⟨u, c, p, vv, xs, h1, h2, h3⟩ := h.boxes i q hi hp
  exact ⟨u, c, p, vv, xs, h1, ⟨h2.box, r h2.row⟩, h3⟩
theorem mkRefs_take {id : ByteArray} {c : Int} {p : ByteArray} {xs : List ByteArray} {j : Nat} {y : ByteArray} (h : xs[j]? = some y) : mkRefs id c p (xs.take (j + 1)) = mkRefs id c p (xs.take j) ++ [⟨id, y, 3, 0⟩] := by
  unfold mkRefs
  rw [List.take_add_one, h]
  simp

set_option maxHeartbeats 12800000 in
theorem storeAdd_ok (F : Interp) {A : SA} {L : Nat → Prop} {w : World} {g : SG} (hF : F.answers w.tape) (hA : A.Ok L) (hL : ∀ j, L j → j < w.heap.size) (hG : StoreOk A L w g) {k : Nat} (hk : k < 4) (c : Int) (hc1 : -1000 < c) (hc2 : c < 1000) {p : ByteArray} (hp : p = gen ∨ Less p (nameB k)) {vb : Value} {gb cb : Nat} {xs : List ByteArray} (hvb : vb = .slice (some ⟨gb, 0, none⟩) xs.length cb) (hvr : w.ownsRow 0 9 1 vb xs.length (strs xs)) (hx : xs.length ≤ 256) :
    Calls Ybaf.prog 11 #[.pointer (some ⟨A.s, 0, none⟩), blockV (nameB k) c p vb] w fun e w' => Adds A L g k c p xs w e w' := by
  unfold blockV
  obtain ⟨w1, hw1⟩ : ∃ w1, w1 = (w.alloc (.cells #[.string (nameB k), .int .i64 c, .string p, vb] 42)).alloc (.cells #[.pointer none, .int .i32 0] 57) := ⟨_, rfl⟩
  have hB1 : Below w.heap.size w w1 := by rw [hw1]; exact ((Below.refl _ w).alloc (Nat.le_refl _) _).alloc (by simp) _
  have hV1 : SaVars w (nameB k) c p vb w1 := by
    rw [hw1]
    constructor
    · rw [Below.heap_alloc _ _ _ (by simp)]
      exact heap_alloc_new w _
    · have := heap_alloc_new (w.alloc (.cells #[.string (nameB k), .int .i64 c, .string p, vb] 42)) (.cells #[.pointer none, .int .i32 0] 57)
      simpa using this
  have hf1 : Fr L [] [] w w1 := Fr.of_below hB1
  have hG1 : StoreOk A L w1 g := hG.kept hf1 (by simp) (by simp)
  have hlook := lookUp_ok hG1.at_ hG1.index (nameB k) (nameB_ne_empty hk) (nameB_ne_gen hk)
  have HG1 : Hid (StoreOk A L w1 g) := hG1
  have HB1 : Hid (Below w.heap.size w w1) := hB1
  have HV1 : Hid (SaVars w (nameB k) c p vb w1) := hV1
  have HF : Hid (F.answers w.tape) := hF
  have HVR : Hid (w.ownsRow 0 9 1 vb xs.length (strs xs)) := hvr
  have HVB : Hid (vb = .slice (some ⟨gb, 0, none⟩) xs.length cb) := hvb
  have Hw1 : Hid (w1 = (w.alloc (.cells #[.string (nameB k), .int .i64 c, .string p, vb] 42)).alloc (.cells #[.pointer none, .int .i32 0] 57)) := hw1
  obtain ⟨B, hB⟩ : ∃ B, B = w.heap.size := ⟨_, rfl⟩
  have HB : Hid (B = w.heap.size) := hB
  obtain ⟨b0, b1, b2, b3, b4, b5, b6, b7⟩ := hV1.cells
  rw [← hB] at b0 b1 b2 b3 b4 b5 b6 b7
  have s0 := hG1.at_.cells.1
  have e4 := setCell_same b4
  have e5 := setCell_same b5
  have HA : Hid (A.Ok L) := hA
  have HLow : Hid (∀ j, L j → j < w.heap.size) := hL
  have HG : Hid (StoreOk A L w g) := hG
  clear hF hw1 hB1 hV1 hf1 hG1 hvr hA hL hG hB hvb
  go_enter Ybaf.func11, Ybaf.ntmps11
  go_wp2_with fail
  rw [← Hw1.out, ← HB.out]
  refine hlook.mono ?_
  rintro e w2 ⟨rfl, rfl⟩
  clear hlook
  have hend : ∀ (a : Addr) (w' : World), Below w.heap.size w w' → (4 ≤ k ∨ c < 0 ∨ A.ch ≤ c ∨ (get g.es (nameB k)).isSome = true ∨ admitBad (kcOf g) g.R (nameB k) c (mkRefs (nameB k) c p xs) = true) → Hid (Adds A L g k c p xs w (.returned (.tuple #[.agg #[.pointer none, .int .i32 0], .iface 113 (.pointer (some a))])) w') := fun a w' h1 h2 => .refused _ rfl ⟨a, rfl⟩ h2 h1
  have HEND : Hid (∀ (a : Addr) (w' : World), Below w.heap.size w w' → (4 ≤ k ∨ c < 0 ∨ A.ch ≤ c ∨ (get g.es (nameB k)).isSome = true ∨ admitBad (kcOf g) g.R (nameB k) c (mkRefs (nameB k) c p xs) = true) → Hid (Adds A L g k c p xs w (.returned (.tuple #[.agg #[.pointer none, .int .i32 0], .iface 113 (.pointer (some a))])) w')) := hend
  clear hend
  by_cases hcr : c < 0 ∨ A.ch ≤ c
  · have HOV : Hid (c < 0 ∨ A.ch ≤ c) := hcr
    have tail : ∀ nq : Nat, Hid (F.answers (w2.drewN nq).tape) ∧ Hid (Below w.heap.size w (w2.drewN nq)) ∧ Hid (SaVars w (nameB k) c p vb (w2.drewN nq)) ∧ (w2.drewN nq).cell? ⟨B, 0, none⟩ = some (.string (nameB k)) ∧ (w2.drewN nq).cell? ⟨B, 1, none⟩ = some (.int .i64 c) ∧ (w2.drewN nq).cell? ⟨A.s, 0, none⟩ = some (.int .i64 A.ch) := fun nq =>
      ⟨by show F.answers (w2.drewN nq).tape; rw [(below_drewN HB1.out nq).tape]; exact HF.out, below_drewN HB1.out nq, ⟨HV1.out.box, HV1.out.res⟩, b0, b1, s0⟩
    have HTL : Hid (∀ nq : Nat, Hid (F.answers (w2.drewN nq).tape) ∧ Hid (Below w.heap.size w (w2.drewN nq)) ∧ Hid (SaVars w (nameB k) c p vb (w2.drewN nq)) ∧ (w2.drewN nq).cell? ⟨B, 0, none⟩ = some (.string (nameB k)) ∧ (w2.drewN nq).cell? ⟨B, 1, none⟩ = some (.int .i64 c) ∧ (w2.drewN nq).cell? ⟨A.s, 0, none⟩ = some (.int .i64 A.ch)) := tail
    clear tail
    by_cases hneg : c < 0
    · have d1 : decide (c < 0) = true := by simpa using hneg
      go_wp2_with fail
      go_quiet (fail)
      rename_i nq
      go_wp2_with fail
      obtain ⟨HF3, HB3, HV3, t0, t1, ts⟩ := HTL.out nq
      clear b0 b1 b2 b3 b4 b5 b6 b7 s0 e4 e5
      generalize w2.drewN nq = w3 at HF3 HB3 HV3 t0 t1 ts ⊢
      go_region_law
       ((go_simp
         go_at_call 17
         refine (errf1 F w3.heap.size (nameB k) c (IntKind.i64.wrap (A.ch - 1)) _ ?h1 ?h2 ?h3 ?h4).mono ?_
         case h1 => exact HF3.out
         case h2 => simp
         case h3 => simp
         case h4 => simp
         rintro e w4 ⟨⟨v, rfl, a, rfl⟩, hB4⟩
         have HB4 : Hid (Below w3.heap.size w3 w4) := (((Below.refl _ w3).alloc (Nat.le_refl _) _).drew).trans (hB4.mono (by simp))
         clear hB4
         obtain ⟨-, -, -, -, h4, h5, h6, h7⟩ := (HV3.out.below HB4.out).cells
         rw [← HB.out] at h4 h5 h6 h7
         have e4 := setCell_same h4
         have e5 := setCell_same h5))
      all_goals
        have HBw : Hid (Below w.heap.size w w4) := HB3.out.trans (HB4.out.mono HB3.out.size)
        go_wp2_with fail
        refine bodyPost_ret (v := .tuple #[.agg #[.pointer none, .int .i32 0], .iface 113 (.pointer (some a))]) ?_ rfl ?_
        · simp [results]
          go_simp
        · exact HEND.out a _ HBw.out (HOV.out.elim (fun h => .inr (.inl h)) (fun h => .inr (.inr (.inl h))))
    · have d1 : decide (c < 0) = false := by simp; omega
      have d2 : decide (A.ch ≤ c) = true := by simp; omega
      go_wp2_with fail
      go_quiet (fail)
      rename_i nq
      go_wp2_with fail
      obtain ⟨HF3, HB3, HV3, t0, t1, ts⟩ := HTL.out nq
      clear b0 b1 b2 b3 b4 b5 b6 b7 s0 e4 e5
      generalize w2.drewN nq = w3 at HF3 HB3 HV3 t0 t1 ts ⊢
      go_region_law
       ((go_simp
         go_at_call 17
         refine (errf1 F w3.heap.size (nameB k) c (IntKind.i64.wrap (A.ch - 1)) _ ?h1 ?h2 ?h3 ?h4).mono ?_
         case h1 => exact HF3.out
         case h2 => simp
         case h3 => simp
         case h4 => simp
         rintro e w4 ⟨⟨v, rfl, a, rfl⟩, hB4⟩
         have HB4 : Hid (Below w3.heap.size w3 w4) := (((Below.refl _ w3).alloc (Nat.le_refl _) _).drew).trans (hB4.mono (by simp))
         clear hB4
         obtain ⟨-, -, -, -, h4, h5, h6, h7⟩ := (HV3.out.below HB4.out).cells
         rw [← HB.out] at h4 h5 h6 h7
         have e4 := setCell_same h4
         have e5 := setCell_same h5))
      all_goals
        have HBw : Hid (Below w.heap.size w w4) := HB3.out.trans (HB4.out.mono HB3.out.size)
        go_wp2_with fail
        refine bodyPost_ret (v := .tuple #[.agg #[.pointer none, .int .i32 0], .iface 113 (.pointer (some a))]) ?_ rfl ?_
        · simp [results]
          go_simp
        · exact HEND.out a _ HBw.out (HOV.out.elim (fun h => .inr (.inl h)) (fun h => .inr (.inr (.inl h))))
  · have hc0 : ¬ c < 0 := fun h => hcr (.inl h)
    have hcg : ¬ A.ch ≤ c := fun h => hcr (.inr h)
    have d1 : decide (c < 0) = false := by simp; omega
    have d2 : decide (A.ch ≤ c) = false := by simp; omega
    have HC0 : Hid (¬ c < 0) := hc0
    have HCG : Hid (¬ A.ch ≤ c) := hcg
    clear hcr
    cases hk2 : get g.es (nameB k) with
    | some vi =>
      obtain ⟨i, r, rfl, hi, hid⟩ := (HG1.out.plain.index _ vi).1 hk2
      have HK : Hid (get g.es (nameB k) = some (.int .i32 i)) := hk2
      have HI : Hid (g.l[i]? = some r) := hi
      have hneg : decide ((i : Int) < 0) = false := by simp
      clear hk2 hi hid
      go_wp2_with fail
      go_quiet (fail)
      rename_i nq
      have HG2 : Hid (StoreOk A L (w2.drewN nq) g) := HG1.out.kept ((Fr.refl L [] [] w2).drewN nq) (by simp) (by simp)
      have HB2 : Hid (Below w.heap.size w (w2.drewN nq)) := below_drewN HB1.out nq
      have HV2 : Hid (SaVars w (nameB k) c p vb (w2.drewN nq)) := ⟨HV1.out.box, HV1.out.res⟩
      have HVR2 : Hid ((w2.drewN nq).ownsRow 0 9 1 vb xs.length (strs xs)) := ownsRow_kept HVR.out (Fr.of_below (N := noN) (W := []) (M := []) HB2.out) (by simp)
      clear e4 e5
      go_wp2_with fail
      refine (same_both HG2.out HI.out (nameB k) c p HVR2.out).mono ?_
      rintro e w3 ⟨v, rfl, ⟨bb, rfl⟩, hB3⟩
      have HB3 : Hid (Below w.heap.size w w3) := HB2.out.trans (hB3.mono HB2.out.size)
      have HV3 : Hid (SaVars w (nameB k) c p vb w3) := HV2.out.below hB3
      have HF3 : Hid (F.answers w3.tape) := by show F.answers w3.tape; rw [HB3.out.tape]; exact HF.out
      obtain ⟨f0, f1, f2, f3, f4, f5, f6, f7⟩ := HV3.out.cells
      rw [← HB.out] at f0 f1 f2 f3 f4 f5 f6 f7
      clear hB3 b0 b1 b2 b3 b4 b5 b6 b7
      cases bb with
      | false =>
        go_wp2_with fail
        refine (used2 F (nameB k) w3 HF3.out).mono ?_
        rintro e w4 ⟨⟨v, rfl, a, rfl⟩, hB4⟩
        have HB4 : Hid (Below w.heap.size w w4) := HB3.out.trans (hB4.mono HB3.out.size)
        obtain ⟨-, -, -, -, h4, h5, h6, h7⟩ := (HV3.out.below hB4).cells
        rw [← HB.out] at h4 h5 h6 h7
        have e4 := setCell_same h4
        have e5 := setCell_same h5
        clear hB4 f0 f1 f2 f3 f4 f5 f6 f7
        go_wp2_with fail
        refine bodyPost_ret (v := .tuple #[.agg #[.pointer none, .int .i32 0], .iface 113 (.pointer (some a))]) ?_ rfl ?_
        · simp [results]
          go_simp
        · exact HEND.out a _ HB4.out (.inr (.inr (.inr (.inl (by rw [HK.out]; rfl)))))
      | true =>
        have HBs : Hid (Below w.heap.size w ((w3.setCell ⟨B + 1, 0, none⟩ (.pointer (some ⟨A.s, 0, none⟩))).setCell ⟨B + 1, 1, none⟩ (.int .i32 i))) := by
          have h1 := HB3.out
          have h2 := HB.out
          exact ⟨h1.os, h1.tape, h1.output, by simpa using h1.size, fun j hj => by
            rw [heap_setCell_other _ (by omega), heap_setCell_other _ (by omega)]
            exact h1.block j hj⟩
        go_wp2_with fail
        refine bodyPost_ret (v := .tuple #[.agg #[.pointer (some ⟨A.s, 0, none⟩), .int .i32 i], .nilIface]) ?_ rfl ?_
        · simp [results]
          go_simp
        · exact .known i r hk (by have := HC0.out; omega) (by have := HCG.out; omega) rfl HK.out HI.out HBs.out
    | none =>
      have HK : Hid (get g.es (nameB k) = none) := hk2
      clear hk2
      go_wp2_with fail
      go_quiet (fail)
      rename_i nq
      obtain ⟨w3, Hw3⟩ : ∃ w3, Hid (w3 = w2.drewN nq) := ⟨_, rfl⟩
      have HB3 : Hid (Below w.heap.size w w3) := by show Below w.heap.size w w3; rw [Hw3.out]; exact below_drewN HB1.out nq
      have HG3 : Hid (StoreOk A L w3 g) := by show StoreOk A L w3 g; rw [Hw3.out]; exact HG1.out.kept ((Fr.refl L [] [] w2).drewN nq) (by simp) (by simp)
      have HV3 : Hid (SaVars w (nameB k) c p vb w3) := by show SaVars w (nameB k) c p vb w3; rw [Hw3.out]; exact ⟨HV1.out.box, HV1.out.res⟩
      have hmk : (Instr.makeSlice 100 (.int .i64 0) (.int .i64 (1 + (xs.length : Int)))).run Ybaf.prog w3 = .ok (.slice (some ⟨w3.heap.size, 0, none⟩) 0 (xs.length + 1)) (w3.alloc (.cells (madeCells (Value.cells (.agg #[.string ⟨#[]⟩, .string ⟨#[]⟩, .int .i64 0, .int .i64 0])) ((xs.length + 1) * 4)) 103)) := by
        have h1 := run_makeSlice (P := Ybaf.prog) (w := w3) 100 103 Ybaf.t103 _ Ybaf.underlying100 (by kernel_rfl) hz103 .i64 .i64 0 (((xs.length + 1 : Nat) : Int)) (by omega) (by omega) (by simp only [Int.toNat_natCast]; show (xs.length + 1) * 4 ≤ _; omega) (by show ((48 : Nat) : Int) * _ ≤ _; omega) (by omega)
        simp only [Int.toNat_natCast, Int.toNat_zero] at h1
        rw [show (1 + (xs.length : Int)) = ((xs.length + 1 : Nat) : Int) by omega]
        exact h1
      have hrow0 : Row noN (w3.alloc (.cells (madeCells (Value.cells (.agg #[.string ⟨#[]⟩, .string ⟨#[]⟩, .int .i64 0, .int .i64 0])) ((xs.length + 1) * 4)) 103)) 103 4 (.slice (some ⟨w3.heap.size, 0, none⟩) 0 (xs.length + 1)) 0 [] :=
        ⟨World.ownsRow_made w3 _ (xs.length + 1) (Nat.zero_le _) (by simp [maxLen]; omega) (size_madeCells _ _), fun _ _ h => h⟩
      have HR0 : Hid (Row noN (w3.alloc (.cells (madeCells (Value.cells (.agg #[.string ⟨#[]⟩, .string ⟨#[]⟩, .int .i64 0, .int .i64 0])) ((xs.length + 1) * 4)) 103)) 103 4 (.slice (some ⟨w3.heap.size, 0, none⟩) 0 (xs.length + 1)) 0 []) := hrow0
      obtain ⟨b0, b1, b2, b3, b4, b5, b6, b7⟩ := HV3.out.cells
      rw [← HB.out] at b0 b1 b2 b3 b4 b5 b6 b7
      rw [HVB.out] at b3
      have zB := blk b0
      rw [← Hw3.out]
      clear hrow0
      generalize hMC : madeCells (Value.cells (.agg #[.string ⟨#[]⟩, .string ⟨#[]⟩, .int .i64 0, .int .i64 0])) ((xs.length + 1) * 4) = mc at hmk HR0
      clear hMC
      go_wp2_with ((at_builtin; refine Stop'.intro ?_))
      unfold Stop'
      refine wpList_append_row _ rfl _ _ 100 rfl 103 Ybaf.t103 (.agg #[.string ⟨#[]⟩, .string ⟨#[]⟩, .int .i64 0, .int .i64 0]) 4 48 Ybaf.underlying100 (by kernel_rfl) hz103 rfl rfl rfl (by decide) (N := noN) (fun k hk => hk.elim) (.slice (some ⟨w3.heap.size, 0, none⟩) 0 (xs.length + 1)) 0 [] rfl (HR0.out.kept ((Fr.refl noN [] [] _).alloc _) (by simp)) ⟨w3.heap.size + 1, 0, none⟩ 1 1 [.string (nameB k), .string p, .int .i64 2, .int .i64 c] rfl rfl ?n2 (by simp [Value.oneCell']) (by simp [maxLen]) (by omega) ?_
      case n2 =>
        have := news_alloc (w3.alloc (.cells mc 103)) [.string (nameB k), .string p, .int .i64 2, .int .i64 c] 103
        simpa using this
      intro v1 w4 hG4
      have HM4 : Hid (RefsMade w3 (mkRefs (nameB k) c p (xs.take 0)) v1 w4) := by
        have h0 : RefsMade w3 [] (.slice (some ⟨w3.heap.size, 0, none⟩) 0 (xs.length + 1)) (w3.alloc (.cells mc 103)) := ⟨HR0.out, by intro b hb; simp [Value.ownBlock] at hb; omega, (Below.refl _ w3).alloc (Nat.le_refl _) _⟩
        exact h0.grew ⟨nameB k, p, 2, c⟩ hG4
      obtain ⟨o4, c4, rfl, _, _⟩ := ownsRow_slice hG4.row.1
      have HV4 : Hid (SaVars w (nameB k) c p vb w4) := HV3.out.below HM4.out.below
      obtain ⟨d0, d1, d2, d3, d4, d5, d6, d7⟩ := HV4.out.cells
      rw [← HB.out] at d0 d1 d2 d3 d4 d5 d6 d7
      rw [HVB.out] at d3
      clear hG4 hmk b0 b1 b2 b3 b4 b5 b6 b7 HR0
      go_wp2_with fail
      go_loopw [9, 94] (fun s9 s94 wr => ∃ j : Nat, s94 = .int .i64 j ∧ j ≤ xs.length ∧ RefsMade w3 (mkRefs (nameB k) c p (xs.take j)) s9 wr) (fun _ s94 _ => xs.length - (intOf s94).toNat)
      case atStart => exact ⟨0, rfl, Nat.zero_le _, HM4.out⟩
      case round =>
        clear HM4 HV4 d0 d1 d2 d3 d4 d5 d6 d7
        obtain ⟨j, rfl, hj, hM⟩ := hrel
        obtain ⟨o5, c5, hv5, _, _⟩ := ownsRow_slice hM.row.1
        subst hv5
        have HM5 : Hid (RefsMade w3 (mkRefs (nameB k) c p (xs.take j)) (.slice o5 (mkRefs (nameB k) c p (xs.take j)).length c5) wr) := hM
        have HV5 : Hid (SaVars w (nameB k) c p vb wr) := HV3.out.below hM.below
        obtain ⟨d0, d1, d2, d3, d4, d5, d6, d7⟩ := HV5.out.cells
        rw [← HB.out] at d0 d1 d2 d3 d4 d5 d6 d7
        clear hM
        by_cases hjn : j < xs.length
        · obtain ⟨y, hy⟩ : ∃ y, xs[j]? = some y := ⟨_, List.getElem?_eq_getElem hjn⟩
          have HY : Hid (xs[j]? = some y) := hy
          have hvr5 := ownsRow_kept HVR.out (Fr.of_below (N := noN) (W := []) (M := []) (HB3.out.trans (HM5.out.below.mono HB3.out.size))) (by simp)
          have hcy : wr.cell? ⟨gb, j, none⟩ = some (.string y) := by
            have h1 := hvr5.cells (g := gb) (by rw [HVB.out]; rfl) j (.string y) (by simp [strs, hy])
            rwa [ownsRow_add] at h1
          obtain ⟨_, _, hvv, k1, k2⟩ := ownsRow_slice hvr5
          rw [HVB.out] at hvv
          cases hvv
          simp only [maxLen] at k2
          clear hy hvr5
          have hrl : (mkRefs (nameB k) c p (xs.take j)).length ≤ 300 := by rw [mkRefs_len]; simp; omega
          go_wp2_with ((at_builtin; refine Stop'.intro ?_))
          unfold Stop'
          refine wpList_append_row _ rfl _ _ 100 rfl 103 Ybaf.t103 (.agg #[.string ⟨#[]⟩, .string ⟨#[]⟩, .int .i64 0, .int .i64 0]) 4 48 Ybaf.underlying100 (by kernel_rfl) hz103 rfl rfl rfl (by decide) (N := noN) (fun k hk => hk.elim) (.slice o5 (mkRefs (nameB k) c p (xs.take j)).length c5) _ (rfs (mkRefs (nameB k) c p (xs.take j))) rfl (HM5.out.row.kept ((Fr.refl noN [] [] _).alloc _) (by simp)) ⟨wr.heap.size, 0, none⟩ 1 1 [.string (nameB k), .string y, .int .i64 3, .int .i64 0] rfl rfl (news_alloc wr _ _) (by simp [Value.oneCell']) (by simp [maxLen]; omega) (by omega) ?_
          intro v6 w6 hG6
          have HM6 : Hid (RefsMade w3 (mkRefs (nameB k) c p (xs.take (j + 1))) v6 w6) := by
            show RefsMade w3 (mkRefs (nameB k) c p (xs.take (j + 1))) v6 w6
            rw [mkRefs_take HY.out]
            exact HM5.out.grew ⟨nameB k, y, 3, 0⟩ hG6
          obtain ⟨o6, c6, rfl, _, _⟩ := ownsRow_slice hG6.row.1
          clear hG6
          go_wp2_with fail
          go_roundw
          case rel => exact ⟨j + 1, by simp, by omega, HM6.out⟩
          case measure => simp [intOf]; omega
        · have etk : xs.take j = xs := List.take_of_length_le (by omega)
          have HM6 : Hid (RefsMade w3 (mkRefs (nameB k) c p xs) (.slice o5 (mkRefs (nameB k) c p xs).length c5) wr) := by
            have := HM5.out
            rw [etk] at this
            exact this
          rw [etk]
          have hBr : Below w.heap.size w wr := HB3.out.trans (HM6.out.below.mono HB3.out.size)
          have HBr : Hid (Below w.heap.size w wr) := hBr
          have hf5 : Fr L [] [] w3 wr := Fr.of_below HM6.out.below
          have hG5 : StoreOk A L wr g := HG3.out.kept hf5 (by simp) (by simp)
          have HG5 : Hid (StoreOk A L wr g) := hG5
          have hF5 : F.answers wr.tape := by rw [hBr.tape]; exact HF.out
          have hadm := admit_ok F (N := L) hG5.at_ hF5 hG5.index hG5.refs hG5.rok hG5.vrow hG5.plain.len hG5.crow hG5.plain.knows (nameB k) c HM6.out.row.1 (mkRefs_roles _ _ _ _) (hG5.plain.roles _) (fun x => by
            have h1 := hG5.plain.rlen x
            have h2 := hG5.plain.len
            rw [mkRefs_len]
            omega)
          clear hBr hf5 hG5 hF5 etk HM5
          go_wp2_with fail
          refine hadm.mono ?_
          rintro e w6 ⟨hB6, v, rfl, hv⟩
          have HB6 : Hid (Below wr.heap.size wr w6) := hB6
          have HBw : Hid (Below w.heap.size w w6) := HBr.out.trans (hB6.mono HBr.out.size)
          have HV6 : Hid (SaVars w (nameB k) c p vb w6) := HV5.out.below hB6
          obtain ⟨h0, h1, h2, h3, h4, h5, h6, h7⟩ := HV6.out.cells
          rw [← HB.out] at h0 h1 h2 h3 h4 h5 h6 h7
          clear hB6 hadm d0 d1 d2 d3 d4 d5 d6 d7
          cases hbd : admitBad (kcOf g) g.R (nameB k) c (mkRefs (nameB k) c p xs) with
          | true =>
            rw [hbd] at hv
            obtain ⟨a, rfl⟩ : Err v := hv
            have HBD : Hid (admitBad (kcOf g) g.R (nameB k) c (mkRefs (nameB k) c p xs) = true) := hbd
            have e4 := setCell_same h4
            have e5 := setCell_same h5
            clear hbd
            go_wp2_with fail
            refine bodyPost_ret (v := .tuple #[.agg #[.pointer none, .int .i32 0], .iface 113 (.pointer (some a))]) ?_ rfl ?_
            · simp [results]
              go_simp
            · exact HEND.out a _ HBw.out (.inr (.inr (.inr (.inr HBD.out))))
          | false =>
            rw [hbd] at hv
            have hv' : v = .nilIface := hv
            subst hv'
            have HBD : Hid (admitBad (kcOf g) g.R (nameB k) c (mkRefs (nameB k) c p xs) = false) := hbd
            clear hbd hv
            obtain ⟨L', hL'⟩ : ∃ L' : Nat → Prop, L' = fun j => L j ∨ (Value.slice o5 (mkRefs (nameB k) c p xs).length c5).ownBlock = some j := ⟨_, rfl⟩
            have hgrow : ∀ j, L' j → L j ∨ w3.heap.size ≤ j := by
              intro j hj
              rw [hL'] at hj
              rcases hj with hj | hj
              · exact .inl hj
              · exact .inr (HM6.out.own j hj)
            have hf36 : Fr L' [] [] w3 w6 := (Fr.of_below HM6.out.below).trans (Fr.of_below HB6.out)
            have HG6 : Hid (StoreOk A L' w6 g) := (HG3.out.grow hgrow).kept hf36 (by simp) (by simp)
            have HA6 : Hid (A.Ok L') := HA.out.grow HG3.out hgrow
            have HN6 : Hid (∀ j, L' j → j < w6.heap.size) := by
              intro j hj
              rw [hL'] at hj
              rcases hj with hj | hj
              · exact Nat.lt_of_lt_of_le (HLow.out j hj) HBw.out.size
              · exact Nat.lt_of_lt_of_le (HM6.out.row.lt j hj) HB6.out.size
            have hvr6 := ownsRow_kept HVR.out (Fr.of_below (N := noN) (W := []) (M := []) HBw.out) (by simp)
            have hrs6 := ownsRow_kept HM6.out.row.1 (Fr.of_below (N := noN) (W := []) (M := []) HB6.out) (by simp)
            rw [show (mkRefs (nameB k) c p xs).length = xs.length + 1 from mkRefs_len _ _ _ _] at hrs6
            have hadd := addVoter_ok HA6.out HN6.out HG6.out hk HK.out c hp HVB.out hvr6 hx hrs6 (fun j hj => by rw [hL']; exact .inr (by rw [mkRefs_len]; exact hj)) HBD.out
            have HLL : Hid (∀ j, L j → L' j) := by
              intro j hj
              rw [hL']
              exact .inl hj
            rw [mkRefs_len]
            clear hgrow hf36 hvr6 hrs6 hL'
            go_wp2_with fail
            refine hadd.mono ?_
            rintro e w7 ⟨rfl, slot, vs, co, par, cs, er, em, eu, hS7, hpre, hslot, hF7⟩
            have hres7 : w7.heap[B + 1]? = some (.cells #[.pointer none, .int .i32 0] 57 (0, 0)) := by
              rw [HB.out]
              exact hF7.keepC _ _ _ _ HV6.out.res (by decide)
            have i4 : w7.cell? ⟨B + 1, 0, none⟩ = some (.pointer none) := by simp [World.cell?, hres7]
            have i5 : w7.cell? ⟨B + 1, 1, none⟩ = some (.int .i32 0) := by simp [World.cell?, hres7]
            have i6 : w7.frozen? ⟨B + 1, 0, none⟩ = false := by simp [World.frozen?, hres7]
            have i7 : w7.frozen? ⟨B + 1, 1, none⟩ = false := by simp [World.frozen?, hres7]
            have HE : Hid (Adds A L g k c p xs w (.returned (.tuple #[.agg #[.pointer (some ⟨A.s, 0, none⟩), .int .i32 g.l.length], .nilIface])) ((w7.setCell ⟨B + 1, 0, none⟩ (.pointer (some ⟨A.s, 0, none⟩))).setCell ⟨B + 1, 1, none⟩ (.int .i32 g.l.length))) := by
              have hNB : ¬ L (B + 1) := fun hh => by have h1 := HLow.out _ hh; have h2 := HB.out; omega
              have f1 : Fr L [57] [] w7 ((w7.setCell ⟨B + 1, 0, none⟩ (.pointer (some ⟨A.s, 0, none⟩))).setCell ⟨B + 1, 1, none⟩ (.int .i32 g.l.length)) := ((Fr.refl L [57] [] w7).setCell hres7 (by simp) hNB).setCell (heap_setCell_same w7 hres7) (by simp) hNB
              refine .new slot vs co par cs er em eu hk (by have := HC0.out; omega) (by have := HCG.out; omega) HK.out HBD.out rfl ((hS7.mono HLL.out).kept f1 (by decide) (by simp)) hpre hslot ?_
              have f2 : Fr L [83, 3, 122, 103] [A.ms, A.mi, A.mr, A.mu] w w7 := (Fr.of_below HBw.out).trans (hF7.mono HLL.out (fun _ h => h) (fun _ h => h))
              exact (f2.setFresh (by have := HB.out; omega)).setFresh (by have := HB.out; omega)
            clear hS7 hpre hslot hF7 hres7 hadd h0 h1 h2 h3 h4 h5 h6 h7
            go_wp2_with fail
            refine bodyPost_ret (v := .tuple #[.agg #[.pointer (some ⟨A.s, 0, none⟩), .int .i32 g.l.length], .nilIface]) ?_ rfl ?_
            · simp [results]
              go_simp
            · exact HE.out
end Go.Proofs.YbulkkeiFmt
