/-
  THE STORE (6): addVoter.
-/
import Derived.Test.YbulkkeiFmtAdd
import Derived.Test.YbulkkeiFmtOnce
import Derived.Deep.RegionLaw
import Derived.Deep.CutRange
namespace Go.Proofs.YbulkkeiFmt
open Go.RowKit Go.Extern.Stop Go.Stop Go.Extern
set_option maxRecDepth 8000
attribute [local go_sem ↓] Go.wp_at_zero Go.wp_at_succ

theorem hz122 : Ybaf.t122.zero = some (.agg #[.string ⟨#[]⟩, .int .i32 0, .int .i32 0, .int .i32 0, .int .i32 0, .bool false, .bool false, .int .i32 0, .int .i32 0, .int .i32 0]) := rfl

/-- Behind 's.voters = append(..)'. -/
structure Entered (A : SA) (N : Nat → Prop) (g : SG) (id : ByteArray) (c : Int) (slot : Nat) (vs co : Value) (cs : List Int) (em : List (Int × Value)) (w wx : World) : Prop where
  at_ : StoreAt wx A.s A.ch A.mi vs A.gp A.ms co A.mr A.mu
  slots : MapAt (Value.int .i64) wx A.ms em
  crow : Row N wx 3 1 co cs.length (i64s cs)
  sok : SlotsOk em cs
  pre : g.cs <+: cs
  len : cs.length ≤ g.cs.length + 1
  ok : cs[slot]? = some c
  vrow : Row N wx 122 10 vs (g.l.length + 1) (vrs (g.l ++ [⟨id, slot, -2, false, 0⟩]))
  fr : Fr N [83, 3, 122] [A.ms] w wx
def Enters (A : SA) (N : Nat → Prop) (g : SG) (id : ByteArray) (c : Int) (w wx : World) : Prop := ∃ slot vs co cs em, Entered A N g id c slot vs co cs em w wx

theorem bcellW {N : Nat → Prop} {W : List TypeId} {M : List Nat} {w w0 w' : World} (h : Fr N W M w0 w') {b o : Nat} {v : Value} {c : Array Value} {e : TypeId} {f : Nat × Nat} (hc : w.cell? ⟨b, o, none⟩ = some v) (he : e ∉ W) (hb : w.heap[b]? = some (.cells c e f)) (h0 : w0.heap = w.heap := by rfl) : w'.cell? ⟨b, o, none⟩ = some v := by
  have h1 : w'.heap[b]? = w.heap[b]? := by rw [h.keepC b c e f (by rw [h0]; exact hb) he, hb]
  exact (World.cell?_of_block h1).trans hc

set_option maxHeartbeats 12800000 in
theorem addVoter_ok {A : SA} {N : Nat → Prop} {w : World} {g : SG} (hA : A.Ok N) (hN : ∀ k, N k → k < w.heap.size) (hG : StoreOk A N w g) {k : Nat} (hk : k < 4) (hnew : get g.es (nameB k) = none) (c : Int) {p : ByteArray} (hp : p = gen ∨ Less p (nameB k)) {vb : Value} {gb cb : Nat} {xs : List ByteArray} (hvb : vb = .slice (some ⟨gb, 0, none⟩) xs.length cb) (hvr : w.ownsRow 0 9 1 vb xs.length (strs xs)) (hx : xs.length ≤ 256)
    {rs : Value} (hrs : w.ownsRow 0 103 4 rs (xs.length + 1) (rfs (mkRefs (nameB k) c p xs))) (hloc : ∀ j, rs.ownBlock = some j → N j) (hbad : admitBad (kcOf g) g.R (nameB k) c (mkRefs (nameB k) c p xs) = false) :
    Calls Ybaf.prog 21 #[.pointer (some ⟨A.s, 0, none⟩), blockV (nameB k) c p vb, rs] w fun e w' => e = .returned (.int .i32 g.l.length) ∧ ∃ slot vs co par cs er em eu, StoreOk A N w' (g.add vs co (nameB k) slot par cs er em eu (mkRefs (nameB k) c p xs)) ∧ g.cs <+: cs ∧ cs[slot]? = some c ∧ Fr N [83, 3, 122, 103] [A.ms, A.mi, A.mr, A.mu] w w' := by
  unfold blockV
  obtain ⟨w1, hw1⟩ : ∃ w1, w1 = w.alloc (.cells #[.string (nameB k), .int .i64 c, .string p, vb] 42) := ⟨_, rfl⟩
  have hf1 : Fr N [] [] w w1 := by rw [hw1]; exact (Fr.refl N [] [] w).alloc _
  have hG1 : StoreOk A N w1 g := hG.kept hf1 (by simp) (by simp)
  have hN1 : ∀ j, N j → j < w1.heap.size := fun j hj => Nat.lt_of_lt_of_le (hN j hj) hf1.size
  obtain ⟨s0, s1, s2, s3, s5, s6, s7, s8, s9⟩ := hG1.at_.cells
  have b0 : w1.cell? ⟨w.heap.size, 0, none⟩ = some (.string (nameB k)) := by rw [hw1]; simp
  have b1 : w1.cell? ⟨w.heap.size, 1, none⟩ = some (.int .i64 c) := by rw [hw1]; simp
  have f2 := hG1.at_.free 2
  obtain ⟨ov, cv, hvs, hv1, hv2⟩ := ownsRow_slice hG1.vrow.1
  simp only [maxLen] at hv2
  have hl4 := hG.plain.len
  have hcl : g.cs.length < 1000 := by have := hG.plain.cslen; omega
  rw [hvs] at s2
  have s2w := hG.at_.cells.2.2.1
  rw [hvs] at s2w
  have zsw := blk s2w
  have HG1 : Hid (StoreOk A N w1 g) := hG1
  have HG : Hid (StoreOk A N w g) := hG
  have HN1 : Hid (∀ j, N j → j < w1.heap.size) := hN1
  have HF1 : Hid (Fr N [] [] w w1) := hf1
  have Hw1 : Hid (w1 = w.alloc (.cells #[.string (nameB k), .int .i64 c, .string p, vb] 42)) := hw1
  have HVS : Hid (g.vs = .slice ov g.l.length cv) := hvs
  have HA : Hid (A.Ok N) := hA
  have HN : Hid (∀ j, N j → j < w.heap.size) := hN
  have HBOX : Hid (w1.heap[w.heap.size]? = some (.cells #[.string (nameB k), .int .i64 c, .string p, vb] 42 (0, 0))) := by
    show w1.heap[w.heap.size]? = _
    rw [hw1]
    exact heap_alloc_new w _
  have HVR : Hid (w.ownsRow 0 9 1 vb xs.length (strs xs)) := hvr
  have HRS : Hid (w.ownsRow 0 103 4 rs (xs.length + 1) (rfs (mkRefs (nameB k) c p xs))) := hrs
  have HLOC : Hid (∀ j, rs.ownBlock = some j → N j) := hloc
  have HX : Hid (xs.length ≤ 256) := hx
  have HVB : Hid (vb = .slice (some ⟨gb, 0, none⟩) xs.length cb) := hvb
  have zs := blk s1
  have zB := blk b0
  have hne : A.s ≠ w.heap.size := by
    intro e
    have := (Array.getElem?_eq_some_iff.1 hG.at_).1
    omega
  have HV1 : Hid (Row N w1 122 10 (.slice ov g.l.length cv) g.l.length (vrs g.l)) := by
    have := hG1.vrow
    rwa [hvs] at this
  clear hG1 hG hN1 hf1 hw1 hvs hA hN hvr hrs hloc hx hvb
  go_enter Ybaf.func21, Ybaf.ntmps21
  go_upto_region 2 with fail
  go_cut [] from 14 to 29 (fun wx => Enters A N g (nameB k) c w1 wx)
  case first =>
    rw [← Hw1.out]
    go_region_law
     (first
       | (go_simp
          go_at_call 31
          refine (slot_ok (w := w1.drew) (N := N) HG1.out.at_ HN1.out HA.out.s HA.out.ms HG1.out.slots (HG1.out.crow.same (fun _ _ => rfl)) HG1.out.sok hcl c).mono ?_
          rintro e w2 ⟨j, em', cs', co', rfl, q1, q2, q3, q4, q5, q6, q7, q8⟩
          rw [HVS.out] at q2
          have HQ1 : Hid (cs'[j]? = some c) := q1
          have HQ2 : Hid (StoreAt w2 A.s A.ch A.mi (.slice ov g.l.length cv) A.gp A.ms co' A.mr A.mu) := q2
          have HQ3 : Hid (MapAt (Value.int .i64) w2 A.ms em') := q3
          have HQ4 : Hid (Row N w2 3 1 co' cs'.length (i64s cs')) := q4
          have HQ5 : Hid (SlotsOk em' cs') := q5
          have HQ6 : Hid (g.cs <+: cs') := q6
          have HQ7 : Hid (cs'.length ≤ g.cs.length + 1) := q7
          have HQ8 : Hid (Fr N [83, 3] [A.ms] w1 w2) := (Fr.refl N [83, 3] [A.ms] w1).drew.trans q8
          have y2 := q2.cells.2.2.1
          have y0 := bcellW q8 b0 (by decide) HBOX.out
          have yf := q2.free 2
          have yz := blk y2
          have yz0 := blk y0
          clear q1 q2 q3 q4 q5 q6 q7 q8)
       | (refine step_append_row _ (by rfl) _ _ 75 (by rfl) 122 Ybaf.t122 (.agg #[.string ⟨#[]⟩, .int .i32 0, .int .i32 0, .int .i32 0, .int .i32 0, .bool false, .bool false, .int .i32 0, .int .i32 0, .int .i32 0]) 10 48 Ybaf.underlying75 (by kernel_rfl) hz122 rfl rfl rfl (by decide) (N := N) ?n1 (.slice ov g.l.length cv) g.l.length (vrs g.l) (by rfl) ?n2 ⟨w2.heap.size, 0, none⟩ 1 1 [.string (nameB k), .int .i32 j, .int .i32 (-2), .int .i32 0, .int .i32 0, .bool false, .bool false, .int .i32 0, .int .i32 0, .int .i32 0] (by rfl) (by rfl) (news_alloc w2 _ _) (by simp [Value.oneCell']) (by simp [maxLen]; omega) (by omega) ?_
          case n1 => exact fun j hj => by have h1 := HN1.out j hj; have h2 := HQ8.out.size; simp; omega
          case n2 => exact (HV1.out.kept HQ8.out (by decide)).kept ((Fr.refl N [] [] w2).alloc _) (by simp)
          intro v' w3 hGr
          obtain ⟨o2, cap2, rfl, _, _⟩ := ownsRow_slice hGr.row.1
          have hS3 : StoreAt w3 A.s A.ch A.mi (.slice ov g.l.length cv) A.gp A.ms co' A.mr A.mu := hGr.fr.keepC _ _ _ _ (((Fr.refl N [] [] w2).alloc _).keepC _ _ _ _ HQ2.out (by simp)) (by decide)
          have x2 := hS3.cells.2.2.1
          have xf := hS3.free 2
          have HS3 : Hid (StoreAt w3 A.s A.ch A.mi (.slice ov g.l.length cv) A.gp A.ms co' A.mr A.mu) := hS3
          have HGr : Hid (Grew N 122 10 (.agg #[.string ⟨#[]⟩, .int .i32 0, .int .i32 0, .int .i32 0, .int .i32 0, .bool false, .bool false, .int .i32 0, .int .i32 0, .int .i32 0]) (.slice ov g.l.length cv) g.l.length 1 (vrs g.l) [.string (nameB k), .int .i32 j, .int .i32 (-2), .int .i32 0, .int .i32 0, .bool false, .bool false, .int .i32 0, .int .i32 0, .int .i32 0]
            (w2.alloc (.cells #[.string (nameB k), .int .i32 j, .int .i32 (-2), .int .i32 0, .int .i32 0, .bool false, .bool false, .int .i32 0, .int .i32 0, .int .i32 0] 122)) (.slice o2 (g.l.length + 1) cap2) w3) := hGr
          clear hS3 hGr))
    all_goals
      go_wp2_with fail
      go_meet
      have hfa : Fr N [83, 3, 122] [A.ms] w1 w3 := (((HQ8.out.wider (W' := [83, 3, 122]) (M' := [A.ms]) (by simp) (by simp))).alloc _).trans (HGr.out.fr.wider (by simp) (by simp))
      have hf12 : Fr N [122] [] w2 w3 := ((Fr.refl N [122] [] w2).alloc _).trans HGr.out.fr
      have hset : Fr N [83] [] w3 (w3.setCell ⟨A.s, 2, none⟩ (.slice o2 (g.l.length + 1) cap2)) := (Fr.refl N [83] [] w3).setCell HS3.out (by simp) HA.out.s
      refine ⟨j, _, co', cs', em', HS3.out.setVs _, (HQ3.out.kept hf12 (by simp)).kept hset (by simp), (HQ4.out.kept hf12 (by decide)).kept hset (by decide), HQ5.out, HQ6.out, HQ7.out, HQ1.out, ?_, hfa.setCell HS3.out (by simp) HA.out.s⟩
      have := HGr.out.row.kept hset (by decide)
      rw [show vrs (g.l ++ [⟨nameB k, j, -2, false, 0⟩]) = vrs g.l ++ [.string (nameB k), .int .i32 j, .int .i32 (-2), .int .i32 0, .int .i32 0, .bool false, .bool false, .int .i32 0, .int .i32 0, .int .i32 0] by simp [vrs, VR.enc]]
      exact this
  case rest =>
    obtain ⟨slot, vs, co, cs, em, hE⟩ := hcut
    obtain ⟨B, hB⟩ : ∃ B, B = w.heap.size := ⟨_, rfl⟩
    have hfc : Fr N [83, 3, 122] [A.ms] w wc := (HF1.out.wider (by simp) (by simp)).trans hE.fr
    have hNc : ∀ j, N j → j < wc.heap.size := fun j hj => Nat.lt_of_lt_of_le (HN.out j hj) hfc.size
    have hbx : wc.heap[B]? = some (.cells #[.string (nameB k), .int .i64 c, .string p, vb] 42 (0, 0)) := by rw [hB]; exact hE.fr.keepC _ _ _ _ HBOX.out (by decide)
    have d0 : wc.cell? ⟨B, 0, none⟩ = some (.string (nameB k)) := by simp [World.cell?, hbx]
    have hix := HG.out.index.kept hfc (by simpa using HA.out.is)
    have hrx := HG.out.refs.kept hfc (by simpa using HA.out.rs)
    have hrk := HG.out.rok.kept hfc (by decide)
    have hrsx := ownsRow_kept HRS.out hfc (by decide)
    rw [← mkRefs_len (nameB k) c p xs] at hrsx
    have hct : ∀ x, (g.R x).length + (mkRefs (nameB k) c p xs).length < 1000000 := fun x => by
      have h1 := HG.out.plain.rlen x
      have h2 := HX.out
      rw [mkRefs_len]
      omega
    have HB : Hid (B = w.heap.size) := hB
    rw [← hB]
    clear b0 b1 hne zB hB s0 s1 s2 s3 s5 s6 s7 s8 s9 f2 s2w zsw
    go_wp2_with fail
    refine (file_ok hE.at_ hNc HA.out.mi HA.out.mr HA.out.ir hix hrx HG.out.once hrk (nameB k) g.l.length hrsx HLOC.out hct).mono ?_
    rintro e w5 ⟨rfl, hFd⟩
    have HFd : Hid (Filed N A.mi A.mr (put (nameB k) (.int .i32 g.l.length) g.es) (fileR (fun x => (get (put (nameB k) (.int .i32 g.l.length) g.es) x).isSome) (upd g.R (nameB k) []) (mkRefs (nameB k) c p xs)) wc w5) := hFd
    have hS5 : StoreAt w5 A.s A.ch A.mi vs A.gp A.ms co A.mr A.mu := hFd.fr.keepC _ _ _ _ hE.at_ (by decide)
    have hbx5 : w5.heap[B]? = some (.cells #[.string (nameB k), .int .i64 c, .string p, vb] 42 (0, 0)) := hFd.fr.keepC _ _ _ _ hbx (by decide)
    have hv5 := hE.vrow.kept hFd.fr (by decide)
    have hlen : (g.l ++ [(⟨nameB k, slot, -2, false, 0⟩ : VR)]).length = g.l.length + 1 := by simp
    rw [← hlen] at hv5
    have hf5 : Fr N [83, 3, 122, 103] [A.ms, A.mi, A.mr, A.mu] w w5 := (hfc.wider (by decide) (by simp)).trans (hFd.fr.wider (by simp) (by simp))
    have hvr5 := ownsRow_kept HVR.out hf5 (by decide)
    have HE : Hid (Entered A N g (nameB k) c slot vs co cs em w1 wc) := hE
    have e2 : w5.cell? ⟨B, 2, none⟩ = some (.string p) := by simp [World.cell?, hbx5]
    have e3 : w5.cell? ⟨B, 3, none⟩ = some vb := by simp [World.cell?, hbx5]
    have hlast : (g.l ++ [(⟨nameB k, slot, -2, false, 0⟩ : VR)])[g.l.length]? = some ⟨nameB k, slot, -2, false, 0⟩ := by simp
    have hres : Calls Ybaf.prog 33 #[.pointer (some ⟨A.s, 0, none⟩), .int .i32 g.l.length, .pointer (some ⟨B, 0, none⟩)] w5 fun e w' => (e = .returned (.bool false) ∧ ∃ q, w' = w5.drewN q) ∨ (e = .returned (.bool true) ∧ ∃ par, par ≠ -2 ∧ ParOk g.l p (nameB k) par ∧ Row N w' 122 10 vs (g.l.length + 1) (vrs (g.l ++ [⟨nameB k, slot, par, false, 0⟩])) ∧ Fr N [122] [] w5 w') := by
      have hix5 : MapAt Value.string w5 A.mi (put (nameB k) (.int .i32 g.l.length) g.es) := hFd.index
      have hvf := votes_free hbad
      have hgx : ∀ x ∈ xs, get (put (nameB k) (.int .i32 g.l.length) g.es) x = none := by
        intro x hx
        obtain ⟨_, h2, h3⟩ := hvf x hx
        rw [get_put_other _ _ _ h2]
        rcases HG.out.plain.knows x with ⟨h4, _⟩ | ⟨_, _, _, _, _, _, h4⟩
        · exact h4
        · rw [h3] at h4; cases h4
      have hpk : p = gen ∨ (p ≠ gen ∧ get (put (nameB k) (.int .i32 g.l.length) g.es) p = none) ∨ (p ≠ gen ∧ Less p (nameB k) ∧ ∃ (j : Nat) (q : VR), get (put (nameB k) (.int .i32 g.l.length) g.es) p = some (.int .i32 j) ∧ g.l[j]? = some q ∧ q.id = p) := by
        rcases hp with h1 | h1
        · exact .inl h1
        · have h1' := h1
          obtain ⟨a, b, rfl, h2, h3, h4⟩ := h1
          have hb : b = k := (nameB_inj h4 hk h2.symm)
          have hne : nameB a ≠ nameB k := fun h => by have := nameB_inj (by omega) hk h; omega
          have hng : nameB a ≠ gen := nameB_ne_gen (by omega)
          rw [get_put_other _ _ _ hne]
          cases hga : get g.es (nameB a) with
          | none => exact .inr (.inl ⟨hng, rfl⟩)
          | some v =>
            obtain ⟨j, q, rfl, h5, h6⟩ := (HG.out.plain.index _ v).1 hga
            exact .inr (.inr ⟨hng, h1', j, q, rfl, h5, h6⟩)
      rcases hpk with h1 | ⟨h1, h2⟩ | ⟨h1, h2, j, q, h3, h4, h5⟩
      · cases xs with
        | nil =>
          refine (resolve_yes hS5 hix5 hv5 g.l.length _ hlast e2 (-1) (.inl ⟨h1, rfl⟩) e3 hvr5).mono ?_
          rintro e w' ⟨rfl, r1, r2⟩
          refine .inr ⟨rfl, -1, by decide, .inr (.inl ⟨h1, rfl⟩), ?_, r2⟩
          rw [hlen] at r1
          simpa using r1
        | cons x xs =>
          refine (resolve_vote hS5 hix5 g.l.length e2 (.inl h1) e3 hvr5 (hgx x (by simp))).mono ?_
          rintro e w' ⟨rfl, r1⟩
          exact .inl ⟨rfl, r1⟩
      · refine (resolve_par hS5 hix5 g.l.length e2 h1 h2).mono ?_
        rintro e w' ⟨rfl, r1⟩
        exact .inl ⟨rfl, r1⟩
      · cases xs with
        | nil =>
          refine (resolve_yes hS5 hix5 hv5 g.l.length _ hlast e2 j (.inr ⟨h1, j, rfl, h3⟩) e3 hvr5).mono ?_
          rintro e w' ⟨rfl, r1, r2⟩
          refine .inr ⟨rfl, j, by omega, .inr (.inr ⟨j, q, rfl, h4, h5, h2⟩), ?_, r2⟩
          rw [hlen] at r1
          simpa using r1
        | cons x xs =>
          refine (resolve_vote hS5 hix5 g.l.length e2 (.inr ⟨h1, j, h3⟩) e3 hvr5 (hgx x (by simp))).mono ?_
          rintro e w' ⟨rfl, r1⟩
          exact .inl ⟨rfl, r1⟩
    have HBX5 : Hid (w5.heap[B]? = some (.cells #[.string (nameB k), .int .i64 c, .string p, vb] 42 (0, 0))) := hbx5
    have HS5 : Hid (StoreAt w5 A.s A.ch A.mi vs A.gp A.ms co A.mr A.mu) := hS5
    have HV5 : Hid (Row N w5 122 10 vs (g.l.length + 1) (vrs (g.l ++ [⟨nameB k, slot, -2, false, 0⟩]))) := by
      rw [← hlen]
      exact hv5
    have HF5 : Hid (Fr N [83, 3, 122, 103] [A.ms, A.mi, A.mr, A.mu] w w5) := hf5
    have hNB : ¬ N B := fun h => by have h1 := HN.out B h; have h2 := HB.out; omega
    have HSL : Hid (slot < cs.length) := (List.getElem?_eq_some_iff.1 hE.ok).1
    have HN5 : Hid (∀ j, N j → j < w5.heap.size) := fun j hj => Nat.lt_of_lt_of_le (hNc j hj) hFd.fr.size
    have HU5 : Hid (MapAt (Value.int .i32) w5 A.mu g.eu) := (HG.out.unres.kept hfc (by simpa using Ne.symm HA.out.su)).kept hFd.fr (by simp [Ne.symm HA.out.iu, Ne.symm HA.out.ru])
    have HC5 : Hid (Row N w5 3 1 co cs.length (i64s cs)) := hE.crow.kept hFd.fr (by decide)
    have HM5 : Hid (MapAt (Value.int .i64) w5 A.ms em) := hE.slots.kept hFd.fr (by simp [Ne.symm HA.out.is, Ne.symm HA.out.rs])
    have HVR5 : Hid (w5.ownsRow 0 9 1 vb xs.length (strs xs)) := hvr5
    clear hbx5 hS5 hv5 hf5 hNc hvr5 hfc hlast
    clear hix hrx hrk hrsx hct hFd hE hbx d0
    go_wp2_with fail
    refine hres.mono ?_
    rintro e w6 (⟨rfl, q, rfl⟩ | ⟨rfl, par, hp1, hp2, hp3, hp4⟩)
    · clear hres
      have g3 : (w5.drewN q).cell? ⟨B, 3, none⟩ = some vb := e3
      have hbx6 : (w5.drewN q).heap[B]? = some (.cells #[.string (nameB k), .int .i64 c, .string p, vb] 42 (0, 0)) := HBX5.out
      have hvr6 := HVR5.out
      have hlow : ∀ j u, (strs xs)[j]? = some u → (w5.drewN q).cell? ((⟨gb, 0, none⟩ : Addr).add j) = some u := hvr6.cells (g := gb) (by rw [HVB.out]; rfl)
      rw [HVB.out] at g3
      have hN6 : ∀ j, N j → j < (w5.drewN q).heap.size := HN5.out
      have HF6 : Hid (Fr N [] [] w5 (w5.drewN q)) := (Fr.refl N [] [] w5).drewN q
      have HBX6 : Hid ((w5.drewN q).heap[B]? = some (.cells #[.string (nameB k), .int .i64 c, .string p, vb] 42 (0, 0))) := hbx6
      have HLOW : Hid (∀ j u, (strs xs)[j]? = some u → (w5.drewN q).cell? ((⟨gb, 0, none⟩ : Addr).add j) = some u) := hlow
      have HN6 : Hid (∀ j, N j → j < (w5.drewN q).heap.size) := hN6
      clear e2 e3 hbx6 hvr6 hlow hN6
      generalize w5.drewN q = w6 at g3 HF6 HBX6 HLOW HN6 ⊢
      go_wp2_with ((at_builtin; refine Stop'.intro ?_))
      unfold Stop'
      refine wpList_append_row _ rfl _ _ 40 rfl 9 Ybaf.t9 (.string ⟨#[]⟩) 1 16 Ybaf.underlying40 (by kernel_rfl) rfl rfl rfl rfl (by decide) (N := N) HN6.out (.slice none 0 0) 0 [] rfl (Row.nil N w6 9 1) ⟨gb, 0, none⟩ xs.length cb (strs xs) rfl (by simp [strs]) HLOW.out ?n3 ?n4 ?n5 ?_
      case n3 => intro u hu; simp [strs] at hu; obtain ⟨x, _, rfl⟩ := hu; rfl
      case n4 => have := HX.out; simp [maxLen]; omega
      case n5 => have := HX.out; omega
      intro v' w7 hGr
      have hrow7 := hGr.row
      simp only [Nat.zero_add, List.nil_append] at hrow7
      have hf7 : Fr N [] [] w5 w7 := HF6.out.trans (hGr.fresh rfl)
      obtain ⟨o7, c7, rfl, _, _⟩ := ownsRow_slice hrow7.1
      have hbx7 : w7.heap[B]? = some (.cells #[.string (nameB k), .int .i64 c, .string p, vb] 42 (0, 0)) := hf7.keepC _ _ _ _ HBX5.out (by simp)
      have i3 : w7.cell? ⟨B, 3, none⟩ = some vb := by simp [World.cell?, hbx7]
      have i4 : w7.frozen? ⟨B, 3, none⟩ = false := by simp [World.frozen?, hbx7]
      have hS7 : StoreAt w7 A.s A.ch A.mi vs A.gp A.ms co A.mr A.mu := hf7.keepC _ _ _ _ HS5.out (by simp)
      have hsB : A.s ≠ B := by
        intro e
        have h1 := hS7
        unfold StoreAt at h1
        rw [e, hbx7] at h1
        cases h1
      have hf8 : Fr N [42] [] w5 (w7.setCell ⟨B, 3, none⟩ (.slice o7 xs.length c7)) := (hf7.wider (by simp) (by simp)).setCell hbx7 (by simp) hNB
      have hS8 : StoreAt (w7.setCell ⟨B, 3, none⟩ (.slice o7 xs.length c7)) A.s A.ch A.mi vs A.gp A.ms co A.mr A.mu := hf8.keepC _ _ _ _ HS5.out (by decide)
      have j9 := hS8.cells.2.2.2.2.2.2.2.2
      have hbx8 := heap_setCell_same w7 (o := 3) (v := .slice o7 xs.length c7) hbx7
      have hrow8 := hrow7.setCell (k := B) (o := 3) (u := .slice o7 xs.length c7) (hrow7.ne hbx7 (by decide))
      have HF8w : Hid (Fr N [83, 3, 122, 103] [A.ms, A.mi, A.mr, A.mu] w (w7.setCell ⟨B, 3, none⟩ (.slice o7 xs.length c7))) := (HF5.out.trans (hf7.wider (by simp) (by simp))).setFresh (by rw [HB.out]; exact Nat.le_refl _)
      have HF8 : Hid (Fr N [42] [] w5 (w7.setCell ⟨B, 3, none⟩ (.slice o7 xs.length c7))) := hf8
      have HBX8 : Hid ((w7.setCell ⟨B, 3, none⟩ (.slice o7 xs.length c7)).heap[B]? = some (.cells #[.string (nameB k), .int .i64 c, .string p, .slice o7 xs.length c7] 42 (0, 0))) := hbx8
      have HROW8 : Hid (Row N (w7.setCell ⟨B, 3, none⟩ (.slice o7 xs.length c7)) 9 1 (.slice o7 xs.length c7) xs.length (strs xs)) := hrow8
      have hU8 := HU5.out.kept hf8 (by simp)
      have HU8 : Hid (MapAt (Value.int .i32) (w7.setCell ⟨B, 3, none⟩ (.slice o7 xs.length c7)) A.mu g.eu) := hU8
      clear hGr hrow7 hf7 hbx7 hS7 hf8 hS8 hbx8 hrow8 hU8 g3
      go_wp2_with ((at_mapUpdate; refine Stop'.intro ?_))
      unfold Stop'
      refine wpList_mapUpdate_at (KK.int Ybaf.underlying21) _ rfl _ _ _ 81 _ rfl Ybaf.underlying81 A.mu g.eu rfl HU8.out (g.l.length : Int) rfl _ rfl ?_
      intro w9 hm9 hs9
      have HM9 : Hid (MapAt (Value.int .i32) w9 A.mu (put (g.l.length : Int) (.pointer (some ⟨B, 0, none⟩)) g.eu)) := hm9
      have HS9 : Hid (MapSet A.mu (w7.setCell ⟨B, 3, none⟩ (.slice o7 xs.length c7)) w9) := hs9
      clear hm9 hs9
      go_wp2_with fail
      go_ret
      have hf9 : Fr N [42] [A.mu] w5 w9 := (HF8.out.wider (by simp) (by simp)).mapSet HS9.out (by simp) HA.out.mu
      have hf9w : Fr N [83, 3, 122, 103] [A.ms, A.mi, A.mr, A.mu] w w9 := HF8w.out.mapSet HS9.out (by simp) HA.out.mu
      obtain ⟨er, hr1, hr2, hr3⟩ := HFd.out.refs
      refine ⟨rfl, slot, vs, co, -2, cs, er, em, put (g.l.length : Int) (.pointer (some ⟨B, 0, none⟩)) g.eu, ?_, HE.out.pre, HE.out.ok, hf9w⟩
      have hplain := HG.out.plain.add hk hnew (vs := vs) (co := co) (slot := slot) (p := p) (par := -2) (.inl rfl) (cs := cs) (HE.out.pre.length_le) HE.out.len HSL.out (er := er) (em := em) (eu := put (g.l.length : Int) (.pointer (some ⟨B, 0, none⟩)) g.eu) (c := c) (xs := xs) HX.out (fun i v hv => by
        by_cases e : (i : Int) = (g.l.length : Int)
        · exact .inr ⟨by omega, rfl⟩
        · rw [get_put_other _ _ _ e] at hv
          exact .inl hv)
      refine ⟨hf9.keepC _ _ _ _ HS5.out (by decide), HFd.out.index.kept hf9 (by simpa using HA.out.iu), HM5.out.kept hf9 (by simpa using HA.out.su), hr1.kept hf9 (by simpa using HA.out.ru), HM9.out, hr2, HG.out.onceU.put _ _, hr3.kept hf9 (by decide), ?_, HC5.out.kept hf9 (by decide), HE.out.sok, ?_, hplain⟩
      · have := HV5.out.kept hf9 (by decide)
        show Row N w9 122 10 vs (g.l ++ [(⟨nameB k, slot, -2, false, 0⟩ : VR)]).length (vrs (g.l ++ [⟨nameB k, slot, -2, false, 0⟩]))
        rw [hlen]
        exact this
      · intro i r hi hpar
        rcases getElem?_snoc hi with h1 | ⟨rfl, rfl⟩
        · obtain ⟨u, c', p', vv, ys, k1, k2, k3⟩ := HG.out.boxes i r h1 hpar
          have hin : i < g.l.length := (List.getElem?_eq_some_iff.1 h1).1
          refine ⟨u, c', p', vv, ys, ?_, k2.kept hf9w (by decide) (by decide), UnOk.add hbad k3⟩
          show get (put (g.l.length : Int) _ g.eu) (i : Int) = _
          rw [get_put_other _ _ _ (by omega)]
          exact k1
        · refine ⟨B, c, p, .slice o7 xs.length c7, xs, get_put_same _ _ _, ⟨HS9.out.block HBX8.out, HROW8.out.kept (HS9.out.fr (N := N) [] HA.out.mu) (by simp)⟩, UnOk.new HG.out.plain hbad hp HX.out⟩
    · clear hres
      have HP1 : Hid (par ≠ -2) := hp1
      have HP2 : Hid (ParOk g.l p (nameB k) par) := hp2
      have HP3 : Hid (Row N w6 122 10 vs (g.l.length + 1) (vrs (g.l ++ [⟨nameB k, slot, par, false, 0⟩]))) := hp3
      have HP4 : Hid (Fr N [122] [] w5 w6) := hp4
      clear hp1 hp2 hp3 hp4 e2 e3
      go_wp2_with fail
      go_ret
      have hf9w : Fr N [83, 3, 122, 103] [A.ms, A.mi, A.mr, A.mu] w w6 := HF5.out.trans (HP4.out.wider (by simp) (by simp))
      obtain ⟨er, hr1, hr2, hr3⟩ := HFd.out.refs
      refine ⟨rfl, slot, vs, co, par, cs, er, em, g.eu, ?_, HE.out.pre, HE.out.ok, hf9w⟩
      have hplain := HG.out.plain.add hk hnew (vs := vs) (co := co) (slot := slot) (p := p) (par := par) HP2.out (cs := cs) (HE.out.pre.length_le) HE.out.len HSL.out (er := er) (em := em) (eu := g.eu) (c := c) (xs := xs) HX.out (fun i v hv => .inl hv)
      refine ⟨HP4.out.keepC _ _ _ _ HS5.out (by decide), HFd.out.index.kept HP4.out (by simp), HM5.out.kept HP4.out (by simp), hr1.kept HP4.out (by simp), HU5.out.kept HP4.out (by simp), hr2, HG.out.onceU, hr3.kept HP4.out (by decide), ?_, HC5.out.kept HP4.out (by decide), HE.out.sok, ?_, hplain⟩
      · show Row N w6 122 10 vs (g.l ++ [(⟨nameB k, slot, par, false, 0⟩ : VR)]).length (vrs (g.l ++ [⟨nameB k, slot, par, false, 0⟩]))
        rw [List.length_append]
        exact HP3.out
      · intro i r hi hpar
        rcases getElem?_snoc hi with h1 | ⟨rfl, rfl⟩
        · obtain ⟨u, c', p', vv, ys, k1, k2, k3⟩ := HG.out.boxes i r h1 hpar
          exact ⟨u, c', p', vv, ys, k1, k2.kept hf9w (by decide) (by decide), UnOk.add hbad k3⟩
        · exact absurd hpar HP1.out
end Go.Proofs.YbulkkeiFmt
