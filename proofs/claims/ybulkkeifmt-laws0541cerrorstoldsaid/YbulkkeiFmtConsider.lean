/-
  THE VIEW (6): consider.
-/
import Derived.Test.YbulkkeiFmtBoth
import Derived.BigQuiet
namespace Go.Proofs.YbulkkeiFmt
open Go.RowKit Go.Extern.Stop Go.Stop Go.Extern
set_option maxRecDepth 8000
attribute [local go_sem ↓] Go.wp_at_zero Go.wp_at_succ

section
variable {V : VA} {A : SA} {L : Nat → Prop} {w : World} {g : SG} {x : VG}

/-- The parent of a block that is held: accepted, or still waiting. -/
theorem status_both (h : Both V A L w g x) (hfull : x.ss.length = g.l.length) {i : Nat} {r : VR} (hi : g.l[i]? = some r) (hp : r.par ≠ -2) :
    Calls Ybaf.prog 14 #[.pointer (some ⟨V.v, 0, none⟩), .int .i32 r.par] w fun e w' => w' = w ∧ ((e = .returned (.int .u8 2) ∧ RdOk g i) ∨ (e = .returned (.int .u8 1) ∧ ∃ (j : Nat) (q : VR), r.par = j ∧ g.l[j]? = some q)) := by
  obtain ⟨Nv, h1, h2, h3⟩ := h.view
  rcases h.store.plain.recs.par i r hi with h4 | h4 | ⟨j, q, h4, h5, h6⟩
  · exact absurd h4 hp
  · rw [h4]
    refine (voterStatus_gen V.v w).mono ?_
    rintro e w' ⟨rfl, rfl⟩
    exact ⟨rfl, .inl ⟨rfl, r, hi, .inl h4⟩⟩
  · have hj : j < x.ss.length := by rw [hfull]; exact (List.getElem?_eq_some_iff.1 h5).1
    have hs : x.ss[j]? = some x.ss[j] := List.getElem?_eq_getElem hj
    rw [h4]
    refine (voterStatus_ok h3.at_.cells.2.2.1 h3.srow j _ hs).mono ?_
    rintro e w' ⟨rfl, rfl⟩
    refine ⟨rfl, ?_⟩
    rcases h3.sts.two j _ hs with e1 | e1
    · rw [e1]
      exact .inr ⟨rfl, j, q, rfl, h5⟩
    · rw [e1] at hs ⊢
      obtain ⟨q', h7, h8⟩ := h3.sts.acc j hs
      exact .inl ⟨rfl, r, hi, .inr ⟨j, q', h4, h7, h8⟩⟩
/-- A block that the store knows. -/
theorem status_known (h : Both V A L w g x) (hfull : x.ss.length = g.l.length) {j : Nat} {q : VR} (hj : g.l[j]? = some q) :
    ∃ s : Int, (s = 1 ∨ s = 2) ∧ Calls Ybaf.prog 14 #[.pointer (some ⟨V.v, 0, none⟩), .int .i32 j] w fun e w' => e = .returned (.int .u8 s) ∧ w' = w := by
  obtain ⟨Nv, h1, h2, h3⟩ := h.view
  have hj' : j < x.ss.length := by rw [hfull]; exact (List.getElem?_eq_some_iff.1 hj).1
  have hs : x.ss[j]? = some x.ss[j] := List.getElem?_eq_getElem hj'
  exact ⟨x.ss[j], h3.sts.two j _ hs, voterStatus_ok h3.at_.cells.2.2.1 h3.srow j _ hs⟩

def Considered (V : VA) (A : SA) (L : Nat → Prop) (w : World) (g : SG) (x : VG) (w' : World) : Prop := ∃ g' x', Moved V A L w g x w' g' x' ∧ x'.wo = x.wo ∧ x'.cnt = x.cnt + 1

set_option maxHeartbeats 12800000 in
theorem consider_ok (h : Both V A L w g x) (hfull : x.ss.length = g.l.length) (i : Nat) (q : Int) (hi : i < g.l.length) (hc : x.cnt < 1000) :
    Calls Ybaf.prog 38 #[.pointer (some ⟨V.v, 0, none⟩), .agg #[.pointer none, .int .i32 i, .int .i64 q]] w fun e w' => e = .returned (.tuple #[]) ∧ Considered V A L w g x w' := by
  obtain ⟨r, hr⟩ : ∃ r, g.l[i]? = some r := ⟨_, List.getElem?_eq_getElem hi⟩
  have hM1 := h.alloc #[.pointer none, .int .i32 i, .int .i64 q] 111 (fun _ j u hj => HeldΦ.triple hi q j u (by simpa using hj))
  have v0 : w.cell? ⟨V.v, 0, none⟩ = some (.pointer (some ⟨A.s, 0, none⟩)) := by
    obtain ⟨Nv, _, _, h3⟩ := h.view
    exact h3.at_.cells.1
  have zv := blk v0
  obtain ⟨w1, hw1⟩ : ∃ w1, w1 = w.alloc (.cells #[.pointer none, .int .i32 i, .int .i64 q] 111) := ⟨_, rfl⟩
  obtain ⟨B, hB⟩ : ∃ B, B = w.heap.size := ⟨_, rfl⟩
  have hbox : w1.heap[B]? = some (.cells #[.pointer none, .int .i32 i, .int .i64 q] 111 (0, 0)) := by rw [hw1, hB]; exact heap_alloc_new w _
  rw [← hw1] at hM1
  have HM1 : Hid (Moved V A L w g x w1 g x) := hM1
  have Hw1 : Hid (w1 = w.alloc (.cells #[.pointer none, .int .i32 i, .int .i64 q] 111)) := hw1
  have HBX : Hid (w1.heap[B]? = some (.cells #[.pointer none, .int .i32 i, .int .i64 q] 111 (0, 0))) := hbox
  have HB : Hid (B = w.heap.size) := hB
  have HR : Hid (g.l[i]? = some r) := hr
  have HFU : Hid (x.ss.length = g.l.length) := hfull
  clear h hM1 hw1 hbox hB hr hfull
  go_enter Ybaf.func38, Ybaf.ntmps38
  go_wp2_with fail
  rw [← Hw1.out, ← HB.out]
  refine (named_both HM1.out.both i r HR.out).mono ?_
  rintro e w2 ⟨g2, hM2, hN, hF2⟩
  have HM2 : Hid (Moved V A L w g x w2 g2 x) := HM1.out.trans hM2
  have HB2 : Hid (Both V A L w2 g2 x) := hM2.both
  have HFU2 : Hid (x.ss.length = g2.l.length) := HFU.out.trans hM2.later.len.symm
  have hbx2 : w2.heap[B]? = some (.cells #[.pointer none, .int .i32 i, .int .i64 q] 111 (0, 0)) := hF2.keepC _ _ _ _ HBX.out (by decide)
  have b0 : w2.cell? ⟨B, 0, none⟩ = some (.pointer none) := by simp [World.cell?, hbx2]
  have b1 : w2.cell? ⟨B, 1, none⟩ = some (.int .i32 i) := by simp [World.cell?, hbx2]
  have b2 : w2.cell? ⟨B, 2, none⟩ = some (.int .i64 q) := by simp [World.cell?, hbx2]
  have hi2 : i < g2.l.length := by rw [hM2.later.len]; exact hi
  have s1 := hM2.both.store.at_.cells.2.1
  have s2 := hM2.both.store.at_.cells.2.2.1
  have s5 := hM2.both.store.at_.cells.2.2.2.2.1
  have s9 := hM2.both.store.at_.cells.2.2.2.2.2.2.2.2
  have hvr := hM2.both.store.vrow
  obtain ⟨gv, cap, cur, hvs, -, -, q1, q2, -, -⟩ := hvr.form (by omega)
  simp only [maxLen] at q2
  rw [hvs] at s2 hvr
  have hiI : (i : Int) < (g2.l.length : Int) := by omega
  have HVR : Hid (Row L w2 122 10 (.slice (some ⟨gv, 0, none⟩) g2.l.length cap) g2.l.length (vrs g2.l)) := hvr
  clear hM2 hF2 hbx2 hvs hvr zv v0
  rcases hN with ⟨r', he, hr', hp'⟩ | ⟨r', a, n, cp, y, hg2, hr', hp', he, hn, hn1, hn2, hy, hbel⟩
  · skip
    subst he
    obtain ⟨c0, c1, c2, c3, c4, -, -, -, -, -⟩ := HVR.out.vcell rfl hr'
    have HR' : Hid (g2.l[i]? = some r') := hr'
    have HP' : Hid (r'.par ≠ -2) := hp'
    clear hr' hp'
    go_wp2_with fail
    go_quiet (fail)
    rename_i nq
    go_wp2_with fail
    refine (status_both (HB2.out.drewN nq).both HFU2.out HR'.out HP'.out).mono ?_
    rintro e w3 ⟨rfl, ⟨rfl, hrd⟩ | ⟨rfl, j, qj, hj1, hj2⟩⟩
    · have HRD : Hid (RdOk g2 i) := hrd
      clear hrd
      go_wp2_with fail
      go_quiet (fail)
      go_wp2_with fail
      go_loopw [197] (fun s197 wr => s197 = .int .i64 0 ∧ ∃ q, wr = w2.drewN q) (fun _ _ => 0)
      case atStart => exact ⟨rfl, _, World.drewN_drewN _ _ _⟩
      case round =>
        obtain ⟨rfl, q3, rfl⟩ := hrel
        have t0 : (w2.drewN q3).cell? ⟨B, 0, none⟩ = some (.pointer none) := b0
        have t1 : (w2.drewN q3).cell? ⟨B, 1, none⟩ = some (.int .i32 i) := b1
        have t2 : (w2.drewN q3).cell? ⟨B, 2, none⟩ = some (.int .i64 q) := b2
        have HM4 : Hid (Moved V A L w g x (w2.drewN q3) g2 x) := HM2.out.trans (HB2.out.drewN q3)
        clear b0 b1 b2 s1 s2 s5 s9 c0 c1 c2 c3 c4
        generalize w2.drewN q3 = w4 at t0 t1 t2 HM4 ⊢
        go_wp2_with fail
        go_region_law
         ((go_simp
           go_at_call 43
           refine (push_both (w := w4.drew) HM4.out.both.drew.both i q HRD.out hc).mono ?_
           rintro e w5 ⟨rfl, x5, hM5, h51, h52⟩))
        all_goals
          have HE : Hid (Considered V A L w g x w5) := ⟨g2, x5, (HM4.out.trans HM4.out.both.drew).trans hM5, h51, h52⟩
          clear hM5 h51 h52
          go_wp2_with fail
          go_end0
          exact ⟨rfl, HE.out⟩
    · have hjl : j < g2.l.length := (List.getElem?_eq_some_iff.1 hj2).1
      have hjI : (j : Int) < (g2.l.length : Int) := by omega
      obtain ⟨d0, -, -, -, -, -, -, -, -, -⟩ := HVR.out.vcell rfl hj2
      rw [hj1] at c2
      have t0 : (w2.drewN nq).cell? ⟨B, 0, none⟩ = some (.pointer none) := b0
      have t1 : (w2.drewN nq).cell? ⟨B, 1, none⟩ = some (.int .i32 i) := b1
      have t2 : (w2.drewN nq).cell? ⟨B, 2, none⟩ = some (.int .i64 q) := b2
      have ts2 : (w2.drewN nq).cell? ⟨A.s, 2, none⟩ = some (.slice (some ⟨gv, 0, none⟩) g2.l.length cap) := s2
      have tc2 : (w2.drewN nq).cell? ⟨gv, i * 10 + 2, none⟩ = some (.int .i32 j) := c2
      have td0 : (w2.drewN nq).cell? ⟨gv, j * 10, none⟩ = some (.string qj.id) := d0
      have HM4 : Hid (Moved V A L w g x (w2.drewN nq) g2 x) := HM2.out.trans (HB2.out.drewN nq)
      clear b0 b1 b2 s1 s2 s5 s9 c0 c1 c2 c3 c4 d0 hj1 hj2
      generalize w2.drewN nq = w4 at t0 t1 t2 ts2 tc2 td0 HM4 ⊢
      go_wp2_with fail
      go_region_law
       ((go_simp
         go_at_call 42
         refine (await_both (w := w4.drew) HM4.out.both.drew.both qj.id i q hi2 hc).mono ?_
         rintro e w5 ⟨rfl, x5, hM5, h51, h52⟩))
      all_goals
        have HE : Hid (Considered V A L w g x w5) := ⟨g2, x5, (HM4.out.trans HM4.out.both.drew).trans hM5, h51, h52⟩
        clear hM5 h51 h52
        go_wp2_with fail
        refine bodyPost_ret (v := .tuple #[]) (by simp [results]) rfl ?_
        exact ⟨rfl, HE.out⟩
  · skip
    subst he
    subst hg2
    simp only [maxLen] at hn2
    obtain ⟨u, cu, p, vv, xs, k1, k2, k3⟩ := HB2.out.store.boxes i r' hr' hp'
    have u2 : w2.cell? ⟨u, 2, none⟩ = some (.string p) := by simp [World.cell?, k2.box]
    have hl : ∀ q', (Instr.lookup 81 (.map (some A.mu)) (.int .i32 i) false).run Ybaf.prog (w2.drewN q') = .ok (.pointer (some ⟨u, 0, none⟩)) (w2.drewN q') := by
      intro q'
      have := run_look (KK.int Ybaf.underlying21) Ybaf.underlying81 zero_ptr118 (w := w2.drewN q') HB2.out.store.unres (i : Int)
      rwa [k1] at this
    have hl2 : ∀ q', (Instr.lookup 74 (.map (some A.mi)) (.string p) true).run Ybaf.prog (w2.drewN q') = .ok (.tuple #[(get g2.es p).getD (.int .i32 0), .bool (get g2.es p).isSome]) (w2.drewN q') := fun q' =>
      run_look_ok (KK.string Ybaf.underlying9) Ybaf.underlying74 zero_i32 (w := w2.drewN q') HB2.out.store.index p
    have hnI : (0 : Int) < (n : Int) := by omega
    clear k2 k3 hr' hp' hbel k1
    go_wp2_with fail
    go_quiet (fail)
    rename_i nq
    have hl3 := hl2 nq
    have t0 : (w2.drewN nq).cell? ⟨B, 0, none⟩ = some (.pointer none) := b0
    have t1 : (w2.drewN nq).cell? ⟨B, 1, none⟩ = some (.int .i32 i) := b1
    have t2 : (w2.drewN nq).cell? ⟨B, 2, none⟩ = some (.int .i64 q) := b2
    have ts1 : (w2.drewN nq).cell? ⟨A.s, 1, none⟩ = some (.map (some A.mi)) := s1
    have ty : (w2.drewN nq).cell? ⟨a, 0, none⟩ = some (.string y) := hy
    have HM4 : Hid (Moved V A L w g2 x (w2.drewN nq) g2 x) := HM2.out.trans (HB2.out.drewN nq)
    clear b0 b1 b2 s1 s2 s5 s9 hl hl2 hy u2
    generalize w2.drewN nq = w4 at t0 t1 t2 ts1 ty hl3 HM4 ⊢
    have case20 : ∀ (id : ByteArray), Calls Ybaf.prog 42 #[.pointer (some ⟨V.v, 0, none⟩), .string id, .agg #[.pointer none, .int .i32 i, .int .i64 q]] w4.drew fun e w' => e = .returned (.tuple #[]) ∧ Hid (Considered V A L w g2 x w') := fun id => by
      refine (await_both (w := w4.drew) HM4.out.both.drew.both id i q hi2 hc).mono ?_
      rintro e w5 ⟨rfl, x5, hM5, h51, h52⟩
      exact ⟨rfl, g2, x5, (HM4.out.trans HM4.out.both.drew).trans hM5, h51, h52⟩
    have case18 : ∀ (id : ByteArray), Calls Ybaf.prog 42 #[.pointer (some ⟨V.v, 0, none⟩), .string id, .agg #[.pointer none, .int .i32 i, .int .i64 q]] w4 fun e w' => e = .returned (.tuple #[]) ∧ Hid (Considered V A L w g2 x w') := fun id => by
      refine (await_both (w := w4) HM4.out.both id i q hi2 hc).mono ?_
      rintro e w5 ⟨rfl, x5, hM5, h51, h52⟩
      exact ⟨rfl, g2, x5, HM4.out.trans hM5, h51, h52⟩
    have C20 : Hid _ := case20
    have C18 : Hid _ := case18
    clear case20 case18
    by_cases hgn : p = gen
    · have e1 := is_gen hgn
      clear hgn
      go_wp2_with fail
      go_region_law ((go_simp; go_at_call 42; refine (C20.out y).mono ?_; rintro e w5 ⟨rfl, HE⟩))
      all_goals
        go_wp2_with fail
        refine bodyPost_ret (v := .tuple #[]) (by simp [results]) rfl ?_
        exact ⟨rfl, HE.out⟩
    · have e1 := ne_gen hgn
      clear hgn
      cases hk : get g2.es p with
      | none =>
        rw [hk] at hl3
        clear hk
        go_wp2_with fail
        refine (C18.out p).mono ?_
        rintro e w5 ⟨rfl, HE⟩
        go_wp2_with fail
        refine bodyPost_ret (v := .tuple #[]) (by simp [results]) rfl ?_
        exact ⟨rfl, HE.out⟩
      | some vj =>
        obtain ⟨j, qj, rfl, hj1, hj2⟩ := (HM4.out.both.store.plain.index p vj).1 hk
        rw [hk] at hl3
        simp only [Option.getD_some, Option.isSome_some] at hl3
        obtain ⟨st, hst, hcall⟩ := status_known HM4.out.both HFU2.out hj1
        have HCL : Hid (Calls Ybaf.prog 14 #[.pointer (some ⟨V.v, 0, none⟩), .int .i32 j] w4 fun e w' => e = .returned (.int .u8 st) ∧ w' = w4) := hcall
        clear hk hj1 hj2 hcall
        rcases hst with rfl | rfl
        · go_wp2_with fail
          refine HCL.out.mono ?_
          rintro e w5 ⟨rfl, rfl⟩
          go_wp2_with fail
          refine HCL.out.mono ?_
          rintro e w6 ⟨rfl, rfl⟩
          go_wp2_with fail
          refine (C18.out p).mono ?_
          rintro e w7 ⟨rfl, HE⟩
          go_wp2_with fail
          refine bodyPost_ret (v := .tuple #[]) (by simp [results]) rfl ?_
          exact ⟨rfl, HE.out⟩
        · go_wp2_with fail
          refine HCL.out.mono ?_
          rintro e w5 ⟨rfl, rfl⟩
          go_wp2_with fail
          go_region_law ((go_simp; go_at_call 42; refine (C20.out y).mono ?_; rintro e w6 ⟨rfl, HE⟩))
          all_goals
            go_wp2_with fail
            refine bodyPost_ret (v := .tuple #[]) (by simp [results]) rfl ?_
            exact ⟨rfl, HE.out⟩
end
end Go.Proofs.YbulkkeiFmt
