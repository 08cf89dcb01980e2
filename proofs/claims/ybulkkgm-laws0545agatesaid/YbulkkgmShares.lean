/-
  THE WALKS of this seat, II: sharesLeave, for a place that holds node 0 alone with a slack of -1 and nothing beyond: it answers false.
-/
import Derived.Test.YbulkkgmLeaves
import Derived.Deep.RegionWith
import Derived.Deep.CutRange
import Derived.WalkSmall
namespace Go.Proofs.Ybulkkgm
open Go.RowKit

/-- What 'sharesLeave' reads, in the world w; w0: the world at the law's beginning, below B. -/
structure Lies (w0 : World) (B P E d0 sb nb slb beb : Nat) (w : World) : Prop where
  below : Below B w0 w
  bP : B ≤ P
  bw : B ≤ w.heap.size
  p6 : w.cell? ⟨P, 6, none⟩ = some (.slice (some ⟨nb, 0, none⟩) 1 1)
  p7 : w.cell? ⟨P, 7, none⟩ = some (.slice (some ⟨slb, 0, none⟩) 1 1)
  p10 : w.cell? ⟨P, 10, none⟩ = some (.slice (some ⟨beb, 0, none⟩) 1 1)
  nb0 : w.cell? ⟨nb, 0, none⟩ = some (.int .i64 0)
  slb0 : w.cell? ⟨slb, 0, none⟩ = some (.int .i64 (-1))
  beb0 : w.cell? ⟨beb, 0, none⟩ = some (.int .i64 0)
  e2 : w.cell? ⟨E, 2, none⟩ = some (.int .i64 1)
  d00 : w.cell? ⟨d0, 0, none⟩ = some (.int .i64 1)
  s0 : w.cell? ⟨sb, 0, none⟩ = some (.int .i64 0)
  s1 : w.cell? ⟨sb, 1, none⟩ = some (.int .i64 0)
  s2 : w.cell? ⟨sb, 2, none⟩ = some (.int .i64 1)

theorem below_cell {n : Nat} {w w' : World} (h : Below n w w') (hn : n = w.heap.size) {b o : Nat} {v : Value} (hc : w.cell? ⟨b, o, none⟩ = some v) : w'.cell? ⟨b, o, none⟩ = some v := by
  subst hn
  exact (h.cell (p := ⟨b, o, none⟩) (World.block_lt_of_cell? _ _ hc)).trans hc

theorem blk {w : World} {b o : Nat} {v : Value} (h : w.cell? ⟨b, o, none⟩ = some v) : b < w.heap.size := World.block_lt_of_cell? _ _ h

theorem Lies.next {w0 w w' : World} {B P E d0 sb nb slb beb : Nat} (L : Lies w0 B P E d0 sb nb slb beb w) (h : Below w.heap.size w w') : Lies w0 B P E d0 sb nb slb beb w' :=
  ⟨L.below.trans (h.mono L.bw), L.bP, Nat.le_trans L.bw h.size, below_cell h rfl L.p6, below_cell h rfl L.p7, below_cell h rfl L.p10, below_cell h rfl L.nb0, below_cell h rfl L.slb0, below_cell h rfl L.beb0, below_cell h rfl L.e2, below_cell h rfl L.d00, below_cell h rfl L.s0, below_cell h rfl L.s1, below_cell h rfl L.s2⟩

theorem cell_set_off {w : World} {b o b' o' : Nat} {v x : Value} (hc : w.cell? ⟨b, o, none⟩ = some v) (hne : ¬ (b = b' ∧ o = o')) : (w.setCell ⟨b', o', none⟩ x).cell? ⟨b, o, none⟩ = some v := by
  rw [← hc]
  apply World.cell?_setCell_other
  intro h
  simp only [Addr.mk.injEq, and_true] at h
  exact hne ⟨h.1.symm, h.2.symm⟩

theorem cell_set_same {w : World} {b o : Nat} {v x : Value} (hc : w.cell? ⟨b, o, none⟩ = some v) : (w.setCell ⟨b, o, none⟩ x).cell? ⟨b, o, none⟩ = some x :=
  World.cell?_setCell_same _ _ _ hc

theorem Lies.set {w0 w : World} {B P E d0 sb nb slb beb b o : Nat} (x : Value) (L : Lies w0 B P E d0 sb nb slb beb w) (hb : B ≤ b) (h : (b = P ∧ o = 56) ∨ (b ≠ P ∧ b ≠ E ∧ b ≠ d0 ∧ b ≠ sb ∧ b ≠ nb ∧ b ≠ slb ∧ b ≠ beb)) :
    Lies w0 B P E d0 sb nb slb beb (w.setCell ⟨b, o, none⟩ x) :=
  ⟨L.below.setCell hb _, L.bP, by simpa using L.bw, cell_set_off L.p6 (by omega), cell_set_off L.p7 (by omega), cell_set_off L.p10 (by omega), cell_set_off L.nb0 (by omega), cell_set_off L.slb0 (by omega), cell_set_off L.beb0 (by omega), cell_set_off L.e2 (by omega), cell_set_off L.d00 (by omega), cell_set_off L.s0 (by omega), cell_set_off L.s1 (by omega), cell_set_off L.s2 (by omega)⟩

/-- .. with the new slice's one cell (block g) and the loop variable's block q. -/
structure LiesQ (w0 : World) (B P E d0 sb nb slb beb g q : Nat) (w : World) : Prop where
  lies : Lies w0 B P E d0 sb nb slb beb w
  fz : w.frozen? ⟨g, 0, none⟩ = false
  q1 : w.cell? ⟨q, 1, none⟩ = some (.int .i64 0)
  q2 : w.cell? ⟨q, 2, none⟩ = some (.int .i64 1)
  g0 : w.cell? ⟨g, 0, none⟩ = some (.int .i64 1)

theorem LiesQ.drewN {w0 w : World} {B P E d0 sb nb slb beb g q : Nat} (L : LiesQ w0 B P E d0 sb nb slb beb g q w) (n : Nat) : LiesQ w0 B P E d0 sb nb slb beb g q (w.drewN n) :=
  ⟨L.lies.next (below_drewN (Below.refl _ w) n), L.fz, L.q1, L.q2, L.g0⟩

/-- 'clear' of a slice of one int64. -/
theorem clear_run (g G : Nat) (v : Value) (W : World) (hc : W.cell? ⟨g, 0, none⟩ = some v) (hf : W.frozen? ⟨g, 0, none⟩ = false) :
    (Builtin.clear_ #[26] 0 #[.slice (some ⟨g, 0, none⟩) 1 G]).run Yba.prog W = .ok (.tuple #[]) (W.setCell ⟨g, 0, none⟩ (.int .i64 0)) := by
  have e1 : Builtin.zeroCells (Value.cells (.int .i64 0)) 1 = #[.int .i64 0] := by kernel_rfl
  have hz : (zeroValue 2).run Yba.prog W = .ok (.int .i64 0) W := by kernel_rfl
  have hu : (underlying 26).run Yba.prog W = .ok (.slice 2) W := by kernel_rfl
  unfold Builtin.clear_
  simp [hu, hz, e1]
  go_simp

set_option maxRecDepth 100000 in
set_option maxHeartbeats 4000000 in
theorem shares_c (w0 : World) (B P E d0 sb nb slb beb : Nat) (w : World) (L : Lies w0 B P E d0 sb nb slb beb w) (h56 : w.cell? ⟨P, 56, none⟩ = some (.slice none 0 0)) (f56 : w.frozen? ⟨P, 56, none⟩ = false) :
    Calls Yba.prog 8 #[.pointer (some ⟨P, 0, none⟩), .pointer (some ⟨E, 0, none⟩), .slice (some ⟨d0, 0, none⟩) 1 1, .slice (some ⟨sb, 0, none⟩) 1 1] w fun e w' => e = .returned (.bool false) ∧ Below B w0 w' := by
  have HL : Hid (Lies w0 B P E d0 sb nb slb beb w) := L
  have e2 := L.e2
  have hPw : P < w.heap.size := World.block_lt_of_cell? _ _ h56
  clear L
  go_enter Yba.func8, Yba.ntmps8
  go_upto_region 1 with fail
  go_cut [9] from 28 to 42 (fun s9 wx => ∃ g G : Nat, 1 ≤ G ∧ G ≤ 9223372036854775807 ∧ s9 = .slice (some ⟨g, 0, none⟩) 1 G ∧ Below w.heap.size w wx ∧ w.heap.size ≤ g ∧
      wx.cell? ⟨g, 0, none⟩ = some (.int .i64 0) ∧ wx.frozen? ⟨g, 0, none⟩ = false)
  case first =>
    go_region_with (go_at_call 9; refine (grow_c _).mono ?_; rintro e w1 ⟨G, rfl, g1, g2, hB, hc, hfz, hsz⟩; have e2b : w1.cell? ⟨E, 2, none⟩ = some (.int .i64 1) := below_cell hB rfl (by exact e2))
    all_goals (go_wp2_with fail; go_meet; exact ⟨w.heap.size, G, g1, g2, rfl, ((Below.refl _ w).drew).trans hB, Nat.le_refl _, hc, hfz⟩)
  case rest =>
    obtain ⟨g, G, g1, g2, rfl, hB, hgw, hc, hfz⟩ := hcut
    have h56b : wc.cell? ⟨P, 56, none⟩ = some (.slice none 0 0) := below_cell hB rfl h56
    have f56b : wc.frozen? ⟨P, 56, none⟩ = false := (hB.frozen (p := ⟨P, 56, none⟩) hPw).trans f56
    have HL2 : Hid (Lies w0 B P E d0 sb nb slb beb wc) := HL.out.next hB
    have nP : P < g := by omega
    have nE : E < g := by have := blk HL.out.e2; omega
    have nd : d0 < g := by have := blk HL.out.d00; omega
    have ns : sb < g := by have := blk HL.out.s0; omega
    have nn : nb < g := by have := blk HL.out.nb0; omega
    have nl : slb < g := by have := blk HL.out.slb0; omega
    have ne : beb < g := by have := blk HL.out.beb0; omega
    have nB : B ≤ g := by have := HL.out.bw; omega
    have hclr := clear_run g G (.int .i64 0) (wc.setCell ⟨P, 56, none⟩ (.slice (some ⟨g, 0, none⟩) 1 G)) (cell_set_off hc (by omega)) (by go_simp)
    clear HL hB h56 f56 e2
    have HG : Hid (Lies w0 B P E d0 sb nb slb beb ((wc.setCell ⟨P, 56, none⟩ (.slice (some ⟨g, 0, none⟩) 1 G)).setCell ⟨g, 0, none⟩ (.int .i64 0)) ∧
        ((wc.setCell ⟨P, 56, none⟩ (.slice (some ⟨g, 0, none⟩) 1 G)).setCell ⟨g, 0, none⟩ (.int .i64 0)).cell? ⟨g, 0, none⟩ = some (.int .i64 0) ∧
        ((wc.setCell ⟨P, 56, none⟩ (.slice (some ⟨g, 0, none⟩) 1 G)).setCell ⟨g, 0, none⟩ (.int .i64 0)).frozen? ⟨g, 0, none⟩ = false) := by
      refine ⟨(HL2.out.set _ HL2.out.bP (Or.inl ⟨rfl, rfl⟩)).set _ (by omega) (Or.inr (by omega)), ?_, ?_⟩
      · exact cell_set_same (cell_set_off hc (by omega))
      · go_simp
    go_wp2_with fail
    clear hclr
    generalize (wc.setCell ⟨P, 56, none⟩ (.slice (some ⟨g, 0, none⟩) 1 G)).setCell ⟨g, 0, none⟩ (.int .i64 0) = w2 at HG ⊢
    clear HL2 h56b f56b hfz hc
    go_loopw [10, 11, 12, 50] (fun s10 s11 s12 s50 wr => Lies w0 B P E d0 sb nb slb beb wr ∧ wr.frozen? ⟨g, 0, none⟩ = false ∧
        ((s10 = .bool false ∧ s11 = .bool true ∧ s12 = .int .i64 0 ∧ s50 = .int .i64 0 ∧ wr.cell? ⟨g, 0, none⟩ = some (.int .i64 0)) ∨
         (s10 = .bool true ∧ s11 = .bool false ∧ s12 = .int .i64 0 ∧ s50 = .int .i64 1 ∧ wr.cell? ⟨g, 0, none⟩ = some (.int .i64 1)))) (fun _ _ _ s50 _ => (1 - intOf s50).toNat)
    case atStart => exact ⟨HG.out.1, HG.out.2.2, Or.inl ⟨rfl, rfl, rfl, rfl, HG.out.2.1⟩⟩
    case round =>
      obtain ⟨hL, hfz, hrel⟩ := hrel
      rcases hrel with ⟨rfl, rfl, rfl, rfl, hc⟩ | ⟨rfl, rfl, rfl, rfl, hc⟩
      · have ss0 := hL.s0
        have ss1 := hL.s1
        have ss2 := hL.s2
        have hg0 := blk hc
        obtain ⟨wo, hwo⟩ : ∃ wo : World, wo = wr.alloc (.cells #[.int .i64 0, .int .i64 0, .int .i64 1] 97) := ⟨_, rfl⟩
        have hBo : Below wr.heap.size wr wo := by rw [hwo]; exact (Below.refl _ _).alloc (Nat.le_refl _) _
        have a0 : wo.cell? ⟨wr.heap.size, 0, none⟩ = some (.int .i64 0) := by rw [hwo]; go_simp
        have a1 : wo.cell? ⟨wr.heap.size, 1, none⟩ = some (.int .i64 0) := by rw [hwo]; go_simp
        have a2 : wo.cell? ⟨wr.heap.size, 2, none⟩ = some (.int .i64 1) := by rw [hwo]; go_simp
        have HLo : Hid (Lies w0 B P E d0 sb nb slb beb wo) := hL.next hBo
        have hco : wo.cell? ⟨g, 0, none⟩ = some (.int .i64 0) := below_cell hBo rfl hc
        have hfo : wo.frozen? ⟨g, 0, none⟩ = false := (hBo.frozen (p := ⟨g, 0, none⟩) hg0).trans hfz
        have Hwo : Hid (wo = wr.alloc (.cells #[.int .i64 0, .int .i64 0, .int .i64 1] 97)) := hwo
        clear hwo
        go_wp2_with fail
        rw [← Hwo.out]
        generalize wr.heap.size = q at a0 a1 a2 hg0 ⊢
        clear Hwo hBo hc hfz hL ss0 ss1 ss2
        -- 'for k, a := range d'
        go_loopw [56] (fun s56 wi => Lies w0 B P E d0 sb nb slb beb wi ∧ wi.frozen? ⟨g, 0, none⟩ = false ∧ wi.cell? ⟨q, 1, none⟩ = some (.int .i64 0) ∧ wi.cell? ⟨q, 2, none⟩ = some (.int .i64 1) ∧
          ((s56 = .int .i64 0 ∧ wi.cell? ⟨g, 0, none⟩ = some (.int .i64 0)) ∨ (s56 = .int .i64 1 ∧ wi.cell? ⟨g, 0, none⟩ = some (.int .i64 1)))) (fun s56 _ => (1 - intOf s56).toNat)
        case atStart => exact ⟨HLo.out, hfo, a1, a2, Or.inl ⟨rfl, hco⟩⟩
        case round =>
          clear HLo hfo hco a0 a1 a2
          obtain ⟨hL, hfz, a1, a2, hrel⟩ := hrel
          rcases hrel with ⟨rfl, hc⟩ | ⟨rfl, hc⟩
          · have HL : Hid (Lies w0 B P E d0 sb nb slb beb wr) := hL
            have d00 := hL.d00
            clear hL
            go_wp2_with fail
            go_region
            go_wp2_with fail
            go_roundw
            case rel =>
              refine ⟨(HL.out.set _ nB (Or.inr (by omega))).next ((Below.refl _ _).drew), ?_, ?_, ?_, Or.inr ⟨rfl, ?_⟩⟩
              · go_simp
              · exact cell_set_off a1 (by omega)
              · exact cell_set_off a2 (by omega)
              · exact cell_set_same hc
            case measure => simp [intOf]
          · have HL : Hid (Lies w0 B P E d0 sb nb slb beb wr) := hL
            have p6 := hL.p6
            have nb0 := hL.nb0
            clear hL
            go_wp2_with fail
            have HQ : Hid (LiesQ w0 B P E d0 sb nb slb beb g q wr) := ⟨HL.out, hfz, a1, a2, hc⟩
            go_loopw [12] (fun s12 wi => s12 = .int .i64 0 ∧ LiesQ w0 B P E d0 sb nb slb beb g q wi) (fun _ _ => 0)
            case atStart => exact ⟨rfl, HQ.out⟩
            case round =>
              clear HL p6 nb0 hfz a1 a2 hc HQ
              obtain ⟨rfl, hL⟩ := hrel
              have HQ : Hid (LiesQ w0 B P E d0 sb nb slb beb g q wr) := hL
              have p6 := hL.lies.p6
              have nb0 := hL.lies.nb0
              have a1 := hL.q1
              clear hL
              go_wp2_with fail
              go_quiet (fail)
              have hL := HQ.out.drewN nq
              clear HQ p6 nb0 a1
              generalize wr.drewN nq = wa at hL ⊢
              have HQ : Hid (LiesQ w0 B P E d0 sb nb slb beb g q wa) := hL
              have p6 := hL.lies.p6
              have nb0 := hL.lies.nb0
              have a1 := hL.q1
              clear hL
              go_wp2_with fail
              go_quiet (fail)
              have hL := HQ.out.drewN nq
              clear HQ p6 nb0 a1
              generalize wa.drewN nq = wb at hL ⊢
              have HQ : Hid (LiesQ w0 B P E d0 sb nb slb beb g q wb) := hL
              have p7 := hL.lies.p7
              have e2 := hL.lies.e2
              clear hL
              go_wp2_with fail
              go_quiet ((go_at_call 10; exact Calls.quiet_of_same (amounts_c _ _)))
              have hL := HQ.out.drewN nq
              clear HQ p7 e2
              generalize wb.drewN nq = wd at hL ⊢
              go_wp2_with fail
              go_loopw [11, 123] (fun s11 s123 wi => LiesQ w0 B P E d0 sb nb slb beb g q wi ∧ ((s11 = .bool true ∧ s123 = .int .i64 0) ∨ (s11 = .bool false ∧ s123 = .int .i64 1))) (fun _ s _ => (1 - intOf s).toNat)
              case atStart => exact ⟨hL, Or.inl ⟨rfl, rfl⟩⟩
              case round =>
                clear hL
                obtain ⟨hL, hrel⟩ := hrel
                rcases hrel with ⟨rfl, rfl⟩ | ⟨rfl, rfl⟩
                · have HQ : Hid (LiesQ w0 B P E d0 sb nb slb beb g q wr) := hL
                  have a2 := hL.q2
                  have d00 := hL.lies.d00
                  have sl0 := hL.lies.slb0
                  clear hL
                  go_wp2_with fail
                  go_quiet (fail)
                  go_wp2_with fail
                  go_roundw
                  case rel => exact ⟨HQ.out.drewN _, Or.inr ⟨rfl, rfl⟩⟩
                  case measure => simp [intOf]
                · have HQ : Hid (LiesQ w0 B P E d0 sb nb slb beb g q wr) := hL
                  clear hL
                  go_wp2_with fail
                  go_roundw
                  case rel => exact ⟨HQ.out.lies, HQ.out.fz, Or.inr ⟨rfl, rfl, rfl, rfl, HQ.out.g0⟩⟩
                  case measure => simp [intOf]
      · have HL : Hid (Lies w0 B P E d0 sb nb slb beb wr) := hL
        have p10 := hL.p10
        have be0 := hL.beb0
        clear hL
        go_wp2_with fail
        refine (covers_c beb g G _ (by exact be0) (by exact hc)).mono ?_
        rintro e w3 ⟨rfl, rfl⟩
        go_wp2_with fail
        go_ret
        exact ⟨rfl, HL.out.below⟩
end Go.Proofs.Ybulkkgm
