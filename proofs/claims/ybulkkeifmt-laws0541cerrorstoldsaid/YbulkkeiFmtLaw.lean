/-
  THE LAW: the walk.
-/
import Derived.Test.YbulkkeiFmtLawW0
import Derived.Deep.CutRange
namespace Go.Proofs.YbulkkeiFmt
open Go.RowKit Go.Extern.Stop Go.Stop Go.Extern
set_option maxRecDepth 8000
attribute [local go_sem ↓] Go.wp_at_zero Go.wp_at_succ

set_option maxHeartbeats 12800000 in
theorem law_ok (F : Interp) (mm : Int) (hm : 0 ≤ mm ∧ mm ≤ 255) (bar : Bool) (w : World) (hF : F.answers w.tape) (a : Addr) (n cap : Nat) (I C P : Nat → Int) (Sl : Nat → Option Addr) (Ln Cp : Nat → Nat) (Z : Nat → Nat → Int) (hS : StepsAt w a n I C P Sl Ln Cp Z) :
    Calls Ybaf.prog 3 #[.int .u8 mm, .bool bar, .slice (some a) n cap] w fun e w' => e = .returned (.bool true) ∧ Below w.heap.size w w' := by
  have HS : Hid (StepsAt w a n I C P Sl Ln Cp Z) := hS
  have HF : Hid (F.answers w.tape) := hF
  clear hS hF
  by_cases hbig : 256 < n
  · have hbI : (256 : Int) < (n : Int) := by omega
    go_enter Ybaf.func3, Ybaf.ntmps3
    go_wp2_with fail
    all_goals try (exfalso; omega)
    go_ret
    exact ⟨rfl, Below.refl _ _⟩
  · have hn256 : (n : Int) ≤ 256 := by omega
    go_enter Ybaf.func3, Ybaf.ntmps3
    go_wp2_with fail
    all_goals try (exfalso; omega)
    go_loopw [41] (fun s41 wr => ∃ j : Nat, s41 = .int .i64 j ∧ j ≤ n ∧ (∀ i, i < j → Ln i ≤ 256) ∧ wr = w) (fun s41 _ => n - (intOf s41).toNat)
    case atStart => exact ⟨0, rfl, Nat.zero_le _, fun _ h => absurd h (Nat.not_lt_zero _), rfl⟩
    case round =>
      obtain ⟨j, rfl, hj, hle, hw⟩ := hrel
      have hw' := hw.symm
      clear hw
      subst hw'
      have HLE : Hid (∀ i, i < j → Ln i ≤ 256) := hle
      clear hle
      by_cases hjn : j < n
      · have c3 := HS.out.c3 j hjn
        obtain ⟨l1, l2, -⟩ := HS.out.ln j hjn
        simp only [maxLen] at l2
        by_cases hl : 256 < Ln j
        · have hlI : (256 : Int) < (Ln j : Int) := by omega
          go_wp2_with fail
          all_goals try (exfalso; omega)
          go_ret
          exact ⟨rfl, Below.refl _ _⟩
        · have hlI : ¬ (256 : Int) < (Ln j : Int) := by omega
          go_wp2_with fail
          all_goals try (exfalso; omega)
          go_roundw
          case rel =>
            refine ⟨j + 1, by simp, by omega, fun i hi => ?_, trivial⟩
            rcases (by omega : i < j ∨ i = j) with h | h
            · exact HLE.out i h
            · subst h
              omega
          case measure => simp [intOf]; omega
      · have HLA : Hid (∀ i, i < n → Ln i ≤ 256) := fun i hi => HLE.out i (by omega)
        clear HLE
        have hch : 1 ≤ 1 + mm % 4 ∧ 1 + mm % 4 ≤ 4 := by omega
        go_wp2_with fail
        all_goals try (exfalso; omega)
        obtain ⟨w1, hw1⟩ : ∃ w1, w1 = w.alloc (.cells #[.bool bar, .int .i64 0] 29) := ⟨_, rfl⟩
        have hrb : w1.heap[w.heap.size]? = some (.cells #[.bool bar, .int .i64 0] 29 (0, 0)) := by rw [hw1]; exact heap_alloc_new w _
        have hB1 : Below w.heap.size w w1 := by rw [hw1]; exact (Below.refl _ w).alloc (Nat.le_refl _) _
        have HB1 : Hid (Below w.heap.size w w1) := hB1
        have hnew := newBoth_ok (1 + mm % 4) hch.1 w1 (fun k => k < w.heap.size) (fun k hk => Nat.lt_of_lt_of_le hk hB1.size) hrb (Nat.lt_irrefl _)
        rw [← hw1]
        clear hrb hB1 hw1
        refine hnew.mono ?_
        rintro e w2 ⟨V, A, hAch, rfl, hBo, hF2⟩
        clear hnew
        have HBo : Hid (Both V A (fun k => k < w.heap.size) w2 SG.empty VG.empty) := hBo
        have HF2 : Hid (Fr (fun k => k < w.heap.size) [29] [] w1 w2) := hF2
        have HA : Hid (A.ch = 1 + mm % 4) := hAch
        clear hBo hF2 hAch
        go_wp2_with fail
        obtain ⟨b2, hb2⟩ : ∃ b2, b2 = w2.heap.size := ⟨_, rfl⟩
        have HI : Hid (LawInv V A w b2 (b2 + 1) (b2 + 1 + 1) 0 (((w2.alloc (.cells #[.bool false, .bool false, .bool false, .bool false] 35)).alloc (.cells #[.int .i64 0, .int .i64 0, .int .i64 0, .int .i64 0] 36)).alloc (.cells #[.slice none 0 0, .slice none 0 0, .slice none 0 0, .slice none 0 0] 38))) := by
          rw [hb2]
          exact lawInv_start HB1.out HBo.out HF2.out
        rw [← hb2]
        have HB2 : Hid (b2 = w2.heap.size) := hb2
        clear hb2
        go_loopw [74] (fun s74 wx => ∃ j : Nat, s74 = .int .i64 j ∧ j ≤ n ∧ LawInv V A w b2 (b2 + 1) (b2 + 1 + 1) j wx) (fun s74 _ => n - (intOf s74).toNat)
        case atStart => exact ⟨0, rfl, Nat.zero_le _, HI.out⟩
        case round =>
          clear HI
          obtain ⟨i, rfl, hi, hI⟩ := hrel
          by_cases hin : i < n
          · obtain ⟨L, g, x, m, hBo, hfu, hcn, hRel, hMem, hLin, hPl, hBl⟩ := hI
            have d0 := (World.cell?_of_block (hBl.block _ (HS.out.lt i hin))).trans (HS.out.c0 i hin)
            have d1 := (World.cell?_of_block (a := ⟨(a.add (i * 4)).block, (a.add (i * 4)).off + 1, none⟩) (hBl.block _ (HS.out.lt i hin))).trans (HS.out.c1 i hin)
            have d2 := (World.cell?_of_block (a := ⟨(a.add (i * 4)).block, (a.add (i * 4)).off + 2, none⟩) (hBl.block _ (HS.out.lt i hin))).trans (HS.out.c2 i hin)
            obtain ⟨sl, hsl⟩ : ∃ sl, Sl i = sl := ⟨_, rfl⟩
            have d3 := (World.cell?_of_block (a := ⟨(a.add (i * 4)).block, (a.add (i * 4)).off + 3, none⟩) (hBl.block _ (HS.out.lt i hin))).trans (HS.out.c3 i hin)
            rw [hsl] at d3
            have HBo : Hid (Both V A L wr g x) := hBo
            have HFu : Hid (x.ss.length = g.l.length) := hfu
            have HCn : Hid (x.cnt + lenV x.wo ≤ i) := hcn
            have HRel : Hid (Rel g m) := hRel
            have HMem : Hid (LawMem L w.heap.size b2 (b2 + 1) (b2 + 1 + 1) m wr) := hMem
            have HLin : Hid (∀ k, k < w.heap.size → L k) := hLin
            have HPl : Hid (∀ k, (m.pend k).length ≤ 300 * i) := hPl
            have HBl : Hid (Below w.heap.size w wr) := hBl
            have HSN : Hid (sl = none → Ln i = 0) := by rw [← hsl]; exact (HS.out.ln i hin).2.2
            have HSZ : Hid (∀ a', sl = some a' → ∀ j, j < Ln i → wr.cell? (a'.add j) = some (.int .u8 (Z i j)) ∧ (a'.add j).block < w.heap.size) := by
              intro a' ha' j hj
              rw [← hsl] at ha'
              have h1 := HS.out.lz i hin a' ha' j hj
              exact ⟨(World.cell?_of_block (hBl.block _ h1)).trans (HS.out.z i hin a' ha' j hj), h1⟩
            have hle := HLA.out i hin
            clear hBo hfu hcn hRel hMem hLin hPl hBl hsl
            have hiI : (i : Int) < (n : Int) := by omega
            refine wp_seq_k fun K1 hK1 => ?_
            have HK1 : Hid (∀ a w, _ → K1 a w) := hK1
            clear hK1
            go_wp2_with fail
            refine HK1.out _ _ ?_
            clear HK1
            refine wp_seq_k fun K2 hK2 => ?_
            have HK2 : Hid (∀ a w, _ → K2 a w) := hK2
            clear hK2
            go_wp2_with fail
            refine HK2.out _ _ ?_
            clear HK2
            refine wp_seq_k fun K3 hK3 => ?_
            have HK3 : Hid (∀ a w, _ → K3 a w) := hK3
            clear hK3
            refine wp_block ?_
            rw [← HA.out]
            refine law_round F HF.out (by omega) HBo.out HFu.out HCn.out HRel.out HMem.out HLin.out HPl.out HBl.out ⟨(HS.out.ln i hin).1, (HS.out.ln i hin).2.1⟩ hle HSN.out (fun a' ha' j hj => ⟨(HSZ.out a' ha' j hj).1, Nat.lt_of_lt_of_le (HSZ.out a' ha' j hj).2 HBl.out.size⟩) (HS.out.bz i hin) hin (HS.out.bi i hin) (HS.out.bc i hin) (HS.out.bp i hin) d0 d1 d2 d3 ?_
            clear d0 d1 d2 d3
            intros
            rename_i w9 hI9
            have HI9 : Hid (LawInv V A w b2 (b2 + 1) (b2 + 1 + 1) (i + 1) w9) := hI9
            clear hI9
            show K3 _ _
            refine HK3.out _ _ ?_
            clear HK3
            rw [HA.out]
            go_wp2_with fail
            go_roundw
            case rel => exact ⟨i + 1, by simp, by omega, HI9.out⟩
            case measure => simp [intOf]; omega
          · obtain ⟨L, g, x, m, -, -, -, -, -, -, -, hBl⟩ := hI
            have HBl : Hid (Below w.heap.size w wr) := hBl
            clear hBl
            go_wp2_with fail
            go_ret
            exact ⟨rfl, HBl.out⟩

set_option maxHeartbeats 12800000 in
/-- No steps at all. -/
theorem law_nil (mm : Int) (hm : 0 ≤ mm ∧ mm ≤ 255) (bar : Bool) (w : World) :
    Calls Ybaf.prog 3 #[.int .u8 mm, .bool bar, .slice none 0 0] w fun e w' => e = .returned (.bool true) ∧ Below w.heap.size w w' := by
  have hch : 1 ≤ 1 + mm % 4 ∧ 1 + mm % 4 ≤ 4 := by omega
  go_enter Ybaf.func3, Ybaf.ntmps3
  go_wp2_with fail
  go_loopw [41] (fun s41 wr => s41 = .int .i64 0 ∧ wr = w) (fun _ _ => 0)
  case atStart => exact ⟨rfl, rfl⟩
  case round =>
    obtain ⟨rfl, hw⟩ := hrel
    have hw' := hw.symm
    clear hw
    subst hw'
    go_wp2_with fail
    all_goals try (exfalso; omega)
    obtain ⟨w1, hw1⟩ : ∃ w1, w1 = w.alloc (.cells #[.bool bar, .int .i64 0] 29) := ⟨_, rfl⟩
    have hrb : w1.heap[w.heap.size]? = some (.cells #[.bool bar, .int .i64 0] 29 (0, 0)) := by rw [hw1]; exact heap_alloc_new w _
    have hB1 : Below w.heap.size w w1 := by rw [hw1]; exact (Below.refl _ w).alloc (Nat.le_refl _) _
    have HB1 : Hid (Below w.heap.size w w1) := hB1
    have hnew := newBoth_ok (1 + mm % 4) hch.1 w1 (fun k => k < w.heap.size) (fun k hk => Nat.lt_of_lt_of_le hk hB1.size) hrb (Nat.lt_irrefl _)
    rw [← hw1]
    clear hrb hB1 hw1
    refine hnew.mono ?_
    rintro e w2 ⟨V, A, -, rfl, hBo, hF2⟩
    clear hnew
    have HI := lawInv_start HB1.out hBo hF2
    obtain ⟨L, g, x, m, -, -, -, -, -, -, -, hBl⟩ := HI
    have HBl : Hid (Below w.heap.size w (((w2.alloc (.cells #[.bool false, .bool false, .bool false, .bool false] 35)).alloc (.cells #[.int .i64 0, .int .i64 0, .int .i64 0, .int .i64 0] 36)).alloc (.cells #[.slice none 0 0, .slice none 0 0, .slice none 0 0, .slice none 0 0] 38))) := hBl
    clear hBl hBo hF2
    go_wp2_with fail
    go_loopw [74] (fun s74 wx => s74 = .int .i64 0 ∧ wx = ((w2.alloc (.cells #[.bool false, .bool false, .bool false, .bool false] 35)).alloc (.cells #[.int .i64 0, .int .i64 0, .int .i64 0, .int .i64 0] 36)).alloc (.cells #[.slice none 0 0, .slice none 0 0, .slice none 0 0, .slice none 0 0] 38)) (fun _ _ => 0)
    case atStart => exact ⟨rfl, rfl⟩
    case round =>
      obtain ⟨rfl, rfl⟩ := hrel
      go_wp2_with fail
      go_ret
      exact ⟨rfl, HBl.out⟩
end Go.Proofs.YbulkkeiFmt
