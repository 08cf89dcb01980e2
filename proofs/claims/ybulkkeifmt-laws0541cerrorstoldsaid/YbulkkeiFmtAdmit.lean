/-
  THE STORE (4): may a block be part of the store?
-/
import Derived.Test.YbulkkeiFmtInv
import Derived.Deep.RegionWith
import Derived.Deep.CutRange
namespace Go.Proofs.YbulkkeiFmt
open Go.RowKit Go.Extern.Stop Go.Stop Go.Extern
set_option maxRecDepth 8000
attribute [local go_sem ↓] Go.wp_at_zero Go.wp_at_succ

theorem any_take {α : Type} {l : List α} {j : Nat} {x : α} (f : α → Bool) (h : l[j]? = some x) (h0 : (l.take j).any f = false) (hx : f x = false) : (l.take (j + 1)).any f = false := by
  rw [List.take_add_one, h]
  simp [h0, hx]
theorem any_of {α : Type} {l : List α} {j : Nat} {x : α} (f : α → Bool) (h : l[j]? = some x) (hx : f x = true) : l.any f = true :=
  List.any_eq_true.2 ⟨x, List.mem_of_getElem? h, hx⟩

theorem bcell {w w' : World} (h : Below w.heap.size w w') {b o : Nat} {v : Value} (hc : w.cell? ⟨b, o, none⟩ = some v) : w'.cell? ⟨b, o, none⟩ = some v := (World.cell?_of_block (h.block b (blk hc))).trans hc

set_option maxHeartbeats 12800000 in
theorem admit_ok (F : Interp) {N : Nat → Prop} {w : World} {s : Nat} {ch : Int} {mi : Nat} {vs gp : Value} {ms : Nat} {co : Value} {mr mu : Nat} {es er : List (ByteArray × Value)} (hS : StoreAt w s ch mi vs gp ms co mr mu) (hF : F.answers w.tape)
    (hm : MapAt Value.string w mi es) (hr : MapAt Value.string w mr er) {R : ByteArray → List RF} (hR : RefsOk N w er R) {l : List VR} (hvs : Row N w 122 10 vs l.length (vrs l)) (hl4 : l.length ≤ 4) {cs : List Int} (hcs : Row N w 3 1 co cs.length (i64s cs)) {kc : ByteArray → Option Int} (hk : Knows es l cs kc)
    (id : ByteArray) (c : Int) {rs : Value} {refs : List RF} (hrow : w.ownsRow 0 103 4 rs refs.length (rfs refs)) (hroles : ∀ r ∈ refs, r.role = 2 ∨ r.role = 3) (hroles2 : ∀ r ∈ R id, r.role = 2 ∨ r.role = 3) (hcount : ∀ k, (R k).length + refs.length < 1000000) :
    Calls Ybaf.prog 20 #[.pointer (some ⟨s, 0, none⟩), .string id, .bool true, .int .i64 c, rs] w fun e w' => Below w.heap.size w w' ∧ ∃ v, e = .returned v ∧ ErrIf (admitBad kc R id c refs) v := by
  obtain ⟨s0, s1, s2, s3, s5, s6, s7, s8, s9⟩ := hS.cells
  obtain ⟨orf, cr, rfl, hr1, hr2⟩ := ownsRow_slice hrow
  simp only [maxLen] at hr2
  obtain ⟨ovs, cvs, rfl, hv1, hv2⟩ := ownsRow_slice hvs.1
  simp only [maxLen] at hv2
  have hx : (Instr.lookup 80 (.map (some mr)) (.string id) false).run Ybaf.prog w = .ok (rv er id) w := run_look (KK.string Ybaf.underlying9) Ybaf.underlying80 zero_refs hr id
  have hrid := hR.row id
  obtain ⟨oid, cid, hsl, hi1, hi2⟩ := ownsRow_slice hrid.1
  simp only [maxLen] at hi2
  rw [hsl] at hx hrid
  have HS : Hid (StoreAt w s ch mi (.slice ovs l.length cvs) gp ms co mr mu) := hS
  have HM : Hid (MapAt Value.string w mi es) := hm
  have HRID : Hid (w.ownsRow 0 103 4 (.slice oid (R id).length cid) (R id).length (rfs (R id))) := hrid.1
  have HROW : Hid (w.ownsRow 0 103 4 (.slice orf refs.length cr) refs.length (rfs refs)) := hrow
  have HVS : Hid (Row N w 122 10 (.slice ovs l.length cvs) l.length (vrs l)) := hvs
  have HCS : Hid (Row N w 3 1 co cs.length (i64s cs)) := hcs
  have HK : Hid (Knows es l cs kc) := hk
  have hlc : (refs.length : Int) < 1000000 := by have := hcount id; omega
  clear hS hm hr hR hrow hvs hcs hk hrid hsl hcount
  have hg1 : ((l.length : Int) == 2147483647) = false := by rw [beq_eq_false_iff_ne]; omega
  have hg2 : decide ((2147483647 : Int) - (refs.length : Int) < 0) = false := by rw [decide_eq_false_iff_not]; omega
  go_enter Ybaf.func20, Ybaf.ntmps20
  go_wp2_with fail
  clear hg1 hg2 hlc
  go_loopw [52] (fun s52 wr => ∃ j : Nat, s52 = .int .i64 j ∧ j ≤ (R id).length ∧ Below w.heap.size w wr ∧ ((R id).take j).any (fun r => unfit r.role r.chain c) = false) (fun s52 _ => (R id).length - (intOf s52).toNat)
  case atStart => exact ⟨0, rfl, Nat.zero_le _, Below.refl _ _, by simp⟩
  case round =>
    obtain ⟨j, rfl, hj, hB, hno⟩ := hrel
    have HB : Hid (Below w.heap.size w wr) := hB
    have HNO : Hid (((R id).take j).any (fun r => unfit r.role r.chain c) = false) := hno
    clear hno
    by_cases hjn : j < (R id).length
    · obtain ⟨r, hrj⟩ : ∃ r, (R id)[j]? = some r := ⟨_, List.getElem?_eq_getElem hjn⟩
      rcases HRID.out.2 with ⟨hbad, h0⟩ | ⟨g, cap, cur, hv, -, hgb, hq1, hq2, -, -⟩
      · omega
      cases hv
      have hsameg : wr.heap[g]? = w.heap[g]? := hB.block g (Array.getElem?_eq_some_iff.1 hgb).1
      obtain ⟨d0, d1, d2, d3⟩ := ownsRow_rf HRID.out (g := g) rfl hrj
      have c0 := (World.cell?_of_block hsameg).trans d0
      have c1 := (World.cell?_of_block hsameg).trans d1
      have c2 := (World.cell?_of_block hsameg).trans d2
      have c3 := (World.cell?_of_block hsameg).trans d3
      have HRJ : Hid ((R id)[j]? = some r) := hrj
      have HRO : Hid (r.role = 2 ∨ r.role = 3) := hroles2 r (List.mem_of_getElem? hrj)
      have HFr : Hid (F.answers wr.tape) := by show F.answers wr.tape; rw [hB.tape]; exact hF
      obtain ⟨rf, rt, rr, rc⟩ := r
      clear hrj hsameg d0 d1 d2 d3 hgb hB
      go_wp2_with fail
      refine (fits_ok F rf rt rr rc c HRO.out _ (by exact HFr.out)).mono ?_
      rintro e w2 ⟨hB2, v, rfl, hv⟩
      have HB2 : Hid (Below w.heap.size w w2) := (HB.out.alloc HB.out.size _).trans (hB2.mono (by have := HB.out.size; simp; omega))
      clear hB2
      cases hu : unfit rr rc c with
      | true =>
        rw [hu] at hv
        obtain ⟨a, rfl⟩ : Err v := hv
        have HU : Hid (unfit rr rc c = true) := hu
        clear hu
        go_wp2_with fail
        go_ret
        refine ⟨HB2.out, _, rfl, ?_⟩
        have : admitBad kc R id c refs = true := by
          unfold admitBad
          rw [any_of _ HRJ.out HU.out]
          rfl
        rw [this]
        exact ⟨a, rfl⟩
      | false =>
        rw [hu] at hv
        have hv' : v = .nilIface := hv
        subst hv'
        have HU : Hid (unfit rr rc c = false) := hu
        clear hu hv
        go_wp2_with fail
        go_roundw
        case rel => exact ⟨j + 1, by simp, by omega, HB2.out, any_take _ HRJ.out HNO.out HU.out⟩
        case measure => simp [intOf]; omega
    · have HNO2 : Hid ((R id).any (fun r => unfit r.role r.chain c) = false) := by
        have := HNO.out
        rwa [List.take_of_length_le (by omega)] at this
      clear HNO hB
      go_wp2_with fail
      go_loopw [66] (fun s66 wr => ∃ j : Nat, s66 = .int .i64 j ∧ j ≤ refs.length ∧ Below w.heap.size w wr ∧ (refs.take j).any (refBad kc id c) = false) (fun s66 _ => refs.length - (intOf s66).toNat)
      case atStart => exact ⟨0, rfl, Nat.zero_le _, HB.out, by simp⟩
      case round =>
        clear HB
        obtain ⟨j, rfl, hj, hB, hno⟩ := hrel
        have HB : Hid (Below w.heap.size w wr) := hB
        have HNO : Hid ((refs.take j).any (refBad kc id c) = false) := hno
        clear hno
        by_cases hjn : j < refs.length
        · obtain ⟨r, hrj⟩ : ∃ r, refs[j]? = some r := ⟨_, List.getElem?_eq_getElem hjn⟩
          rcases HROW.out.2 with ⟨hbad, h0⟩ | ⟨g, cap, cur, hv, -, hgb, hq1, hq2, -, -⟩
          · omega
          cases hv
          have hsameg : wr.heap[g]? = w.heap[g]? := hB.block g (Array.getElem?_eq_some_iff.1 hgb).1
          obtain ⟨d0, d1, d2, d3⟩ := ownsRow_rf HROW.out (g := g) rfl hrj
          have c0 := (World.cell?_of_block hsameg).trans d0
          have c1 := (World.cell?_of_block hsameg).trans d1
          have c2 := (World.cell?_of_block hsameg).trans d2
          have c3 := (World.cell?_of_block hsameg).trans d3
          have HRJ : Hid (refs[j]? = some r) := hrj
          have hro : r.role = 2 ∨ r.role = 3 := hroles r (List.mem_of_getElem? hrj)
          have HFr : Hid (F.answers wr.tape) := by show F.answers wr.tape; rw [hB.tape]; exact hF
          have hfr : Fr N [] [] w wr := Fr.of_below hB
          have hSr : StoreAt wr s ch mi (.slice ovs l.length cvs) gp ms co mr mu := hfr.keepC _ _ _ _ HS.out (by simp)
          obtain ⟨r0, r1, r2, r3, r5, r6, r7, r8, r9⟩ := hSr.cells
          have zs := blk r1
          obtain ⟨rf, rt, rr, rc⟩ := r
          obtain ⟨w1, hw1⟩ : ∃ w1, w1 = wr.alloc (.cells #[.string rf, .string rt, .int .i64 rr, .int .i64 rc] 103) := ⟨_, rfl⟩
          have hm1 : MapAt Value.string w1 mi es := by rw [hw1]; exact (HM.out.kept hfr (by simp)).kept ((Fr.refl N [] [] wr).alloc _) (by simp)
          have q1 : w1.cell? ⟨s, 1, none⟩ = some (.map (some mi)) := by rw [hw1]; exact cell_alloc r1 _
          have b0 : w1.cell? ⟨wr.heap.size, 0, none⟩ = some (.string rf) := by rw [hw1]; simp
          have b1 : w1.cell? ⟨wr.heap.size, 1, none⟩ = some (.string rt) := by rw [hw1]; simp
          have b2 : w1.cell? ⟨wr.heap.size, 2, none⟩ = some (.int .i64 rr) := by rw [hw1]; simp
          have b3 : w1.cell? ⟨wr.heap.size, 3, none⟩ = some (.int .i64 rc) := by rw [hw1]; simp
          have HB1 : Hid (∀ q, Below w.heap.size w (w1.drewN q)) := by
            intro q
            rw [hw1]
            exact below_drewN (HB.out.alloc HB.out.size _) q
          have HF1 : Hid (∀ q, F.answers (w1.drewN q).tape) := by
            intro q
            rw [(HB1.out q).tape]
            exact hF
          have HSZ : Hid (∀ q, w.heap.size ≤ (w1.drewN q).heap.size) := fun q => (HB1.out q).size
          have Hw1 : Hid (w1 = wr.alloc (.cells #[.string rf, .string rt, .int .i64 rr, .int .i64 rc] 103)) := hw1
          have hl : ∀ (q : Nat), (Instr.lookup 74 (.map (some mi)) (.string rt) true).run Ybaf.prog (w1.drewN q) = .ok (.tuple #[(get es rt).getD (.int .i32 0), .bool (get es rt).isSome]) (w1.drewN q) := fun q =>
            run_look_ok (KK.string Ybaf.underlying9) Ybaf.underlying74 zero_i32 (w := w1.drewN q) hm1 rt
          have HFR1 : Hid (Fr N [] [] w w1) := by
            show Fr N [] [] w w1
            rw [hw1]
            exact hfr.alloc _
          clear hw1 hm1 hrj hsameg d0 d1 d2 d3 hgb hB hSr hfr r0 r2 r3 r5 r6 r7 r8 r9
          have HFIN : Hid (∀ b : Bool, refBad kc id c ⟨rf, rt, rr, rc⟩ = b → (if b = true then admitBad kc R id c refs = true else (refs.take (j + 1)).any (refBad kc id c) = false)) := by
            intro b hb
            cases b
            · exact any_take _ HRJ.out HNO.out hb
            · show admitBad kc R id c refs = true
              unfold admitBad
              rw [any_of _ HRJ.out hb]
              simp
          by_cases hgn : rt = gen
          · have e1 := is_gen hgn
            have HG : Hid (rt = gen) := hgn
            clear hgn
            rcases hro with h2 | h3
            · have h2' : rr = 2 := h2
              subst h2'
              clear h2
              go_wp2_with fail
              rw [← Hw1.out]
              go_quiet (fail)
              go_wp2_with fail
              go_roundw
              case rel =>
                refine ⟨j + 1, by simp, by omega, HB1.out _, ?_⟩
                exact HFIN.out false (by unfold refBad; rw [if_pos HG.out]; rfl)
              case measure => simp [intOf]; omega
            · have h3' : rr = 3 := h3
              subst h3'
              clear h3
              go_wp2_with fail
              rw [← Hw1.out]
              go_quiet (fail)
              rename_i nq
              go_wp2_with fail
              have HF2 : Hid (F.answers (w1.drewN nq).tape) := HF1.out nq
              have HB3 : Hid (Below w.heap.size w (w1.drewN nq)) := HB1.out nq
              have HSZ2 : Hid (w.heap.size ≤ (w1.drewN nq).heap.size) := HSZ.out nq
              have hsz4 : w1.heap.size = (w1.drewN nq).heap.size := rfl
              clear hl q1 b0 b1 b2 b3 c0 c1 c2 c3 r1
              generalize w1.drewN nq = w4 at HF2 HB3 HSZ2 hsz4 ⊢
              rw [hsz4]
              refine (errf3 F w4.heap.size id gen _ (by exact HF2.out) (by simp) (by simp [gen])).mono ?_
              rintro e w2 ⟨⟨v, rfl, a, rfl⟩, hb⟩
              have HB2 : Hid (Below w.heap.size w w2) := (HB3.out.alloc HSZ2.out _).trans (hb.mono (by have := HSZ2.out; simp; omega))
              clear hb
              go_wp2_with fail
              go_ret
              refine ⟨HB2.out, _, rfl, ?_⟩
              rw [HFIN.out true (by unfold refBad; rw [if_pos HG.out]; rfl)]
              exact ⟨a, rfl⟩
          · have e1 := ne_gen hgn
            have HG : Hid (rt ≠ gen) := hgn
            clear hgn
            by_cases hid : rt = id
            · have e2 := eq_str hid
              have HID : Hid (rt = id) := hid
              have HRO : Hid (rr = 2 ∨ rr = 3) := hro
              clear hid hro
              go_wp2_with fail
              rw [← Hw1.out]
              go_quiet (fail)
              rename_i nq
              go_wp2_with fail
              refine (fits_ok F rf rt rr rc c HRO.out _ (by exact HF1.out nq)).mono ?_
              rintro e w2 ⟨hB2, v, rfl, hv⟩
              have HB2 : Hid (Below w.heap.size w w2) := (HB1.out nq).trans (hB2.mono (HSZ.out nq))
              have HBAD : Hid (refBad kc id c ⟨rf, rt, rr, rc⟩ = unfit rr rc c) := by
                show refBad kc id c ⟨rf, rt, rr, rc⟩ = unfit rr rc c
                unfold refBad
                rw [if_neg HG.out, if_pos HID.out]
              clear hB2
              cases hu : unfit rr rc c with
              | true =>
                rw [hu] at hv
                obtain ⟨a, rfl⟩ : Err v := hv
                have HU : Hid (unfit rr rc c = true) := hu
                clear hu
                go_wp2_with fail
                go_ret
                refine ⟨HB2.out, _, rfl, ?_⟩
                rw [HFIN.out true (HBAD.out.trans HU.out)]
                exact ⟨a, rfl⟩
              | false =>
                rw [hu] at hv
                have hv' : v = .nilIface := hv
                subst hv'
                have HU : Hid (unfit rr rc c = false) := hu
                clear hu hv
                go_wp2_with fail
                go_roundw
                case rel => exact ⟨j + 1, by simp, by omega, HB2.out, HFIN.out false (HBAD.out.trans HU.out)⟩
                case measure => simp [intOf]; omega
            · have e2 := ne_str hid
              have HID : Hid (rt ≠ id) := hid
              have HRO : Hid (rr = 2 ∨ rr = 3) := hro
              clear hid hro
              rcases HK.out rt with ⟨hk1, hk2⟩ | ⟨i, v, d, hk1, hk2, hk3, hk4⟩
              · rw [hk1] at hl
                have HBAD : Hid (refBad kc id c ⟨rf, rt, rr, rc⟩ = false) := by
                  show refBad kc id c ⟨rf, rt, rr, rc⟩ = false
                  unfold refBad
                  rw [if_neg HG.out, if_neg HID.out, hk2]
                clear hk1 hk2
                go_wp2_with fail
                rw [← Hw1.out]
                go_quiet (fail)
                go_wp2_with fail
                go_roundw
                case rel => exact ⟨j + 1, by simp, by omega, HB1.out _, HFIN.out false HBAD.out⟩
                case measure => simp [intOf]; omega
              · rw [hk1] at hl
                simp only [Option.getD_some, Option.isSome_some] at hl
                have HBAD : Hid (refBad kc id c ⟨rf, rt, rr, rc⟩ = unfit rr rc d) := by
                  show refBad kc id c ⟨rf, rt, rr, rc⟩ = unfit rr rc d
                  unfold refBad
                  rw [if_neg HG.out, if_neg HID.out, hk4]
                have hil : i < l.length := (List.getElem?_eq_some_iff.1 hk2).1
                have hsl : v.slot < cs.length := (List.getElem?_eq_some_iff.1 hk3).1
                have hVr := HVS.out.kept HFR1.out (by simp)
                have hCr := HCS.out.kept HFR1.out (by simp)
                obtain ⟨g3, cap3, cur3, hv3, -, -, p1, p2, -, -⟩ := hVr.form (by omega)
                cases hv3
                obtain ⟨g4, cap4, cur4, hv4, -, -, p3, p4, -, -⟩ := hCr.form (by omega)
                subst hv4
                simp only [maxLen] at p2 p4
                have hcc : w1.cell? ⟨g4, v.slot, none⟩ = some (.int .i64 d) := hCr.cell rfl (by simp [i64s, hk3])
                obtain ⟨y0, y1, y2, y3, y4, y5, y6, y7, y8, y9⟩ := hVr.vcell rfl hk2
                have hS1 : StoreAt w1 s ch mi (.slice (some ⟨g3, 0, none⟩) l.length cvs) gp ms (.slice (some ⟨g4, 0, none⟩) cs.length cap4) mr mu := HFR1.out.keepC _ _ _ _ HS.out (by simp)
                obtain ⟨x0, x1, x2, x3, x5, x6, x7, x8, x9⟩ := hS1.cells
                have hneg : decide ((i : Int) < 0) = false := by simp
                have hilI : (i : Int) < (l.length : Int) := by omega
                have hslI : (v.slot : Int) < (cs.length : Int) := by omega
                clear hVr hCr hS1 hk1 hk2 hk3 hk4 y0 y2 y3 y4 y5 y6 y7 y8 y9 x0 x3 x5 x6 x8 x9
                go_wp2_with fail
                rw [← Hw1.out]
                go_quiet (fail)
                rename_i nq
                go_wp2_with fail
                have HF2 : Hid (F.answers (w1.drewN nq).tape) := HF1.out nq
                have HB3 : Hid (Below w.heap.size w (w1.drewN nq)) := HB1.out nq
                have HSZ2 : Hid (w.heap.size ≤ (w1.drewN nq).heap.size) := HSZ.out nq
                have t2 : (w1.drewN nq).cell? ⟨s, 2, none⟩ = some (.slice (some ⟨g3, 0, none⟩) l.length cvs) := x2
                have t7 : (w1.drewN nq).cell? ⟨s, 7, none⟩ = some (.slice (some ⟨g4, 0, none⟩) cs.length cap4) := x7
                have ty : (w1.drewN nq).cell? ⟨g3, i * 10 + 1, none⟩ = some (.int .i32 v.slot) := y1
                have tc : (w1.drewN nq).cell? ⟨g4, v.slot, none⟩ = some (.int .i64 d) := hcc
                have tb0 : (w1.drewN nq).cell? ⟨wr.heap.size, 0, none⟩ = some (.string rf) := b0
                have tb1 : (w1.drewN nq).cell? ⟨wr.heap.size, 1, none⟩ = some (.string rt) := b1
                have tb2 : (w1.drewN nq).cell? ⟨wr.heap.size, 2, none⟩ = some (.int .i64 rr) := b2
                have tb3 : (w1.drewN nq).cell? ⟨wr.heap.size, 3, none⟩ = some (.int .i64 rc) := b3
                clear hl q1 b0 b1 b2 b3 x1 x2 x7 y1 hcc c0 c1 c2 c3 r1
                generalize w1.drewN nq = w4 at HF2 HB3 HSZ2 t2 t7 ty tc tb0 tb1 tb2 tb3 ⊢
                go_region_held3 (fun w' => w'.cell? ⟨s, 2, none⟩ = some (.slice (some ⟨g3, 0, none⟩) l.length cvs) ∧ w'.cell? ⟨s, 7, none⟩ = some (.slice (some ⟨g4, 0, none⟩) cs.length cap4) ∧ w'.cell? ⟨g3, i * 10 + 1, none⟩ = some (.int .i32 v.slot) ∧ w'.cell? ⟨g4, v.slot, none⟩ = some (.int .i64 d) ∧ w'.cell? ⟨wr.heap.size, 0, none⟩ = some (.string rf) ∧ w'.cell? ⟨wr.heap.size, 1, none⟩ = some (.string rt) ∧ w'.cell? ⟨wr.heap.size, 2, none⟩ = some (.int .i64 rr) ∧ w'.cell? ⟨wr.heap.size, 3, none⟩ = some (.int .i64 rc))
                  (first
                    | (go_split_ands
                       exact ⟨bcell hB2 (by assumption), bcell hB2 (by assumption), bcell hB2 (by assumption), bcell hB2 (by assumption), bcell hB2 (by assumption), bcell hB2 (by assumption), bcell hB2 (by assumption), bcell hB2 (by assumption)⟩)
                    | (go_keep; done))
                  ((go_at_call 30; refine (fits_ok F rf rt rr rc d HRO.out _ ?_).mono ?_; exact HF2.out; rintro e w2 ⟨hB2, v2, rfl, hv⟩))
                all_goals
                  have HB2 : Hid (Below w.heap.size w w2) := HB3.out.drew.trans (hB2.mono HSZ2.out)
                  clear hB2
                  cases hu : unfit rr rc d with
                  | true =>
                    rw [hu] at hv
                    obtain ⟨a, rfl⟩ : Err v2 := hv
                    have HU : Hid (unfit rr rc d = true) := hu
                    clear hu
                    go_wp2_with fail
                    go_ret
                    refine ⟨HB2.out, _, rfl, ?_⟩
                    rw [HFIN.out true (HBAD.out.trans HU.out)]
                    exact ⟨a, rfl⟩
                  | false =>
                    rw [hu] at hv
                    have hv' : v2 = .nilIface := hv
                    subst hv'
                    have HU : Hid (unfit rr rc d = false) := hu
                    clear hu hv
                    go_wp2_with fail
                    go_roundw
                    case rel => exact ⟨j + 1, by simp, by omega, HB2.out, HFIN.out false (HBAD.out.trans HU.out)⟩
                    case measure => simp [intOf]; omega
        · have HNO3 : Hid (refs.any (refBad kc id c) = false) := by
            have := HNO.out
            rwa [List.take_of_length_le (by omega)] at this
          clear HNO hB
          go_wp2_with fail
          go_ret
          refine ⟨HB.out, _, rfl, ?_⟩
          have : admitBad kc R id c refs = false := by
            unfold admitBad
            rw [HNO2.out, HNO3.out]
            rfl
          rw [this]
          rfl
end Go.Proofs.YbulkkeiFmt
