/-
  THE VIEW (7): acceptVoter.
-/
import Derived.Test.YbulkkeiFmtView3
import Derived.BigQuiet
namespace Go.Proofs.YbulkkeiFmt
open Go.RowKit Go.Extern.Stop Go.Stop Go.Extern
set_option maxRecDepth 8000
attribute [local go_sem ↓] Go.wp_at_zero Go.wp_at_succ

section
variable {V : VA} {A : SA} {L : Nat → Prop} {w : World} {g : SG} {x : VG}

theorem chain_both (h : Both V A L w g x) (slot : Nat) (hs : slot < 4) :
    Calls Ybaf.prog 49 #[.pointer (some ⟨V.v, 0, none⟩), .int .i32 slot] w fun e w' => ∃ gc x', e = .returned (.pointer (some ⟨gc, slot * 2, none⟩)) ∧ Moved V A L w g x w' g x' ∧ x'.ch.ownBlock = some gc ∧ slot < x'.cl.length ∧ x'.wo = x.wo ∧ x'.cnt = x.cnt := by
  obtain ⟨Nv, h1, h2, h3⟩ := h.view
  have hcl := h3.clen
  refine (chain_ok h3.at_ h2 h3.mine h3.crow (by omega) slot (by omega)).mono ?_
  rintro e w' ⟨gc, cap, cl', k1, k2, rfl, hC⟩
  refine ⟨gc, { x with ch := .slice (some ⟨gc, 0, none⟩) cl'.length cap, cl := cl' }, rfl, ?_, rfl, k1, rfl, rfl⟩
  refine h.pass2 h1 h3 h1 hC.fr (by decide) (by decide) rfl rfl rfl rfl rfl hC.view (h3.srow.keptF hC.fr (by decide)) hC.row h3.sts ?_ (by show cl'.length ≤ 4; omega)
  intro p hp
  obtain ⟨t, rfl, ht⟩ := hC.pre
  have hp' : p ∈ x.cl ++ t := hp
  rw [List.mem_append] at hp'
  rcases hp' with hp' | hp'
  · exact h3.tips p hp'
  · exact .inl (ht p hp')

theorem extend_both (h : Both V A L w g x) {gc : Nat} (hgc : x.ch.ownBlock = some gc) (slot : Nat) {p : Int × Nat} (hp : x.cl[slot]? = some p) (i : Nat) (r : VR) (hi : g.l[i]? = some r) (hs : r.settled = true) (hlt : p.2 < r.height) :
    Calls Ybaf.prog 50 #[.pointer (some ⟨V.v, 0, none⟩), .pointer (some ⟨gc, slot * 2, none⟩), .int .i32 i] w fun e w' => e = .returned (.tuple #[]) ∧ ∃ x', Moved V A L w g x w' g x' ∧ x'.wo = x.wo ∧ x'.cnt = x.cnt := by
  obtain ⟨Nv, h1, h2, h3⟩ := h.view
  have hrc := h.store.plain.recs
  obtain ⟨tip, ht⟩ := p
  have hTip := h3.tips _ (List.mem_of_getElem? hp)
  have hstd : Std g.l tip ∧ hgt g.l tip = ht := by
    rcases hTip with e | ⟨j, q, e, hj, hq⟩
    · simp only [Prod.mk.injEq] at e
      obtain ⟨rfl, rfl⟩ := e
      exact ⟨.inl rfl, rfl⟩
    · simp only [Prod.mk.injEq] at e
      obtain ⟨rfl, rfl⟩ := e
      exact ⟨.inr ⟨j, q, rfl, hj, hq⟩, hgt_at hj⟩
  have hcL : Row L w 143 2 x.ch x.cl.length (chs x.cl) := h3.crow.other fun k hk hL => h3.crow.2 k hk (h1 k hL)
  have hvg : V.v ≠ gc := by
    intro e
    subst e
    exact (h3.crow.ne h3.at_ (by decide)) hgc
  refine (extend_ok h3.at_.cells.1 h3.at_.cells.2.2.2.2.2.2.2.2 h.store.at_.cells.2.2.1 h.store.at_.cells.2.2.2.2.1 h.store.vrow hrc h.store.plain.len hgc hvg hcL slot tip ht hp hstd.1 hstd.2 i r hi hs hlt).mono ?_
  rintro e w' ⟨rfl, hR, hF⟩
  refine ⟨rfl, { x with cl := x.cl.set slot ((i : Int), r.height) }, ?_, rfl, rfl⟩
  refine h.pass2 h1 h3 (fun _ h => h) hF (by decide) (by decide) rfl rfl rfl rfl rfl (hF.keepC _ _ _ _ h3.at_ (by decide)) (h3.srow.keptF hF (by decide)) ⟨?_, h3.crow.2⟩ h3.sts ?_ ?_
  · show w'.ownsRow 0 143 2 x.ch (x.cl.set slot ((i : Int), r.height)).length (chs (x.cl.set slot ((i : Int), r.height)))
    rw [List.length_set]
    exact hR.1
  · intro p hp
    have hp' : p ∈ x.cl.set slot ((i : Int), r.height) := hp
    rcases List.mem_or_eq_of_mem_set hp' with h5 | h5
    · exact h3.tips p h5
    · exact .inr ⟨i, r, h5, hi, hs⟩
  · show (x.cl.set slot _).length ≤ 4
    rw [List.length_set]
    exact h3.clen

theorem u8s_set (l : List Int) (i : Nat) (s : Int) : (u8s l).set i (.int .u8 s) = u8s (l.set i s) := by simp [u8s, List.map_set]
/-- A block's standing is set. -/
theorem Both.setSt (h : Both V A L w g x) {gs : Nat} (hgs : x.st.ownBlock = some gs) (i : Nat) (s : Int) (hs : s = 1 ∨ s = 2) (hset : s = 2 → ∃ r, g.l[i]? = some r ∧ r.settled = true) : Moved V A L w g x (w.setCell ⟨gs, i, none⟩ (.int .u8 s)) g { x with ss := x.ss.set i s } := by
  obtain ⟨Nv, h1, h2, h3⟩ := h.view
  obtain ⟨c, hc⟩ := h3.srow.at hgs
  have hf : Fr Nv [47] [] w (w.setCell ⟨gs, i, none⟩ (.int .u8 s)) := (Fr.refl Nv [47] [] w).setCell hc (by simp) (h3.srow.2 gs hgs)
  refine h.pass2 h1 h3 h1 hf (by decide) (by decide) rfl rfl rfl rfl (by show (x.ss.set i s).length = _; rw [List.length_set]) (hf.keepC _ _ _ _ h3.at_ (by decide)) ?_ (h3.crow.keptF hf (by decide)) ?_ h3.tips h3.clen
  · show Row Nv _ 47 1 x.st (x.ss.set i s).length (u8s (x.ss.set i s))
    rw [List.length_set, ← u8s_set]
    exact h3.srow.setAt hgs i _
  · refine ⟨?_, ?_, ?_⟩
    · show (x.ss.set i s).length ≤ _
      rw [List.length_set]
      exact h3.sts.len
    · intro j t hj
      rcases get_set hj with ⟨_, rfl⟩ | ⟨_, hj'⟩
      · exact hs
      · exact h3.sts.two j t hj'
    · intro j hj
      rcases get_set hj with ⟨rfl, e⟩ | ⟨_, hj'⟩
      · exact hset e.symm
      · exact h3.sts.acc j hj'

def Settled (V : VA) (A : SA) (L : Nat → Prop) (w : World) (g : SG) (x : VG) (w' : World) : Prop := ∃ g' x', Moved V A L w g x w' g' x' ∧ x'.cnt + lenV x'.wo = x.cnt + lenV x.wo

set_option maxHeartbeats 12800000 in
theorem accept_ok (h : Both V A L w g x) (hfull : x.ss.length = g.l.length) (i : Nat) (hi : RdOk g i) (hc : x.cnt + lenV x.wo < 1000) :
    Calls Ybaf.prog 41 #[.pointer (some ⟨V.v, 0, none⟩), .int .i32 i] w fun e w' => e = .returned (.tuple #[]) ∧ Settled V A L w g x w' := by
  have v0 : w.cell? ⟨V.v, 0, none⟩ = some (.pointer (some ⟨A.s, 0, none⟩)) := by
    obtain ⟨Nv, _, _, h3⟩ := h.view
    exact h3.at_.cells.1
  have HH : Hid (Both V A L w g x) := h
  have HFU : Hid (x.ss.length = g.l.length) := hfull
  have HI : Hid (RdOk g i) := hi
  clear h hfull hi
  go_enter Ybaf.func41, Ybaf.ntmps41
  go_wp2_with fail
  refine (settle_both HH.out i HI.out).mono ?_
  rintro e w2 ⟨rfl, g2, r, hM2, hr, hrs⟩
  have HM2 : Hid (Moved V A L w g x w2 g2 x) := hM2
  have hil : i < g2.l.length := (List.getElem?_eq_some_iff.1 hr).1
  have s2 := hM2.both.store.at_.cells.2.2.1
  have hvr := hM2.both.store.vrow
  obtain ⟨gv, cap, cur, hvs, -, hbv, q1, q2, -, -⟩ := hvr.form (by omega)
  simp only [maxLen] at q2
  rw [hvs] at s2 hvr
  obtain ⟨c0, c1, -, -, -, -, c6, c7, -, -⟩ := hvr.vcell rfl hr
  rw [hrs] at c6
  obtain ⟨Nv, n1, n2, n3⟩ := hM2.both.view
  have v5 := n3.at_.cells.2.2.1
  have hsl : i < x.ss.length := by rw [HFU.out, ← hM2.later.len]; exact hil
  obtain ⟨gs, capS, curS, hst, -, hbs, p1, p2, -, -⟩ := n3.srow.form (by omega)
  simp only [maxLen] at p2
  have hgs : x.st.ownBlock = some gs := by rw [hst]; rfl
  rw [hst] at v5
  have k5 : w2.cell? ⟨gs, i, none⟩ = some (.int .u8 x.ss[i]) := n3.srow.cell hgs (by simp [u8s, hsl])
  have f5 : w2.frozen? ⟨gs, i, none⟩ = false := by simp [World.frozen?, hbs]
  have hslot : r.slot < 4 := by
    have h1 := hM2.both.store.plain.slot i r hr
    have h2 := hM2.both.store.plain.cslen
    have h3 := hM2.both.store.plain.len
    omega
  have HR : Hid (g2.l[i]? = some r) := hr
  have HRS : Hid (r.settled = true) := hrs
  have HM3 : Hid (Moved V A L w2 g2 x (w2.setCell ⟨gs, i, none⟩ (.int .u8 2)) g2 { x with ss := x.ss.set i 2 }) := hM2.both.setSt hgs i 2 (.inr rfl) (fun _ => ⟨r, hr, hrs⟩)
  have z2 : (w2.setCell ⟨gs, i, none⟩ (.int .u8 2)).cell? ⟨gv, i * 10 + 1, none⟩ = some (.int .i32 r.slot) := by
    have h1 := HM3.out.both.store.vrow
    rw [hvs] at h1
    exact (h1.vcell rfl hr).2.1
  have HVS : Hid (g2.vs = .slice (some ⟨gv, 0, none⟩) g2.l.length cap) := hvs
  clear n1 n2 n3 hbs hbv hst hvr hM2 hvs v0 hr hrs
  go_wp2_with fail
  obtain ⟨w3, hw3⟩ : ∃ w3, w3 = w2.setCell ⟨gs, i, none⟩ (.int .u8 2) := ⟨_, rfl⟩
  have HM3' : Hid (Moved V A L w2 g2 x w3 g2 { x with ss := x.ss.set i 2 }) := by rw [hw3]; exact HM3
  rw [← hw3]
  refine (chain_both HM3'.out.both r.slot hslot).mono ?_
  rintro e w4 ⟨gc, x4, rfl, hM4, hgc, hs4, h41, h42⟩
  have HM4 : Hid (Moved V A L w g x w4 g2 x4) := (HM2.out.trans HM3'.out).trans hM4
  have HGC : Hid (x4.ch.ownBlock = some gc) := hgc
  have HWO : Hid (x4.wo = x.wo) := h41
  have HCN : Hid (x4.cnt = x.cnt) := h42
  obtain ⟨pt, hpt⟩ : ∃ p, x4.cl[r.slot]? = some p := ⟨_, List.getElem?_eq_getElem hs4⟩
  have HPT : Hid (x4.cl[r.slot]? = some pt) := hpt
  have HVC : Hid (∀ (w' : World) (x' : VG), Both V A L w' g2 x' → w'.cell? ⟨A.s, 2, none⟩ = some (.slice (some ⟨gv, 0, none⟩) g2.l.length cap) ∧ w'.cell? ⟨gv, i * 10, none⟩ = some (.string r.id) ∧ w'.cell? ⟨gv, i * 10 + 7, none⟩ = some (.int .i32 r.height)) := by
    intro w' x' hB
    have h1 := hB.store.at_.cells.2.2.1
    have h2 := hB.store.vrow
    rw [HVS.out] at h1 h2
    obtain ⟨a0, -, -, -, -, -, -, a7, -, -⟩ := h2.vcell rfl HR.out
    exact ⟨h1, a0, a7⟩
  have HT : Hid (∀ (w' : World) (x' : VG), Moved V A L w g x w' g2 x' → x'.cnt + lenV x'.wo = x.cnt + lenV x.wo → Calls Ybaf.prog 47 #[.pointer (some ⟨V.v, 0, none⟩), .string r.id] w' fun e w9 => e = .returned (.tuple #[]) ∧ Hid (Settled V A L w g x w9)) := by
    intro w' x' hM hcn
    refine (wake_both hM.both r.id (by omega) (by omega)).mono ?_
    rintro e w9 ⟨rfl, x9, hM9, h9⟩
    exact ⟨rfl, g2, x9, hM.trans hM9, by omega⟩
  obtain ⟨y2, y0, y7⟩ := HVC.out w4 x4 HM4.out.both
  obtain ⟨Nv4, -, -, n4⟩ := HM4.out.both.view
  have hkc : w4.cell? ⟨gc, r.slot * 2 + 1, none⟩ = some (.int .i64 pt.2) := n4.crow.cell hgc (chs_get x4.cl r.slot pt hpt).2
  have hh4 : r.height ≤ 4 := HM4.out.both.store.plain.recs.le HR.out
  have hilI : (i : Int) < (g2.l.length : Int) := by omega
  clear hM4 hgc hs4 h41 h42 hpt n4 s2 c0 c1 c6 c7 v5 k5 f5 z2 hw3 HM3 HM3'
  by_cases hlt : pt.2 < r.height
  · have hd : decide ((pt.2 : Int) < (r.height : Int)) = true := by simp; omega
    have HLT : Hid (pt.2 < r.height) := hlt
    clear hlt
    go_wp2_with fail
    go_quiet (fail)
    rename_i nq
    have HM4q : Hid (Moved V A L w g x (w4.drewN nq) g2 x4) := HM4.out.trans (HM4.out.both.drewN nq)
    go_wp2_with fail
    refine (extend_both HM4q.out.both HGC.out r.slot HPT.out i r HR.out HRS.out HLT.out).mono ?_
    rintro e w5 ⟨rfl, x5, hM5, h51, h52⟩
    have HM5 : Hid (Moved V A L w g x w5 g2 x5) := HM4q.out.trans hM5
    have HC5 : Hid (x5.cnt + lenV x5.wo = x.cnt + lenV x.wo) := by
      show x5.cnt + lenV x5.wo = x.cnt + lenV x.wo
      rw [h52, h51, HWO.out, HCN.out]
    obtain ⟨Nv5, -, -, n5⟩ := hM5.both.view
    have v16 := n5.at_.cells.2.2.2.2.2.2.2.2
    have f16 := n5.at_.free 16
    obtain ⟨y2', y0', y7'⟩ := HVC.out w5 x5 hM5.both
    clear hM5 h51 h52 n5 y2 y0 y7 hkc
    go_wp2_with fail
    refine (notarize_ok v16 f16).mono ?_
    rintro e w6 ⟨rfl, rfl⟩
    go_wp2_with fail
    refine (HT.out _ x5 HM5.out HC5.out).mono ?_
    rintro e w9 ⟨rfl, HE⟩
    go_wp2_with fail
    go_end0
    exact ⟨rfl, HE.out⟩
  · have hd : decide ((pt.2 : Int) < (r.height : Int)) = false := by simp; omega
    go_wp2_with fail
    go_quiet (fail)
    rename_i nq
    have HM4q : Hid (Moved V A L w g x (w4.drewN nq) g2 x4) := HM4.out.trans (HM4.out.both.drewN nq)
    have HC4 : Hid (x4.cnt + lenV x4.wo = x.cnt + lenV x.wo) := by
      show x4.cnt + lenV x4.wo = x.cnt + lenV x.wo
      rw [HWO.out, HCN.out]
    go_wp2_with fail
    all_goals try (exfalso; omega)
    refine (HT.out _ x4 HM4q.out HC4.out).mono ?_
    rintro e w9 ⟨rfl, HE⟩
    go_wp2_with fail
    go_end0
    exact ⟨rfl, HE.out⟩
end
end Go.Proofs.YbulkkeiFmt
