/-
  THE VIEW (8): settle: the woken blocks move on, the ready ones are accepted.
-/
import Derived.Test.YbulkkeiFmtAccept
import Derived.Test.YbulkkeiFmtConsider
namespace Go.Proofs.YbulkkeiFmt
open Go.RowKit Go.Extern.Stop Go.Stop Go.Extern
set_option maxRecDepth 8000
attribute [local go_sem ↓] Go.wp_at_zero Go.wp_at_succ

def wcell (w : World) (v o : Nat) : Value := (w.cell? ⟨v, o, none⟩).getD undef
def tokM (w : World) (m : Nat) : Nat := match w.heap[m]? with
  | some (.map arr _) => (arr.toList.map fun e => lenV e.val).sum
  | _ => 0
theorem tokM_eq {w : World} {m : Nat} {ea : List (ByteArray × Value)} (h : MapAt Value.string w m ea) : tokM w m = tok ea := by
  obtain ⟨arr, cl, h1, h2⟩ := h
  unfold tokM tok
  rw [h1]
  simp only
  have h3 := congrArg (List.map fun p : Value × Value => lenV p.2) h2
  simp only [List.map_map] at h3
  have e1 : (fun p : Value × Value => lenV p.2) ∘ (fun e : MapEntry => (e.key, e.val)) = fun e => lenV e.val := rfl
  have e2 : (fun p : Value × Value => lenV p.2) ∘ (fun p : ByteArray × Value => (Value.string p.1, p.2)) = fun p => lenV p.2 := rfl
  rw [e1, e2] at h3
  rw [h3]
def totW (V : VA) (w : World) : Nat := lenV (wcell w V.v 13) + tokM w V.ma + lenV (wcell w V.v 12)

theorem Row.shrink {N : Nat → Prop} {w : World} {e : TypeId} {sz : Nat} {a : Option Addr} {m cap : Nat} {xs : List Value} (h : Row N w e sz (.slice a (m + 1) cap) (m + 1) xs) : Row N w e sz (.slice a m cap) m (xs.take (m * sz)) := by
  obtain ⟨⟨h1, h2⟩, h3⟩ := h
  refine ⟨⟨?_, ?_⟩, fun k hk => h3 k (by cases a <;> exact hk)⟩
  · rw [List.length_take, h1, Nat.add_mul]
    omega
  · rcases h2 with ⟨h2, h4⟩ | ⟨g, cap', cur, a1, a2, a3, a4, a5, a6, a7⟩
    · omega
    · simp only [Value.slice.injEq, true_and] at a1
      obtain ⟨rfl, rfl⟩ := a1
      refine .inr ⟨g, cap, cur, rfl, a2, a3, by omega, a5, a6, ?_⟩
      rw [← a7, List.take_take]
      congr 1
      rw [Nat.add_mul]
      omega

section
variable {V : VA} {A : SA} {L : Nat → Prop} {w : World} {g : SG} {x : VG}
theorem Both.tot (h : Both V A L w g x) : totW V w = x.cnt + lenV x.wo := by
  obtain ⟨Nv, _, _, h3⟩ := h.view
  have c := h3.at_.cells
  unfold totW wcell VG.cnt
  rw [c.2.2.2.2.2.2.1, c.2.2.2.2.2.2.2.1, tokM_eq h3.map]
  simp only [Option.getD_some]
  rw [h3.ready.len]
theorem Both.wlen (h : Both V A L w g x) : lenV (wcell w V.v 12) = lenV x.wo := by
  obtain ⟨Nv, _, _, h3⟩ := h.view
  unfold wcell
  rw [h3.at_.cells.2.2.2.2.2.2.1]
  rfl
/-- The last woken block. -/
theorem Both.last (h : Both V A L w g x) (h0 : 0 < lenV x.wo) : ∃ (gw m cap a : Nat) (q : Int), x.wo = .slice (some ⟨gw, 0, none⟩) (m + 1) cap ∧ m + 1 ≤ cap ∧ cap ≤ maxLen ∧ a < g.l.length ∧ w.cell? ⟨V.v, 12, none⟩ = some (.slice (some ⟨gw, 0, none⟩) (m + 1) cap) ∧ w.frozen? ⟨V.v, 12, none⟩ = false ∧
    w.cell? ⟨gw, m * 3, none⟩ = some (.pointer none) ∧ w.cell? ⟨gw, m * 3 + 1, none⟩ = some (.int .i32 a) ∧ w.cell? ⟨gw, m * 3 + 2, none⟩ = some (.int .i64 q) ∧ gw ≠ V.v ∧ Moved V A L w g x (w.setCell ⟨V.v, 12, none⟩ (.slice (some ⟨gw, 0, none⟩) m cap)) g { x with wo := .slice (some ⟨gw, 0, none⟩) m cap } := by
  obtain ⟨Nv, h1, h2, h3⟩ := h.view
  obtain ⟨n, xs, hr⟩ := h3.wrow
  have hn := row_lenV hr
  obtain ⟨gw, cap, cur, hwo, hNg, hb, k1, k2, k3, k4⟩ := hr.form (by omega)
  obtain ⟨m, rfl⟩ : ∃ m, n = m + 1 := ⟨n - 1, by omega⟩
  have hT : ∀ j u, j < 3 → cur[m * 3 + j]? = some u → HeldΦ g.l.length j u := by
    intro j u hj hu
    have := h3.typed gw cur _ (fun hh => hNg (.inl hh)) hb (m * 3 + j) u hu
    rwa [show (m * 3 + j) % 3 = j by omega] at this
  have hsz : m * 3 + 2 < cur.size := by rw [k3]; omega
  have e0 := (hT 0 _ (by omega) (Array.getElem?_eq_getElem (show m * 3 + 0 < cur.size by omega))).1 rfl
  obtain ⟨a, e1, ha⟩ := (hT 1 _ (by omega) (Array.getElem?_eq_getElem (show m * 3 + 1 < cur.size by omega))).2.1 rfl
  obtain ⟨q, e2⟩ := (hT 2 _ (by omega) (Array.getElem?_eq_getElem (show m * 3 + 2 < cur.size by omega))).2.2 rfl
  have c12 := h3.at_.cells.2.2.2.2.2.2.1
  have f12 := h3.at_.free 12
  have hgv : gw ≠ V.v := by
    intro e
    subst e
    have := h3.at_
    unfold ViewAt at this
    rw [hb] at this
    cases this
  refine ⟨gw, m, cap, a, q, hwo, k1, k2, ha, by rw [c12, hwo], f12, ?_, ?_, ?_, hgv, ?_⟩
  · simp only [World.cell?, hb]
    rw [Array.getElem?_eq_getElem (show m * 3 < cur.size by omega)]
    exact congrArg some e0
  · simp only [World.cell?, hb]
    rw [Array.getElem?_eq_getElem (show m * 3 + 1 < cur.size by omega)]
    exact congrArg some e1
  · simp only [World.cell?, hb]
    rw [Array.getElem?_eq_getElem hsz]
    exact congrArg some e2
  · rw [hwo] at hr
    have hf : Fr Nv [70] [] w (w.setCell ⟨V.v, 12, none⟩ (.slice (some ⟨gw, 0, none⟩) m cap)) := (Fr.refl Nv [70] [] w).setCell h3.at_ (by simp) h3.mine
    have hs : ∀ k, x.rd.ownBlock = some k → (w.setCell ⟨V.v, 12, none⟩ (.slice (some ⟨gw, 0, none⟩) m cap)).heap[k]? = w.heap[k]? := fun k hk => heap_setCell_other w (fun e => h3.mineR (.inr (e ▸ hk)))
    have hr2 := hr.shrink
    obtain ⟨ys, hy⟩ := hr2.shape hf
    refine ⟨h.ofView h1 h2 ⟨h3.at_.setWo _, h3.srow.keptF hf (by decide), h3.crow.keptF hf (by decide), h3.map.kept hf (by simp), ⟨m, ys, hy⟩, h3.rows.kept hf, h3.ready.same hs, h3.typed.set h3.at_ (by decide), h3.sts, h3.tips, h3.clen, h3.mine, h3.mapm⟩ hf (by decide) (by simp), Later.refl g, (hf.mono h1 (by simp [WW]) (by simp)), rfl⟩

set_option maxHeartbeats 12800000 in
theorem settleV_ok (h : Both V A L w g x) (hfull : x.ss.length = g.l.length) (hl : 0 < g.l.length) (hc : x.cnt + lenV x.wo < 1000) :
    Calls Ybaf.prog 35 #[.pointer (some ⟨V.v, 0, none⟩)] w fun e w' => e = .returned (.tuple #[]) ∧ ∃ g' x', Moved V A L w g x w' g' x' ∧ x'.cnt + lenV x'.wo ≤ x.cnt + lenV x.wo := by
  have HH : Hid (Both V A L w g x) := h
  have HFU : Hid (x.ss.length = g.l.length) := hfull
  clear h hfull
  go_enter Ybaf.func35, Ybaf.ntmps35
  go_wp2_with fail
  go_loopw [] (fun wr => ∃ g' x', Moved V A L w g x wr g' x' ∧ x'.cnt + lenV x'.wo ≤ x.cnt + lenV x.wo) (fun wr => totW V wr)
  case atStart => exact ⟨g, x, Moved.refl HH.out, Nat.le_refl _⟩
  case round =>
    obtain ⟨g1, x1, hM1, hc1⟩ := hrel
    obtain ⟨T, hT⟩ : ∃ T, T = totW V wr := ⟨_, rfl⟩
    have HT : Hid (x1.cnt + lenV x1.wo = T) := by rw [hT, hM1.both.tot]; rfl
    have HT2 : Hid (T = totW V wr) := hT
    have HM1 : Hid (Moved V A L w g x wr g1 x1) := hM1
    have HTL : Hid (T ≤ x.cnt + lenV x.wo) := by show T ≤ x.cnt + lenV x.wo; have := HT.out; omega
    clear hM1 hT
    go_wp2_with fail
    go_loopw [] (fun wr => ∃ g' x', Moved V A L w g x wr g' x' ∧ x'.cnt + lenV x'.wo = T) (fun wr => lenV (wcell wr V.v 12))
    case atStart => exact ⟨g1, x1, HM1.out, HT.out⟩
    case round =>
      have hT1000 : T < 1000 := by
        have := HT.out
        omega
      clear HM1 HT
      obtain ⟨g2, x2, hM2, hc2⟩ := hrel
      have HM2 : Hid (Moved V A L w g x wr g2 x2) := hM2
      have HC2 : Hid (x2.cnt + lenV x2.wo = T) := hc2
      by_cases h0 : 0 < lenV x2.wo
      · obtain ⟨gw, m, cap, a, q, hwo, k1, k2, ha, c12, f12, e0, e1, e2, hgv, hMs⟩ := hM2.both.last h0
        simp only [maxLen] at k2
        have HMS : Hid (Moved V A L wr g2 x2 (wr.setCell ⟨V.v, 12, none⟩ (.slice (some ⟨gw, 0, none⟩) m cap)) g2 { x2 with wo := .slice (some ⟨gw, 0, none⟩) m cap }) := hMs
        have HWO : Hid (x2.wo = .slice (some ⟨gw, 0, none⟩) (m + 1) cap) := hwo
        have hm1000 : (m : Int) < 1000 := by
          rw [hwo] at hc2
          simp only [lenV] at hc2
          omega
        have hwr : IntKind.i64.wrap (m : Int) = m := IntWalk.i64_in m (by omega)
        have hmm : (m : Int) < (m : Int) + 1 := by omega
        have hmc : (m : Int) ≤ (cap : Int) := by omega
        have hmc2 : m ≤ cap := by omega
        have zv := blk c12
        have zg := blk e0
        clear hM2 hMs hwo h0 hc2
        go_upto_region 1 with fail
        go_cut [2] from 4 to 38 (fun s2 wx => s2 = .pointer (some ⟨wr.heap.size, 0, none⟩) ∧ wx = (wr.alloc (.cells #[.pointer none, .int .i32 a, .int .i64 q] 111)).drew)
        case first =>
          go_region_law (fail)
          all_goals
            go_wp2_with fail
            go_meet
            exact ⟨rfl, rfl⟩
        case rest =>
          obtain ⟨rfl, rfl⟩ := hcut
          go_upto_region 2 with fail
          go_cut [] from 4 to 38 (fun wx => wx = ((wr.setCell ⟨V.v, 12, none⟩ (.slice (some ⟨gw, 0, none⟩) m cap)).alloc (.cells #[.pointer none, .int .i32 a, .int .i64 q] 111)).drew.drew)
          case first =>
            go_region_law (fail)
            all_goals
              go_wp2_with fail
              go_meet
              rfl
          case rest =>
            obtain rfl := hcut
            have hszs : (wr.setCell ⟨V.v, 12, none⟩ (.slice (some ⟨gw, 0, none⟩) m cap)).heap.size = wr.heap.size := by simp
            have HB5 : Hid (Moved V A L w g x ((wr.setCell ⟨V.v, 12, none⟩ (.slice (some ⟨gw, 0, none⟩) m cap)).alloc (.cells #[.pointer none, .int .i32 a, .int .i64 q] 111)).drew.drew g2 { x2 with wo := .slice (some ⟨gw, 0, none⟩) m cap }) := by
              have h1 := HM2.out.trans HMS.out
              have h2 := h1.trans (h1.both.alloc #[.pointer none, .int .i32 a, .int .i64 q] 111 (fun _ j u hj => HeldΦ.triple ha q j u (by simpa using hj)))
              have h3 := h2.trans h2.both.drew
              exact h3.trans h3.both.drew
            have hbx : ((wr.setCell ⟨V.v, 12, none⟩ (.slice (some ⟨gw, 0, none⟩) m cap)).alloc (.cells #[.pointer none, .int .i32 a, .int .i64 q] 111)).heap[wr.heap.size]? = some (.cells #[.pointer none, .int .i32 a, .int .i64 q] 111 (0, 0)) := by
              have h1 := heap_alloc_new (wr.setCell ⟨V.v, 12, none⟩ (.slice (some ⟨gw, 0, none⟩) m cap)) (.cells #[.pointer none, .int .i32 a, .int .i64 q] 111)
              rwa [hszs] at h1
            have b0 : (((wr.setCell ⟨V.v, 12, none⟩ (.slice (some ⟨gw, 0, none⟩) m cap)).alloc (.cells #[.pointer none, .int .i32 a, .int .i64 q] 111)).drew.drew).cell? ⟨wr.heap.size, 0, none⟩ = some (.pointer none) := by show ((wr.setCell ⟨V.v, 12, none⟩ (.slice (some ⟨gw, 0, none⟩) m cap)).alloc (.cells #[.pointer none, .int .i32 a, .int .i64 q] 111)).cell? _ = _; simp only [World.cell?, hbx]; rfl
            have b1 : (((wr.setCell ⟨V.v, 12, none⟩ (.slice (some ⟨gw, 0, none⟩) m cap)).alloc (.cells #[.pointer none, .int .i32 a, .int .i64 q] 111)).drew.drew).cell? ⟨wr.heap.size, 1, none⟩ = some (.int .i32 a) := by show ((wr.setCell ⟨V.v, 12, none⟩ (.slice (some ⟨gw, 0, none⟩) m cap)).alloc (.cells #[.pointer none, .int .i32 a, .int .i64 q] 111)).cell? _ = _; simp only [World.cell?, hbx]; rfl
            have b2 : (((wr.setCell ⟨V.v, 12, none⟩ (.slice (some ⟨gw, 0, none⟩) m cap)).alloc (.cells #[.pointer none, .int .i32 a, .int .i64 q] 111)).drew.drew).cell? ⟨wr.heap.size, 2, none⟩ = some (.int .i64 q) := by show ((wr.setCell ⟨V.v, 12, none⟩ (.slice (some ⟨gw, 0, none⟩) m cap)).alloc (.cells #[.pointer none, .int .i32 a, .int .i64 q] 111)).cell? _ = _; simp only [World.cell?, hbx]; rfl
            generalize ((wr.setCell ⟨V.v, 12, none⟩ (.slice (some ⟨gw, 0, none⟩) m cap)).alloc (.cells #[.pointer none, .int .i32 a, .int .i64 q] 111)).drew.drew = w5 at HB5 b0 b1 b2 ⊢
            have HML : Hid (lenV (wcell wr V.v 12) = m + 1) := by
              show lenV (wcell wr V.v 12) = m + 1
              rw [HM2.out.both.wlen, HWO.out]
              rfl
            have hcn : x2.cnt + (m + 1) = T := by
              have := HC2.out
              rw [HWO.out] at this
              exact this
            have hfu : x2.ss.length = g2.l.length := by rw [HM2.out.len, HFU.out, HM2.out.later.len]
            clear c12 f12 e0 e1 e2 zv zg hszs hbx
            go_wp2_with fail
            refine (consider_ok (x := { x2 with wo := .slice (some ⟨gw, 0, none⟩) m cap }) HB5.out.both hfu a q ha (by show x2.cnt < 1000; omega)).mono ?_
            rintro e w6 ⟨rfl, g6, x6, hM6, h61, h62⟩
            have HM6 : Hid (Moved V A L w g x w6 g6 x6) := HB5.out.trans hM6
            have HC6 : Hid (x6.cnt + lenV x6.wo = T) := by
              show x6.cnt + lenV x6.wo = T
              rw [h61, h62]
              show x2.cnt + 1 + m = T
              omega
            have HL6 : Hid (lenV (wcell w6 V.v 12) = m) := by
              show lenV (wcell w6 V.v 12) = m
              rw [hM6.both.wlen, h61]
              rfl
            clear hM6 h61 h62 b0 b1 b2
            go_wp2_with fail
            go_roundw
            case rel => exact ⟨g6, x6, HM6.out, HC6.out⟩
            case measure =>
              rw [HL6.out, HML.out]
              omega
      · obtain ⟨Nv2, -, -, n2⟩ := hM2.both.view
        obtain ⟨nw, xw, hrw⟩ := n2.wrow
        have hnw := row_lenV hrw
        obtain ⟨ow, cw, hwo, _, _⟩ := ownsRow_slice hrw.1
        have hz : nw = 0 := by omega
        subst hz
        have c12 := n2.at_.cells.2.2.2.2.2.2.1
        have c13 := n2.at_.cells.2.2.2.2.2.2.2.1
        rw [hwo] at c12
        obtain ⟨xr, hrr, -⟩ := n2.ready.row
        obtain ⟨orr, crr, hrd, _, _⟩ := ownsRow_slice hrr.1
        rw [hrd] at c13
        have hw0 : lenV x2.wo = 0 := hnw
        clear n2 hrw hwo hrr hrd hM2 h0 hnw
        by_cases hnr : x2.nr = 0
        · rw [hnr] at c13
          go_wp2_with fail
          refine bodyPost_ret (v := .tuple #[]) (by simp [results]) rfl ?_
          exact ⟨rfl, g2, x2, HM2.out, by have := HC2.out; have := HTL.out; omega⟩
        · have hnrI : ((x2.nr : Int) == 0) = false := by rw [beq_eq_false_iff_ne]; omega
          have hnr1000 : (x2.nr : Int) < 1000 := by
            have := HC2.out
            unfold VG.cnt at this
            omega
          have HC3 : Hid (x2.cnt = T) := by show x2.cnt = T; omega
          have hlg : 0 < g2.l.length := by rw [HM2.out.later.len]; exact hl
          have hfu : x2.ss.length = g2.l.length := by rw [HM2.out.len, HFU.out, HM2.out.later.len]
          have hnrp : 0 < x2.nr := by omega
          clear hnr
          go_wp2_with fail
          refine (pop_both HM2.out.both hnrp hlg (by have := HC3.out; omega)).mono ?_
          rintro e w5 ⟨a, q, x5, rfl, hrd, hM5, h51, h52⟩
          have HRD : Hid (RdOk g2 a) := hrd
          have hag : a < g2.l.length := by
            obtain ⟨r, hr, _⟩ := hrd
            exact (List.getElem?_eq_some_iff.1 hr).1
          have HM6 : Hid (Moved V A L w g x (w5.alloc (.cells #[.pointer none, .int .i32 a, .int .i64 q] 111)) g2 x5) := by
            have h1 := HM2.out.trans hM5
            exact h1.trans (h1.both.alloc #[.pointer none, .int .i32 a, .int .i64 q] 111 (fun _ j u hj => HeldΦ.triple hag q j u (by simpa using hj)))
          have HC5 : Hid (x5.cnt + lenV x5.wo + 1 = T) := by
            show x5.cnt + lenV x5.wo + 1 = T
            rw [h51, hw0]
            have := HC3.out
            omega
          have hfu5 : x5.ss.length = g2.l.length := by rw [hM5.len]; exact hfu
          clear hM5 h51 h52 hrd c12 c13
          go_wp2_with fail
          refine (accept_ok HM6.out.both hfu5 a HRD.out (by have := HC5.out; omega)).mono ?_
          rintro e w7 ⟨rfl, g7, x7, hM7, h71⟩
          have HM7 : Hid (Moved V A L w g x w7 g7 x7) := HM6.out.trans hM7
          have HC7 : Hid (x7.cnt + lenV x7.wo + 1 = T) := by
            show x7.cnt + lenV x7.wo + 1 = T
            rw [h71]
            exact HC5.out
          clear hM7 h71
          go_wp2_with fail
          go_roundw
          case rel => exact ⟨g7, x7, HM7.out, by have := HC7.out; have := HTL.out; omega⟩
          case measure =>
            rw [HM7.out.both.tot, ← HT2.out]
            have := HC7.out
            omega
end
end Go.Proofs.YbulkkeiFmt
