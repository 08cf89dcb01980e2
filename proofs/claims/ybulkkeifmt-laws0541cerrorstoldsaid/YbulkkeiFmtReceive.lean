/-
  THE VIEW (9): receive, Receive, AddVoter.
-/
import Derived.Test.YbulkkeiFmtMove
namespace Go.Proofs.YbulkkeiFmt
open Go.RowKit Go.Extern.Stop Go.Stop Go.Extern
set_option maxRecDepth 8000
attribute [local go_sem ↓] Go.wp_at_zero Go.wp_at_succ

section
variable {V : VA} {A : SA} {L : Nat → Prop} {w : World} {g : SG} {x : VG}

/-- v.received is set. -/
theorem Both.setRe (h : Both V A L w g x) (re' : Int) : Moved V A L w g x (w.setCell ⟨V.v, 7, none⟩ (.int .i64 re')) g { x with re := re' } := by
  obtain ⟨Nv, h1, h2, h3⟩ := h.view
  have hf : Fr Nv [70] [] w (w.setCell ⟨V.v, 7, none⟩ (.int .i64 re')) := (Fr.refl Nv [70] [] w).setCell h3.at_ (by simp) h3.mine
  exact h.pass2 h1 h3 h1 hf (by decide) (by decide) rfl rfl rfl rfl rfl (h3.at_.setRe re') (h3.srow.keptF hf (by decide)) (h3.crow.keptF hf (by decide)) h3.sts h3.tips h3.clen

theorem ViewOk.woken {Nv : Nat → Prop} {w3 : World} (h : ViewOk V A Nv w g x) {i : Nat} (hi : i < g.l.length) {q : Int} {n : Nat} {xs : List Value} {v' : Value}
    (hG : Grew (Nr Nv x.rd) 111 3 (.agg #[.pointer none, .int .i32 0, .int .i64 0]) x.wo n 1 xs [.pointer none, .int .i32 i, .int .i64 q] (w.alloc (.cells #[.pointer none, .int .i32 i, .int .i64 q] 111)).drew v' w3) :
    ViewOk V A Nv (w3.setCell ⟨V.v, 12, none⟩ v') g { x with wo := v' } ∧ Fr (Nr Nv x.rd) [70, 111] [] w (w3.setCell ⟨V.v, 12, none⟩ v') := by
  have hfa : Fr (Nr Nv x.rd) [111] [] w w3 := (((Fr.refl (Nr Nv x.rd) [111] [] w).alloc _).drew).trans hG.fr
  have hV3 : ViewAt V.K w3 V.v A.s x.st x.ch x.re V.ma x.wo x.rd := hfa.keepC _ _ _ _ h.at_ (by decide)
  have hf : Fr (Nr Nv x.rd) [70, 111] [] w (w3.setCell ⟨V.v, 12, none⟩ v') := (hfa.wider (by simp) (by simp)).setCell hV3 (by simp) h.mineR
  have hs3 : ∀ k, x.rd.ownBlock = some k → w3.heap[k]? = w.heap[k]? := fun k hk => hfa.old k (h.ready.lt k hk).1 (.inr hk)
  have hs : ∀ k, x.rd.ownBlock = some k → (w3.setCell ⟨V.v, 12, none⟩ v').heap[k]? = w.heap[k]? := fun k hk => (heap_setCell_other w3 (fun (e : k = V.v) => h.mineR (.inr (by rw [← e]; exact hk)))).trans (hs3 k hk)
  have hT3 : Typed (Nr Nv x.rd) w3 111 3 (HeldΦ g.l.length) := hG.typed _ ((h.typedN.alloc _ 111 (fun _ j u hj => HeldΦ.triple hi q j u (by simpa using hj))).drew) (HeldΦ.triple hi q) (HeldΦ.zero (by omega))
  refine ⟨⟨hV3.setWo v', h.srow.keptF hf (by decide), h.crow.keptF hf (by decide), h.map.kept hf (by simp), ⟨_, _, hG.row.setCell (hG.row.ne hV3 (by decide))⟩, h.rows.kept hf, h.ready.same hs, h.typedR hs (hT3.set hV3 (by decide)), h.sts, h.tips, h.clen, h.mine, h.mapm⟩, hf⟩

def Pushes (V : VA) (A : SA) (L : Nat → Prop) (w : World) (g : SG) (x : VG) (w' : World) : Prop := ∃ x', Moved V A L w g x w' g x' ∧ x'.cnt + lenV x'.wo = x.cnt + lenV x.wo + 1

set_option maxHeartbeats 12800000 in
theorem receiveV_ok (h : Both V A L w g x) (hfull : x.ss.length = g.l.length) (i : Nat) (q : Int) (hi : i < g.l.length) (hc : x.cnt + lenV x.wo < 900) :
    Calls Ybaf.prog 25 #[.pointer (some ⟨V.v, 0, none⟩), .agg #[.pointer none, .int .i32 i, .int .i64 q]] w fun e w' => e = .returned (.tuple #[]) ∧ ∃ g' x', Moved V A L w g x w' g' x' ∧ x'.cnt + lenV x'.wo ≤ x.cnt + lenV x.wo + 1 := by
  obtain ⟨w1, hw1⟩ : ∃ w1, w1 = (w.setCell ⟨V.v, 7, none⟩ (.int .i64 (wrap64 (x.re + 1)))).alloc (.cells #[.pointer none, .int .i32 i, .int .i64 q] 111) := ⟨_, rfl⟩
  obtain ⟨x1, hx1⟩ : ∃ x1 : VG, x1 = { x with re := wrap64 (x.re + 1) } := ⟨_, rfl⟩
  have hM1 : Moved V A L w g x w1 g x1 := by
    rw [hw1, hx1]
    have h1 := h.setRe (wrap64 (x.re + 1))
    exact h1.trans (h1.both.alloc _ 111 (fun _ j u hj => HeldΦ.triple hi q j u (by simpa using hj)))
  have hcn1 : x1.cnt + lenV x1.wo = x.cnt + lenV x.wo := by rw [hx1]; rfl
  obtain ⟨Nv, h1, h2, h3⟩ := h.view
  have v7 := h3.at_.cells.2.2.2.2.1
  have f7 := h3.at_.free 7
  have zv := blk v7
  have Hw1 : Hid (w1 = (w.setCell ⟨V.v, 7, none⟩ (.int .i64 (wrap64 (x.re + 1)))).alloc (.cells #[.pointer none, .int .i32 i, .int .i64 q] 111)) := hw1
  have HM1 : Hid (Moved V A L w g x w1 g x1) := hM1
  obtain ⟨B, hB⟩ : ∃ B, B = w.heap.size := ⟨_, rfl⟩
  have HB : Hid (B = w.heap.size) := hB
  have HFU : Hid (x.ss.length = g.l.length) := hfull
  have HBX : Hid (w1.heap[B]? = some (.cells #[.pointer none, .int .i32 i, .int .i64 q] 111 (0, 0))) := by
    show w1.heap[B]? = _
    rw [hw1, hB]
    have := heap_alloc_new (w.setCell ⟨V.v, 7, none⟩ (.int .i64 (wrap64 (x.re + 1)))) (.cells #[.pointer none, .int .i32 i, .int .i64 q] 111)
    simpa using this
  clear h h1 h2 h3 hw1 hM1 hB hfull
  go_enter Ybaf.func25, Ybaf.ntmps25
  go_upto_region 2 with fail
  go_cut [] from 11 to 22 (fun wx => Pushes V A L w g x wx)
  case first =>
    rw [← Hw1.out]
    obtain ⟨Nv, h1, h2, h3⟩ := HM1.out.both.view
    obtain ⟨n, xs, hrw⟩ := h3.wrow
    have hn := row_lenV hrw
    obtain ⟨ow, cw, hwo, _, _⟩ := ownsRow_slice hrw.1
    have c12 := h3.at_.cells.2.2.2.2.2.2.1
    have f12 := h3.at_.free 12
    have b0 : w1.cell? ⟨w.heap.size, 0, none⟩ = some (.pointer none) := by rw [← HB.out]; simp [World.cell?, HBX.out]
    have b1 : w1.cell? ⟨w.heap.size, 1, none⟩ = some (.int .i32 i) := by rw [← HB.out]; simp [World.cell?, HBX.out]
    have b2 : w1.cell? ⟨w.heap.size, 2, none⟩ = some (.int .i64 q) := by rw [← HB.out]; simp [World.cell?, HBX.out]
    rw [hwo] at c12
    have HRW : Hid (Row (Nr Nv x1.rd) w1 111 3 (.slice ow n cw) n xs) := by have := hrw; rw [hwo] at this; exact this
    have HWO : Hid (x1.wo = .slice ow n cw) := hwo
    have H3 : Hid (ViewOk V A Nv w1 g x1) := h3
    have HN2 : Hid (∀ k, Nr Nv x1.rd k → k < w1.heap.size) := Nr.lt h2 h3
    have H1 : Hid (∀ k, L k → Nv k) := h1
    have H2 : Hid (∀ k, Nv k → k < w1.heap.size) := h2
    have hn900 : n < 900 := by rw [← hn]; omega
    have hwv : (Value.slice ow n cw).ownBlock ≠ some V.v := by have := hrw.ne h3.at_ (by decide); rwa [hwo] at this
    have zB := blk b0
    have zv2 := blk c12
    clear h1 h2 h3 hrw hwo v7 f7 zv
    go_region_law
     ((refine step_append_row _ (by rfl) _ _ 66 (by rfl) 111 Ybaf.t111 (.agg #[.pointer none, .int .i32 0, .int .i64 0]) 3 24 Ybaf.underlying66 (by kernel_rfl) hz111 rfl rfl rfl (by decide) (N := Nr Nv x1.rd) (fun k hk => by have := HN2.out k hk; simp; omega) (.slice ow n cw) n xs (by rfl)
          (HRW.out.kept ((Fr.refl (Nr Nv x1.rd) [] [] w1).alloc _).drew (by simp)) ⟨w1.heap.size, 0, none⟩ 1 1 [.pointer none, .int .i32 i, .int .i64 q] (by rfl) (by rfl) (news_alloc w1 _ _) (by simp [Value.oneCell']) (by simp [maxLen]; omega) (by omega) ?_
       intro v' w2 hG
       obtain ⟨o2, cap2, rfl, _, _⟩ := ownsRow_slice hG.row.1
       have u12 := hG.cell (b := V.v) (o := 12) (by exact cell_alloc c12 _) hwv
       have g12 : w2.frozen? ⟨V.v, 12, none⟩ = false := (show ViewAt V.K w2 V.v A.s x1.st x1.ch x1.re V.ma x1.wo x1.rd from hG.fr.keepC V.v _ _ _ (((Fr.refl (Nr Nv x1.rd) [] [] w1).alloc _).drew.keepC _ _ _ _ H3.out.at_ (by simp)) (by decide)).free 12))
    all_goals
      go_wp2_with fail
      go_meet
      have hG2 := hG
      rw [← HWO.out] at hG2
      obtain ⟨hv, hf⟩ := H3.out.woken hi hG2
      refine ⟨{ x1 with wo := .slice o2 (n + 1) cap2 }, HM1.out.trans ⟨HM1.out.both.ofView H1.out H2.out hv hf (by decide) (by simp), Later.refl g, hf.mono (fun k hk => .inl (H1.out k hk)) (by decide) (by simp), rfl⟩, ?_⟩
      have h5 := hcn1
      have h6 := hn
      show x1.cnt + (n + 1) = x.cnt + lenV x.wo + 1
      omega
  case rest =>
    obtain ⟨x2, hM2, hc2⟩ := hcut
    have HM2 : Hid (Moved V A L w g x wc g x2) := hM2
    have HC2 : Hid (x2.cnt + lenV x2.wo = x.cnt + lenV x.wo + 1) := hc2
    have hset := settleV_ok hM2.both (by rw [hM2.len]; exact HFU.out) (by omega) (by omega)
    clear hM2 hc2 v7 f7 zv
    go_wp2_with fail
    refine hset.mono ?_
    rintro e w5 ⟨rfl, g5, x5, hM5, h5⟩
    have HE : Hid (∃ g' x', Moved V A L w g x w5 g' x' ∧ x'.cnt + lenV x'.wo ≤ x.cnt + lenV x.wo + 1) := ⟨g5, x5, HM2.out.trans hM5, by have := HC2.out; omega⟩
    clear hM5 h5 hset
    go_wp2_with fail
    go_end0
    exact ⟨rfl, HE.out⟩
end
end Go.Proofs.YbulkkeiFmt
