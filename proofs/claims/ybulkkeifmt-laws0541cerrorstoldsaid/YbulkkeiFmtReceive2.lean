/-
  THE VIEW (10): Receive.
-/
import Derived.Test.YbulkkeiFmtReceive
import Derived.Test.YbulkkeiFmtStoreAdd
import Derived.LaidEql
namespace Go.Proofs.YbulkkeiFmt
open Go.RowKit Go.Extern.Stop Go.Stop Go.Extern
set_option maxRecDepth 8000
attribute [local go_sem ↓] Go.wp_at_zero Go.wp_at_succ

theorem ptr_neq (b : Nat) (w : World) : (binOp BinOp.neq 52 (.pointer (some ⟨b, 0, none⟩)) (.pointer (some ⟨b, 0, none⟩))).run Ybaf.prog w = .ok (.bool false) w := by
  have hs : (sizeOf 83).run Ybaf.prog w = .ok 10 w := by kernel_rfl
  have key : ∀ n, (Op.equalIn (n + 1) 52 (.pointer (some ⟨b, 0, none⟩)) (.pointer (some ⟨b, 0, none⟩))).run Ybaf.prog w = .ok true w := by
    intro n
    simp [Op.equalIn, run_underlying Ybaf.underlying52, run_sameAddr_same, hs]
  have k : (Op.equalIn Op.maxDepth 52 (.pointer (some ⟨b, 0, none⟩)) (.pointer (some ⟨b, 0, none⟩))).run Ybaf.prog w = .ok true w := key 9999
  unfold binOp
  simp [Op.equal, k]

section
variable {V : VA} {A : SA} {L : Nat → Prop} {w w' : World} {g : SG} {x x' : VG}

theorem Both.pass3 (h : Both V A L w g x) {Nv N0 : Nat → Prop} (hN1 : ∀ k, L k → Nv k) (hv : ViewOk V A Nv w g x) {W : List TypeId} (hN0 : ∀ k, L k → N0 k) (hf : Fr N0 W [] w w') (hW : 111 ∉ W) (hW2 : ∀ e ∈ W, e ∈ [70, 47, 143]) (h1 : x'.wo = x.wo) (h2 : x'.rd = x.rd) (h3 : x'.ea = x.ea) (h4 : x'.nr = x.nr)
    (hat : ViewAt V.K w' V.v A.s x'.st x'.ch x'.re V.ma x'.wo x'.rd) (hsr : Row Nv w' 47 1 x'.st x'.ss.length (u8s x'.ss)) (hcr : Row Nv w' 143 2 x'.ch x'.cl.length (chs x'.cl)) (hst : StOk g x'.ss) (htp : ∀ p ∈ x'.cl, TipOk g p) (hcl : x'.cl.length ≤ 4) :
    Both V A L w' g x' ∧ Fr L WW (MM V A) w w' := by
  have hlow : ∀ k, L k → k < w'.heap.size := fun k hk => Nat.lt_of_lt_of_le (h.low k hk) hf.size
  refine ⟨⟨h.store.keptF hf (fun e he => ?_) (by simp), h.sa, hlow, ⟨Nx V x' Nv w w', fun k hk => ⟨hlow k hk, .inl (hN1 k hk)⟩, fun k hk => hk.1, hv.pass2 hf hW (by simp) (Onw.refl g) h1 h2 h3 h4 hat hsr hcr hst htp hcl⟩, h.ma⟩, (hf.mono hN0 (fun e he => ?_) (fun _ h => h)).wider (fun _ h => h) (by simp)⟩
  · have := hW2 e he
    simp at this
    rcases this with rfl | rfl | rfl <;> decide
  · have := hW2 e he
    simp at this
    rcases this with rfl | rfl | rfl <;> simp [WW]

set_option maxHeartbeats 6400000 in
theorem Receive_known (F : Interp) (h : Both V A L w g x) (hF : F.answers w.tape) {i : Nat} {r : VR} (hi : g.l[i]? = some r) (his : i < x.ss.length) :
    Calls Ybaf.prog 12 #[.pointer (some ⟨V.v, 0, none⟩), entryV (.pointer (some ⟨A.s, 0, none⟩)) i] w fun e w' => (∃ v, e = .returned v ∧ Err v) ∧ Below w.heap.size w w' := by
  unfold entryV
  obtain ⟨w1, hw1⟩ : ∃ w1, w1 = w.alloc (.cells #[.pointer (some ⟨A.s, 0, none⟩), .int .i32 i] 57) := ⟨_, rfl⟩
  have hM1 : Moved V A L w g x w1 g x := by rw [hw1]; exact h.alloc _ 57 (fun h => absurd h (by decide))
  obtain ⟨Nv, _, _, h3⟩ := hM1.both.view
  have v0w : w.cell? ⟨V.v, 0, none⟩ = some (.pointer (some ⟨A.s, 0, none⟩)) := by
    obtain ⟨_, _, _, h0⟩ := h.view
    exact h0.at_.cells.1
  have zv := blk v0w
  have hi4 : i < 4 := by
    have h1 := (List.getElem?_eq_some_iff.1 hi).1
    have h2 := h.store.plain.len
    omega
  have hs : x.ss[i]? = some x.ss[i] := List.getElem?_eq_getElem his
  have hne : x.ss[i] ≠ 0 := by
    rcases h3.sts.two i _ hs with e | e <;> rw [e] <;> decide
  have hhas := has_in h3.at_.cells.2.2.1 h3.srow i hi4 _ hs hne
  have hid := id_ok hM1.both.store.at_.cells.2.2.1 hM1.both.store.vrow i r hi hi4
  have huse := used2 F r.id w1 (by rw [hM1.fr.tape]; exact hF)
  have Hw1 : Hid (w1 = w.alloc (.cells #[.pointer (some ⟨A.s, 0, none⟩), .int .i32 i] 57)) := hw1
  have hpe := ptr_neq A.s
  clear h3 hM1 hw1 h hs hne
  go_enter Ybaf.func12, Ybaf.ntmps12
  go_wp2_with fail
  rw [← Hw1.out]
  refine hhas.mono ?_
  rintro e w2 ⟨rfl, rfl⟩
  have b1 : w2.cell? ⟨w.heap.size, 1, none⟩ = some (.int .i32 i) := by rw [Hw1.out]; simp
  clear hhas
  go_wp2_with fail
  refine hid.mono ?_
  rintro e w3 ⟨rfl, rfl⟩
  go_wp2_with fail
  refine huse.mono ?_
  rintro e w4 ⟨⟨v, rfl, hv⟩, hB⟩
  have HV : Hid (Err v) := hv
  have HB : Hid (Below w.heap.size w w4) := by
    rw [Hw1.out] at hB
    exact Below.alloc_trans (by simpa using hB)
  clear hB hv huse hid
  go_wp2_with fail
  go_ret
  exact ⟨⟨v, rfl, HV.out⟩, HB.out⟩

structure Padded (V : VA) (A : SA) (Nv : Nat → Prop) (x : VG) (w : World) (st : Value) (ss : List Int) (wr : World) : Prop where
  at_ : ViewAt V.K wr V.v A.s st x.ch x.re V.ma x.wo x.rd
  row : Row Nv wr 47 1 st ss.length (u8s ss)
  fr : Fr Nv [70, 47] [] w wr
  ss : ss = x.ss ∨ ss = x.ss ++ [0]
theorem Padded.drewN {Nv : Nat → Prop} {st : Value} {ss : List Int} {wr : World} (h : Padded V A Nv x w st ss wr) (q : Nat) : Padded V A Nv x w st ss (wr.drewN q) := ⟨h.at_, h.row.same (fun _ _ => rfl), h.fr.drewN q, h.ss⟩

/-- Behind 'v.voters[e.number] = Pending'. -/
def Pended (V : VA) (A : SA) (L : Nat → Prop) (B : Nat) (w : World) (g : SG) (x : VG) (wx : World) : Prop := ∃ x', Both V A L wx g x' ∧ Fr L WW (MM V A) w wx ∧ x'.ss.length = g.l.length ∧ x'.cnt + lenV x'.wo = x.cnt + lenV x.wo ∧ wx.heap[B]? = some (.cells #[.pointer (some ⟨A.s, 0, none⟩), .int .i32 x.ss.length] 57 (0, 0))

def Received (V : VA) (A : SA) (L : Nat → Prop) (w : World) (g : SG) (x : VG) (w' : World) : Prop := ∃ g' x', Both V A L w' g' x' ∧ Later g g' ∧ Fr L WW (MM V A) w w' ∧ x'.ss.length = g'.l.length ∧ x'.cnt + lenV x'.wo ≤ x.cnt + lenV x.wo + 1

set_option maxHeartbeats 12800000 in
theorem Receive_new (h : Both V A L w g x) (hlen : x.ss.length + 1 = g.l.length) (hc : x.cnt + lenV x.wo < 900) :
    Calls Ybaf.prog 12 #[.pointer (some ⟨V.v, 0, none⟩), entryV (.pointer (some ⟨A.s, 0, none⟩)) x.ss.length] w fun e w' => e = .returned .nilIface ∧ Received V A L w g x w' := by
  unfold entryV
  obtain ⟨w1, hw1⟩ : ∃ w1, w1 = w.alloc (.cells #[.pointer (some ⟨A.s, 0, none⟩), .int .i32 x.ss.length] 57) := ⟨_, rfl⟩
  have hM1 : Moved V A L w g x w1 g x := by rw [hw1]; exact h.alloc _ 57 (fun h => absurd h (by decide))
  obtain ⟨Nv, n1, n2, h3⟩ := hM1.both.view
  have v0w : w.cell? ⟨V.v, 0, none⟩ = some (.pointer (some ⟨A.s, 0, none⟩)) := by
    obtain ⟨_, _, _, h0⟩ := h.view
    exact h0.at_.cells.1
  have zv := blk v0w
  have h4 : x.ss.length < 4 := by
    have h2 := h.store.plain.len
    omega
  have hhas := has_out h3.at_.cells.2.2.1 h3.srow x.ss.length h4 (Nat.le_refl _)
  have hx := xor_small x.ss.length h4
  have hsg := i32_signed
  have Hw1 : Hid (w1 = w.alloc (.cells #[.pointer (some ⟨A.s, 0, none⟩), .int .i32 x.ss.length] 57)) := hw1
  have HM1 : Hid (Moved V A L w g x w1 g x) := hM1
  have HP : Hid (Padded V A Nv x w1 x.st x.ss w1) := ⟨h3.at_, h3.srow, Fr.refl .., .inl rfl⟩
  have H3 : Hid (ViewOk V A Nv w1 g x) := h3
  have HN1 : Hid (∀ k, L k → Nv k) := n1
  have HN2 : Hid (∀ k, Nv k → k < w1.heap.size) := n2
  have HBX : Hid (w1.heap[w.heap.size]? = some (.cells #[.pointer (some ⟨A.s, 0, none⟩), .int .i32 x.ss.length] 57 (0, 0))) := by show w1.heap[w.heap.size]? = _; rw [hw1]; exact heap_alloc_new w _
  obtain ⟨B, hB⟩ : ∃ B, B = w.heap.size := ⟨_, rfl⟩
  have HB : Hid (B = w.heap.size) := hB
  have hvr := hM1.both.store.vrow
  obtain ⟨ov, cv, hvs, k1, k2⟩ := ownsRow_slice hvr.1
  simp only [maxLen] at k2
  have HS2 : Hid (∀ wr, Fr Nv [70, 47] [] w1 wr → wr.cell? ⟨A.s, 2, none⟩ = some (.slice ov g.l.length cv)) := by
    intro wr hf
    have h1 : StoreAt wr A.s A.ch A.mi g.vs A.gp A.ms g.co A.mr A.mu := hf.keepC _ _ _ _ HM1.out.both.store.at_ (by decide)
    have := h1.cells.2.2.1
    rwa [hvs] at this
  have hpe := ptr_neq A.s
  clear h3 hM1 hw1 h n1 n2 hB hvr hvs
  go_enter Ybaf.func12, Ybaf.ntmps12
  go_wp2_with fail
  rw [← Hw1.out, ← HB.out]
  refine hhas.mono ?_
  rintro e w2 ⟨rfl, rfl⟩
  have b1 : w2.cell? ⟨B, 1, none⟩ = some (.int .i32 x.ss.length) := by rw [HB.out]; simp [World.cell?, HBX.out]
  clear hhas
  go_wp2_with fail
  all_goals try (exfalso; omega)
  go_loopw [] (fun wr => ∃ st ss, Padded V A Nv x w2 st ss wr) (fun wr => g.l.length - lenV (wcell wr V.v 5))
  case atStart => exact ⟨x.st, x.ss, HP.out⟩
  case round =>
    clear HP
    obtain ⟨st, ss, hP⟩ := hrel
    have HP : Hid (Padded V A Nv x w2 st ss wr) := hP
    obtain ⟨o1, c1, hst, _, _⟩ := ownsRow_slice hP.row.1
    subst hst
    have v5 := hP.at_.cells.2.2.1
    have s2 := HS2.out wr hP.fr
    have HV5 : Hid (wr.cell? ⟨V.v, 5, none⟩ = some (.slice o1 ss.length c1)) := v5
    have hss := hP.ss
    clear hP
    have hN0 : Hid (∀ k, Nv k → k < wr.heap.size) := fun k hk => Nat.lt_of_lt_of_le (HN2.out k hk) HP.out.fr.size
    rcases hss with hss | hss
    · have hlt : (ss.length : Int) < (g.l.length : Int) := by rw [hss]; omega
      have hs4 : ss.length < 4 := by rw [hss]; exact h4
      have HSS : Hid (ss = x.ss) := hss
      clear hss
      go_wp2_with fail
      go_quiet (fail)
      rename_i nq
      have HPq : Hid (Padded V A Nv x w2 (.slice o1 ss.length c1) ss (wr.drewN nq)) := HP.out.drewN nq
      have hN0q : Hid (∀ k, Nv k → k < (wr.drewN nq).heap.size) := hN0.out
      have t5 : (wr.drewN nq).cell? ⟨V.v, 5, none⟩ = some (.slice o1 ss.length c1) := v5
      clear v5 s2
      go_wp2_with ((at_builtin; refine Stop'.intro ?_))
      unfold Stop'
      have HM1 : Hid (lenV (wcell wr V.v 5) = ss.length) := by show lenV (wcell wr V.v 5) = ss.length; unfold wcell; rw [HV5.out]; rfl
      have hsz3 : wr.heap.size = (wr.drewN nq).heap.size := rfl
      generalize wr.drewN nq = w3 at HPq hN0q t5 hsz3 ⊢
      rw [hsz3]
      refine wpList_append_row _ rfl _ _ 61 rfl 47 Ybaf.t47 (.int .u8 0) 1 1 Ybaf.underlying61 (by kernel_rfl) rfl rfl rfl rfl (by decide) (N := Nv) (fun k hk => by have := hN0q.out k hk; simp; omega) (.slice o1 ss.length c1) ss.length (u8s ss) rfl (HPq.out.row.kept ((Fr.refl Nv [] [] _).alloc _) (by simp)) ⟨w3.heap.size, 0, none⟩ 1 1 [.int .u8 0] rfl rfl (news_alloc w3 _ _) (by simp [Value.oneCell']) (by simp [maxLen]; omega) (by omega) ?_
      intro v' w4 hG
      obtain ⟨o2, c2, rfl, _, _⟩ := ownsRow_slice hG.row.1
      have hV4 : ViewAt V.K w4 V.v A.s (.slice o1 ss.length c1) x.ch x.re V.ma x.wo x.rd := hG.fr.keepC _ _ _ _ (((Fr.refl Nv [] [] w3).alloc _).keepC _ _ _ _ HPq.out.at_ (by simp)) (by decide)
      have u5 := hV4.cells.2.2.1
      have g5 := hV4.free 5
      have HPn : Hid (Padded V A Nv x w2 (.slice o2 (ss.length + 1) c2) (x.ss ++ [0]) (w4.setCell ⟨V.v, 5, none⟩ (.slice o2 (ss.length + 1) c2))) := by
        have hf4 : Fr Nv [70, 47] [] w2 w4 := (HPq.out.fr.alloc _).trans (hG.fr.wider (by simp) (by simp))
        refine ⟨hV4.setSt _, ?_, hf4.setCell hV4 (by simp) H3.out.mine, .inr rfl⟩
        have h1 := hG.row.setCell (k := V.v) (o := 5) (u := .slice o2 (ss.length + 1) c2) (hG.row.ne hV4 (by decide))
        rw [← HSS.out, List.length_append]
        simpa [u8s] using h1
      have HM2 : Hid (lenV (wcell (w4.setCell ⟨V.v, 5, none⟩ (.slice o2 (ss.length + 1) c2)) V.v 5) = ss.length + 1) := by
        show lenV (wcell (w4.setCell ⟨V.v, 5, none⟩ (.slice o2 (ss.length + 1) c2)) V.v 5) = ss.length + 1
        unfold wcell
        rw [HPn.out.at_.cells.2.2.1]
        rfl
      clear hG hV4
      go_wp2_with fail
      go_roundw
      case rel => exact ⟨_, x.ss ++ [0], HPn.out⟩
      case measure =>
        rw [HM2.out, HM1.out]
        omega
    · have hsl : ss.length = g.l.length := by rw [hss]; simpa using hlen
      have hlt : ¬ (ss.length : Int) < (g.l.length : Int) := by omega
      have HSS : Hid (ss = x.ss ++ [0]) := hss
      have hxl2 : (x.ss.length : Int) < (g.l.length : Int) := by omega
      have hxl : (x.ss.length : Int) < (ss.length : Int) := by have h1 := congrArg List.length hss; simp at h1; omega
      have hbx : wr.heap[B]? = some (.cells #[.pointer (some ⟨A.s, 0, none⟩), .int .i32 x.ss.length] 57 (0, 0)) := by rw [HB.out]; exact HP.out.fr.keepC _ _ _ _ HBX.out (by decide)
      have d1 : wr.cell? ⟨B, 1, none⟩ = some (.int .i32 x.ss.length) := by simp [World.cell?, hbx]
      obtain ⟨gs, cps, crs, hvs, hNs, hbs, k3, k4, k5, k6⟩ := HP.out.row.form (by omega)
      cases hvs
      have d2 : wr.cell? ⟨gs, x.ss.length, none⟩ = some (.int .u8 0) := HP.out.row.cell rfl (by rw [HSS.out]; simp [u8s])
      have d3 : wr.frozen? ⟨gs, x.ss.length, none⟩ = false := by simp [World.frozen?, hbs]
      have d7 := HP.out.at_.cells.2.2.2.2.1
      have HBS : Hid (wr.heap[gs]? = some (.cells crs 47 (0, 0))) := hbs
      have HBXr : Hid (wr.heap[B]? = some (.cells #[.pointer (some ⟨A.s, 0, none⟩), .int .i32 x.ss.length] 57 (0, 0))) := hbx
      clear hss k3 k4 k5 k6 hbs hbx
      go_wp2_with fail
      go_quiet (fail)
      rename_i nq
      go_wp2_with fail
      all_goals try (exfalso; omega)
      have HPq : Hid (Padded V A Nv x w2 (.slice (some ⟨gs, 0, none⟩) ss.length c1) ss (wr.drewN nq)) := HP.out.drewN nq
      have t1 : (wr.drewN nq).cell? ⟨B, 1, none⟩ = some (.int .i32 x.ss.length) := d1
      have t2 : (wr.drewN nq).cell? ⟨gs, x.ss.length, none⟩ = some (.int .u8 0) := d2
      have t3 : (wr.drewN nq).frozen? ⟨gs, x.ss.length, none⟩ = false := d3
      have t5 : (wr.drewN nq).cell? ⟨V.v, 5, none⟩ = some (.slice (some ⟨gs, 0, none⟩) ss.length c1) := v5
      have HBS2 : Hid ((wr.drewN nq).heap[gs]? = some (.cells crs 47 (0, 0))) := HBS.out
      have HBX2 : Hid ((wr.drewN nq).heap[B]? = some (.cells #[.pointer (some ⟨A.s, 0, none⟩), .int .i32 x.ss.length] 57 (0, 0))) := HBXr.out
      clear v5 s2 d1 d2 d3 d7
      go_cut [] from 125 to 140 (fun wx => Pended V A L B w g x wx)
      case first =>
        generalize wr.drewN nq = w3 at HPq t1 t2 t3 t5 HBS2 HBX2 ⊢
        go_region_law (fail)
        all_goals
          go_wp2_with fail
          go_meet
          have hf5 : Fr Nv [70, 47] [] w2 (w3.setCell ⟨gs, x.ss.length, none⟩ (.int .u8 1)).drew := (HPq.out.fr.setCell HBS2.out (by simp) hNs).drew
          have hvs : gs ≠ V.v := by
            intro e
            have h1 := HPq.out.at_
            unfold ViewAt at h1
            rw [← e, HBS2.out] at h1
            cases h1
          have hBs : B ≠ gs := by
            intro e
            have h1 := HBX2.out
            rw [e, HBS2.out] at h1
            cases h1
          have hat : ViewAt V.K (w3.setCell ⟨gs, x.ss.length, none⟩ (.int .u8 1)).drew V.v A.s (.slice (some ⟨gs, 0, none⟩) ss.length c1) x.ch x.re V.ma x.wo x.rd := (heap_setCell_other w3 (Ne.symm hvs)).trans HPq.out.at_
          have hrw : Row Nv (w3.setCell ⟨gs, x.ss.length, none⟩ (.int .u8 1)).drew 47 1 (.slice (some ⟨gs, 0, none⟩) ss.length c1) (x.ss ++ [1]).length (u8s (x.ss ++ [1])) := by
            have h1 := HPq.out.row.setAt (g := gs) rfl x.ss.length (.int .u8 1)
            rw [u8s_set] at h1
            have h2 : ss.set x.ss.length 1 = x.ss ++ [1] := by rw [HSS.out]; simp
            have h3 : ss.length = (x.ss ++ [1]).length := by rw [HSS.out]; simp
            rw [h2] at h1
            rw [← h3]
            exact h1.same (fun _ _ => rfl)
          obtain ⟨hB5, hF5⟩ := HM1.out.both.pass3 (x' := { x with st := .slice (some ⟨gs, 0, none⟩) ss.length c1, ss := x.ss ++ [1] }) HN1.out H3.out HN1.out hf5 (by decide) (by decide) rfl rfl rfl rfl hat hrw (H3.out.crow.keptF hf5 (by decide)) ⟨by simp; omega, fun j t hj => by
              rcases getElem?_snoc hj with h1 | ⟨_, h1⟩
              · exact H3.out.sts.two j t h1
              · exact .inl h1.symm, fun j hj => by
              rcases getElem?_snoc hj with h1 | ⟨_, h1⟩
              · exact H3.out.sts.acc j h1
              · cases h1⟩ H3.out.tips H3.out.clen
          exact ⟨_, hB5, HM1.out.fr.trans hF5, by simp; omega, rfl, (heap_setCell_other w3 hBs).trans HBX2.out⟩
      case rest =>
        obtain ⟨x5, hB5, hF5, hl5, hc5, hbx5⟩ := hcut
        have t1' : wc.cell? ⟨B, 1, none⟩ = some (.int .i32 x.ss.length) := by simp [World.cell?, hbx5]
        have v7 : wc.cell? ⟨V.v, 7, none⟩ = some (.int .i64 x5.re) := by
          obtain ⟨_, _, _, h0⟩ := hB5.view
          exact h0.at_.cells.2.2.2.2.1
        have HB5 : Hid (Both V A L wc g x5) := hB5
        have HF5 : Hid (Fr L WW (MM V A) w wc) := hF5
        have HL5 : Hid (x5.ss.length = g.l.length) := hl5
        have HC5 : Hid (x5.cnt + lenV x5.wo = x.cnt + lenV x.wo) := hc5
        have hnl : x.ss.length < g.l.length := by omega
        clear hB5 hF5 hl5 hc5 hbx5 t1 t2 t3 t5
        go_wp2_with fail
        go_region_law
         ((go_simp
           go_at_call 25
           refine (receiveV_ok (w := wc.drew) HB5.out.drew.both HL5.out x.ss.length x5.re hnl ?h1).mono ?_
           case h1 => have := HC5.out; omega
           rintro e w6 ⟨rfl, g6, x6, hM6, h6⟩
           have HE : Hid (Received V A L w g x w6) := ⟨g6, x6, hM6.both, hM6.later, (HF5.out.trans HB5.out.drew.fr).trans hM6.fr, by rw [hM6.len, hM6.later.len]; exact HL5.out, by have := HC5.out; omega⟩
           clear hM6 h6))
        all_goals
          go_wp2_with fail
          go_ret
          exact ⟨rfl, HE.out⟩
end
end Go.Proofs.YbulkkeiFmt
