/-
  THE VIEW's INVARIANT behind operations on its other rows; the store's settleVoter.
-/
import Derived.Test.YbulkkeiFmtBoth
import Derived.Test.YbulkkeiFmtSettle
import Derived.Test.YbulkkeiFmtExtend
namespace Go.Proofs.YbulkkeiFmt
open Go.RowKit Go.Extern.Stop Go.Stop Go.Extern

section
variable {V : VA} {A : SA} {L : Nat → Prop} {w w' : World} {g g' : SG} {x x' : VG}

/-- No row of waiting blocks is touched. -/
theorem ViewOk.pass2 {N Nv : Nat → Prop} (h : ViewOk V A Nv w g x) {W : List TypeId} {M : List Nat} (hf : Fr N W M w w') (hW : 111 ∉ W) (hM : V.ma ∉ M) (hl : Onw g g') (h1 : x'.wo = x.wo) (h2 : x'.rd = x.rd) (h3 : x'.ea = x.ea) (h4 : x'.nr = x.nr)
    (hat : ViewAt V.K w' V.v A.s x'.st x'.ch x'.re V.ma x'.wo x'.rd) (hsr : Row Nv w' 47 1 x'.st x'.ss.length (u8s x'.ss)) (hcr : Row Nv w' 143 2 x'.ch x'.cl.length (chs x'.cl)) (hst : StOk g' x'.ss) (htp : ∀ p ∈ x'.cl, TipOk g' p) (hcl : x'.cl.length ≤ 4) :
    ViewOk V A (Nx V x' Nv w w') w' g' x' := by
  have hs : ∀ j, x.rd.ownBlock = some j → w'.heap[j]? = w.heap[j]? := fun j hj => by
    obtain ⟨_, _, c, h3⟩ := h.ready.lt j hj
    rw [h3]
    exact hf.keepC _ _ _ _ h3 hW
  have n1 : ∀ k, Is111 w k → ¬ Nv k → ¬ Nx V x' Nv w w' k := fun k h1 h2 h3 => h3.2.elim h2 (fun h4 => h4.1 h1)
  have n2 : ∀ k, VMine V x' k → ¬ Nv k → ¬ Nx V x' Nv w w' k := fun k h1 h2 h3 => h3.2.elim h2 (fun h4 => h4.2 h1)
  have n3 : ∀ {v : Value} {n : Nat} {xs : List Value}, Row (Nr Nv x.rd) w 111 3 v n xs → Row (Nr (Nx V x' Nv w w') x'.rd) w 111 3 v n xs := fun {v n xs} hr => hr.other fun j hj hn => by
    obtain ⟨c, hc⟩ := hr.at hj
    have h0 := hr.2 j hj
    rcases hn with hn | hn
    · exact n1 j ⟨c, _, hc⟩ (fun h1 => h0 (.inl h1)) hn
    · exact h0 (.inr (by rw [← h2]; exact hn))
  obtain ⟨n, xs, hw⟩ := h.wrow
  obtain ⟨ys, hy⟩ := (n3 hw).shape hf
  have hrows : AllRows (Nr (Nx V x' Nv w w') x'.rd) w x.ea := fun p hp => by
    obtain ⟨n, xs, h1⟩ := h.rows p hp
    exact ⟨n, xs, n3 h1⟩
  have hmp := h.map.kept hf hM
  refine ⟨hat, hsr.other fun j hj => n2 j (.inr (.inr (.inl hj))) (hsr.2 j hj), hcr.other fun j hj => n2 j (.inr (.inr (.inr hj))) (hcr.2 j hj), by rw [h3]; exact hmp, ⟨n, ys, by rw [h1]; exact hy⟩, by rw [h3]; exact hrows.kept hf, ?_, ?_, hst, htp, hcl, n2 _ (.inl rfl) h.mine, n2 _ (.inr (.inl rfl)) h.mapm⟩
  · rw [h2, h4]
    refine (ReadyAt.same ?_ hs).imp (fun _ _ => RdΦ.onw hl)
    rcases h.ready with h1 | ⟨g1, cap, cur, h1, h2⟩
    · exact .inl h1
    · exact .inr ⟨g1, cap, cur, h1, ⟨n1 g1 ⟨cur, _, h2.block⟩ h2.mine, h2.block, h2.le, h2.max, h2.size, h2.ok⟩⟩
  · intro j c f hj hb i u hi
    have hlt : j < w'.heap.size := (Array.getElem?_eq_some_iff.1 hb).1
    have h1 : ¬ Nv j := fun h1 => hj ⟨hlt, .inl h1⟩
    have h2 : Is111 w j := Classical.byContradiction fun h2 => by
      refine hj ⟨hlt, .inr ⟨h2, ?_⟩⟩
      rintro (rfl | rfl | h3 | h3)
      · have := hat
        unfold ViewAt at this
        rw [hb] at this
        cases this
      · obtain ⟨arr, cl, h4, _⟩ := hmp
        rw [hb] at h4
        cases h4
      · obtain ⟨c', h4⟩ := hsr.at h3
        rw [hb] at h4
        cases h4
      · obtain ⟨c', h4⟩ := hcr.at h3
        rw [hb] at h4
        cases h4
    obtain ⟨c', f', h3⟩ := h2
    have h4 := hf.keepC j c' 111 f' h3 hW
    rw [hb] at h4
    cases h4
    exact (h.typed j c f h1 h3 i u hi).more hl.len

/-- .. over the store, which is as it was. -/
theorem Both.pass2 (h : Both V A L w g x) {Nv N0 : Nat → Prop} (hN1 : ∀ k, L k → Nv k) (hv : ViewOk V A Nv w g x) {W : List TypeId} (hN0 : ∀ k, L k → N0 k) (hf : Fr N0 W [] w w') (hW : 111 ∉ W) (hW2 : ∀ e ∈ W, e ∈ [70, 47, 143]) (h1 : x'.wo = x.wo) (h2 : x'.rd = x.rd) (h3 : x'.ea = x.ea) (h4 : x'.nr = x.nr) (hss : x'.ss.length = x.ss.length)
    (hat : ViewAt V.K w' V.v A.s x'.st x'.ch x'.re V.ma x'.wo x'.rd) (hsr : Row Nv w' 47 1 x'.st x'.ss.length (u8s x'.ss)) (hcr : Row Nv w' 143 2 x'.ch x'.cl.length (chs x'.cl)) (hst : StOk g x'.ss) (htp : ∀ p ∈ x'.cl, TipOk g p) (hcl : x'.cl.length ≤ 4) :
    Moved V A L w g x w' g x' := by
  have hlow : ∀ k, L k → k < w'.heap.size := fun k hk => Nat.lt_of_lt_of_le (h.low k hk) hf.size
  refine ⟨⟨h.store.keptF hf (fun e he => ?_) (by simp), h.sa, hlow, ⟨Nx V x' Nv w w', fun k hk => ⟨hlow k hk, .inl (hN1 k hk)⟩, fun k hk => hk.1, hv.pass2 hf hW (by simp) (Onw.refl g) h1 h2 h3 h4 hat hsr hcr hst htp hcl⟩, h.ma⟩, Later.refl g, (hf.mono hN0 (fun e he => ?_) (fun _ h => h)).wider (fun _ h => h) (by simp), hss⟩
  · have := hW2 e he
    simp at this
    rcases this with rfl | rfl | rfl <;> decide
  · have := hW2 e he
    simp at this
    rcases this with rfl | rfl | rfl <;> simp [WW]

theorem settle_both (h : Both V A L w g x) (i : Nat) (hi : RdOk g i) :
    Calls Ybaf.prog 48 #[.pointer (some ⟨A.s, 0, none⟩), .int .i32 i] w fun e w' => e = .returned (.tuple #[]) ∧ ∃ g' r', Moved V A L w g x w' g' x ∧ g'.l[i]? = some r' ∧ r'.settled = true := by
  obtain ⟨r, hr, hp⟩ := hi
  cases hs : r.settled with
  | true =>
    refine (settleVoter_old h.store.at_ h.store.vrow i r hr hs).mono ?_
    rintro e w' ⟨rfl, rfl⟩
    exact ⟨rfl, g, r, Moved.refl h, hr, hs⟩
  | false =>
    have hne : r.par ≠ -2 := by
      rcases hp with hp | ⟨j, q, hp, _⟩ <;> omega
    have fin : ∀ (ht : Nat) (w' : World), HtOk g r ht → Row L w' 122 10 g.vs g.l.length (vrs (g.l.set i { r with settled := true, height := ht })) → Fr L [122] [] w w' → ∃ g' r', Moved V A L w g x w' g' x ∧ g'.l[i]? = some r' ∧ r'.settled = true := by
      intro ht w' hh hrow hf
      have hl := Later.settle hr hs ht
      have hst : StoreOk A L w' (g.settle i r ht) := by
        refine ⟨hf.keepC _ _ _ _ h.store.at_ (by decide), h.store.index.kept hf (by simp), h.store.slots.kept hf (by simp), h.store.refs.kept hf (by simp), h.store.unres.kept hf (by simp), h.store.once, h.store.onceU, h.store.rok.kept hf (by decide), ?_, h.store.crow.kept hf (by decide), h.store.sok, ?_, (h.store.plain.settle hr hs hh).1⟩
        · show Row L w' 122 10 g.vs (g.l.set i { r with settled := true, height := ht }).length (vrs (g.l.set i { r with settled := true, height := ht }))
          rw [List.length_set]
          exact hrow
        · intro j q hj hq
          rcases get_set hj with ⟨rfl, rfl⟩ | ⟨hji, hj'⟩
          · exact absurd hq hne
          · obtain ⟨u', c', p', vv', xs', m1, m2, m3⟩ := h.store.boxes j q hj' hq
            exact ⟨u', c', p', vv', xs', m1, m2.kept hf (by decide) (by decide), m3.later hl⟩
      exact ⟨g.settle i r ht, _, ⟨h.ofStore hst hf (by decide) (by simp) hl.onw, hl, hf.wider (by decide) (by simp), rfl⟩, set_at hr, rfl⟩
    rcases hp with hp | ⟨j, q, hp, hj, hq⟩
    · refine (settleVoter_gen h.store.at_ h.store.vrow i r hr hs hp).mono ?_
      rintro e w' ⟨rfl, r1, r2⟩
      exact ⟨rfl, fin 1 w' (.inl ⟨hp, rfl⟩) r1 r2⟩
    · refine (settleVoter_par h.store.at_ h.store.vrow i r hr hs j q hp hj (by have := h.store.plain.recs.le hj; omega)).mono ?_
      rintro e w' ⟨rfl, r1, r2⟩
      exact ⟨rfl, fin (q.height + 1) w' (.inr ⟨j, q, hp, hj, hq, rfl⟩) r1 r2⟩
end
end Go.Proofs.YbulkkeiFmt
