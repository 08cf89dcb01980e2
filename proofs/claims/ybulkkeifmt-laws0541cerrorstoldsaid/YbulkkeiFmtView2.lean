/-
  THE VIEW's INVARIANT behind its own operations.
-/
import Derived.Test.YbulkkeiFmtView
import Derived.Test.YbulkkeiFmtPop
namespace Go.Proofs.YbulkkeiFmt
open Go.RowKit Go.Extern.Stop Go.Stop Go.Extern

section
variable {V : VA} {A : SA} {Nv : Nat → Prop} {w w' : World} {g : SG} {x : VG}

theorem Nr.lt (hN : ∀ k, Nv k → k < w.heap.size) (h : ViewOk V A Nv w g x) : ∀ k, Nr Nv x.rd k → k < w.heap.size := by
  rintro k (hk | hk)
  · exact hN k hk
  · exact (h.ready.lt k hk).1
theorem ViewOk.mineR (h : ViewOk V A Nv w g x) : ¬ Nr Nv x.rd V.v := by
  rintro (hk | hk)
  · exact h.mine hk
  · obtain ⟨_, _, c, h3⟩ := h.ready.lt _ hk
    have := h.at_
    unfold ViewAt at this
    rw [h3] at this
    cases this
theorem ViewOk.mapR (h : ViewOk V A Nv w g x) : ¬ Nr Nv x.rd V.ma := by
  rintro (hk | hk)
  · exact h.mapm hk
  · obtain ⟨_, _, c, h3⟩ := h.ready.lt _ hk
    obtain ⟨arr, cl, h4, _⟩ := h.map
    rw [h3] at h4
    cases h4
/-- The ready blocks' own block is not touched: the typed rows. -/
theorem ViewOk.typedR (h : ViewOk V A Nv w g x) (hs : ∀ k, x.rd.ownBlock = some k → w'.heap[k]? = w.heap[k]?) (hT : Typed (Nr Nv x.rd) w' 111 3 (HeldΦ g.l.length)) : Typed Nv w' 111 3 (HeldΦ g.l.length) := by
  intro k c f hk hb j u hj
  by_cases hr : x.rd.ownBlock = some k
  · rw [hs k hr] at hb
    exact h.typed k c f hk hb j u hj
  · exact hT k c f (fun h1 => h1.elim hk hr) hb j u hj
theorem ViewOk.typedN (h : ViewOk V A Nv w g x) : Typed (Nr Nv x.rd) w 111 3 (HeldΦ g.l.length) := fun k c f hk hb => h.typed k c f (fun h1 => hk (.inl h1)) hb

theorem ViewOk.await (h : ViewOk V A Nv w g x) {id : ByteArray} {v' : Value} {n i : Nat} {q : Int} {xs : List Value} (hP : Pushed (Nr Nv x.rd) [111] [V.ma] g.l.length ((get x.ea id).getD (.slice none 0 0)) n xs i q w v' w') (hM : MapAt Value.string w' V.ma (put id v' x.ea)) :
    ViewOk V A Nv w' g { x with ea := put id v' x.ea } := by
  have hs : ∀ k, x.rd.ownBlock = some k → w'.heap[k]? = w.heap[k]? := fun k hk => hP.fr.old k (h.ready.lt k hk).1 (.inr hk)
  obtain ⟨m, ys, hw⟩ := h.wrow
  obtain ⟨zs, hz⟩ := hw.shape hP.fr
  refine ⟨hP.fr.keepC _ _ _ _ h.at_ (by decide), h.srow.keptF hP.fr (by decide), h.crow.keptF hP.fr (by decide), hM, ⟨m, zs, hz⟩, ?_, h.ready.same hs, h.typedR hs hP.typed, h.sts, h.tips, h.clen, h.mine, h.mapm⟩
  intro p hp
  rcases mem_put hp with h1 | h1
  · exact h.rows.kept hP.fr p h1
  · rw [h1]
    exact ⟨_, _, hP.row⟩

theorem ViewOk.push (h : ViewOk V A Nv w g x) {rd' : Value} (hP : PushedR Nv V.v (viewC V.K A.s x.st x.ch x.re V.ma x.wo x.rd) (RdΦ g) g.l.length x.nr x.rd w rd' w') : ViewOk V A Nv w' g { x with rd := rd', nr := x.nr + 1 } := by
  have key : ∀ {v : Value} {n : Nat} {xs : List Value}, Row (Nr Nv x.rd) w 111 3 v n xs → ∃ ys, Row (Nr Nv rd') w' 111 3 v n ys := by
    intro v n xs hr
    obtain ⟨ys, hy⟩ := hr.shape hP.fr
    refine ⟨ys, hy.other fun b hb hn => ?_⟩
    have h0 := hr.2 b hb
    rcases hn with hn | hn
    · exact h0 (.inl hn)
    · rcases hP.own b hn with h1 | h1
      · exact h0 (.inr h1)
      · have := hr.lt b hb
        omega
  obtain ⟨m, ys, hw⟩ := h.wrow
  obtain ⟨zs, hz⟩ := key hw
  refine ⟨hP.view, h.srow.keptF hP.fr (by decide), h.crow.keptF hP.fr (by decide), h.map.kept hP.fr (by simp), ⟨m, zs, hz⟩, ?_, hP.ready, hP.typed, h.sts, h.tips, h.clen, h.mine, h.mapm⟩
  intro p hp
  obtain ⟨n, xs, h1⟩ := h.rows p hp
  obtain ⟨ys, h2⟩ := key h1
  exact ⟨n, ys, h2⟩

theorem ViewOk.pop (h : ViewOk V A Nv w g x) {g0 cap : Nat} (hrd : x.rd = .slice (some ⟨g0, 0, none⟩) x.nr cap) (h0 : 0 < x.nr) (hP : PopMid Nv V.v ((viewC V.K A.s x.st x.ch x.re V.ma x.wo x.rd).setIfInBounds 13 (.slice (some ⟨g0, 0, none⟩) (x.nr - 1) cap)) (RdΦ g) g.l.length x.nr w g0 cap w') :
    ViewOk V A Nv w' g { x with rd := .slice (some ⟨g0, 0, none⟩) (x.nr - 1) cap, nr := x.nr - 1 } := by
  have key : ∀ {v : Value} {n : Nat} {xs : List Value}, Row (Nr Nv x.rd) w 111 3 v n xs → ∃ ys, Row (Nr Nv (.slice (some ⟨g0, 0, none⟩) (x.nr - 1) cap)) w' 111 3 v n ys := by
    intro v n xs hr
    obtain ⟨ys, hy⟩ := hr.shape hP.fr
    refine ⟨ys, hy.other fun b hb hn => ?_⟩
    have h0 := hr.2 b hb
    rcases hn with hn | hn
    · exact h0 (.inl hn)
    · exact h0 (.inr (by rw [hrd]; exact hn))
  obtain ⟨m, ys, hw⟩ := h.wrow
  obtain ⟨zs, hz⟩ := key hw
  refine ⟨hP.view, h.srow.keptF hP.fr (by decide), h.crow.keptF hP.fr (by decide), h.map.kept hP.fr (by simp), ⟨m, zs, hz⟩, ?_, ?_, hP.typed, h.sts, h.tips, h.clen, h.mine, h.mapm⟩
  · intro p hp
    obtain ⟨n, xs, h1⟩ := h.rows p hp
    obtain ⟨ys, h2⟩ := key h1
    exact ⟨n, ys, h2⟩
  · obtain ⟨cur, hc⟩ := hP.cur
    refine .inr ⟨g0, cap, cur, rfl, hc.mine, hc.block, ?_, hc.max, hc.size, fun j u hj hu => hc.ok j u (by simp only at hj; omega) hu⟩
    have := hc.le
    simp only
    omega

theorem ViewOk.wake (h : ViewOk V A Nv w g x) {wo' : Value} {ea' : List (ByteArray × Value)} (hP : Woke (Nr Nv x.rd) V.K V.v A.s x.st x.ch x.re V.ma x.wo x.rd x.ea g.l.length w wo' ea' w') : ViewOk V A Nv w' g { x with wo := wo', ea := ea' } := by
  have hs : ∀ k, x.rd.ownBlock = some k → w'.heap[k]? = w.heap[k]? := fun k hk => hP.fr.old k (h.ready.lt k hk).1 (.inr hk)
  exact ⟨hP.view, h.srow.keptF hP.fr (by decide), h.crow.keptF hP.fr (by decide), hP.map, hP.row, hP.rows, h.ready.same hs, h.typedR hs hP.typed, h.sts, h.tips, h.clen, h.mine, h.mapm⟩
end

/-- A view over its store; L: the blocks of those who call. -/
structure Both (V : VA) (A : SA) (L : Nat → Prop) (w : World) (g : SG) (x : VG) : Prop where
  store : StoreOk A L w g
  sa : A.Ok L
  low : ∀ k, L k → k < w.heap.size
  view : ∃ Nv : Nat → Prop, (∀ k, L k → Nv k) ∧ (∀ k, Nv k → k < w.heap.size) ∧ ViewOk V A Nv w g x
  ma : V.ma ∉ [A.mi, A.ms, A.mr, A.mu]
def WW : List TypeId := [83, 3, 122, 103, 70, 111, 47, 143]
def MM (V : VA) (A : SA) : List Nat := [A.mi, A.ms, A.mr, A.mu, V.ma]

section
variable {V : VA} {A : SA} {L : Nat → Prop} {w w' : World} {g g' : SG} {x x' : VG}
/-- Behind an operation on the store. -/
theorem Both.ofStore (h : Both V A L w g x) {W : List TypeId} {M : List Nat} (hs : StoreOk A L w' g') (hf : Fr L W M w w') (hW : ∀ e ∈ W, e ∉ [70, 47, 143, 111]) (hM : V.ma ∉ M) (ho : Onw g g') : Both V A L w' g' x := by
  obtain ⟨Nv, h1, h2, h3⟩ := h.view
  exact ⟨hs, h.sa, fun k hk => Nat.lt_of_lt_of_le (h.low k hk) hf.size, ⟨Nx V x Nv w w', fun k hk => ⟨Nat.lt_of_lt_of_le (h.low k hk) hf.size, .inl (h1 k hk)⟩, fun k hk => hk.1, h3.pass hf hW hM ho⟩, h.ma⟩
/-- Behind an operation on the view. -/
theorem Both.ofView (h : Both V A L w g x) {Nv N' : Nat → Prop} (h1 : ∀ k, L k → Nv k) (hN : ∀ k, Nv k → k < w.heap.size) (hv : ViewOk V A Nv w' g x') {W : List TypeId} {M : List Nat} (hf : Fr N' W M w w') (hW : ∀ e ∈ W, e ∉ [83, 103, 122, 3, 42, 9]) (hM : ∀ m ∈ M, m = V.ma) : Both V A L w' g x' :=
  ⟨h.store.keptF hf hW (fun m hm => by rw [hM m hm]; exact h.ma), h.sa, fun k hk => Nat.lt_of_lt_of_le (h.low k hk) hf.size, ⟨Nv, h1, fun k hk => Nat.lt_of_lt_of_le (hN k hk) hf.size, hv⟩, h.ma⟩
end
end Go.Proofs.YbulkkeiFmt
