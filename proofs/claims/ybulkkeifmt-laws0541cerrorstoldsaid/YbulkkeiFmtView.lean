/-
  THE VIEW's INVARIANT.
-/
import Derived.Test.YbulkkeiFmtPush
import Derived.Test.YbulkkeiFmtChain
import Derived.Test.YbulkkeiFmtLater
namespace Go.Proofs.YbulkkeiFmt
open Go.RowKit Go.Extern.Stop Go.Stop Go.Extern

/-- Later records, more of them perhaps. -/
structure Onw (g g' : SG) : Prop where
  len : g.l.length ≤ g'.l.length
  rcd : ∀ (i : Nat) (r : VR), g.l[i]? = some r → ∃ r', g'.l[i]? = some r' ∧ (r.par ≠ -2 → r'.par = r.par) ∧ (r.settled = true → r' = r)
theorem Later.onw {g g' : SG} (h : Later g g') : Onw g g' := ⟨Nat.le_of_eq h.len.symm, fun i r hi => by
  obtain ⟨r', a1, _, _, a4, a5⟩ := h.rcd i r hi
  exact ⟨r', a1, a4, a5⟩⟩
theorem Onw.refl (g : SG) : Onw g g := (Later.refl g).onw
theorem RdOk.onw {g g' : SG} {i : Nat} (h : RdOk g i) (hl : Onw g g') : RdOk g' i := by
  obtain ⟨r, h1, h2⟩ := h
  obtain ⟨r', a1, a4, a5⟩ := hl.rcd i r h1
  refine ⟨r', a1, ?_⟩
  rcases h2 with h2 | ⟨j, q, h2, h3, h4⟩
  · exact .inl (by rw [a4 (by omega)]; exact h2)
  · obtain ⟨q', b1, b4, b5⟩ := hl.rcd j q h3
    exact .inr ⟨j, q', by rw [a4 (by omega)]; exact h2, b1, by rw [b5 h4]; exact h4⟩
theorem HeldΦ.more {n n' j : Nat} {u : Value} (h : HeldΦ n j u) (hn : n ≤ n') : HeldΦ n' j u := ⟨h.1, fun hj => by
  obtain ⟨a, h1, h2⟩ := h.2.1 hj
  exact ⟨a, h1, by omega⟩, h.2.2⟩

/-- What of the view turns. -/
structure VG where
  st : Value
  ch : Value
  ss : List Int
  cl : List (Int × Nat)
  re : Int
  wo : Value
  rd : Value
  ea : List (ByteArray × Value)
  nr : Nat

/-- A block that is ready, by its place in the triple. -/
def RdΦ (g : SG) (j : Nat) (u : Value) : Prop := HeldΦ g.l.length j u ∧ (j = 1 → ∀ a : Nat, u = .int .i32 a → RdOk g a)
/-- The ready blocks' own block is nobody's else. -/
def Nr (N : Nat → Prop) (rd : Value) (k : Nat) : Prop := N k ∨ rd.ownBlock = some k

/-- Where a chain's main chain may stand. -/
def TipOk (g : SG) (p : Int × Nat) : Prop := p = (-1, 0) ∨ ∃ (i : Nat) (r : VR), p = ((i : Int), r.height) ∧ g.l[i]? = some r ∧ r.settled = true
theorem TipOk.onw {g g' : SG} (h : Onw g g') {p : Int × Nat} (hp : TipOk g p) : TipOk g' p := by
  rcases hp with hp | ⟨i, r, h1, h2, h3⟩
  · exact .inl hp
  · obtain ⟨r', a1, _, a5⟩ := h.rcd i r h2
    have := a5 h3
    subst this
    exact .inr ⟨i, r', h1, a1, h3⟩
/-- Where the blocks stand. -/
structure StOk (g : SG) (ss : List Int) : Prop where
  len : ss.length ≤ g.l.length
  two : ∀ (i : Nat) (s : Int), ss[i]? = some s → s = 1 ∨ s = 2
  acc : ∀ (i : Nat), ss[i]? = some 2 → ∃ r, g.l[i]? = some r ∧ r.settled = true
theorem StOk.onw {g g' : SG} (h : Onw g g') {ss : List Int} (hs : StOk g ss) : StOk g' ss := by
  refine ⟨Nat.le_trans hs.len h.len, hs.two, fun i hi => ?_⟩
  obtain ⟨r, h1, h2⟩ := hs.acc i hi
  obtain ⟨r', a1, _, a5⟩ := h.rcd i r h1
  have := a5 h2
  subst this
  exact ⟨r', a1, h2⟩

/-- The constant things of a view. -/
structure VA where
  K : VK
  v : Nat
  ma : Nat

structure ViewOk (V : VA) (A : SA) (N : Nat → Prop) (w : World) (g : SG) (x : VG) : Prop where
  at_ : ViewAt V.K w V.v A.s x.st x.ch x.re V.ma x.wo x.rd
  srow : Row N w 47 1 x.st x.ss.length (u8s x.ss)
  crow : Row N w 143 2 x.ch x.cl.length (chs x.cl)
  map : MapAt Value.string w V.ma x.ea
  wrow : ∃ n xs, Row (Nr N x.rd) w 111 3 x.wo n xs
  rows : AllRows (Nr N x.rd) w x.ea
  ready : ReadyAt N w x.rd x.nr (RdΦ g)
  typed : Typed N w 111 3 (HeldΦ g.l.length)
  sts : StOk g x.ss
  tips : ∀ p ∈ x.cl, TipOk g p
  clen : x.cl.length ≤ 4
  mine : ¬ N V.v
  mapm : ¬ N V.ma

theorem RdΦ.onw {g g' : SG} (h : Onw g g') {j : Nat} {u : Value} (hp : RdΦ g j u) : RdΦ g' j u :=
  ⟨hp.1.more h.len, fun hj a ha => (hp.2 hj a ha).onw h⟩
theorem RRow.imp {N : Nat → Prop} {w : World} {g n cap : Nat} {Φ Φ' : Nat → Value → Prop} {cur : Array Value} (h : RRow N w g n cap Φ cur) (hi : ∀ j u, Φ j u → Φ' j u) : RRow N w g n cap Φ' cur :=
  ⟨h.mine, h.block, h.le, h.max, h.size, fun j u hj hu => hi _ _ (h.ok j u hj hu)⟩
theorem ReadyAt.imp {N : Nat → Prop} {w : World} {rd : Value} {n : Nat} {Φ Φ' : Nat → Value → Prop} (h : ReadyAt N w rd n Φ) (hi : ∀ j u, Φ j u → Φ' j u) : ReadyAt N w rd n Φ' := by
  rcases h with h | ⟨g, cap, cur, h1, h2⟩
  · exact .inl h
  · exact .inr ⟨g, cap, cur, h1, h2.imp hi⟩
theorem ReadyAt.same {N : Nat → Prop} {w w' : World} {rd : Value} {n : Nat} {Φ : Nat → Value → Prop} (h : ReadyAt N w rd n Φ) (hs : ∀ k, rd.ownBlock = some k → w'.heap[k]? = w.heap[k]?) : ReadyAt N w' rd n Φ := by
  rcases h with h | ⟨g, cap, cur, h1, h2⟩
  · exact .inl h
  · subst h1
    exact .inr ⟨g, cap, cur, rfl, h2.mine, (hs g rfl).trans h2.block, h2.le, h2.max, h2.size, h2.ok⟩
theorem ReadyAt.lt {N : Nat → Prop} {w : World} {rd : Value} {n : Nat} {Φ : Nat → Value → Prop} (h : ReadyAt N w rd n Φ) : ∀ k, rd.ownBlock = some k → k < w.heap.size ∧ ¬ N k ∧ ∃ c, w.heap[k]? = some (.cells c 111 (0, 0)) := by
  intro k hk
  rcases h with ⟨rfl, _⟩ | ⟨g, cap, cur, rfl, h2⟩
  · simp [Value.ownBlock] at hk
  · simp [Value.ownBlock] at hk
    subst hk
    exact ⟨(Array.getElem?_eq_some_iff.1 h2.block).1, h2.mine, cur, h2.block⟩
theorem ReadyAt.len {N : Nat → Prop} {w : World} {rd : Value} {n : Nat} {Φ : Nat → Value → Prop} (h : ReadyAt N w rd n Φ) : lenV rd = n := by
  rcases h with ⟨rfl, rfl⟩ | ⟨g, cap, cur, rfl, h2⟩ <;> rfl

/-- A block of waiting blocks. -/
def Is111 (w : World) (k : Nat) : Prop := ∃ c f, w.heap[k]? = some (Obj.cells c 111 f)
def VMine (V : VA) (x : VG) (k : Nat) : Prop := k = V.v ∨ k = V.ma ∨ x.st.ownBlock = some k ∨ x.ch.ownBlock = some k
/-- What is not the view's, behind an operation on the store. -/
def Nx (V : VA) (x : VG) (Nv : Nat → Prop) (w w' : World) (k : Nat) : Prop := k < w'.heap.size ∧ (Nv k ∨ (¬ Is111 w k ∧ ¬ VMine V x k))

theorem Row.keptF {N N0 : Nat → Prop} {W : List TypeId} {M : List Nat} {w w' : World} {e : TypeId} {sz : Nat} {v : Value} {n : Nat} {xs : List Value} (h : Row N w e sz v n xs) (hf : Fr N0 W M w w') (he : e ∉ W) : Row N w' e sz v n xs :=
  ⟨ownsRow_kept h.1 hf he, h.2⟩
theorem Row.at {N : Nat → Prop} {w : World} {e : TypeId} {sz : Nat} {v : Value} {n : Nat} {xs : List Value} (h : Row N w e sz v n xs) {k : Nat} (hk : v.ownBlock = some k) : ∃ c, w.heap[k]? = some (.cells c e (0, 0)) := by
  rcases h.cases with ⟨rfl, _, _⟩ | ⟨g, cap, cur, rfl, _, hb, _⟩
  · simp [Value.ownBlock] at hk
  · simp [Value.ownBlock] at hk
    subst hk
    exact ⟨cur, hb⟩
theorem Row.other {N N' : Nat → Prop} {w : World} {e : TypeId} {sz : Nat} {v : Value} {n : Nat} {xs : List Value} (h : Row N w e sz v n xs) (hN : ∀ k, v.ownBlock = some k → ¬ N' k) : Row N' w e sz v n xs := ⟨h.1, hN⟩

/-- The view is as it was, behind an operation on the store; the store's records are later ones. -/
theorem ViewOk.pass {V : VA} {A : SA} {N Nv : Nat → Prop} {w w' : World} {g g' : SG} {x : VG} (h : ViewOk V A Nv w g x) {W : List TypeId} {M : List Nat} (hf : Fr N W M w w') (hW : ∀ e ∈ W, e ∉ [70, 47, 143, 111]) (hM : V.ma ∉ M) (hl : Onw g g') : ViewOk V A (Nx V x Nv w w') w' g' x := by
  have k : ∀ e, e ∈ [70, 47, 143, 111] → e ∉ W := fun e he hh => hW e hh he
  have hs : ∀ j, x.rd.ownBlock = some j → w'.heap[j]? = w.heap[j]? := fun j hj => by
    obtain ⟨_, _, c, h3⟩ := h.ready.lt j hj
    rw [h3]
    exact hf.keepC _ _ _ _ h3 (k _ (by simp))
  have n1 : ∀ k, Is111 w k → ¬ Nv k → ¬ Nx V x Nv w w' k := fun k h1 h2 h3 => h3.2.elim h2 (fun h4 => h4.1 h1)
  have n2 : ∀ k, VMine V x k → ¬ Nv k → ¬ Nx V x Nv w w' k := fun k h1 h2 h3 => h3.2.elim h2 (fun h4 => h4.2 h1)
  have n3 : ∀ {v : Value} {n : Nat} {xs : List Value}, Row (Nr Nv x.rd) w 111 3 v n xs → Row (Nr (Nx V x Nv w w') x.rd) w 111 3 v n xs := fun {v n xs} hr => hr.other fun j hj hn => by
    obtain ⟨c, hc⟩ := hr.at hj
    have h0 := hr.2 j hj
    rcases hn with hn | hn
    · exact n1 j ⟨c, _, hc⟩ (fun h1 => h0 (.inl h1)) hn
    · exact h0 (.inr hn)
  obtain ⟨n, xs, hw⟩ := h.wrow
  obtain ⟨ys, hy⟩ := (n3 hw).shape hf
  have hrows : AllRows (Nr (Nx V x Nv w w') x.rd) w x.ea := fun p hp => by
    obtain ⟨n, xs, h1⟩ := h.rows p hp
    exact ⟨n, xs, n3 h1⟩
  have hat : ViewAt V.K w' V.v A.s x.st x.ch x.re V.ma x.wo x.rd := hf.keepC _ _ _ _ h.at_ (k _ (by simp))
  have hsr : Row (Nx V x Nv w w') w' 47 1 x.st x.ss.length (u8s x.ss) := (h.srow.other fun j hj => n2 j (.inr (.inr (.inl hj))) (h.srow.2 j hj)).keptF hf (k _ (by simp))
  have hcr : Row (Nx V x Nv w w') w' 143 2 x.ch x.cl.length (chs x.cl) := (h.crow.other fun j hj => n2 j (.inr (.inr (.inr hj))) (h.crow.2 j hj)).keptF hf (k _ (by simp))
  have hmp := h.map.kept hf hM
  refine ⟨hat, hsr, hcr, hmp, ⟨n, ys, hy⟩, hrows.kept hf, ?_, ?_, h.sts.onw hl, fun p hp => (h.tips p hp).onw hl, h.clen, n2 _ (.inl rfl) h.mine, n2 _ (.inr (.inl rfl)) h.mapm⟩
  · refine (ReadyAt.same ?_ hs).imp (fun _ _ => RdΦ.onw hl)
    rcases h.ready with h1 | ⟨g1, cap, cur, h1, h2⟩
    · exact .inl h1
    · exact .inr ⟨g1, cap, cur, h1, ⟨n1 g1 ⟨cur, _, h2.block⟩ h2.mine, h2.block, h2.le, h2.max, h2.size, h2.ok⟩⟩
  · intro j c f hj hb i u hi
    have hlt : j < w'.heap.size := (Array.getElem?_eq_some_iff.1 hb).1
    have h1 : ¬ Nv j := fun h1 => hj ⟨hlt, .inl h1⟩
    have h2 : Is111 w j := Classical.byContradiction fun h2 => by
      refine hj ⟨hlt, .inr ⟨h2, ?_⟩⟩
      rintro (rfl | rfl | h3 | h3)
      · have := hat
        unfold ViewAt at this
        rw [hb] at this
        cases this
      · obtain ⟨arr, cl, h4, _⟩ := hmp
        rw [hb] at h4
        cases h4
      · obtain ⟨c', h4⟩ := hsr.at h3
        rw [hb] at h4
        cases h4
      · obtain ⟨c', h4⟩ := hcr.at h3
        rw [hb] at h4
        cases h4
    obtain ⟨c', f', h3⟩ := h2
    have h4 := hf.keepC j c' 111 f' h3 (k _ (by simp))
    rw [hb] at h4
    cases h4
    exact (h.typed j c f h1 h3 i u hi).more hl.len

/-- The store is as it was, whoever's frame. -/
theorem StoreOk.keptF {A : SA} {N N0 : Nat → Prop} {w w' : World} {g : SG} (h : StoreOk A N w g) {W : List TypeId} {M : List Nat} (hf : Fr N0 W M w w') (hW : ∀ e ∈ W, e ∉ [83, 103, 122, 3, 42, 9]) (hM : ∀ m ∈ M, m ∉ [A.mi, A.ms, A.mr, A.mu]) : StoreOk A N w' g := by
  have k : ∀ e, e ∈ [83, 103, 122, 3, 42, 9] → e ∉ W := fun e he hh => hW e hh he
  have m : ∀ x, x ∈ [A.mi, A.ms, A.mr, A.mu] → x ∉ M := fun x hx hh => hM x hh hx
  refine ⟨hf.keepC _ _ _ _ h.at_ (k _ (by simp)), h.index.kept hf (m _ (by simp)), h.slots.kept hf (m _ (by simp)), h.refs.kept hf (m _ (by simp)), h.unres.kept hf (m _ (by simp)), h.once, h.onceU, ⟨fun x => (h.rok.row x).keptF hf (k _ (by simp)), h.rok.apart⟩, h.vrow.keptF hf (k _ (by simp)), h.crow.keptF hf (k _ (by simp)), h.sok, ?_, h.plain⟩
  intro i r hi hp
  obtain ⟨u, c, p, vv, xs, h1, h2, h3⟩ := h.boxes i r hi hp
  exact ⟨u, c, p, vv, xs, h1, ⟨hf.keepC _ _ _ _ h2.box (k _ (by simp)), h2.row.keptF hf (k _ (by simp))⟩, h3⟩
end Go.Proofs.YbulkkeiFmt
