/-
  THE STORE (5): what a new block turns in the plain records.
-/
import Derived.Test.YbulkkeiFmtInv
namespace Go.Proofs.YbulkkeiFmt
open Go.RowKit Go.Extern.Stop Go.Stop Go.Extern

/-- What the look at a new block says of the new block's votes. -/
theorem votes_free {kc : ByteArray → Option Int} {R : ByteArray → List RF} {id p : ByteArray} {c : Int} {xs : List ByteArray} (h : admitBad kc R id c (mkRefs id c p xs) = false) : ∀ x ∈ xs, x ≠ gen ∧ x ≠ id ∧ kc x = none := by
  intro x hx
  unfold admitBad at h
  rw [Bool.or_eq_false_iff] at h
  have h2 := List.any_eq_false.1 h.2 ⟨id, x, 3, 0⟩ (by simp [mkRefs, hx])
  unfold refBad at h2
  simp only at h2
  by_cases h3 : x = gen
  · rw [if_pos h3] at h2; simp at h2
  · rw [if_neg h3] at h2
    by_cases h4 : x = id
    · rw [if_pos h4] at h2; simp [unfit] at h2
    · rw [if_neg h4] at h2
      refine ⟨h3, h4, ?_⟩
      cases hk : kc x with
      | none => rfl
      | some d => rw [hk] at h2; simp [unfit] at h2
theorem refs_free {kc : ByteArray → Option Int} {R : ByteArray → List RF} {id : ByteArray} {c : Int} {refs : List RF} (h : admitBad kc R id c refs = false) : ∀ q ∈ R id, q.role ≠ 3 := by
  intro q hq e
  unfold admitBad at h
  rw [Bool.or_eq_false_iff] at h
  have h2 := List.any_eq_false.1 h.1 q hq
  rw [e] at h2
  simp [unfit] at h2

/-- The parent as a number. -/
def ParOk (l : List VR) (p id : ByteArray) (par : Int) : Prop := par = -2 ∨ (p = gen ∧ par = -1) ∨ ∃ (j : Nat) (q : VR), par = j ∧ l[j]? = some q ∧ q.id = p ∧ Less p id

theorem getElem?_snoc {α : Type} {l : List α} {x y : α} {i : Nat} (h : (l ++ [x])[i]? = some y) : l[i]? = some y ∨ (i = l.length ∧ x = y) := by
  rcases Nat.lt_trichotomy i l.length with h1 | h1 | h1
  · rw [List.getElem?_append_left h1] at h; exact .inl h
  · rw [h1] at h; simp at h; exact .inr ⟨h1, h⟩
  · rw [List.getElem?_eq_none (by simp; omega)] at h; cases h
theorem getElem?_old {α : Type} {l : List α} {x y : α} {i : Nat} (h : l[i]? = some y) : (l ++ [x])[i]? = some y := by
  rw [List.getElem?_append_left (List.getElem?_eq_some_iff.1 h).1]; exact h

theorem Recs.add {l : List VR} (h : Recs l) {k : Nat} (hk : k < 4) (slot : Nat) {p : ByteArray} {par : Int} (hp : ParOk l p (nameB k) par) : Recs (l ++ [⟨nameB k, slot, par, false, 0⟩]) where
  ids i r hi := by
    rcases getElem?_snoc hi with h1 | ⟨_, rfl⟩
    · exact h.ids i r h1
    · exact ⟨k, hk, rfl⟩
  par i r hi := by
    rcases getElem?_snoc hi with h1 | ⟨_, rfl⟩
    · rcases h.par i r h1 with h2 | h2 | ⟨j, q, h2, h3, h4⟩
      · exact .inl h2
      · exact .inr (.inl h2)
      · exact .inr (.inr ⟨j, q, h2, getElem?_old h3, h4⟩)
    · rcases hp with h2 | ⟨_, h2⟩ | ⟨j, q, h2, h3, h4, h5⟩
      · exact .inl h2
      · exact .inr (.inl h2)
      · exact .inr (.inr ⟨j, q, h2, getElem?_old h3, by rw [h4]; exact h5⟩)
  set i r hi hs := by
    rcases getElem?_snoc hi with h1 | ⟨_, rfl⟩
    · rcases h.set i r h1 hs with h2 | ⟨j, q, h2, h3, h4⟩
      · exact .inl h2
      · exact .inr ⟨j, q, h2, getElem?_old h3, h4⟩
    · cases hs
  bound i r k' hi hid := by
    rcases getElem?_snoc hi with h1 | ⟨_, rfl⟩
    · exact h.bound i r k' h1 hid
    · exact Nat.zero_le _
  un i r hi hs := by
    rcases getElem?_snoc hi with h1 | ⟨_, rfl⟩
    · exact h.un i r h1 hs
    · rfl

/-- The records with one more. -/
def SG.add (g : SG) (vs co : Value) (id : ByteArray) (slot : Nat) (par : Int) (cs : List Int) (er : List (ByteArray × Value)) (em eu : List (Int × Value)) (refs : List RF) : SG where
  vs := vs
  co := co
  l := g.l ++ [⟨id, slot, par, false, 0⟩]
  cs := cs
  es := put id (.int .i32 g.l.length) g.es
  er := er
  em := em
  eu := eu
  R := fileR (fun k => (get (put id (.int .i32 g.l.length) g.es) k).isSome) (upd g.R id []) refs

theorem Plain.add {g : SG} (h : Plain g) {k : Nat} (hk : k < 4) (hn : get g.es (nameB k) = none) {vs co : Value} {slot : Nat} {p : ByteArray} {par : Int} (hp : ParOk g.l p (nameB k) par) {cs : List Int} (h1 : g.cs.length ≤ cs.length) (h2 : cs.length ≤ g.cs.length + 1) (hsl : slot < cs.length)
    {er : List (ByteArray × Value)} {em eu : List (Int × Value)} {c : Int} {xs : List ByteArray} (hx : xs.length ≤ 256) (heu : ∀ (i : Nat) v, get eu (i : Int) = some v → get g.eu (i : Int) = some v ∨ (i = g.l.length ∧ par = -2)) :
    Plain (g.add vs co (nameB k) slot par cs er em eu (mkRefs (nameB k) c p xs)) where
  recs := h.recs.add hk slot hp
  index x v := by
    show get (put (nameB k) (.int .i32 g.l.length) g.es) x = some v ↔ ∃ (i : Nat) (r : VR), v = .int .i32 i ∧ (g.l ++ [⟨nameB k, slot, par, false, 0⟩])[i]? = some r ∧ r.id = x
    by_cases e : x = nameB k
    · subst e
      rw [get_put_same]
      constructor
      · intro hv
        cases hv
        exact ⟨g.l.length, _, rfl, by simp; rfl, rfl⟩
      · rintro ⟨i, r, rfl, hi, hr⟩
        rcases getElem?_snoc hi with h3 | ⟨rfl, _⟩
        · have := (h.index (nameB k) (.int .i32 i)).2 ⟨i, r, rfl, h3, hr⟩
          rw [hn] at this
          cases this
        · rfl
    · rw [get_put_other _ _ _ e, h.index x v]
      constructor
      · rintro ⟨i, r, rfl, hi, hr⟩
        exact ⟨i, r, rfl, getElem?_old hi, hr⟩
      · rintro ⟨i, r, rfl, hi, hr⟩
        rcases getElem?_snoc hi with h3 | ⟨_, rfl⟩
        · exact ⟨i, r, rfl, h3, hr⟩
        · exact absurd hr (fun h => e h.symm)
  cnt := by
    show (g.l ++ [_]).length = _
    rw [List.length_append, h.cnt]
    exact (known_put g.es hk (.int .i32 g.l.length) hn).symm
  slot i r hi := by
    rcases getElem?_snoc hi with h3 | ⟨_, rfl⟩
    · exact Nat.lt_of_lt_of_le (h.slot i r h3) h1
    · exact hsl
  cslen := by
    show cs.length ≤ (g.l ++ [_]).length
    have := h.cslen
    simp
    omega
  roles := by
    refine fileR_roles _ _ _ (mkRefs_roles _ _ _ _) ?_
    intro x r hr
    unfold upd at hr
    split at hr
    · simp at hr
    · exact h.roles x r hr
  rlen x := by
    show (fileR _ _ _ x).length ≤ 300 * (g.l ++ [_]).length
    have h3 := fileR_len (fun k' => (get (put (nameB k) (.int .i32 g.l.length) g.es) k').isSome) (mkRefs (nameB k) c p xs) (upd g.R (nameB k) []) x
    have h4 : (upd g.R (nameB k) [] x).length ≤ 300 * g.l.length := by
      unfold upd
      split
      · simp
      · exact h.rlen x
    rw [mkRefs_len] at h3
    simp
    omega
  eu i v hv := by
    rcases heu i v hv with h3 | ⟨rfl, h3⟩
    · obtain ⟨r, h4, h5⟩ := h.eu i v h3
      exact ⟨r, getElem?_old h4, h5⟩
    · exact ⟨_, by show (g.l ++ [_])[g.l.length]? = _; simp; rfl, h3⟩

theorem UnOk.add {g : SG} {k : Nat} {vs co : Value} {slot : Nat} {p : ByteArray} {par : Int} {cs : List Int} {er : List (ByteArray × Value)} {em eu : List (Int × Value)} {c : Int} {xs : List ByteArray} (hbad : admitBad (kcOf g) g.R (nameB k) c (mkRefs (nameB k) c p xs) = false)
    {id' p' : ByteArray} {ys : List ByteArray} (hu : UnOk g id' p' ys) : UnOk (g.add vs co (nameB k) slot par cs er em eu (mkRefs (nameB k) c p xs)) id' p' ys where
  par := hu.par
  len := hu.len
  votes x hx := by
    obtain ⟨h1, h2, q, h3, h4⟩ := hu.votes x hx
    have hne : x ≠ nameB k := by
      intro e
      subst e
      exact refs_free hbad q h3 h4
    refine ⟨h1, by show get (put (nameB k) _ g.es) x = none; rw [get_put_other _ _ _ hne]; exact h2, q, ?_, h4⟩
    refine fileR_mono _ _ _ x q ?_
    unfold upd
    rw [if_neg hne]
    exact h3
theorem UnOk.new {g : SG} (h : Plain g) {k : Nat} {vs co : Value} {slot : Nat} {p : ByteArray} {par : Int} {cs : List Int} {er : List (ByteArray × Value)} {em eu : List (Int × Value)} {c : Int} {xs : List ByteArray} (hbad : admitBad (kcOf g) g.R (nameB k) c (mkRefs (nameB k) c p xs) = false) (hp : p = gen ∨ Less p (nameB k)) (hx : xs.length ≤ 256) :
    UnOk (g.add vs co (nameB k) slot par cs er em eu (mkRefs (nameB k) c p xs)) (nameB k) p xs where
  par := hp
  len := hx
  votes x hx := by
    obtain ⟨h1, h2, h3⟩ := votes_free hbad x hx
    have h4 : get g.es x = none := by
      rcases h.knows x with ⟨h4, _⟩ | ⟨_, _, _, _, _, _, h4⟩
      · exact h4
      · rw [h3] at h4; cases h4
    have h5 : get (put (nameB k) (.int .i32 g.l.length) g.es) x = none := by rw [get_put_other _ _ _ h2]; exact h4
    refine ⟨h1, h5, ⟨nameB k, x, 3, 0⟩, ?_, rfl⟩
    refine fileR_mem _ _ _ ⟨nameB k, x, 3, 0⟩ (by simp [mkRefs, hx]) ?_ h1
    show (get (put (nameB k) (.int .i32 g.l.length) g.es) x).isSome = false
    rw [h5]
    rfl
end Go.Proofs.YbulkkeiFmt
