/-
  THE STORE (8): how the records turn while a view moves its blocks on.
-/
import Derived.Test.YbulkkeiFmtAdd
import Derived.Test.YbulkkeiFmtOnce
namespace Go.Proofs.YbulkkeiFmt
open Go.RowKit Go.Extern.Stop Go.Stop Go.Extern

structure Later (g g' : SG) : Prop where
  es : g'.es = g.es
  cs : g'.cs = g.cs
  R : g'.R = g.R
  len : g'.l.length = g.l.length
  rcd : ∀ (i : Nat) (r : VR), g.l[i]? = some r → ∃ r', g'.l[i]? = some r' ∧ r'.id = r.id ∧ r'.slot = r.slot ∧ (r.par ≠ -2 → r'.par = r.par) ∧ (r.settled = true → r' = r)
theorem Later.refl (g : SG) : Later g g := ⟨rfl, rfl, rfl, rfl, fun _ r h => ⟨r, h, rfl, rfl, fun _ => rfl, fun _ => rfl⟩⟩
theorem Later.trans {a b c : SG} (h1 : Later a b) (h2 : Later b c) : Later a c := by
  refine ⟨h2.es.trans h1.es, h2.cs.trans h1.cs, h2.R.trans h1.R, h2.len.trans h1.len, fun i r hi => ?_⟩
  obtain ⟨r1, a1, a2, a3, a4, a5⟩ := h1.rcd i r hi
  obtain ⟨r2, b1, b2, b3, b4, b5⟩ := h2.rcd i r1 a1
  refine ⟨r2, b1, b2.trans a2, b3.trans a3, fun hp => ?_, fun hs => ?_⟩
  · rw [b4 (by rw [a4 hp]; exact hp), a4 hp]
  · have h3 := a5 hs
    subst h3
    exact b5 hs
theorem Later.kc {g g' : SG} (h : Later g g') (hp : Plain g) : kcOf g' = kcOf g := by
  funext k
  unfold kcOf
  rw [h.es, h.cs]
  cases hk : get g.es k with
  | none => rfl
  | some v =>
    obtain ⟨i, r, rfl, h1, h2⟩ := (hp.index k v).1 hk
    obtain ⟨r', a1, _, a3, _⟩ := h.rcd i r h1
    simp [h1, a1, a3]

/-- What a block needs so that it may be accepted. -/
def RdOk (g : SG) (i : Nat) : Prop := ∃ r, g.l[i]? = some r ∧ (r.par = -1 ∨ ∃ (j : Nat) (q : VR), r.par = j ∧ g.l[j]? = some q ∧ q.settled = true)
theorem RdOk.later {g g' : SG} {i : Nat} (h : RdOk g i) (hl : Later g g') : RdOk g' i := by
  obtain ⟨r, h1, h2⟩ := h
  obtain ⟨r', a1, a2, a3, a4, a5⟩ := hl.rcd i r h1
  refine ⟨r', a1, ?_⟩
  rcases h2 with h2 | ⟨j, q, h2, h3, h4⟩
  · exact .inl (by rw [a4 (by omega)]; exact h2)
  · obtain ⟨q', b1, b2, b3, b4, b5⟩ := hl.rcd j q h3
    exact .inr ⟨j, q', by rw [a4 (by omega)]; exact h2, b1, by rw [b5 h4]; exact h4⟩

theorem get_set {α : Type} {l : List α} {i k : Nat} {x y : α} (h : (l.set i x)[k]? = some y) : (k = i ∧ y = x) ∨ (k ≠ i ∧ l[k]? = some y) := by
  rw [List.getElem?_set] at h
  split at h
  · rename_i e
    split at h
    · exact .inl ⟨e.symm, (Option.some.inj h).symm⟩
    · cases h
  · rename_i e
    exact .inr ⟨Ne.symm e, h⟩
theorem set_at {α : Type} {l : List α} {i : Nat} {x y : α} (h : l[i]? = some y) : (l.set i x)[i]? = some x := by
  have := (List.getElem?_eq_some_iff.1 h).1
  simp [this]
theorem set_off {α : Type} {l : List α} {i k : Nat} {x : α} (h : k ≠ i) : (l.set i x)[k]? = l[k]? := by
  rw [List.getElem?_set, if_neg (Ne.symm h)]

def SG.resolve (g : SG) (i : Nat) (r : VR) (par : Int) : SG := { g with l := g.l.set i { r with par := par }, eu := del (i : Int) g.eu }
def SG.settle (g : SG) (i : Nat) (r : VR) (h : Nat) : SG := { g with l := g.l.set i { r with settled := true, height := h } }

theorem Recs.unsettled {l : List VR} (h : Recs l) {i : Nat} {r : VR} (hi : l[i]? = some r) (hp : r.par = -2) : r.settled = false := by
  cases hs : r.settled with
  | false => rfl
  | true =>
    rcases h.set i r hi hs with h1 | ⟨j, q, h1, _⟩
    · rw [hp] at h1; exact absurd h1.1 (by decide)
    · rw [hp] at h1; omega

theorem Later.resolve {g : SG} (hp : Plain g) {i : Nat} {r : VR} (hi : g.l[i]? = some r) (h2 : r.par = -2) (par : Int) : Later g (g.resolve i r par) := by
  have hun := hp.recs.unsettled hi h2
  refine ⟨rfl, rfl, rfl, by simp [SG.resolve], fun k q hk => ?_⟩
  by_cases e : k = i
  · subst e
    rw [hi] at hk
    cases hk
    exact ⟨_, set_at hi, rfl, rfl, fun h => absurd h2 h, fun h => by rw [hun] at h; cases h⟩
  · exact ⟨q, (set_off e).trans hk, rfl, rfl, fun _ => rfl, fun _ => rfl⟩
theorem Plain.resolve {g : SG} (hp : Plain g) (ho : OnceI g.eu) {i : Nat} {r : VR} (hi : g.l[i]? = some r) (h2 : r.par = -2) {p : ByteArray} {par : Int} (hpar : ParOk g.l p r.id par) (hne : par ≠ -2) : Plain (g.resolve i r par) := by
  have hun := hp.recs.unsettled hi h2
  have hL := Later.resolve hp hi h2 par
  have hq : ∀ (j : Nat) (q : VR), g.l[j]? = some q → ∃ q', (g.l.set i { r with par := par })[j]? = some q' ∧ q'.id = q.id ∧ (q.settled = true → q' = q) := by
    intro j q hj
    obtain ⟨q', a1, a2, _, _, a5⟩ := hL.rcd j q hj
    exact ⟨q', a1, a2, a5⟩
  refine ⟨⟨?_, ?_, ?_, ?_, ?_⟩, ?_, ?_, ?_, ?_, hp.roles, ?_, ?_⟩
  · intro k q hk
    rcases get_set hk with ⟨rfl, rfl⟩ | ⟨_, h⟩
    · exact hp.recs.ids k r hi
    · exact hp.recs.ids k q h
  · intro k q hk
    rcases get_set hk with ⟨rfl, rfl⟩ | ⟨_, h⟩
    · rcases hpar with h | ⟨_, h⟩ | ⟨j, q, h, h3, h4, h5⟩
      · exact absurd h hne
      · exact .inr (.inl h)
      · obtain ⟨q', a1, a2, _⟩ := hq j q h3
        exact .inr (.inr ⟨j, q', h, a1, by rw [a2, h4]; exact h5⟩)
    · rcases hp.recs.par k q h with h3 | h3 | ⟨j, q2, h3, h4, h5⟩
      · exact .inl h3
      · exact .inr (.inl h3)
      · obtain ⟨q', a1, a2, _⟩ := hq j q2 h4
        exact .inr (.inr ⟨j, q', h3, a1, by rw [a2]; exact h5⟩)
  · intro k q hk hs
    rcases get_set hk with ⟨rfl, rfl⟩ | ⟨_, h⟩
    · rw [show ({ r with par := par } : VR).settled = r.settled from rfl, hun] at hs
      cases hs
    · rcases hp.recs.set k q h hs with h3 | ⟨j, q2, h3, h4, h5, h6⟩
      · exact .inl h3
      · obtain ⟨q', a1, _, a3⟩ := hq j q2 h4
        have := a3 h5
        subst this
        exact .inr ⟨j, q', h3, a1, h5, h6⟩
  · intro k q n hk hid
    rcases get_set hk with ⟨rfl, rfl⟩ | ⟨_, h⟩
    · exact hp.recs.bound k r n hi hid
    · exact hp.recs.bound k q n h hid
  · intro k q hk hs
    rcases get_set hk with ⟨rfl, rfl⟩ | ⟨_, h⟩
    · exact hp.recs.un k r hi hun
    · exact hp.recs.un k q h hs
  · intro x v
    show get g.es x = some v ↔ _
    rw [hp.index x v]
    constructor
    · rintro ⟨j, q, rfl, h3, h4⟩
      obtain ⟨q', a1, a2, _⟩ := hq j q h3
      exact ⟨j, q', rfl, a1, by rw [a2]; exact h4⟩
    · rintro ⟨j, q, rfl, h3, h4⟩
      rcases get_set h3 with ⟨rfl, rfl⟩ | ⟨_, h⟩
      · exact ⟨j, r, rfl, hi, h4⟩
      · exact ⟨j, q, rfl, h, h4⟩
  · show (g.l.set i _).length = _
    rw [List.length_set]
    exact hp.cnt
  · intro k q hk
    rcases get_set hk with ⟨rfl, rfl⟩ | ⟨_, h⟩
    · exact hp.slot k r hi
    · exact hp.slot k q h
  · show g.cs.length ≤ (g.l.set i _).length
    rw [List.length_set]
    exact hp.cslen
  · intro k
    show (g.R k).length ≤ 300 * (g.l.set i _).length
    rw [List.length_set]
    exact hp.rlen k
  · intro k v hv
    have hv' : get (del (i : Int) g.eu) (k : Int) = some v := hv
    have hki : k ≠ i := by
      intro e
      subst e
      rw [(ho.del _).1] at hv'
      cases hv'
    rw [get_del_other _ _ (by omega)] at hv'
    obtain ⟨q, h3, h4⟩ := hp.eu k v hv'
    exact ⟨q, (set_off hki).trans h3, h4⟩

theorem Later.settle {g : SG} {i : Nat} {r : VR} (hi : g.l[i]? = some r) (hs : r.settled = false) (h : Nat) : Later g (g.settle i r h) := by
  refine ⟨rfl, rfl, rfl, by simp [SG.settle], fun k q hk => ?_⟩
  by_cases e : k = i
  · subst e
    rw [hi] at hk
    cases hk
    exact ⟨_, set_at hi, rfl, rfl, fun _ => rfl, fun h => by rw [hs] at h; cases h⟩
  · exact ⟨q, (set_off e).trans hk, rfl, rfl, fun _ => rfl, fun _ => rfl⟩
/-- The height that a block gets. -/
def HtOk (g : SG) (r : VR) (h : Nat) : Prop := (r.par = -1 ∧ h = 1) ∨ ∃ (j : Nat) (q : VR), r.par = j ∧ g.l[j]? = some q ∧ q.settled = true ∧ h = q.height + 1
theorem Plain.settle {g : SG} (hp : Plain g) {i : Nat} {r : VR} (hi : g.l[i]? = some r) (hs : r.settled = false) {h : Nat} (hh : HtOk g r h) : Plain (g.settle i r h) ∧ h ≤ 4 := by
  have hL := Later.settle hi hs h
  have hq : ∀ (j : Nat) (q : VR), g.l[j]? = some q → ∃ q', (g.l.set i { r with settled := true, height := h })[j]? = some q' ∧ q'.id = q.id ∧ (q.settled = true → q' = q) := by
    intro j q hj
    obtain ⟨q', a1, a2, _, _, a5⟩ := hL.rcd j q hj
    exact ⟨q', a1, a2, a5⟩
  have hbd : ∀ n, r.id = nameB n → n < 4 → h ≤ n + 1 := by
    intro n hn hn4
    rcases hh with ⟨_, h1⟩ | ⟨j, q, h1, h3, h4, h5⟩
    · omega
    · rcases hp.recs.par i r hi with h6 | h6 | ⟨j', q', h6, h7, h8⟩
      · omega
      · omega
      · have : j' = j := by omega
        subst this
        rw [h3] at h7
        cases h7
        obtain ⟨a, b, h9, h10, h11, h12⟩ := h8
        have hb : b = n := nameB_inj h12 hn4 (h10.symm.trans hn)
        have := hp.recs.bound j' q a h3 h9
        omega
  obtain ⟨n, hn4, hn⟩ := hp.recs.ids i r hi
  refine ⟨⟨⟨?_, ?_, ?_, ?_, ?_⟩, ?_, ?_, ?_, ?_, hp.roles, ?_, ?_⟩, by have := hbd n hn hn4; omega⟩
  · intro k q hk
    rcases get_set hk with ⟨rfl, rfl⟩ | ⟨_, h⟩
    · exact hp.recs.ids k r hi
    · exact hp.recs.ids k q h
  · intro k q hk
    rcases get_set hk with ⟨rfl, rfl⟩ | ⟨_, h'⟩
    · rcases hp.recs.par k r hi with h3 | h3 | ⟨j, q2, h3, h4, h5⟩
      · exact .inl h3
      · exact .inr (.inl h3)
      · obtain ⟨q', a1, a2, _⟩ := hq j q2 h4
        exact .inr (.inr ⟨j, q', h3, a1, by rw [a2]; exact h5⟩)
    · rcases hp.recs.par k q h' with h3 | h3 | ⟨j, q2, h3, h4, h5⟩
      · exact .inl h3
      · exact .inr (.inl h3)
      · obtain ⟨q', a1, a2, _⟩ := hq j q2 h4
        exact .inr (.inr ⟨j, q', h3, a1, by rw [a2]; exact h5⟩)
  · intro k q hk hs'
    rcases get_set hk with ⟨rfl, rfl⟩ | ⟨_, h'⟩
    · rcases hh with h1 | ⟨j, q2, h1, h3, h4, h5⟩
      · exact .inl h1
      · obtain ⟨q', a1, _, a3⟩ := hq j q2 h3
        have := a3 h4
        subst this
        exact .inr ⟨j, q', h1, a1, h4, h5⟩
    · rcases hp.recs.set k q h' hs' with h3 | ⟨j, q2, h3, h4, h5, h6⟩
      · exact .inl h3
      · obtain ⟨q', a1, _, a3⟩ := hq j q2 h4
        have := a3 h5
        subst this
        exact .inr ⟨j, q', h3, a1, h5, h6⟩
  · intro k q m hk hid
    rcases get_set hk with ⟨rfl, rfl⟩ | ⟨_, h'⟩
    · have hid' : r.id = nameB m := hid
      by_cases hm : m < 4
      · exact hbd m hid' hm
      · have h1 := hbd n hn hn4
        show h ≤ m + 1
        omega
    · exact hp.recs.bound k q m h' hid
  · intro k q hk hs'
    rcases get_set hk with ⟨rfl, rfl⟩ | ⟨_, h'⟩
    · cases hs'
    · exact hp.recs.un k q h' hs'
  · intro x v
    show get g.es x = some v ↔ _
    rw [hp.index x v]
    constructor
    · rintro ⟨j, q, rfl, h3, h4⟩
      obtain ⟨q', a1, a2, _⟩ := hq j q h3
      exact ⟨j, q', rfl, a1, by rw [a2]; exact h4⟩
    · rintro ⟨j, q, rfl, h3, h4⟩
      rcases get_set h3 with ⟨rfl, rfl⟩ | ⟨_, h'⟩
      · exact ⟨j, r, rfl, hi, h4⟩
      · exact ⟨j, q, rfl, h', h4⟩
  · show (g.l.set i _).length = _
    rw [List.length_set]
    exact hp.cnt
  · intro k q hk
    rcases get_set hk with ⟨rfl, rfl⟩ | ⟨_, h'⟩
    · exact hp.slot k r hi
    · exact hp.slot k q h'
  · show g.cs.length ≤ (g.l.set i _).length
    rw [List.length_set]
    exact hp.cslen
  · intro k
    show (g.R k).length ≤ 300 * (g.l.set i _).length
    rw [List.length_set]
    exact hp.rlen k
  · intro k v hv
    obtain ⟨q, h3, h4⟩ := hp.eu k v hv
    by_cases e : k = i
    · subst e
      rw [hi] at h3
      cases h3
      exact ⟨_, set_at hi, h4⟩
    · exact ⟨q, (set_off e).trans h3, h4⟩
theorem UnOk.later {g g' : SG} (h : Later g g') {id p : ByteArray} {xs : List ByteArray} (hu : UnOk g id p xs) : UnOk g' id p xs :=
  ⟨hu.par, fun x hx => by rw [h.es, h.R]; exact hu.votes x hx, hu.len⟩
end Go.Proofs.YbulkkeiFmt
