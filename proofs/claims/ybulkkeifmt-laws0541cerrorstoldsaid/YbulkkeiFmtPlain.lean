/-
  THE LAW's OWN MODEL OF THE STORE's RULES, beside the store's records. No Go in sight.
-/
import Derived.Test.YbulkkeiFmtAddV
namespace Go.Proofs.YbulkkeiFmt
open Go.RowKit Go.Extern.Stop Go.Stop Go.Extern

/-- What the law keeps: which ids are in, their chains, how those that are not in are named. -/
structure LM where
  added : Nat → Bool
  chain : Nat → Int
  pend : Nat → List (Bool × Int)
def toPend (r : RF) : Bool × Int := (decide (r.role = 3), r.chain)
structure Rel (g : SG) (m : LM) : Prop where
  known : ∀ k, k < 4 → m.added k = (get g.es (nameB k)).isSome
  chain : ∀ k, k < 4 → m.added k = true → kcOf g (nameB k) = some (m.chain k)
  pend : ∀ k, k < 4 → m.added k = false → m.pend k = (g.R (nameB k)).map toPend

/-- The parent's name. -/
def parB (par : Int) : ByteArray := if par < 0 then gen else nameB par.toNat
/-- The law's 'want'. -/
def want3 (m : LM) (idx : Nat) (sel : List Nat) : Bool := sel.any fun k => k == 6 || (decide (k < 4) && (k == idx || m.added k))
def want2 (m : LM) (c : Int) (par : Int) : Bool := decide (0 ≤ par) && m.added par.toNat && (m.chain par.toNat != c)
def want1 (m : LM) (idx : Nat) (c : Int) : Bool := (m.pend idx).any fun r => r.1 || r.2 != c
def wantB (ch : Int) (m : LM) (idx : Nat) (c : Int) (par : Int) (sel : List Nat) : Bool :=
  if 4 ≤ idx ∨ m.added idx = true ∨ c < 0 ∨ ch ≤ c then true else want1 m idx c || want2 m c par || want3 m idx sel

theorem voteB_name {k : Nat} (h : k < 4) : voteB k = nameB k := by
  rcases (by omega : k = 0 ∨ k = 1 ∨ k = 2 ∨ k = 3) with rfl | rfl | rfl | rfl <;> rfl
theorem voteB_p {k : Nat} (h : k = 4 ∨ k = 5) : (∀ j, j < 4 → voteB k ≠ nameB j) ∧ voteB k ≠ gen := by
  rcases h with rfl | rfl <;> refine ⟨fun j hj => ?_, by decide⟩ <;> rcases (by omega : j = 0 ∨ j = 1 ∨ j = 2 ∨ j = 3) with rfl | rfl | rfl | rfl <;> decide

theorem kcOf_none {g : SG} {y : ByteArray} (h : get g.es y = none) : kcOf g y = none := by unfold kcOf; rw [h]
/-- Only the four ids are ever held. -/
theorem Plain.only {g : SG} (hp : Plain g) {y : ByteArray} (h : ∀ j, j < 4 → y ≠ nameB j) : get g.es y = none := by
  cases hk : get g.es y with
  | none => rfl
  | some v =>
    obtain ⟨i, r, _, h1, h2⟩ := (hp.index y v).1 hk
    obtain ⟨k, hk4, e⟩ := hp.recs.ids i r h1
    exact absurd (h2.symm.trans e) (h k hk4)

theorem any_map_eq {α β : Type} {l : List α} {f : α → Bool} {h : α → β} {f' : β → Bool} (he : ∀ x ∈ l, f x = f' (h x)) : l.any f = (l.map h).any f' := by
  induction l with
  | nil => rfl
  | cons a l ih =>
    rw [List.any_cons, List.map_cons, List.any_cons, he a (by simp), ih (fun x hx => he x (by simp [hx]))]

theorem vote_bad {g : SG} {m : LM} (hp : Plain g) (hr : Rel g m) {idx : Nat} (hi : idx < 4) (c : Int) {k : Nat} (hk : k < 7) : refBad (kcOf g) (nameB idx) c ⟨nameB idx, voteB k, 3, 0⟩ = (k == 6 || (decide (k < 4) && (k == idx || m.added k))) := by
  unfold refBad
  simp only
  rcases (by omega : k < 4 ∨ k = 4 ∨ k = 5 ∨ k = 6) with h | h | h | h
  · rw [voteB_name h, if_neg (nameB_ne_gen h)]
    by_cases e : k = idx
    · subst e
      rw [if_pos rfl]
      simp [unfit, h]
    · rw [if_neg (fun h2 => e (nameB_inj h hi h2))]
      have e6 : (k == 6) = false := by simp; omega
      have ei : (k == idx) = false := by simpa using e
      rw [e6, ei]
      simp only [h, decide_true, Bool.true_and, Bool.false_or]
      rw [hr.known k h]
      cases ha : get g.es (nameB k) with
      | none => rw [kcOf_none ha]; rfl
      | some v =>
        have := hr.chain k h (by rw [hr.known k h, ha]; rfl)
        rw [this]
        simp [unfit]
  · have hv := voteB_p (.inl h)
    rw [if_neg hv.2, if_neg (hv.1 idx hi), kcOf_none (hp.only hv.1)]
    subst h
    rfl
  · have hv := voteB_p (.inr h)
    rw [if_neg hv.2, if_neg (hv.1 idx hi), kcOf_none (hp.only hv.1)]
    subst h
    rfl
  · subst h
    rw [if_pos (by rfl)]
    rfl
theorem par_bad {g : SG} {m : LM} (hr : Rel g m) {idx : Nat} (hi : idx < 4) (c : Int) {par : Int} (hpar : par < idx) : refBad (kcOf g) (nameB idx) c ⟨nameB idx, parB par, 2, c⟩ = want2 m c par := by
  unfold refBad want2 parB
  simp only
  by_cases h : par < 0
  · rw [if_pos h, if_pos rfl]
    have : decide (0 ≤ par) = false := by simp; omega
    rw [this]
    rfl
  · rw [if_neg h]
    have h4 : par.toNat < 4 := by omega
    have : decide (0 ≤ par) = true := by simp; omega
    rw [if_neg (nameB_ne_gen h4), if_neg (fun e => by have := nameB_inj h4 hi e; omega), this]
    simp only [Bool.true_and]
    rw [hr.known _ h4]
    cases ha : get g.es (nameB par.toNat) with
    | none => rw [kcOf_none ha]; rfl
    | some v =>
      have := hr.chain _ h4 (by rw [hr.known _ h4, ha]; rfl)
      rw [this]
      simp [unfit]

theorem bad_want {A : SA} {g : SG} {m : LM} (hp : Plain g) (hr : Rel g m) {idx : Nat} (c : Int) {par : Int} (hpar : idx < 4 → par < idx) {sel : List Nat} (hs : ∀ k ∈ sel, k < 7) :
    Bad A g idx c (parB par) (sel.map voteB) ↔ wantB A.ch m idx c par sel = true := by
  unfold Bad wantB
  by_cases h4 : 4 ≤ idx
  · simp [h4]
  · have hi : idx < 4 := by omega
    rw [← hr.known idx hi]
    by_cases h0 : m.added idx = true ∨ c < 0 ∨ A.ch ≤ c
    · rw [if_pos (.inr h0)]
      simp only [iff_true]
      rcases h0 with h | h | h
      · exact .inr (.inr (.inr (.inl h)))
      · exact .inr (.inl h)
      · exact .inr (.inr (.inl h))
    · rw [if_neg (fun h => h.elim h4 h0)]
      have ha : m.added idx = false := by
        cases h : m.added idx with
        | false => rfl
        | true => exact absurd (.inl h) h0
      have e : admitBad (kcOf g) g.R (nameB idx) c (mkRefs (nameB idx) c (parB par) (sel.map voteB)) = (want1 m idx c || want2 m c par || want3 m idx sel) := by
        unfold admitBad mkRefs
        rw [List.any_cons, par_bad hr hi c (hpar hi), Bool.or_assoc]
        congr 1
        · unfold want1
          rw [hr.pend idx hi ha]
          refine any_map_eq fun r hr' => ?_
          rcases hp.roles _ r hr' with h | h
          · simp [unfit, toPend, h, bne_comm]
          · simp [unfit, toPend, h]
        · congr 1
          unfold want3
          rw [List.map_map]
          rw [← any_map_eq (l := sel) (f := fun k => k == 6 || (decide (k < 4) && (k == idx || m.added k)))]
          intro k hk
          exact (vote_bad hp hr hi c (hs k hk)).symm
      rw [e]
      constructor
      · rintro (h | h | h | h | h)
        · omega
        · exact absurd (.inr (.inl h)) h0
        · exact absurd (.inr (.inr h)) h0
        · rw [ha] at h; cases h
        · exact h
      · exact fun h => .inr (.inr (.inr (.inr h)))

/-- What the law keeps, behind a block that is in. -/
def LM.mark (m : LM) (idx : Nat) (c : Int) : LM := { m with added := fun k => if k = idx then true else m.added k, chain := fun k => if k = idx then c else m.chain k }
def LM.note (m : LM) (k : Nat) (r : Bool × Int) : LM := if m.added k = true then m else { m with pend := fun j => if j = k then m.pend j ++ [r] else m.pend j }
def LM.parent (m : LM) (par c : Int) : LM := if par < 0 then m else m.note par.toNat (false, c)
def LM.vote (m : LM) (k : Nat) : LM := if k < 4 then m.note k (true, 0) else m
def LM.votes (m : LM) (sel : List Nat) : LM := sel.foldl LM.vote m
def LM.step (m : LM) (idx : Nat) (c par : Int) (sel : List Nat) : LM := ((m.mark idx c).parent par c).votes sel

theorem note_added (m : LM) (k : Nat) (r : Bool × Int) : (m.note k r).added = m.added ∧ (m.note k r).chain = m.chain := by unfold LM.note; split <;> exact ⟨rfl, rfl⟩
theorem vote_added (m : LM) (k : Nat) : (m.vote k).added = m.added ∧ (m.vote k).chain = m.chain := by unfold LM.vote; split; exact note_added _ _ _; exact ⟨rfl, rfl⟩
theorem votes_added : ∀ (sel : List Nat) (m : LM), (m.votes sel).added = m.added ∧ (m.votes sel).chain = m.chain
  | [], _ => ⟨rfl, rfl⟩
  | k :: sel, m => by
    have h1 := votes_added sel (m.vote k)
    have h2 := vote_added m k
    exact ⟨h1.1.trans h2.1, h1.2.trans h2.2⟩
theorem note_pend (m : LM) (k : Nat) (r : Bool × Int) (j : Nat) (hj : m.added j = false) : (m.note k r).pend j = m.pend j ++ (if k = j then [r] else []) := by
  unfold LM.note
  by_cases h : m.added k = true
  · rw [if_pos h, if_neg (fun e => by rw [e, hj] at h; cases h)]
    simp
  · rw [if_neg h]
    by_cases e : j = k
    · simp [e]
    · simp [e, Ne.symm e]
theorem vote_pend (m : LM) (k : Nat) (j : Nat) (hj : m.added j = false) (hj4 : j < 4) : (m.vote k).pend j = m.pend j ++ (if k = j then [(true, 0)] else []) := by
  unfold LM.vote
  by_cases h : k < 4
  · rw [if_pos h, note_pend m k _ j hj]
  · rw [if_neg h, if_neg (by omega)]
    simp
theorem votes_pend : ∀ (sel : List Nat) (m : LM) (j : Nat), m.added j = false → j < 4 → (m.votes sel).pend j = m.pend j ++ sel.filterMap (fun k => if k = j then some (true, (0 : Int)) else none)
  | [], m, j, _, _ => by simp [LM.votes]
  | k :: sel, m, j, h1, h2 => by
    have := votes_pend sel (m.vote k) j (by rw [(vote_added m k).1]; exact h1) h2
    show ((m.vote k).votes sel).pend j = _
    rw [this, vote_pend m k j h1 h2]
    by_cases e : k = j <;> simp [e]

/-- A row that is not held grows by what names it. -/
theorem fileR_at (kn : ByteArray → Bool) : ∀ (refs : List RF) (R : ByteArray → List RF) (y : ByteArray), kn y = false → y ≠ gen → fileR kn R refs y = R y ++ refs.filter (fun r => decide (r.t = y))
  | [], R, y, _, _ => by simp [fileR]
  | r :: refs, R, y, h1, h2 => by
    have := fileR_at kn refs (fileStep kn R r) y h1 h2
    show fileR kn (fileStep kn R r) refs y = _
    rw [this]
    unfold fileStep
    by_cases e : r.t = y
    · subst e
      rw [if_neg (by simp [h1, h2])]
      simp [upd]
    · split
      · simp [e]
      · simp [upd, Ne.symm e, e]

theorem Rel.step {g g' : SG} {m : LM} (hr : Rel g m) {idx : Nat} (hi : idx < 4) {c par : Int} (hpar : par < idx) {sel : List Nat} (hs : ∀ k ∈ sel, k < 7)
    (h1 : ∀ y, (get g'.es y).isSome = ((get g.es y).isSome || decide (y = nameB idx))) (h2 : ∀ y, kcOf g' y = if y = nameB idx then some c else kcOf g y)
    (h3 : g'.R = fileR (fun y => (get g'.es y).isSome) (upd g.R (nameB idx) []) (mkRefs (nameB idx) c (parB par) (sel.map voteB))) : Rel g' (m.step idx c par sel) := by
  have ha : (m.step idx c par sel).added = (m.mark idx c).added ∧ (m.step idx c par sel).chain = (m.mark idx c).chain := by
    unfold LM.step
    have h4 := votes_added sel ((m.mark idx c).parent par c)
    have h5 : ((m.mark idx c).parent par c).added = (m.mark idx c).added ∧ ((m.mark idx c).parent par c).chain = (m.mark idx c).chain := by
      unfold LM.parent
      split
      · exact ⟨rfl, rfl⟩
      · exact note_added _ _ _
    exact ⟨h4.1.trans h5.1, h4.2.trans h5.2⟩
  have hk : ∀ k, k < 4 → (m.mark idx c).added k = (get g'.es (nameB k)).isSome := by
    intro k hk
    rw [h1]
    show (if k = idx then true else m.added k) = _
    by_cases e : k = idx
    · simp [e]
    · rw [if_neg e, hr.known k hk]
      have : nameB k ≠ nameB idx := fun h => e (nameB_inj hk hi h)
      simp [this]
  refine ⟨fun k hk4 => by rw [ha.1]; exact hk k hk4, fun k hk4 hka => ?_, fun k hk4 hka => ?_⟩
  · rw [h2, ha.2]
    show _ = some (if k = idx then c else m.chain k)
    by_cases e : k = idx
    · simp [e]
    · have : nameB k ≠ nameB idx := fun h => e (nameB_inj hk4 hi h)
      rw [if_neg this, if_neg e]
      refine hr.chain k hk4 ?_
      rw [ha.1] at hka
      have h6 : (if k = idx then true else m.added k) = true := hka
      rwa [if_neg e] at h6
  · rw [ha.1] at hka
    have hka' : (if k = idx then true else m.added k) = false := hka
    have e : k ≠ idx := fun h => by rw [if_pos h] at hka'; cases hka'
    rw [if_neg e] at hka'
    have hne : nameB k ≠ nameB idx := fun h => e (nameB_inj hk4 hi h)
    have hun : (get g'.es (nameB k)).isSome = false := by rw [← hk k hk4]; exact hka
    rw [h3, fileR_at _ _ _ _ hun (nameB_ne_gen hk4)]
    unfold LM.step
    have hp5 : ((m.mark idx c).parent par c).added k = false := by
      unfold LM.parent
      split
      · exact hka
      · rw [(note_added _ _ _).1]
        exact hka
    rw [votes_pend sel _ k hp5 hk4]
    have e1 : ((m.mark idx c).parent par c).pend k = m.pend k ++ (if par = (k : Int) then [(false, c)] else []) := by
      unfold LM.parent
      by_cases h : par < 0
      · rw [if_pos h, if_neg (by omega)]
        simp [LM.mark]
      · rw [if_neg h, note_pend _ _ _ k hka]
        show m.pend k ++ _ = _
        by_cases e2 : par = (k : Int)
        · have : par.toNat = k := by omega
          rw [if_pos this, if_pos e2]
        · have : par.toNat ≠ k := by omega
          rw [if_neg this, if_neg e2]
    rw [e1, hr.pend k hk4 hka', List.map_append]
    have e2 : upd g.R (nameB idx) [] (nameB k) = g.R (nameB k) := by unfold upd; rw [if_neg hne]
    rw [e2, List.append_assoc]
    congr 1
    unfold mkRefs
    rw [List.filter_cons]
    have e3 : decide ((⟨nameB idx, parB par, 2, c⟩ : RF).t = nameB k) = decide (par = (k : Int)) := by
      show decide (parB par = nameB k) = _
      unfold parB
      by_cases h : par < 0
      · rw [if_pos h]
        have h7 : gen ≠ nameB k := Ne.symm (nameB_ne_gen hk4)
        have h8 : par ≠ (k : Int) := by omega
        simp [h7, h8]
      · rw [if_neg h]
        by_cases h9 : par = (k : Int)
        · have : par.toNat = k := by omega
          simp [h9]
        · have h10 : nameB par.toNat ≠ nameB k := fun hh => by have := nameB_inj (by omega) hk4 hh; omega
          simp [h9, h10]
    have e4 : ((((sel.map voteB).map fun x => (⟨nameB idx, x, 3, 0⟩ : RF)).filter fun r => decide (r.t = nameB k)).map toPend) = sel.filterMap (fun j => if j = k then some (true, (0 : Int)) else none) := by
      clear h3 ha
      induction sel with
      | nil => rfl
      | cons j sel ih =>
        have ih' := ih (fun x hx => hs x (by simp [hx]))
        have hj7 := hs j (by simp)
        have hjv : decide (voteB j = nameB k) = decide (j = k) := by
          rcases (by omega : j < 4 ∨ j = 4 ∨ j = 5 ∨ j = 6) with h | h | h | h
          · rw [voteB_name h]
            by_cases h9 : j = k
            · simp [h9]
            · have : nameB j ≠ nameB k := fun hh => h9 (nameB_inj h hk4 hh)
              simp [h9, this]
          · have := (voteB_p (.inl h)).1 k hk4
            have h9 : j ≠ k := by omega
            simp [this, h9]
          · have := (voteB_p (.inr h)).1 k hk4
            have h9 : j ≠ k := by omega
            simp [this, h9]
          · have h8 : voteB j ≠ nameB k := by rw [h]; exact Ne.symm (nameB_ne_gen hk4)
            have h9 : j ≠ k := by omega
            simp [h8, h9]
        simp only [List.map_cons, List.filter_cons, List.filterMap_cons]
        show (List.map toPend (if decide (voteB j = nameB k) = true then _ else _)) = _
        rw [hjv]
        by_cases h9 : j = k
        · simp only [h9, decide_true, if_true, List.map_cons]
          rw [ih']
          rfl
        · simp only [h9, decide_false, if_false, Bool.false_eq_true]
          exact ih'
    rw [← e4, e3]
    by_cases h9 : par = (k : Int)
    · simp [h9, toPend]
    · simp [h9]

theorem Rel.empty {g : SG} (he : g.es = []) (hR : g.R = fun _ => []) : Rel g ⟨fun _ => false, fun _ => 0, fun _ => []⟩ := by
  refine ⟨fun k _ => ?_, fun k _ h => ?_, fun k _ _ => ?_⟩
  · rw [he]
    rfl
  · cases h
  · rw [hR]
    rfl

/-- A view over its store, behind the callers' own doing. -/
theorem Both.growAny {V : VA} {A : SA} {L L' N0 : Nat → Prop} {w w' : World} {g : SG} {x : VG} (h : Both V A L w g x) {W : List TypeId} (hf : Fr N0 W [] w w') (hW : ∀ e ∈ W, e ∉ [83, 103, 122, 3, 42, 9, 70, 47, 143, 111]) (hL : ∀ k, L' k → L k ∨ w.heap.size ≤ k) (hlow : ∀ k, L' k → k < w'.heap.size) : Both V A L' w' g x := by
  obtain ⟨Nv, h1, h2, h3⟩ := h.view
  refine ⟨(h.store.grow hL).keptF hf (fun e he hh => hW e he (List.mem_append_left [70, 47, 143, 111] hh)) (by simp), h.sa.grow h.store hL, hlow, ⟨Nx V x Nv w w', fun k hk => ⟨hlow k hk, ?_⟩, fun k hk => hk.1, h3.pass hf (fun e he hh => hW e he (List.mem_append_right [83, 103, 122, 3, 42, 9] hh)) (by simp) (Onw.refl g)⟩, h.ma⟩
  rcases hL k hk with h4 | h4
  · exact .inl (h1 k h4)
  · refine .inr ⟨fun ⟨c, f, h5⟩ => ?_, ?_⟩
    · have := (Array.getElem?_eq_some_iff.1 h5).1
      omega
    · rintro (h5 | h5 | h5 | h5)
      · have := (Array.getElem?_eq_some_iff.1 h3.at_).1
        omega
      · have := h3.map.lt
        omega
      · have := h3.srow.lt k h5
        omega
      · have := h3.crow.lt k h5
        omega

/-- Where an id stands. -/
theorem status_law {V : VA} {A : SA} {L : Nat → Prop} {w : World} {g : SG} {x : VG} (h : Both V A L w g x) (hfull : x.ss.length = g.l.length) (k : Nat) :
    Calls Ybaf.prog 8 #[.pointer (some ⟨V.v, 0, none⟩), .string (nameB k)] w fun e w' => ∃ s : Int, e = .returned (.int .u8 s) ∧ (s = 0 ↔ (get g.es (nameB k)).isSome = false) ∧ w' = w := by
  obtain ⟨Nv, _, _, h3⟩ := h.view
  have hv := h3.at_.cells.1
  have hs := h.store.at_.cells.2.1
  cases hk : get g.es (nameB k) with
  | none =>
    refine (Status_none hv hs h.store.index (nameB k) hk).mono ?_
    rintro e w' ⟨rfl, rfl⟩
    exact ⟨0, rfl, by simp, rfl⟩
  | some v =>
    obtain ⟨i, r, rfl, h4, _⟩ := (h.store.plain.index _ v).1 hk
    have hi : i < x.ss.length := by rw [hfull]; exact (List.getElem?_eq_some_iff.1 h4).1
    have hsi : x.ss[i]? = some x.ss[i] := List.getElem?_eq_getElem hi
    refine (Status_some hv h3.at_.cells.2.2.1 h3.srow hs h.store.index (nameB k) i _ hsi hk).mono ?_
    rintro e w' ⟨rfl, rfl⟩
    refine ⟨_, rfl, ?_, rfl⟩
    rcases h3.sts.two i _ hsi with e | e <;> rw [e] <;> simp
end Go.Proofs.YbulkkeiFmt
