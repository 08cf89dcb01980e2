/-
  THE OPERATIONS over a view and its store.
-/
import Derived.Test.YbulkkeiFmtView2
import Derived.Test.YbulkkeiFmtNamed
namespace Go.Proofs.YbulkkeiFmt
open Go.RowKit Go.Extern.Stop Go.Stop Go.Extern

/-- All that waits. -/
def VG.cnt (x : VG) : Nat := x.nr + tok x.ea
structure Moved (V : VA) (A : SA) (L : Nat → Prop) (w : World) (g : SG) (x : VG) (w' : World) (g' : SG) (x' : VG) : Prop where
  both : Both V A L w' g' x'
  later : Later g g'
  fr : Fr L WW (MM V A) w w'
  len : x'.ss.length = x.ss.length

section
variable {V : VA} {A : SA} {L : Nat → Prop} {w w' : World} {g g' : SG} {x x' : VG}
theorem Moved.trans {w2 : World} {g2 : SG} {x2 : VG} (h : Moved V A L w g x w' g' x') (h2 : Moved V A L w' g' x' w2 g2 x2) : Moved V A L w g x w2 g2 x2 := ⟨h2.both, h.later.trans h2.later, h.fr.trans h2.fr, h2.len.trans h.len⟩
theorem Moved.refl (h : Both V A L w g x) : Moved V A L w g x w g x := ⟨h, Later.refl g, Fr.refl .., rfl⟩

theorem ViewOk.alloc {Nv : Nat → Prop} (h : ViewOk V A Nv w g x) (c : Array Value) (e : TypeId) (hc : e = 111 → ∀ (j : Nat) (u : Value), c[j]? = some u → HeldΦ g.l.length (j % 3) u) : ViewOk V A Nv (w.alloc (.cells c e)) g x := by
  have hf : Fr Nv [] [] w (w.alloc (.cells c e)) := (Fr.refl Nv [] [] w).alloc _
  obtain ⟨n, xs, hw⟩ := h.wrow
  obtain ⟨ys, hy⟩ := hw.shape hf
  exact ⟨hf.keepC _ _ _ _ h.at_ (by simp), h.srow.keptF hf (by simp), h.crow.keptF hf (by simp), h.map.kept hf (by simp), ⟨n, ys, hy⟩, h.rows.kept hf, h.ready.same (fun k hk => Below.heap_alloc w _ k (h.ready.lt k hk).1), h.typed.alloc c e hc, h.sts, h.tips, h.clen, h.mine, h.mapm⟩
theorem Both.alloc (h : Both V A L w g x) (c : Array Value) (e : TypeId) (hc : e = 111 → ∀ (j : Nat) (u : Value), c[j]? = some u → HeldΦ g.l.length (j % 3) u) : Moved V A L w g x (w.alloc (.cells c e)) g x := by
  have hf : Fr L [] [] w (w.alloc (.cells c e)) := (Fr.refl L [] [] w).alloc _
  obtain ⟨Nv, h1, h2, h3⟩ := h.view
  refine ⟨⟨h.store.kept hf (by simp) (by simp), h.sa, fun k hk => Nat.lt_of_lt_of_le (h.low k hk) hf.size, ⟨Nv, h1, fun k hk => Nat.lt_of_lt_of_le (h2 k hk) hf.size, h3.alloc c e hc⟩, h.ma⟩, Later.refl g, hf.wider (by simp) (by simp), rfl⟩
theorem ViewOk.drewN {Nv : Nat → Prop} (h : ViewOk V A Nv w g x) (q : Nat) : ViewOk V A Nv (w.drewN q) g x := by
  obtain ⟨n, xs, hw⟩ := h.wrow
  exact ⟨h.at_, h.srow.same (fun _ _ => rfl), h.crow.same (fun _ _ => rfl), h.map, ⟨n, xs, hw.same (fun _ _ => rfl)⟩, h.rows.kept ((Fr.refl Nv [] [] w).drewN q), h.ready.same (fun _ _ => rfl), h.typed, h.sts, h.tips, h.clen, h.mine, h.mapm⟩
theorem Both.drewN (h : Both V A L w g x) (q : Nat) : Moved V A L w g x (w.drewN q) g x := by
  have hf : Fr L [] [] w (w.drewN q) := (Fr.refl L [] [] w).drewN q
  obtain ⟨Nv, h1, h2, h3⟩ := h.view
  exact ⟨⟨h.store.kept hf (by simp) (by simp), h.sa, h.low, ⟨Nv, h1, h2, h3.drewN q⟩, h.ma⟩, Later.refl g, hf.wider (by simp) (by simp), rfl⟩
theorem drewN_one (w : World) : w.drew = w.drewN 1 := rfl
theorem Both.drew (h : Both V A L w g x) : Moved V A L w g x w.drew g x := h.drewN 1

theorem tok_get (ea : List (ByteArray × Value)) (id : ByteArray) : lenV ((get ea id).getD (.slice none 0 0)) ≤ tok ea := by
  have := tok_del id ea
  omega

theorem await_both (h : Both V A L w g x) (id : ByteArray) (i : Nat) (q : Int) (hi : i < g.l.length) (hc : x.cnt < 1000) :
    Calls Ybaf.prog 42 #[.pointer (some ⟨V.v, 0, none⟩), .string id, .agg #[.pointer none, .int .i32 i, .int .i64 q]] w fun e w' => e = .returned (.tuple #[]) ∧ ∃ x', Moved V A L w g x w' g x' ∧ x'.wo = x.wo ∧ x'.cnt = x.cnt + 1 := by
  obtain ⟨Nv, h1, h2, h3⟩ := h.view
  obtain ⟨n, xs, hr⟩ := h3.rows.get id
  have hn := row_lenV hr
  have ht := tok_get x.ea id
  have hle : n ≤ x.cnt := by
    unfold VG.cnt
    omega
  refine (await_ok (Nr.lt h2 h3) h3.mapR h3.at_.cells.2.2.2.2.2.1 h3.map id i q hr (by omega) (hr.ne h3.at_ (by decide)) hi h3.typedN).mono ?_
  rintro e w' ⟨rfl, v', hM, hP⟩
  refine ⟨rfl, { x with ea := put id v' x.ea }, ⟨h.ofView h1 h2 (h3.await hP hM) hP.fr (by decide) (by simp), Later.refl g, ?_, rfl⟩, rfl, ?_⟩
  · exact hP.fr.mono (fun k hk => .inl (h1 k hk)) (by decide) (by simp [MM])
  · have h4 := tok_put id v' x.ea
    have h5 := row_lenV hP.row
    show x.nr + tok (put id v' x.ea) = x.nr + tok x.ea + 1
    omega

theorem push_both (h : Both V A L w g x) (i : Nat) (q : Int) (hi : RdOk g i) (hc : x.cnt < 1000) :
    Calls Ybaf.prog 43 #[.pointer (some ⟨V.v, 13, none⟩), .agg #[.pointer none, .int .i32 i, .int .i64 q]] w fun e w' => e = .returned (.tuple #[]) ∧ ∃ x', Moved V A L w g x w' g x' ∧ x'.wo = x.wo ∧ x'.cnt = x.cnt + 1 := by
  obtain ⟨Nv, h1, h2, h3⟩ := h.view
  have hin : i < g.l.length := by
    obtain ⟨r, hr, _⟩ := hi
    exact (List.getElem?_eq_some_iff.1 hr).1
  have hnr : x.nr < 1000 := by unfold VG.cnt at hc; omega
  refine (push_ok (Φ := RdΦ g) h3.at_ h3.at_.cells.2.2.2.2.2.2.2.1 h2 h3.mine h3.ready hnr (fun _ _ hh => hh.1) i hin q ⟨⟨⟨fun _ => rfl, by simp, by simp⟩, by simp⟩, ⟨⟨by simp, fun _ => ⟨i, rfl, hin⟩, by simp⟩, ?_⟩, ⟨⟨by simp, by simp, fun _ => ⟨q, rfl⟩⟩, by simp⟩⟩ h3.typed).mono ?_
  · intro _ a ha
    cases ha
    exact hi
  · rintro e w' ⟨rfl, rd', hP⟩
    refine ⟨rfl, { x with rd := rd', nr := x.nr + 1 }, ⟨h.ofView h1 h2 (h3.push hP) hP.fr (by decide) (by simp), Later.refl g, ?_, rfl⟩, rfl, ?_⟩
    · exact hP.fr.mono (fun k hk => h1 k hk) (by decide) (by simp)
    · show x.nr + 1 + tok x.ea = x.nr + tok x.ea + 1
      omega

theorem wake_both (h : Both V A L w g x) (id : ByteArray) (hg : 0 < g.l.length) (hc : x.cnt + lenV x.wo < 1000) :
    Calls Ybaf.prog 47 #[.pointer (some ⟨V.v, 0, none⟩), .string id] w fun e w' => e = .returned (.tuple #[]) ∧ ∃ x', Moved V A L w g x w' g x' ∧ x'.cnt + lenV x'.wo = x.cnt + lenV x.wo := by
  obtain ⟨Nv, h1, h2, h3⟩ := h.view
  refine (wake_ok h3.at_ (Nr.lt h2 h3) h3.mineR h3.mapR h3.map h3.wrow h3.rows hg h3.typedN (by unfold VG.cnt at hc; omega) id).mono ?_
  rintro e w' ⟨rfl, wo', ea', hP⟩
  refine ⟨rfl, { x with wo := wo', ea := ea' }, ⟨h.ofView h1 h2 (h3.wake hP) hP.fr (by decide) (by simp), Later.refl g, ?_, rfl⟩, ?_⟩
  · exact hP.fr.mono (fun k hk => .inl (h1 k hk)) (by decide) (by simp [MM])
  · have := hP.count
    show x.nr + tok ea' + lenV wo' = x.nr + tok x.ea + lenV x.wo
    omega

theorem pop_both (h : Both V A L w g x) (h0 : 0 < x.nr) (hg : 0 < g.l.length) (hc : x.cnt < 1000) :
    Calls Ybaf.prog 39 #[.pointer (some ⟨V.v, 13, none⟩)] w fun e w' => ∃ (a : Nat) (q : Int) (x' : VG), e = .returned (.agg #[.pointer none, .int .i32 a, .int .i64 q]) ∧ RdOk g a ∧ Moved V A L w g x w' g x' ∧ x'.wo = x.wo ∧ x'.cnt + 1 = x.cnt := by
  obtain ⟨Nv, h1, h2, h3⟩ := h.view
  have hnr : x.nr < 1000 := by unfold VG.cnt at hc; omega
  rcases h3.ready with ⟨_, hz⟩ | ⟨g0, cap, cur, hrd, hrr⟩
  · omega
  · have hv13 := h3.at_.cells.2.2.2.2.2.2.2.1
    rw [hrd] at hv13
    refine (pop_ok (Φ := RdΦ g) h3.at_ hv13 h2 h3.mine ⟨cur, hrr⟩ hnr h0 (fun _ _ hh => hh.1) h3.typed hg).mono ?_
    rintro e w' ⟨a, q, rfl, ha, hP⟩
    refine ⟨a, q, { x with rd := .slice (some ⟨g0, 0, none⟩) (x.nr - 1) cap, nr := x.nr - 1 }, rfl, ha.2 rfl a rfl, ⟨h.ofView h1 h2 (h3.pop hrd h0 hP) hP.fr (by decide) (by simp), Later.refl g, ?_, rfl⟩, rfl, ?_⟩
    · exact hP.fr.mono (fun k hk => h1 k hk) (by decide) (by simp)
    · show x.nr - 1 + tok x.ea + 1 = x.nr + tok x.ea
      omega

/-- What named says. -/
def NamedSays (g g' : SG) (i : Nat) (w w' : World) (e : Ending) : Prop :=
  (∃ r : VR, e = .returned (.slice none 0 0) ∧ g'.l[i]? = some r ∧ r.par ≠ -2) ∨
  ∃ (r : VR) (a n cap : Nat) (y : ByteArray), g' = g ∧ g.l[i]? = some r ∧ r.par = -2 ∧ e = .returned (.slice (some ⟨a, 0, none⟩) n cap) ∧ 0 < n ∧ n ≤ cap ∧ cap ≤ maxLen ∧ w'.cell? ⟨a, 0, none⟩ = some (.string y) ∧ Below w.heap.size w w'
theorem NamedSays.held {g g' : SG} {i : Nat} {w w' : World} {e : Ending} (r : VR) (h1 : e = .returned (.slice none 0 0)) (h2 : g'.l[i]? = some r) (h3 : r.par ≠ -2) : NamedSays g g' i w w' e := .inl ⟨r, h1, h2, h3⟩
theorem NamedSays.lacks {g g' : SG} {i : Nat} {w w' : World} {e : Ending} (r : VR) (a n cap : Nat) (y : ByteArray) (h1 : g' = g) (h2 : g.l[i]? = some r) (h3 : r.par = -2) (h4 : e = .returned (.slice (some ⟨a, 0, none⟩) n cap)) (h5 : 0 < n) (h6 : n ≤ cap) (h7 : cap ≤ maxLen) (h8 : w'.cell? ⟨a, 0, none⟩ = some (.string y)) (h9 : Below w.heap.size w w') : NamedSays g g' i w w' e := .inr ⟨r, a, n, cap, y, h1, h2, h3, h4, h5, h6, h7, h8, h9⟩

theorem named_both (h : Both V A L w g x) (i : Nat) (r : VR) (hi : g.l[i]? = some r) :
    Calls Ybaf.prog 44 #[.pointer (some ⟨A.s, 0, none⟩), .int .i32 i] w fun e w' => ∃ g', Moved V A L w g x w' g' x ∧ NamedSays g g' i w w' e ∧ Fr L [122] [A.mu] w w' := by
  by_cases hp : r.par = -2
  · obtain ⟨u, c, p, vv, xs, k1, k2, k3⟩ := h.store.boxes i r hi hp
    have u2 : w.cell? ⟨u, 2, none⟩ = some (.string p) := by simp [World.cell?, k2.box]
    have u3 : w.cell? ⟨u, 3, none⟩ = some vv := by simp [World.cell?, k2.box]
    have hpk : p = gen ∨ (p ≠ gen ∧ get g.es p = none) ∨ (p ≠ gen ∧ Less p r.id ∧ ∃ (j : Nat) (q : VR), get g.es p = some (.int .i32 j) ∧ g.l[j]? = some q ∧ q.id = p) := by
      rcases k3.par with h1 | h1
      · exact .inl h1
      · have h1' := h1
        obtain ⟨a, b, rfl, h2, h3, h4⟩ := h1
        have hng : nameB a ≠ gen := nameB_ne_gen (by omega)
        cases hga : get g.es (nameB a) with
        | none => exact .inr (.inl ⟨hng, rfl⟩)
        | some v =>
          obtain ⟨j, q, rfl, h5, h6⟩ := (h.store.plain.index _ v).1 hga
          exact .inr (.inr ⟨hng, h1', j, q, rfl, h5, h6⟩)
    have yes : xs = [] → ∀ par, par ≠ -2 → ParOk g.l p r.id par → ((p = gen ∧ par = -1) ∨ (p ≠ gen ∧ ∃ j : Nat, par = j ∧ get g.es p = some (.int .i32 j))) → Calls Ybaf.prog 44 #[.pointer (some ⟨A.s, 0, none⟩), .int .i32 i] w fun e w' => ∃ g', Moved V A L w g x w' g' x ∧ NamedSays g g' i w w' e ∧ Fr L [122] [A.mu] w w' := by
      intro hx par hpar hpo hpp
      subst hx
      refine (named_yes h.store.at_ h.sa.mu h.store.index h.store.vrow i r hi hp h.store.unres k1 u2 par hpp u3 k2.row.1).mono ?_
      rintro e w' ⟨rfl, r1, r2, r3⟩
      have hl := Later.resolve h.store.plain hi hp par
      have hs : StoreOk A L w' (g.resolve i r par) := by
        refine ⟨r3.keepC _ _ _ _ h.store.at_ (by decide), h.store.index.kept r3 (by simpa using h.sa.iu), h.store.slots.kept r3 (by simpa using h.sa.su), h.store.refs.kept r3 (by simpa using h.sa.ru), r2, h.store.once, (h.store.onceU.del _).2, h.store.rok.kept r3 (by decide), ?_, h.store.crow.kept r3 (by decide), h.store.sok, ?_, h.store.plain.resolve h.store.onceU hi hp hpo hpar⟩
        · show Row L w' 122 10 g.vs (g.l.set i { r with par := par }).length (vrs (g.l.set i { r with par := par }))
          rw [List.length_set]
          exact r1
        · intro j q hj hq
          rcases get_set hj with ⟨rfl, rfl⟩ | ⟨hji, hj'⟩
          · exact absurd hq hpar
          · obtain ⟨u', c', p', vv', xs', m1, m2, m3⟩ := h.store.boxes j q hj' hq
            refine ⟨u', c', p', vv', xs', ?_, m2.kept r3 (by decide) (by decide), m3.later hl⟩
            show get (del (i : Int) g.eu) (j : Int) = _
            rw [get_del_other _ _ (by omega)]
            exact m1
      refine ⟨g.resolve i r par, ⟨h.ofStore hs r3 (by decide) (by have := h.ma; simp at this ⊢; exact this.2.2.2) hl.onw, hl, r3.wider (by decide) (by simp [MM]), rfl⟩, ?_, r3⟩
      exact .held { r with par := par } rfl (set_at hi) hpar
    have no : ((p ≠ gen ∧ get g.es p = none) ∨ ∃ x ys, xs = x :: ys ∧ x ≠ gen ∧ get g.es x = none ∧ (p = gen ∨ (p ≠ gen ∧ ∃ j : Nat, get g.es p = some (.int .i32 j)))) → Calls Ybaf.prog 44 #[.pointer (some ⟨A.s, 0, none⟩), .int .i32 i] w fun e w' => ∃ g', Moved V A L w g x w' g' x ∧ NamedSays g g' i w w' e ∧ Fr L [122] [A.mu] w w' := by
      intro hno
      have hxl : xs.length < 1000 := by have := k3.len; omega
      refine (named_no h.store.at_ h.store.index h.store.vrow i r hi hp h.store.unres k1 u2 u3 k2.row.1 hxl hno).mono ?_
      rintro e w' ⟨a, n, cap, y, rfl, h1, h2, h3, h4, h5⟩
      have hf : Fr L [] [] w w' := Fr.of_below h5
      refine ⟨g, ⟨h.ofStore (h.store.kept hf (by simp) (by simp)) hf (by simp) (by simp) (Onw.refl g), Later.refl g, hf.wider (by simp) (by simp), rfl⟩, .lacks r a n cap y rfl hi hp rfl h1 h2 h3 h4 h5, hf.wider (by simp) (by simp)⟩
    rcases hpk with h1 | ⟨h1, h2⟩ | ⟨h1, h2, j, q, h3, h4, h5⟩
    · cases xs with
      | nil => exact yes rfl (-1) (by decide) (.inr (.inl ⟨h1, rfl⟩)) (.inl ⟨h1, rfl⟩)
      | cons y ys =>
        obtain ⟨m1, m2, _⟩ := k3.votes y (by simp)
        exact no (.inr ⟨y, ys, rfl, m1, m2, .inl h1⟩)
    · exact no (.inl ⟨h1, h2⟩)
    · cases xs with
      | nil => exact yes rfl j (by omega) (.inr (.inr ⟨j, q, rfl, h4, h5, h2⟩)) (.inr ⟨h1, j, rfl, h3⟩)
      | cons y ys =>
        obtain ⟨m1, m2, _⟩ := k3.votes y (by simp)
        exact no (.inr ⟨y, ys, rfl, m1, m2, .inr ⟨h1, j, h3⟩⟩)
  · refine (named_res h.store.at_ h.store.vrow i r hi hp).mono ?_
    rintro e w' ⟨rfl, rfl⟩
    exact ⟨g, Moved.refl h, .held r rfl hi hp, Fr.refl ..⟩
end
end Go.Proofs.YbulkkeiFmt
