/-
  THE STORE's INVARIANT.
-/
import Derived.Test.YbulkkeiFmtResolve
import Derived.Test.YbulkkeiFmtFile
namespace Go.Proofs.YbulkkeiFmt
open Go.RowKit Go.Extern.Stop Go.Stop Go.Extern

/-- A reference that a new block 'id' of chain c must not make. kc: the chain of a block that is held. -/
def refBad (kc : ByteArray → Option Int) (id : ByteArray) (c : Int) (r : RF) : Bool :=
  if r.t = gen then r.role == 3 else if r.t = id then unfit r.role r.chain c else match kc r.t with | none => false | some d => unfit r.role r.chain d
def admitBad (kc : ByteArray → Option Int) (R : ByteArray → List RF) (id : ByteArray) (c : Int) (refs : List RF) : Bool :=
  (R id).any (fun r => unfit r.role r.chain c) || refs.any (refBad kc id c)
/-- What the index knows, with the chains. -/
def Knows (es : List (ByteArray × Value)) (l : List VR) (cs : List Int) (kc : ByteArray → Option Int) : Prop :=
  ∀ k, (get es k = none ∧ kc k = none) ∨ ∃ (i : Nat) (r : VR) (d : Int), get es k = some (.int .i32 i) ∧ l[i]? = some r ∧ cs[r.slot]? = some d ∧ kc k = some d

/-- What of the store never turns. -/
structure SA where
  s : Nat
  ch : Int
  mi : Nat
  gp : Value
  ms : Nat
  mr : Nat
  mu : Nat
structure SA.Ok (A : SA) (N : Nat → Prop) : Prop where
  s : ¬ N A.s
  mi : ¬ N A.mi
  ms : ¬ N A.ms
  mr : ¬ N A.mr
  mu : ¬ N A.mu
  ir : A.mi ≠ A.mr
  is : A.mi ≠ A.ms
  iu : A.mi ≠ A.mu
  rs : A.mr ≠ A.ms
  ru : A.mr ≠ A.mu
  su : A.ms ≠ A.mu
/-- What turns. -/
structure SG where
  vs : Value
  co : Value
  l : List VR
  cs : List Int
  es : List (ByteArray × Value)
  er : List (ByteArray × Value)
  em : List (Int × Value)
  eu : List (Int × Value)
  R : ByteArray → List RF

def OnceI (eu : List (Int × Value)) : Prop := (eu.map Prod.fst).Nodup

/-- a names an earlier block than b. -/
def Less (a b : ByteArray) : Prop := ∃ j k, a = nameB j ∧ b = nameB k ∧ j < k ∧ k < 4
def known (es : List (ByteArray × Value)) (k : Nat) : Bool := (get es (nameB k)).isSome

/-- The plain invariants of the records. -/
structure Recs (l : List VR) : Prop where
  ids : ∀ (i : Nat) (r : VR), l[i]? = some r → ∃ k, k < 4 ∧ r.id = nameB k
  par : ∀ (i : Nat) (r : VR), l[i]? = some r → r.par = -2 ∨ r.par = -1 ∨ ∃ (j : Nat) (q : VR), r.par = j ∧ l[j]? = some q ∧ Less q.id r.id
  set : ∀ (i : Nat) (r : VR), l[i]? = some r → r.settled = true → (r.par = -1 ∧ r.height = 1) ∨ ∃ (j : Nat) (q : VR), r.par = j ∧ l[j]? = some q ∧ q.settled = true ∧ r.height = q.height + 1
  bound : ∀ (i : Nat) (r : VR) (k : Nat), l[i]? = some r → r.id = nameB k → r.height ≤ k + 1
  un : ∀ (i : Nat) (r : VR), l[i]? = some r → r.settled = false → r.height = 0

structure Plain (g : SG) : Prop where
  recs : Recs g.l
  index : ∀ k v, get g.es k = some v ↔ ∃ (i : Nat) (r : VR), v = .int .i32 i ∧ g.l[i]? = some r ∧ r.id = k
  cnt : g.l.length = (known g.es 0).toNat + (known g.es 1).toNat + (known g.es 2).toNat + (known g.es 3).toNat
  slot : ∀ (i : Nat) (r : VR), g.l[i]? = some r → r.slot < g.cs.length
  cslen : g.cs.length ≤ g.l.length
  roles : ∀ k, ∀ r ∈ g.R k, r.role = 2 ∨ r.role = 3
  rlen : ∀ k, (g.R k).length ≤ 300 * g.l.length
  eu : ∀ (i : Nat) v, get g.eu (i : Int) = some v → ∃ r, g.l[i]? = some r ∧ r.par = -2

/-- What an unresolved block's text says. -/
structure UnOk (g : SG) (id p : ByteArray) (xs : List ByteArray) : Prop where
  par : p = gen ∨ Less p id
  votes : ∀ x ∈ xs, x ≠ gen ∧ get g.es x = none ∧ ∃ q ∈ g.R x, q.role = 3
  len : xs.length ≤ 256

/-- The box of an unresolved block. -/
structure BoxAt (N : Nat → Prop) (w : World) (u : Nat) (id : ByteArray) (c : Int) (p : ByteArray) (vv : Value) (xs : List ByteArray) : Prop where
  box : w.heap[u]? = some (.cells #[.string id, .int .i64 c, .string p, vv] 42 (0, 0))
  row : Row N w 9 1 vv xs.length (strs xs)

def Boxes (N : Nat → Prop) (w : World) (g : SG) : Prop := ∀ (i : Nat) (r : VR), g.l[i]? = some r → r.par = -2 →
  ∃ u c p vv xs, get g.eu (i : Int) = some (.pointer (some ⟨u, 0, none⟩)) ∧ BoxAt N w u r.id c p vv xs ∧ UnOk g r.id p xs

structure StoreOk (A : SA) (N : Nat → Prop) (w : World) (g : SG) : Prop where
  at_ : StoreAt w A.s A.ch A.mi g.vs A.gp A.ms g.co A.mr A.mu
  index : MapAt Value.string w A.mi g.es
  slots : MapAt (Value.int .i64) w A.ms g.em
  refs : MapAt Value.string w A.mr g.er
  unres : MapAt (Value.int .i32) w A.mu g.eu
  once : Once g.er
  onceU : OnceI g.eu
  rok : RefsOk N w g.er g.R
  vrow : Row N w 122 10 g.vs g.l.length (vrs g.l)
  crow : Row N w 3 1 g.co g.cs.length (i64s g.cs)
  sok : SlotsOk g.em g.cs
  boxes : Boxes N w g
  plain : Plain g

theorem BoxAt.kept {N : Nat → Prop} {w w' : World} {u : Nat} {id : ByteArray} {c : Int} {p : ByteArray} {vv : Value} {xs : List ByteArray} (h : BoxAt N w u id c p vv xs) {W : List TypeId} {M : List Nat} (hf : Fr N W M w w') (h1 : 42 ∉ W) (h2 : 9 ∉ W) : BoxAt N w' u id c p vv xs :=
  ⟨hf.keepC _ _ _ _ h.box h1, h.row.kept hf h2⟩

/-- The store is as it was. -/
theorem StoreOk.kept {A : SA} {N : Nat → Prop} {w w' : World} {g : SG} (h : StoreOk A N w g) {W : List TypeId} {M : List Nat} (hf : Fr N W M w w') (hW : ∀ e ∈ W, e ∉ [83, 103, 122, 3, 42, 9]) (hM : ∀ m ∈ M, m ∉ [A.mi, A.ms, A.mr, A.mu]) : StoreOk A N w' g := by
  have k : ∀ e, e ∈ [83, 103, 122, 3, 42, 9] → e ∉ W := fun e he hh => hW e hh he
  have m : ∀ x, x ∈ [A.mi, A.ms, A.mr, A.mu] → x ∉ M := fun x hx hh => hM x hh hx
  refine ⟨hf.keepC _ _ _ _ h.at_ (k _ (by simp)), h.index.kept hf (m _ (by simp)), h.slots.kept hf (m _ (by simp)), h.refs.kept hf (m _ (by simp)), h.unres.kept hf (m _ (by simp)), h.once, h.onceU, h.rok.kept hf (k _ (by simp)), h.vrow.kept hf (k _ (by simp)), h.crow.kept hf (k _ (by simp)), h.sok, ?_, h.plain⟩
  intro i r hi hp
  obtain ⟨u, c, p, vv, xs, h1, h2, h3⟩ := h.boxes i r hi hp
  exact ⟨u, c, p, vv, xs, h1, h2.kept hf (k _ (by simp)) (k _ (by simp)), h3⟩

/-- A write into a block that is younger than w. -/
theorem Fr.setFresh {N : Nat → Prop} {W : List TypeId} {M : List Nat} {w w1 : World} (h : Fr N W M w w1) {k o : Nat} {v : Value} (hk : w.heap.size ≤ k) : Fr N W M w (w1.setCell ⟨k, o, none⟩ v) := by
  have key : ∀ j, j < w.heap.size → (w1.setCell ⟨k, o, none⟩ v).heap[j]? = w1.heap[j]? := fun j hj => heap_setCell_other w1 (by omega)
  refine ⟨h.os, h.tape, h.output, by simpa using h.size, fun j hj hn => (key j hj).trans (h.old j hj hn), fun j c e f hj he => (key j ?_).trans (h.keepC j c e f hj he), fun j es cl hj hm => (key j ?_).trans (h.keepM j es cl hj hm), fun j c e f hj => ?_⟩
  · exact (Array.getElem?_eq_some_iff.1 hj).1
  · exact (Array.getElem?_eq_some_iff.1 hj).1
  · obtain ⟨c', h1, h2⟩ := h.shape j c e f hj
    exact ⟨c', (key j (Array.getElem?_eq_some_iff.1 hj).1).trans h1, h2⟩

theorem nameB_inj {j k : Nat} (hj : j < 4) (hk : k < 4) (h : nameB j = nameB k) : j = k := by
  rcases (by omega : j = 0 ∨ j = 1 ∨ j = 2 ∨ j = 3) with rfl | rfl | rfl | rfl <;> rcases (by omega : k = 0 ∨ k = 1 ∨ k = 2 ∨ k = 3) with rfl | rfl | rfl | rfl <;> first | rfl | (exfalso; revert h; decide)
theorem nameB_ne_gen {k : Nat} (hk : k < 4) : nameB k ≠ gen := by
  rcases (by omega : k = 0 ∨ k = 1 ∨ k = 2 ∨ k = 3) with rfl | rfl | rfl | rfl <;> decide
theorem nameB_ne_empty {k : Nat} (hk : k < 4) : nameB k ≠ ⟨#[]⟩ := by
  rcases (by omega : k = 0 ∨ k = 1 ∨ k = 2 ∨ k = 3) with rfl | rfl | rfl | rfl <;> decide

/-- The store keeps its blocks apart from those that others have made since. -/
theorem Row.grow {N N' : Nat → Prop} {w : World} {e : TypeId} {sz : Nat} {v : Value} {n : Nat} {xs : List Value} (h : Row N w e sz v n xs) (hN : ∀ k, N' k → N k ∨ w.heap.size ≤ k) : Row N' w e sz v n xs :=
  ⟨h.1, fun k hk hn => by
    rcases hN k hn with h1 | h1
    · exact h.2 k hk h1
    · have := h.lt k hk
      omega⟩
theorem StoreOk.grow {A : SA} {N N' : Nat → Prop} {w : World} {g : SG} (h : StoreOk A N w g) (hN : ∀ k, N' k → N k ∨ w.heap.size ≤ k) : StoreOk A N' w g := by
  refine ⟨h.at_, h.index, h.slots, h.refs, h.unres, h.once, h.onceU, ⟨fun k => (h.rok.row k).grow hN, h.rok.apart⟩, h.vrow.grow hN, h.crow.grow hN, h.sok, ?_, h.plain⟩
  intro i r hi hp
  obtain ⟨u, c, p, vv, xs, h1, h2, h3⟩ := h.boxes i r hi hp
  exact ⟨u, c, p, vv, xs, h1, ⟨h2.box, h2.row.grow hN⟩, h3⟩
theorem SA.Ok.grow {A : SA} {N N' : Nat → Prop} {w : World} {g : SG} (h : A.Ok N) (hs : StoreOk A N w g) (hN : ∀ k, N' k → N k ∨ w.heap.size ≤ k) : A.Ok N' := by
  have key : ∀ k, k < w.heap.size → ¬ N k → ¬ N' k := fun k hk hn h' => by
    rcases hN k h' with h1 | h1
    · exact hn h1
    · omega
  exact ⟨key _ (Array.getElem?_eq_some_iff.1 hs.at_).1 h.s, key _ hs.index.lt h.mi, key _ hs.slots.lt h.ms, key _ hs.refs.lt h.mr, key _ hs.unres.lt h.mu, h.ir, h.is, h.iu, h.rs, h.ru, h.su⟩

/-- The chains of the blocks that the store knows. -/
def kcOf (g : SG) (k : ByteArray) : Option Int := match get g.es k with
  | some (.int _ i) => (g.l[i.toNat]?).bind fun r => g.cs[r.slot]?
  | _ => none
theorem Plain.knows {g : SG} (h : Plain g) : Knows g.es g.l g.cs (kcOf g) := by
  intro k
  cases hk : get g.es k with
  | none => exact .inl ⟨rfl, by unfold kcOf; rw [hk]⟩
  | some v =>
    obtain ⟨i, r, rfl, h1, h2⟩ := (h.index k v).1 hk
    have h3 := h.slot i r h1
    exact .inr ⟨i, r, g.cs[r.slot], rfl, h1, List.getElem?_eq_getElem h3, by unfold kcOf; rw [hk]; simp [h1, h3]⟩
theorem Plain.len {g : SG} (h : Plain g) : g.l.length ≤ 4 := by
  have := h.cnt
  have b : ∀ x : Bool, x.toNat ≤ 1 := fun x => by cases x <;> simp
  have := b (known g.es 0)
  have := b (known g.es 1)
  have := b (known g.es 2)
  have := b (known g.es 3)
  omega
/-- One more is known. -/
theorem known_put (es : List (ByteArray × Value)) {k : Nat} (hk : k < 4) (v : Value) (hn : get es (nameB k) = none) :
    (known (put (nameB k) v es) 0).toNat + (known (put (nameB k) v es) 1).toNat + (known (put (nameB k) v es) 2).toNat + (known (put (nameB k) v es) 3).toNat = (known es 0).toNat + (known es 1).toNat + (known es 2).toNat + (known es 3).toNat + 1 := by
  have key : ∀ j, j < 4 → known (put (nameB k) v es) j = if j = k then true else known es j := by
    intro j hj
    unfold known
    by_cases e : j = k
    · subst e
      rw [get_put_same, if_pos rfl]
      rfl
    · rw [get_put_other _ _ _ (fun h => e (nameB_inj hj hk h)), if_neg e]
  have h0 : known es k = false := by unfold known; rw [hn]; rfl
  rw [key 0 (by omega), key 1 (by omega), key 2 (by omega), key 3 (by omega)]
  rcases (by omega : k = 0 ∨ k = 1 ∨ k = 2 ∨ k = 3) with rfl | rfl | rfl | rfl <;> simp [h0] <;> omega

/-- The references of a voter block. -/
def mkRefs (id : ByteArray) (c : Int) (p : ByteArray) (xs : List ByteArray) : List RF := ⟨id, p, 2, c⟩ :: xs.map fun x => ⟨id, x, 3, 0⟩
theorem mkRefs_len (id : ByteArray) (c : Int) (p : ByteArray) (xs : List ByteArray) : (mkRefs id c p xs).length = xs.length + 1 := by simp [mkRefs]
theorem mkRefs_roles (id : ByteArray) (c : Int) (p : ByteArray) (xs : List ByteArray) : ∀ r ∈ mkRefs id c p xs, r.role = 2 ∨ r.role = 3 := by
  intro r hr
  simp only [mkRefs, List.mem_cons, List.mem_map] at hr
  rcases hr with rfl | ⟨x, _, rfl⟩
  · exact .inl rfl
  · exact .inr rfl

theorem fileR_roles (kn : ByteArray → Bool) : ∀ (refs : List RF) (R : ByteArray → List RF), (∀ r ∈ refs, r.role = 2 ∨ r.role = 3) → (∀ k, ∀ r ∈ R k, r.role = 2 ∨ r.role = 3) → ∀ k, ∀ r ∈ fileR kn R refs k, r.role = 2 ∨ r.role = 3
  | [], R, _, h => h
  | q :: refs, R, h1, h2 => by
    refine fileR_roles kn refs (fileStep kn R q) (fun r hr => h1 r (by simp [hr])) ?_
    intro k r hr
    unfold fileStep at hr
    split at hr
    · exact h2 k r hr
    · unfold upd at hr
      split at hr
      · simp at hr
        rcases hr with hr | rfl
        · exact h2 _ r hr
        · exact h1 r (by simp)
      · exact h2 k r hr
/-- What lay there lies there. -/
theorem fileR_mono (kn : ByteArray → Bool) : ∀ (refs : List RF) (R : ByteArray → List RF) (k : ByteArray) (r : RF), r ∈ R k → r ∈ fileR kn R refs k
  | [], _, _, _, h => h
  | q :: refs, R, k, r, h => by
    refine fileR_mono kn refs (fileStep kn R q) k r ?_
    unfold fileStep
    split
    · exact h
    · unfold upd
      split
      · rename_i e
        rw [e] at h
        simp [h]
      · exact h
/-- .. and what is named anew. -/
theorem fileR_mem (kn : ByteArray → Bool) : ∀ (refs : List RF) (R : ByteArray → List RF) (r : RF), r ∈ refs → kn r.t = false → r.t ≠ gen → r ∈ fileR kn R refs r.t
  | [], _, _, h, _, _ => by simp at h
  | q :: refs, R, r, h, h1, h2 => by
    simp at h
    rcases h with rfl | h
    · refine fileR_mono kn refs (fileStep kn R r) r.t r ?_
      unfold fileStep
      rw [if_neg (by simp [h1, h2])]
      simp [upd]
    · exact fileR_mem kn refs (fileStep kn R q) r h h1 h2
end Go.Proofs.YbulkkeiFmt
