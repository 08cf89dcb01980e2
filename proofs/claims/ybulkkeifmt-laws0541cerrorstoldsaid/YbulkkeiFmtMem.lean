/-
  MEMORY, for the walks of this seat: a frame by the blocks' element types; maps keyed by strings and integers as lists of pairs. No Go text in sight.
-/
import Derived.WalkKit
import Derived.WalkSpells
import Derived.Below
import Derived.WalkSmall
import Derived.Laws.AppendOwn
import Derived.Maps.Own
import Derived.Maps.OwnSet
namespace Go.Proofs.YbulkkeiFmt
open Go.RowKit

/-- What may have turned: nothing in N ('not ours'); of the blocks of cells those of an element type in W alone; of the maps those in M alone. -/
structure Fr (N : Nat → Prop) (W : List TypeId) (M : List Nat) (w w' : World) : Prop where
  os : w'.os = w.os
  tape : w'.tape = w.tape
  output : w'.output = w.output
  size : w.heap.size ≤ w'.heap.size
  old : ∀ k, k < w.heap.size → N k → w'.heap[k]? = w.heap[k]?
  keepC : ∀ (k : Nat) (c : Array Value) (e : TypeId) (f : Nat × Nat), w.heap[k]? = some (Obj.cells c e f) → e ∉ W → w'.heap[k]? = some (Obj.cells c e f)
  keepM : ∀ (k : Nat) (es : Array MapEntry) (cl : Nat), w.heap[k]? = some (Obj.map es cl) → k ∉ M → w'.heap[k]? = some (Obj.map es cl)
  shape : ∀ (k : Nat) (c : Array Value) (e : TypeId) (f : Nat × Nat), w.heap[k]? = some (Obj.cells c e f) → ∃ c' : Array Value, w'.heap[k]? = some (Obj.cells c' e f) ∧ c'.size = c.size

section
variable {N : Nat → Prop} {W W' : List TypeId} {M M' : List Nat} {w w' w1 w2 : World}

theorem Fr.refl (N : Nat → Prop) (W : List TypeId) (M : List Nat) (w : World) : Fr N W M w w :=
  ⟨rfl, rfl, rfl, Nat.le_refl _, fun _ _ _ => rfl, fun _ _ _ _ h _ => h, fun _ _ _ h _ => h, fun _ c _ _ h => ⟨c, h, rfl⟩⟩

theorem Fr.trans (h1 : Fr N W M w w1) (h2 : Fr N W M w1 w2) : Fr N W M w w2 :=
  ⟨h2.os.trans h1.os, h2.tape.trans h1.tape, h2.output.trans h1.output, Nat.le_trans h1.size h2.size, fun k hk hN => (h2.old k (Nat.lt_of_lt_of_le hk h1.size) hN).trans (h1.old k hk hN),
    fun k c e f h he => h2.keepC k c e f (h1.keepC k c e f h he) he, fun k es cl h hk => h2.keepM k es cl (h1.keepM k es cl h hk) hk,
    fun k c e f h => by
      obtain ⟨c1, a1, b1⟩ := h1.shape k c e f h
      obtain ⟨c2, a2, b2⟩ := h2.shape k c1 e f a1
      exact ⟨c2, a2, b2.trans b1⟩⟩

theorem Fr.mono {N' : Nat → Prop} (h : Fr N W M w w') (hN : ∀ k, N' k → N k) (hW : ∀ e, e ∈ W → e ∈ W') (hM : ∀ k, k ∈ M → k ∈ M') : Fr N' W' M' w w' :=
  ⟨h.os, h.tape, h.output, h.size, fun k hk hn => h.old k hk (hN k hn), fun k c e f hk he => h.keepC k c e f hk (fun hh => he (hW e hh)), fun k es cl hk hh => h.keepM k es cl hk (fun hm => hh (hM k hm)), h.shape⟩
theorem Fr.wider (h : Fr N W M w w') (hW : ∀ e, e ∈ W → e ∈ W') (hM : ∀ k, k ∈ M → k ∈ M') : Fr N W' M' w w' := h.mono (fun _ h => h) hW hM

/-- A new block. -/
theorem Fr.alloc (h : Fr N W M w w1) (o : Obj) : Fr N W M w (w1.alloc o) := by
  refine h.trans ⟨rfl, rfl, rfl, by simp, fun k hk _ => Below.heap_alloc w1 o k hk, fun k c e f hk _ => ?_, fun k es cl hk _ => ?_, fun k c e f hk => ⟨c, ?_, rfl⟩⟩
  all_goals
    have hlt : k < w1.heap.size := (Array.getElem?_eq_some_iff.1 hk).1
    exact (Below.heap_alloc w1 o k hlt).trans hk

theorem Fr.drew (h : Fr N W M w w1) : Fr N W M w w1.drew := ⟨h.os, h.tape, h.output, h.size, h.old, h.keepC, h.keepM, h.shape⟩
theorem Fr.drewN (h : Fr N W M w w1) (n : Nat) : Fr N W M w (w1.drewN n) := ⟨h.os, h.tape, h.output, h.size, h.old, h.keepC, h.keepM, h.shape⟩

/-- Nothing old has turned. -/
theorem Fr.of_below (h : Below w.heap.size w w') : Fr N W M w w' := by
  refine ⟨h.os, h.tape, h.output, h.size, fun k hk _ => h.block k hk, fun k c e f hk _ => ?_, fun k es cl hk _ => ?_, fun k c e f hk => ⟨c, ?_, rfl⟩⟩
  all_goals
    have hlt : k < w.heap.size := (Array.getElem?_eq_some_iff.1 hk).1
    exact (h.block k hlt).trans hk

/-- A block of a kept type. -/
theorem Fr.cell (h : Fr N W M w w') {k o : Nat} {c : Array Value} {e : TypeId} {f : Nat × Nat} (hk : w.heap[k]? = some (.cells c e f)) (he : e ∉ W) : w'.cell? ⟨k, o, none⟩ = w.cell? ⟨k, o, none⟩ := by
  simp [World.cell?, hk, h.keepC k c e f hk he]

/-- One cell is written. -/
theorem heap_setCell_same (w : World) {k o : Nat} {v : Value} {c : Array Value} {e : TypeId} {f : Nat × Nat} (hk : w.heap[k]? = some (.cells c e f)) :
    (w.setCell ⟨k, o, none⟩ v).heap[k]? = some (.cells (c.setIfInBounds o v) e f) := by
  simp [World.setCell, Array.getElem?_modify, hk]
theorem heap_setCell_other (w : World) {k o j : Nat} {v : Value} (hj : j ≠ k) : (w.setCell ⟨k, o, none⟩ v).heap[j]? = w.heap[j]? := Below.heap_setCell w ⟨k, o, none⟩ v j hj
theorem Fr.block (h : Fr N W M w w1) {k : Nat} {c : Array Value} {e : TypeId} {f : Nat × Nat} (hk : w1.heap[k]? = some (.cells c e f)) (he : e ∈ W) (hN : ¬ N k) {c' : Array Value} (hs : c'.size = c.size)
    (h2 : w2.heap[k]? = some (.cells c' e f)) (ho : ∀ j, j ≠ k → w2.heap[j]? = w1.heap[j]?) (hsz : w2.heap.size = w1.heap.size) (h3 : w2.os = w1.os) (h4 : w2.tape = w1.tape) (h5 : w2.output = w1.output) : Fr N W M w w2 := by
  refine h.trans ⟨h3, h4, h5, by omega, fun j _ hj => ho j (fun e => hN (e ▸ hj)), fun j c1 e1 f1 hj he' => ?_, fun j es cl hj _ => ?_, fun j c1 e1 f1 hj => ?_⟩
  · by_cases hjk : j = k
    · subst hjk
      rw [hk] at hj
      cases hj
      exact absurd he he'
    · exact (ho j hjk).trans hj
  · by_cases hjk : j = k
    · subst hjk
      rw [hk] at hj
      cases hj
    · exact (ho j hjk).trans hj
  · by_cases hjk : j = k
    · subst hjk
      rw [hk] at hj
      cases hj
      exact ⟨_, h2, hs⟩
    · exact ⟨c1, (ho j hjk).trans hj, rfl⟩
theorem Fr.setCell (h : Fr N W M w w1) {k o : Nat} {v : Value} {c : Array Value} {e : TypeId} {f : Nat × Nat} (hk : w1.heap[k]? = some (.cells c e f)) (he : e ∈ W) (hN : ¬ N k) : Fr N W M w (w1.setCell ⟨k, o, none⟩ v) :=
  h.block hk he hN (c' := c.setIfInBounds o v) (by simp) (heap_setCell_same w1 hk) (fun _ hj => heap_setCell_other w1 hj) (by simp) rfl rfl rfl
end

/-! ### Maps, as lists of pairs -/
section
variable {κ : Type} [DecidableEq κ]

def locate (k : κ) : List (κ × Value) → Nat → Option (Nat × Value)
  | [], _ => none
  | p :: es, i => if k = p.1 then some (i, p.2) else locate k es (i + 1)
def get (es : List (κ × Value)) (k : κ) : Option Value := (locate k es 0).map (·.2)
def put (k : κ) (v : Value) : List (κ × Value) → List (κ × Value)
  | [] => [(k, v)]
  | p :: es => if k = p.1 then (k, v) :: es else p :: put k v es
def del (k : κ) : List (κ × Value) → List (κ × Value)
  | [] => []
  | p :: es => if k = p.1 then es else p :: del k es

theorem locate_shift (k : κ) : ∀ (es : List (κ × Value)) (i j : Nat), locate k es (i + j) = (locate k es i).map fun p => (p.1 + j, p.2)
  | [], _, _ => rfl
  | p :: es, i, j => by
    unfold locate
    split
    · rfl
    · rw [show i + j + 1 = (i + 1) + j by omega, locate_shift k es (i + 1) j]
theorem get_nil (k : κ) : get ([] : List (κ × Value)) k = none := rfl
theorem get_cons (p : κ × Value) (es : List (κ × Value)) (k : κ) : get (p :: es) k = if k = p.1 then some p.2 else get es k := by
  have e : locate k (p :: es) 0 = if k = p.1 then some (0, p.2) else locate k es (0 + 1) := rfl
  unfold get
  rw [e]
  split
  · rfl
  · rw [locate_shift k es 0 1]
    cases locate k es 0 <;> rfl
theorem get_put_same (k : κ) (v : Value) : ∀ es : List (κ × Value), get (put k v es) k = some v
  | [] => by rw [put, get_cons, if_pos rfl]
  | p :: es => by
    unfold put
    split
    · rw [get_cons, if_pos rfl]
    · rename_i h
      rw [get_cons, if_neg h, get_put_same k v es]
theorem get_put_other (k j : κ) (v : Value) (h : j ≠ k) : ∀ es : List (κ × Value), get (put k v es) j = get es j
  | [] => by rw [put, get_cons, if_neg h]
  | p :: es => by
    unfold put
    split
    · rename_i hk
      rw [get_cons, get_cons, if_neg h, if_neg (by rw [← hk]; exact h)]
    · rw [get_cons, get_cons, get_put_other k j v h es]
theorem get_del_other (k j : κ) (h : j ≠ k) : ∀ es : List (κ × Value), get (del k es) j = get es j
  | [] => rfl
  | p :: es => by
    unfold del
    split
    · rename_i hk
      rw [get_cons, if_neg (by rw [← hk]; exact h)]
    · rw [get_cons, get_cons, get_del_other k j h es]

/-- The keys' type. -/
structure KK (P : Program) (kt : TypeId) (kind : TypeDesc) (ι : κ → Value) : Prop where
  und : P.underlying kt = some kind
  same : ∀ a b, Instr.sameNow kind (ι a) (ι b) = some (decide (a = b))
  bits : ∀ a, Instr.sameBits 10000 (ι a) (ι a) = true
  chk : ∀ (e : Bool) (k : κ) (w : World), (Instr.checkKey e 10000 kt (ι k)).run P w = .ok () w

/-- Block m is a map that holds just these pairs. -/
def MapAt (ι : κ → Value) (w : World) (m : Nat) (es : List (κ × Value)) : Prop :=
  ∃ (arr : Array MapEntry) (clock : Nat), w.heap[m]? = some (Obj.map arr clock) ∧ arr.toList.map (fun e => (e.key, e.val)) = es.map (fun p => (ι p.1, p.2))

variable {P : Program} {kt : TypeId} {kind : TypeDesc} {ι : κ → Value}

theorem findNow_eq (K : KK P kt kind ι) (k : κ) : ∀ (l : List MapEntry) (es : List (κ × Value)) (i : Nat), l.map (fun e => (e.key, e.val)) = es.map (fun p => (ι p.1, p.2)) → Instr.findNow kind (ι k) l i = some (locate k es i)
  | [], [], _, _ => rfl
  | [], _ :: _, _, h => by simp at h
  | _ :: _, [], _, h => by simp at h
  | e :: l, p :: es, i, h => by
    simp only [List.map_cons, List.cons.injEq, Prod.mk.injEq] at h
    obtain ⟨⟨h1, h2⟩, h3⟩ := h
    unfold Instr.findNow locate
    rw [h1, K.same]
    by_cases hk : k = p.1
    · simp [hk, h2]
    · simp [hk, findNow_eq K k l es (i + 1) h3]

theorem run_findKey_eq (K : KK P kt kind ι) (k : κ) (l : List MapEntry) (es : List (κ × Value)) (w : World) (h : l.map (fun e => (e.key, e.val)) = es.map (fun p => (ι p.1, p.2))) :
    (Instr.findKey kt (ι k) l).run P w = .ok (locate k es 0) w := by
  unfold Instr.findKey
  simp [run_underlying K.und, findNow_eq K k l es 0 h]

theorem run_look_ok (K : KK P kt kind ι) {T e : TypeId} (hT : P.underlying T = some (.map kt e)) {z : Value} (hz : ∀ w, (zeroValue e).run P w = .ok z w) {w : World} {m : Nat} {es : List (κ × Value)} (h : MapAt ι w m es) (k : κ) :
    (Instr.lookup T (.map (some m)) (ι k) true).run P w = .ok (.tuple #[(get es k).getD z, .bool (get es k).isSome]) w := by
  obtain ⟨arr, clock, hb, hl⟩ := h
  have hf := run_findKey_eq K k arr.toList es w hl
  unfold Instr.lookup get
  cases hloc : locate k es 0 with
  | none => rw [hloc] at hf; simp [run_underlying hT, MapKept.run_getObj_map hb, K.chk, hf, hz]
  | some p => rw [hloc] at hf; simp [run_underlying hT, MapKept.run_getObj_map hb, K.chk, hf]

theorem run_look (K : KK P kt kind ι) {T e : TypeId} (hT : P.underlying T = some (.map kt e)) {z : Value} (hz : ∀ w, (zeroValue e).run P w = .ok z w) {w : World} {m : Nat} {es : List (κ × Value)} (h : MapAt ι w m es) (k : κ) :
    (Instr.lookup T (.map (some m)) (ι k) false).run P w = .ok ((get es k).getD z) w := by
  obtain ⟨arr, clock, hb, hl⟩ := h
  have hf := run_findKey_eq K k arr.toList es w hl
  unfold Instr.lookup get
  cases hloc : locate k es 0 with
  | none => rw [hloc] at hf; simp [run_underlying hT, MapKept.run_getObj_map hb, K.chk, hf, hz]
  | some p => rw [hloc] at hf; simp [run_underlying hT, MapKept.run_getObj_map hb, K.chk, hf]

theorem modify_put (k : κ) (v : Value) : ∀ (l : List MapEntry) (es : List (κ × Value)) (i : Nat) (u : Value), l.map (fun e => (e.key, e.val)) = es.map (fun p => (ι p.1, p.2)) → locate k es 0 = some (i, u) →
    (l.modify i fun e => { e with key := ι k, val := v }).map (fun e => (e.key, e.val)) = (put k v es).map (fun p => (ι p.1, p.2))
  | _, [], i, u, _, hl => by simp [locate] at hl
  | [], _ :: _, i, u, h, _ => by simp at h
  | e :: l, p :: es, i, u, h, hl => by
    have el : locate k (p :: es) 0 = if k = p.1 then some (0, p.2) else locate k es (0 + 1) := rfl
    rw [el] at hl
    simp only [List.map_cons, List.cons.injEq] at h
    unfold put
    by_cases hk : k = p.1
    · rw [if_pos hk] at hl ⊢
      cases hl
      simp [h.2]
    · rw [if_neg hk] at hl ⊢
      rw [locate_shift k es 0 1] at hl
      cases hloc : locate k es 0 with
      | none => rw [hloc] at hl; simp at hl
      | some q =>
        rw [hloc] at hl
        simp only [Option.map_some, Option.some.injEq, Prod.mk.injEq] at hl
        obtain ⟨h1, h2⟩ := hl
        subst h1
        have ih := modify_put k v l es q.1 q.2 h.2 hloc
        simp only [List.modify_succ_cons, List.map_cons, List.cons.injEq]
        exact ⟨h.1, ih⟩
theorem push_put (k : κ) (v : Value) : ∀ (es : List (κ × Value)), locate k es 0 = none → put k v es = es ++ [(k, v)]
  | [], _ => rfl
  | p :: es, hl => by
    have el : locate k (p :: es) 0 = if k = p.1 then some (0, p.2) else locate k es (0 + 1) := rfl
    rw [el] at hl
    unfold put
    by_cases hk : k = p.1
    · rw [if_pos hk] at hl; cases hl
    · rw [if_neg hk] at hl ⊢
      rw [locate_shift k es 0 1] at hl
      cases hloc : locate k es 0 with
      | none => rw [push_put k v es hloc]; rfl
      | some q => rw [hloc] at hl; cases hl
theorem erase_del (k : κ) : ∀ (l : List MapEntry) (es : List (κ × Value)) (i : Nat) (u : Value), l.map (fun e => (e.key, e.val)) = es.map (fun p => (ι p.1, p.2)) → locate k es 0 = some (i, u) →
    (l.eraseIdx i).map (fun e => (e.key, e.val)) = (del k es).map (fun p => (ι p.1, p.2)) ∧ i < l.length
  | _, [], i, u, _, hl => by simp [locate] at hl
  | [], _ :: _, i, u, h, _ => by simp at h
  | e :: l, p :: es, i, u, h, hl => by
    have el : locate k (p :: es) 0 = if k = p.1 then some (0, p.2) else locate k es (0 + 1) := rfl
    rw [el] at hl
    simp only [List.map_cons, List.cons.injEq] at h
    unfold del
    by_cases hk : k = p.1
    · rw [if_pos hk] at hl ⊢
      cases hl
      simp [h.2]
    · rw [if_neg hk] at hl ⊢
      rw [locate_shift k es 0 1] at hl
      cases hloc : locate k es 0 with
      | none => rw [hloc] at hl; simp at hl
      | some q =>
        rw [hloc] at hl
        simp only [Option.map_some, Option.some.injEq, Prod.mk.injEq] at hl
        obtain ⟨h1, h2⟩ := hl
        subst h1
        have ih := erase_del k l es q.1 q.2 h.2 hloc
        simp only [List.eraseIdx_cons_succ, List.map_cons, List.length_cons]
        exact ⟨by rw [h.1, ih.1], by omega⟩
theorem del_none (k : κ) : ∀ (es : List (κ × Value)), locate k es 0 = none → del k es = es
  | [], _ => rfl
  | p :: es, hl => by
    have el : locate k (p :: es) 0 = if k = p.1 then some (0, p.2) else locate k es (0 + 1) := rfl
    rw [el] at hl
    unfold del
    by_cases hk : k = p.1
    · rw [if_pos hk] at hl; cases hl
    · rw [if_neg hk] at hl ⊢
      rw [locate_shift k es 0 1] at hl
      cases hloc : locate k es 0 with
      | none => rw [del_none k es hloc]
      | some q => rw [hloc] at hl; cases hl

/-- One map block has turned, and nothing else. -/
structure MapSet (m : Nat) (w w' : World) : Prop where
  os : w'.os = w.os
  tape : w'.tape = w.tape
  output : w'.output = w.output
  size : w'.heap.size = w.heap.size
  other : ∀ k, k ≠ m → w'.heap[k]? = w.heap[k]?
  wasMap : ∃ (arr : Array MapEntry) (clock : Nat), w.heap[m]? = some (Obj.map arr clock)

theorem mapSet_of {w : World} {m : Nat} {arr : Array MapEntry} {clock : Nat} (hb : w.heap[m]? = some (Obj.map arr clock)) (o : Obj) : MapSet m w { w with heap := w.heap.setIfInBounds m o } :=
  ⟨rfl, rfl, rfl, by simp, fun k hk => (MapKept.heap_set (o' := o) hb).2 k hk, ⟨arr, clock, hb⟩⟩

theorem run_update (K : KK P kt kind ι) {T e : TypeId} (hT : P.underlying T = some (.map kt e)) {w : World} {m : Nat} {es : List (κ × Value)} (h : MapAt ι w m es) (k : κ) (v : Value) :
    ∃ w', (Instr.mapUpdate T (.map (some m)) (ι k) v).run P w = .ok () w' ∧ MapAt ι w' m (put k v es) ∧ MapSet m w w' := by
  obtain ⟨arr, clock, hb, hl⟩ := h
  have hf := run_findKey_eq K k arr.toList es w hl
  cases hloc : locate k es 0 with
  | none =>
    rw [hloc] at hf
    refine ⟨_, by unfold Instr.mapUpdate; simp [run_underlying hT, MapKept.run_getObj_map hb, K.chk, hf, MapKept.run_setObj_map _ hb]; rfl, ⟨_, _, (MapKept.heap_set hb).1, ?_⟩, mapSet_of hb _⟩
    rw [push_put k v es hloc]
    simp [hl]
  | some q =>
    rw [hloc] at hf
    obtain ⟨i, u⟩ := q
    have hki : (((arr[i]?).map (·.key)).getD (ι k)) = ι k := by
      have hlen : arr.toList.map (fun e => (e.key, e.val)) = es.map (fun p => (ι p.1, p.2)) := hl
      have : ∀ (l : List MapEntry) (es : List (κ × Value)) (i : Nat) (u : Value), l.map (fun e => (e.key, e.val)) = es.map (fun p => (ι p.1, p.2)) → locate k es 0 = some (i, u) → (l[i]?.map (·.key)).getD (ι k) = ι k := by
        intro l
        induction l with
        | nil => intro es i u _ _; simp
        | cons e l ih =>
          intro es i u h hl
          cases es with
          | nil => simp at h
          | cons p es =>
            have el : locate k (p :: es) 0 = if k = p.1 then some (0, p.2) else locate k es (0 + 1) := rfl
            rw [el] at hl
            simp only [List.map_cons, List.cons.injEq, Prod.mk.injEq] at h
            by_cases hk : k = p.1
            · rw [if_pos hk] at hl
              cases hl
              simp [h.1.1, hk]
            · rw [if_neg hk, locate_shift k es 0 1] at hl
              cases hloc : locate k es 0 with
              | none => rw [hloc] at hl; simp at hl
              | some q =>
                rw [hloc] at hl
                simp only [Option.map_some, Option.some.injEq, Prod.mk.injEq] at hl
                obtain ⟨h1, h2⟩ := hl
                subst h1
                simpa using ih es q.1 q.2 h.2 hloc
      have h2 := this arr.toList es i u hl hloc
      simpa using h2
    have hst : ∀ w, (Instr.keyThatStays (((arr[i]?).map (·.key)).getD (ι k)) (ι k)).run P w = .ok (ι k) w := by
      intro w
      rw [hki]
      unfold Instr.keyThatStays
      simp [K.bits]
    refine ⟨_, by unfold Instr.mapUpdate; simp only [run_underlying hT, MapKept.run_getObj_map hb, K.chk, hf, Sem.run_bind, Result.andThen_ok, hst, MapKept.run_setObj_map _ hb]; rfl, ⟨_, _, (MapKept.heap_set hb).1, ?_⟩, mapSet_of hb _⟩
    have := modify_put k v arr.toList es i u hl hloc
    simpa using this

theorem run_delete (K : KK P kt kind ι) {T e ty : TypeId} (hT : P.underlying T = some (.map kt e)) {w : World} {m : Nat} {es : List (κ × Value)} (h : MapAt ι w m es) (k : κ) :
    ∃ w', (Builtin.delete_ #[T, kt] ty #[.map (some m), ι k]).run P w = .ok (.tuple #[]) w' ∧ MapAt ι w' m (del k es) ∧ MapSet m w w' := by
  obtain ⟨arr, clock, hb, hl⟩ := h
  have hf := run_findKey_eq K k arr.toList es w hl
  cases hloc : locate k es 0 with
  | none =>
    rw [hloc] at hf
    refine ⟨_, by unfold Builtin.delete_; simp [run_underlying hT, MapKept.run_getObj_map hb, K.chk, hf, MapKept.run_setObj_map _ hb]; rfl, ⟨_, _, (MapKept.heap_set hb).1, ?_⟩, mapSet_of hb _⟩
    rw [del_none k es hloc]
    exact hl
  | some q =>
    rw [hloc] at hf
    obtain ⟨i, u⟩ := q
    obtain ⟨h1, h2⟩ := erase_del (ι := ι) k arr.toList es i u hl hloc
    refine ⟨_, by unfold Builtin.delete_; simp [run_underlying hT, MapKept.run_getObj_map hb, K.chk, hf, MapKept.run_setObj_map _ hb]; rfl, ⟨_, _, (MapKept.heap_set hb).1, ?_⟩, mapSet_of hb _⟩
    have hlt : i < arr.size := by simpa using h2
    simp only [Array.eraseIdxIfInBounds, dif_pos hlt, Array.toList_eraseIdx]
    exact h1
end

/-! ### Rows -/
theorem mod_back {j n s : Nat} (h : n * s ≤ j) : (j - n * s) % s = j % s := by
  obtain ⟨d, rfl⟩ := Nat.exists_eq_add_of_le h
  rw [Nat.add_sub_cancel_left, Nat.mul_comm, Nat.mul_add_mod]
/-- A row of ours: n elements of type e, their cells xs. -/
def Row (N : Nat → Prop) (w : World) (e : TypeId) (sz : Nat) (v : Value) (n : Nat) (xs : List Value) : Prop := w.ownsRow 0 e sz v n xs ∧ ∀ k, v.ownBlock = some k → ¬ N k
/-- Every cell of every block of ours of element type e, by its place in the element. -/
def Typed (N : Nat → Prop) (w : World) (e : TypeId) (sz : Nat) (Φ : Nat → Value → Prop) : Prop := ∀ (k : Nat) (c : Array Value) (f : Nat × Nat), ¬ N k → w.heap[k]? = some (Obj.cells c e f) → ∀ (j : Nat) (u : Value), c[j]? = some u → Φ (j % sz) u

section
variable {N : Nat → Prop} {W : List TypeId} {M : List Nat} {w w' : World} {e : TypeId} {sz : Nat} {v : Value} {n : Nat} {xs : List Value}
theorem Row.nil (N : Nat → Prop) (w : World) (e : TypeId) (sz : Nat) : Row N w e sz (.slice none 0 0) 0 [] := ⟨World.ownsRow_nil w 0 e sz, by simp [Value.ownBlock]⟩
theorem Row.kept (h : Row N w e sz v n xs) (hf : Fr N W M w w') (he : e ∉ W) : Row N w' e sz v n xs := by
  obtain ⟨⟨h1, h2⟩, h3⟩ := h
  refine ⟨⟨h1, ?_⟩, h3⟩
  rcases h2 with h2 | ⟨g, cap, cur, a1, a2, a3, a4⟩
  · exact .inl h2
  · exact .inr ⟨g, cap, cur, a1, a2, hf.keepC g cur e _ a3 he, a4⟩
/-- .. and where the row's block itself is as it was. -/
theorem Row.same (h : Row N w e sz v n xs) (hf : ∀ k, v.ownBlock = some k → w'.heap[k]? = w.heap[k]?) : Row N w' e sz v n xs := by
  obtain ⟨⟨h1, h2⟩, h3⟩ := h
  refine ⟨⟨h1, ?_⟩, h3⟩
  rcases h2 with h2 | ⟨g, cap, cur, a1, a2, a3, a4⟩
  · exact .inl h2
  · exact .inr ⟨g, cap, cur, a1, a2, (hf g (by rw [a1]; rfl)).trans a3, a4⟩
theorem Row.shape (h : Row N w e sz v n xs) {N' : Nat → Prop} (hf : Fr N' W M w w') : ∃ ys, Row N w' e sz v n ys := by
  obtain ⟨⟨h1, h2⟩, h3⟩ := h
  rcases h2 with h2 | ⟨g, cap, cur, a1, a2, a3, a4, a5, a6, a7⟩
  · exact ⟨xs, ⟨h1, .inl h2⟩, h3⟩
  · obtain ⟨c', b1, b2⟩ := hf.shape g cur e _ a3
    refine ⟨c'.toList.take (n * sz), ⟨?_, .inr ⟨g, cap, c', a1, a2, b1, a4, a5, b2.trans a6, rfl⟩⟩, h3⟩
    rw [List.length_take, Array.length_toList, b2, a6]
    exact Nat.min_eq_left (Nat.mul_le_mul_right _ a4)
theorem Row.lt (h : Row N w e sz v n xs) : ∀ k, v.ownBlock = some k → k < w.heap.size := fun k hk => (h.1.lt k hk).2
theorem Row.len (h : Row N w e sz v n xs) : xs.length = n * sz := h.1.1
theorem Row.form (h : Row N w e sz v n xs) (hn : 0 < n) : ∃ g cap cur, v = .slice (some ⟨g, 0, none⟩) n cap ∧ ¬ N g ∧ w.heap[g]? = some (.cells cur e (0, 0)) ∧ n ≤ cap ∧ cap ≤ maxLen ∧ cur.size = cap * sz ∧ cur.toList.take (n * sz) = xs := by
  obtain ⟨⟨h1, h2⟩, h3⟩ := h
  rcases h2 with h2 | ⟨g, cap, cur, a1, a2, a3, a4⟩
  · omega
  · exact ⟨g, cap, cur, a1, h3 g (by rw [a1]; rfl), a3, a4⟩
/-- The value, nil or not. -/
theorem Row.cases (h : Row N w e sz v n xs) : (v = .slice none 0 0 ∧ n = 0 ∧ xs = []) ∨ ∃ g cap cur, v = .slice (some ⟨g, 0, none⟩) n cap ∧ ¬ N g ∧ w.heap[g]? = some (.cells cur e (0, 0)) ∧ n ≤ cap ∧ cap ≤ maxLen ∧ cur.size = cap * sz ∧ cur.toList.take (n * sz) = xs := by
  obtain ⟨⟨h1, h2⟩, h3⟩ := h
  rcases h2 with h2 | ⟨g, cap, cur, a1, a2, a3, a4⟩
  · exact .inl ⟨h2.1, h2.2, List.eq_nil_of_length_eq_zero (by rw [h1, h2.2]; simp)⟩
  · exact .inr ⟨g, cap, cur, a1, h3 g (by rw [a1]; rfl), a3, a4⟩
theorem Row.cell (h : Row N w e sz v n xs) {g : Nat} (hg : v.ownBlock = some g) {j : Nat} {u : Value} (hj : xs[j]? = some u) : w.cell? ⟨g, j, none⟩ = some u := by
  have := h.1.cells hg j u hj
  rwa [show (⟨g, 0, none⟩ : Addr).add j = ⟨g, j, none⟩ by unfold Addr.add; split <;> simp_all] at this

theorem Typed.kept {Φ : Nat → Value → Prop} (h : Typed N w e sz Φ) (hf : ∀ k (c : Array Value) f, ¬ N k → w'.heap[k]? = some (Obj.cells c e f) → w.heap[k]? = some (Obj.cells c e f)) : Typed N w' e sz Φ :=
  fun k c f hN hk j u hj => h k c f hN (hf k c f hN hk) j u hj

section
variable {P : Program} (w)
/-- append of n more elements that lie at 'a'. -/
theorem run_append_row (t ty e : TypeId) (i : TypeInfo) (z : Value) (sz bytes : Nat) (ht : P.underlying t = some (.slice e)) (hi : P.info? e = some i) (hz : i.zero = some z)
    (hsize : i.size = sz) (hby : i.bytes = bytes) (hzs : z.cells.size = sz) (hsz : 0 < sz)
    (v : Value) (n : Nat) (xs : List Value) (hown : Row N w e sz v n xs) (hN : ∀ k, N k → k < w.heap.size)
    (a : Addr) (m c : Nat) (news : List Value) (hl : news.length = m * sz) (hnews : ∀ j u, news[j]? = some u → w.cell? (a.add j) = some u) (h1 : ∀ u ∈ news, u.oneCell' = true)
    (h63 : n + m ≤ maxLen) (hbytes : (n + m) * bytes ≤ 140737488355328) :
    ∃ v' w', (Builtin.append_ #[t, t] ty #[v, .slice (some a) m c]).run P w = .ok v' w' ∧ Row N w' e sz v' (n + m) (xs ++ news) ∧ Fr N [e] [] w w' ∧
      (∀ k, k < w.heap.size → some k ≠ v.ownBlock → w'.heap[k]? = w.heap[k]?) ∧
      (v'.ownBlock = v.ownBlock ∨ v'.ownBlock = some w.heap.size) ∧
      (∀ Φ : Nat → Value → Prop, Typed N w e sz Φ → (∀ (j : Nat) (u : Value), news[j]? = some u → Φ (j % sz) u) → (∀ (j : Nat) (u : Value), z.cells[j]? = some u → Φ (j % sz) u) → Typed N w' e sz Φ) := by
  subst hsize
  subst hby
  have hsmall : n + m ≤ 9223372036854775807 := by simp only [maxLen] at h63; omega
  have hlen : (xs ++ news).length = (n + m) * i.size := by rw [List.length_append, hown.len, hl, Nat.add_mul]
  have hnew : ¬ N w.heap.size := fun h => Nat.lt_irrefl _ (hN _ h)
  have hxs : ∀ Φ : Nat → Value → Prop, Typed N w e i.size Φ → ∀ (j : Nat) (u : Value), xs[j]? = some u → Φ (j % i.size) u := by
    intro Φ hT j u hj
    rcases hown.cases with ⟨_, _, hx⟩ | ⟨g, cap, cur, _, hg, hb, _, _, _, htk⟩
    · rw [hx] at hj; simp at hj
    · refine hT g cur _ hg hb j u ?_
      rw [← htk, List.getElem?_take] at hj
      split at hj
      · simpa using hj
      · cases hj
  have hcells : ∀ (Φ : Nat → Value → Prop) (K : Nat), Typed N w e i.size Φ → (∀ (j : Nat) (u : Value), news[j]? = some u → Φ (j % i.size) u) → (∀ (j : Nat) (u : Value), z.cells[j]? = some u → Φ (j % i.size) u) →
      ∀ (j : Nat) (u : Value), (xs.toArray ++ news.toArray ++ Builtin.zeroCells z.cells K)[j]? = some u → Φ (j % i.size) u := by
    intro Φ K hT hnw hzz j u hj
    rw [Array.getElem?_append] at hj
    split at hj
    · rw [Array.getElem?_append] at hj
      split at hj
      · exact hxs Φ hT j u (by simpa using hj)
      · have := hnw (j - xs.length) u (by simpa using hj)
        rename_i h1 h2
        simp at h2
        rwa [hown.len, show (j - n * i.size) % i.size = j % i.size by
          exact mod_back (by have := hown.len; omega)] at this
    · rename_i h1
      simp at h1
      have hb : (xs.toArray ++ news.toArray).size = (n + m) * i.size := by simpa using hlen
      rw [hb] at hj
      have e1 : ∀ (K : Nat) (q : Nat), (Builtin.zeroCells z.cells K)[q]? = some u → ∃ r, z.cells[r]? = some u ∧ r % i.size = q % i.size := by
        intro K q hq
        simp only [Builtin.zeroCells, Array.getElem?_map, Option.map_eq_some_iff] at hq
        obtain ⟨q', hq1, hq2⟩ := hq
        have hq3 : q' = q := by
          obtain ⟨hlt, hq4⟩ := Array.getElem?_eq_some_iff.1 hq1
          simp at hq4
          exact hq4.symm
        subst hq3
        have : q' % z.cells.size < z.cells.size := Nat.mod_lt _ (by rw [hzs]; exact hsz)
        refine ⟨q' % z.cells.size, ?_, by rw [hzs, Nat.mod_mod]⟩
        rw [Array.getElem?_eq_getElem this, ← hq2, getElem!_pos z.cells _ this]
      obtain ⟨r, hr1, hr2⟩ := e1 K _ hj
      have := hzz r u hr1
      have hge : (n + m) * i.size ≤ j := by rw [← hlen]; simp; omega
      rwa [hr2, show (j - (n + m) * i.size) % i.size = j % i.size by
          exact mod_back hge] at this
  have grown : ∀ (old : Nat), old < n + m →
      Row N (w.drew.alloc (.cells (xs.toArray ++ news.toArray ++ Builtin.zeroCells z.cells (grownCap w (n + m) old e - (n + m))) e)) e i.size
        (.slice (some ⟨w.heap.size, 0, none⟩) (n + m) (grownCap w (n + m) old e)) (n + m) (xs ++ news) := by
    intro old ho
    have hge := grownCap_ge w (n + m) old e
    have hcm : grownCap w (n + m) old e ≤ maxLen := grownCap_le_maxLen w (n + m) old e h63
    refine ⟨⟨hlen, .inr ⟨w.heap.size, _, _, rfl, Nat.zero_le _, heap_alloc_new w.drew _, hge, hcm, ?_, ?_⟩⟩, fun k hk => ?_⟩
    · simp only [Array.size_append, List.size_toArray, size_zeroCells, hzs, hown.len, hl, ← Nat.add_mul]
      congr 1
      omega
    · simp only [Array.toList_append, List.append_assoc]
      rw [← List.append_assoc, ← hlen]
      exact List.take_left
    · simp [Value.ownBlock] at hk
      subst hk
      exact hnew
  have typedNew : ∀ (K : Nat) (Φ : Nat → Value → Prop), Typed N w e i.size Φ → (∀ (j : Nat) (u : Value), news[j]? = some u → Φ (j % i.size) u) → (∀ (j : Nat) (u : Value), z.cells[j]? = some u → Φ (j % i.size) u) →
      Typed N (w.drew.alloc (.cells (xs.toArray ++ news.toArray ++ Builtin.zeroCells z.cells K) e)) e i.size Φ := by
    intro K Φ hT hnw hzz k c f hk hb j u hj
    rcases Nat.lt_or_ge k w.heap.size with hlt | hge
    · rw [Below.heap_alloc w.drew _ k hlt] at hb
      exact hT k c f hk hb j u hj
    · have hke : k = w.heap.size := by
        have := (Array.getElem?_eq_some_iff.1 hb).1
        simp at this
        omega
      subst hke
      have hb2 := heap_alloc_new w.drew (.cells (xs.toArray ++ news.toArray ++ Builtin.zeroCells z.cells K) e)
      rw [show w.drew.heap.size = w.heap.size from rfl] at hb2
      rw [hb2] at hb
      cases hb
      exact hcells Φ K hT hnw hzz j u hj
  have frNew : ∀ o : Obj, Fr N [e] [] w (w.drew.alloc o) := fun o => ((Fr.refl N [e] [] w).drew).alloc o
  rcases hown.cases with ⟨rfl, rfl, rfl⟩ | ⟨g, cap, cur, rfl, hbg, hg, hnc, hcm, hcs, htake⟩
  · by_cases hm : m = 0
    · subst hm
      have hn : news = [] := List.eq_nil_of_length_eq_zero (by simpa using hl)
      subst hn
      refine ⟨.slice none 0 0, w, ?_, Row.nil N w e i.size, Fr.refl .., fun _ _ _ => rfl, Or.inl rfl, fun _ h _ _ => h⟩
      simp [Builtin.append_, run_underlying ht, sizeOf, typeInfo, hi, Builtin.lenOf, Builtin.firstCells, loadCells, loadCellsFrom]
    · have hr := run_append_nil (P := P) w t ty e i z ht hi hz a m c news hl hnews (by omega) (by omega) (by have hb := hbytes; simp only [Nat.zero_add] at hb; omega)
      have hgr := grown 0 (by omega)
      have htn := typedNew (grownCap w (0 + m) 0 e - (0 + m))
      simp only [Nat.zero_add, List.nil_append, Array.empty_append] at hgr htn ⊢
      exact ⟨_, _, hr, hgr, frNew _, fun k hk _ => Below.heap_alloc w.drew _ k hk, Or.inr rfl, htn⟩
  · by_cases hroom : n + m ≤ cap
    · have hfit : n * i.size + news.length ≤ cur.size := by rw [hl, hcs, ← Nat.add_mul]; exact Nat.mul_le_mul_right _ hroom
      have hr := run_append_room (P := P) w t ty e i ht hi g n cap cur hg a m c news hl hnews h1 hroom hfit
      have hs : (cur.toList.take (n * i.size) ++ news ++ cur.toList.drop (n * i.size + news.length)).toArray.size = cur.size := by
        simp only [List.size_toArray, List.length_append, List.length_take, List.length_drop, Array.length_toList]
        omega
      refine ⟨_, _, hr, ⟨⟨hlen, .inr ⟨g, cap, _, rfl, Nat.zero_le _, setRow_heap w g cur _ e _ hg, hroom, hcm, hs.trans hcs, ?_⟩⟩, fun k hk => ?_⟩,
        (Fr.refl N [e] [] w).block hg (by simp) hbg hs (setRow_heap w g cur _ e _ hg) (fun k hk => setRow_other w g k _ hk) (by simp) rfl rfl rfl,
        fun k _ hk => setRow_other w g k _ (fun e => hk (by simp [Value.ownBlock, e])), Or.inl rfl, ?_⟩
      · rw [htake, ← hlen]
        exact List.take_left
      · simp [Value.ownBlock] at hk
        subst hk
        exact hbg
      · intro Φ hT hnw _ k c f hk hb j u hj
        by_cases hkg : k = g
        · subst hkg
          rw [setRow_heap w k cur _ e _ hg] at hb
          cases hb
          simp only [List.getElem?_toArray] at hj
          rw [htake, List.append_assoc, List.getElem?_append] at hj
          split at hj
          · exact hxs Φ hT j u hj
          · rename_i h1
            rw [List.getElem?_append] at hj
            have hx := hown.len
            split at hj
            · have := hnw _ u hj
              rwa [hx, show (j - n * i.size) % i.size = j % i.size by
                exact mod_back (by omega)] at this
            · rename_i h2
              rw [List.getElem?_drop] at hj
              refine hT k cur _ hk hg j u ?_
              rw [show n * i.size + news.length + (j - xs.length - news.length) = j by omega] at hj
              simpa using hj
        · rw [setRow_other w g k _ hkg] at hb
          exact hT k c f hk hb j u hj
    · have holds : ∀ j u, xs[j]? = some u → w.cell? ((⟨g, 0, none⟩ : Addr).add j) = some u := hown.1.cells (g := g) rfl
      have hr := run_append_grow (P := P) w t ty e i z ht hi hz ⟨g, 0, none⟩ n cap xs hown.len holds a m c news hl hnews (by omega) (by omega) (growslice_fits (by omega) hbytes)
      exact ⟨_, _, hr, grown cap (by omega), frNew _, fun k hk _ => Below.heap_alloc w.drew _ k hk, Or.inr rfl, typedNew _⟩
end
end
end Go.Proofs.YbulkkeiFmt
