/-
  MEMORY, for the walks of this seat (2): the kinds of keys; the operations at a walk's own places.
-/
import Derived.Test.YbulkkeiFmtMem
import Derived.RegionTactic
namespace Go.Proofs.YbulkkeiFmt
open Go.RowKit

theorem KK.string {P : Program} {kt : TypeId} (h : P.underlying kt = some .string) : KK P kt .string (fun s : ByteArray => Value.string s) where
  und := h
  same a b := by
    have := MapKept.bytes_beq a b
    by_cases hab : a = b
    · subst hab; simp [Instr.sameNow, MapKept.bytes_beq]
    · have h2 : (a == b) = false := by rw [Bool.eq_false_iff]; exact fun h => hab (this.1 h)
      simp [Instr.sameNow, hab, h2]
  bits a := by simp [Instr.sameBits, MapKept.bytes_beq]
  chk e k w := MapKept.run_checkKey h (by simp [MapKept.IsKey]) e 9999
theorem KK.int {P : Program} {kt : TypeId} {q : IntKind} (h : P.underlying kt = some (.int q)) : KK P kt (.int q) (fun a : Int => Value.int q a) where
  und := h
  same a b := by simp [Instr.sameNow]; rfl
  bits a := by simp [Instr.sameBits]
  chk e k w := MapKept.run_checkKey h (by simp [MapKept.IsKey]) e 9999

section
variable {κ : Type} {ι : κ → Value} {N : Nat → Prop} {W : List TypeId} {M : List Nat} {w w' w1 : World} {m : Nat} {es : List (κ × Value)}
theorem MapAt.kept (h : MapAt ι w m es) (hf : Fr N W M w w') (hm : m ∉ M) : MapAt ι w' m es := by
  obtain ⟨arr, clock, h1, h2⟩ := h
  exact ⟨arr, clock, hf.keepM m arr clock h1 hm, h2⟩
theorem MapAt.lt (h : MapAt ι w m es) : m < w.heap.size := by
  obtain ⟨arr, clock, h1, _⟩ := h
  exact (Array.getElem?_eq_some_iff.1 h1).1
theorem Fr.mapSet (h : Fr N W M w w1) {w2 : World} (hs : MapSet m w1 w2) (hm : m ∈ M) (hN : ¬ N m) : Fr N W M w w2 := by
  obtain ⟨h1, h2, h3, h4, h5, arr, clock, h6⟩ := hs
  refine h.trans ⟨h1, h2, h3, by omega, fun j _ hj => h5 j (fun e => hN (e ▸ hj)), fun j c e f hj _ => (h5 j fun e => ?_).trans hj, fun j es cl hj hjM => (h5 j (fun e => hjM (e ▸ hm))).trans hj, fun j c e f hj => ⟨c, (h5 j fun e => ?_).trans hj, rfl⟩⟩
  all_goals
    subst e
    rw [h6] at hj
    cases hj
end

section
variable {P : Program} {κ : Type} [DecidableEq κ] {kt : TypeId} {kind : TypeDesc} {ι : κ → Value}
theorem wp_mapUpdate_at (K : KK P kt kind ι) {o : Oper} {a : Act} {C : Act → World → Prop} {Q : Exit → Act → World → Prop} (w : World) (m x v : Operand) (t e : TypeId) (ho : o.op = Op.mapUpdate t m x v) (ht : P.underlying t = some (.map kt e))
    (b : Nat) (es : List (κ × Value)) (hm : a.eval m = .map (some b)) (h : MapAt ι w b es) (k : κ) (hx : a.eval x = ι k) (val : Value) (hv : a.eval v = val)
    (hK : ∀ w', MapAt ι w' b (put k val es) → MapSet b w w' → C (a.put o.dst undef) w') : o.wp P a w C Q := by
  obtain ⟨w', hrun, r1, r2⟩ := run_update K ht h k val
  unfold Oper.wp
  simp [execOp, ho, hm, hx, hv, hrun, Result.andThen]
  exact hK w' r1 r2
theorem wpList_mapUpdate_at (K : KK P kt kind ι) {ops : Array Oper} {rest : List Oper} {o : Oper} {a : Act} {Q : Exit → Act → World → Prop} (w : World) (hg : o.guard = none) (m x v : Operand) (t e : TypeId) (ho : o.op = Op.mapUpdate t m x v) (ht : P.underlying t = some (.map kt e))
    (b : Nat) (es : List (κ × Value)) (hm : a.eval m = .map (some b)) (h : MapAt ι w b es) (k : κ) (hx : a.eval x = ι k) (val : Value) (hv : a.eval v = val)
    (hK : ∀ w', MapAt ι w' b (put k val es) → MapSet b w w' → wpList P ops Q rest (a.put o.dst undef) w') : wpList P ops Q (o :: rest) a w :=
  wpList_plain hg fun _ hC => wp_mapUpdate_at K w m x v t e ho ht b es hm h k hx val hv fun w' h1 h2 => hC _ _ (hK w' h1 h2)
theorem step_mapUpdate_at (K : KK P kt kind ι) {ops : Array Oper} {o : Oper} {a : Act} {C : Act → World → Prop} {Q : Exit → Act → World → Prop} {E : Prop} (w : World) (hg : o.guard = none) (m x v : Operand) (t e : TypeId) (ho : o.op = Op.mapUpdate t m x v) (ht : P.underlying t = some (.map kt e))
    (b : Nat) (es : List (κ × Value)) (hm : a.eval m = .map (some b)) (h : MapAt ι w b es) (k : κ) (hx : a.eval x = ι k) (val : Value) (hv : a.eval v = val)
    (hK : ∀ w', MapAt ι w' b (put k val es) → MapSet b w w' → C (a.put o.dst undef) w') : if Region.wanted o (yielded ops a.tmps) = true then Oper.wp P o a w C Q else E := by
  have hw : Region.wanted o (yielded ops a.tmps) = true := by simp [Region.wanted, hg]
  rw [if_pos hw]
  exact wp_mapUpdate_at K w m x v t e ho ht b es hm h k hx val hv hK
theorem wp_delete_at (K : KK P kt kind ι) {o : Oper} {a : Act} {C : Act → World → Prop} {Q : Exit → Act → World → Prop} (w : World) (m x : Operand) (t e : TypeId) (ho : o.op = .call { callee := .builtin .delete, args := #[m, x], argTypes := #[t, kt] }) (ht : P.underlying t = some (.map kt e))
    (b : Nat) (es : List (κ × Value)) (hm : a.eval m = .map (some b)) (h : MapAt ι w b es) (k : κ) (hx : a.eval x = ι k)
    (hK : ∀ w', MapAt ι w' b (del k es) → MapSet b w w' → C (a.put o.dst (.tuple #[])) w') : o.wp P a w C Q := by
  obtain ⟨w', hrun, r1, r2⟩ := run_delete (ty := o.type) K ht h k
  unfold Oper.wp execOp
  simp only [ho, resolve, invoke, builtin, Sem.run_bind, Sem.run_pure, Result.andThen_ok, List.map_toArray, List.map_cons, List.map_nil, hm, hx, hrun]
  exact hK w' r1 r2
theorem wpList_delete_at (K : KK P kt kind ι) {ops : Array Oper} {rest : List Oper} {o : Oper} {a : Act} {Q : Exit → Act → World → Prop} (w : World) (hg : o.guard = none) (m x : Operand) (t e : TypeId) (ho : o.op = .call { callee := .builtin .delete, args := #[m, x], argTypes := #[t, kt] }) (ht : P.underlying t = some (.map kt e))
    (b : Nat) (es : List (κ × Value)) (hm : a.eval m = .map (some b)) (h : MapAt ι w b es) (k : κ) (hx : a.eval x = ι k)
    (hK : ∀ w', MapAt ι w' b (del k es) → MapSet b w w' → wpList P ops Q rest (a.put o.dst (.tuple #[])) w') : wpList P ops Q (o :: rest) a w :=
  wpList_plain hg fun _ hC => wp_delete_at K w m x t e ho ht b es hm h k hx fun w' h1 h2 => hC _ _ (hK w' h1 h2)
end

/-- What an append leaves. -/
structure Grew (N : Nat → Prop) (e : TypeId) (sz : Nat) (z : Value) (v : Value) (n m : Nat) (xs news : List Value) (w : World) (v' : Value) (w' : World) : Prop where
  row : Row N w' e sz v' (n + m) (xs ++ news)
  fr : Fr N [e] [] w w'
  other : ∀ k, k < w.heap.size → some k ≠ v.ownBlock → w'.heap[k]? = w.heap[k]?
  at_ : v'.ownBlock = v.ownBlock ∨ v'.ownBlock = some w.heap.size
  typed : ∀ Φ : Nat → Value → Prop, Typed N w e sz Φ → (∀ (j : Nat) (u : Value), news[j]? = some u → Φ (j % sz) u) → (∀ (j : Nat) (u : Value), z.cells[j]? = some u → Φ (j % sz) u) → Typed N w' e sz Φ

section
variable {P : Program} (w : World) {N : Nat → Prop}
theorem wp_append_row {o : Oper} {a : Act} {C : Act → World → Prop} {Q : Exit → Act → World → Prop} (s x : Operand) (t : TypeId)
    (ho : o.op = .call { callee := .builtin .append, args := #[s, x], argTypes := #[t, t] })
    (e : TypeId) (i : TypeInfo) (z : Value) (sz bytes : Nat) (ht : P.underlying t = some (.slice e)) (hi : P.info? e = some i) (hz : i.zero = some z)
    (hsize : i.size = sz) (hby : i.bytes = bytes) (hzs : z.cells.size = sz) (hsz : 0 < sz) (hN : ∀ k, N k → k < w.heap.size)
    (v : Value) (n : Nat) (xs : List Value) (hs : a.eval s = v) (hown : Row N w e sz v n xs)
    (ad : Addr) (m c : Nat) (news : List Value) (hx : a.eval x = .slice (some ad) m c) (hl : news.length = m * sz) (hnews : ∀ j u, news[j]? = some u → w.cell? (ad.add j) = some u) (h1 : ∀ u ∈ news, u.oneCell' = true)
    (h63 : n + m ≤ maxLen) (hbytes : (n + m) * bytes ≤ 140737488355328)
    (h : ∀ v' w', Grew N e sz z v n m xs news w v' w' → C (a.put o.dst v') w') : o.wp P a w C Q := by
  obtain ⟨v', w', hr, h2, h3, h4, h5, h6⟩ := run_append_row (P := P) w t o.type e i z sz bytes ht hi hz hsize hby hzs hsz v n xs hown hN ad m c news hl hnews h1 h63 hbytes
  unfold Oper.wp execOp
  simp only [ho, resolve, invoke, builtin, Sem.run_bind, Sem.run_pure, Result.andThen_ok, List.map_toArray, List.map_cons, List.map_nil, hs, hx, hr]
  exact h v' w' ⟨h2, h3, h4, h5, h6⟩
theorem wpList_append_row {ops : Array Oper} {rest : List Oper} {o : Oper} {a : Act} {Q : Exit → Act → World → Prop} (hgd : o.guard = none) (s x : Operand) (t : TypeId)
    (ho : o.op = .call { callee := .builtin .append, args := #[s, x], argTypes := #[t, t] })
    (e : TypeId) (i : TypeInfo) (z : Value) (sz bytes : Nat) (ht : P.underlying t = some (.slice e)) (hi : P.info? e = some i) (hz : i.zero = some z)
    (hsize : i.size = sz) (hby : i.bytes = bytes) (hzs : z.cells.size = sz) (hsz : 0 < sz) (hN : ∀ k, N k → k < w.heap.size)
    (v : Value) (n : Nat) (xs : List Value) (hs : a.eval s = v) (hown : Row N w e sz v n xs)
    (ad : Addr) (m c : Nat) (news : List Value) (hx : a.eval x = .slice (some ad) m c) (hl : news.length = m * sz) (hnews : ∀ j u, news[j]? = some u → w.cell? (ad.add j) = some u) (h1 : ∀ u ∈ news, u.oneCell' = true)
    (h63 : n + m ≤ maxLen) (hbytes : (n + m) * bytes ≤ 140737488355328)
    (h : ∀ v' w', Grew N e sz z v n m xs news w v' w' → wpList P ops Q rest (a.put o.dst v') w') : wpList P ops Q (o :: rest) a w :=
  wpList_plain hgd fun _ hK => wp_append_row w s x t ho e i z sz bytes ht hi hz hsize hby hzs hsz hN v n xs hs hown ad m c news hx hl hnews h1 h63 hbytes fun v' w' h2 => hK _ _ (h v' w' h2)
theorem step_append_row {ops : Array Oper} {o : Oper} {a : Act} {C : Act → World → Prop} {Q : Exit → Act → World → Prop} {E : Prop} (hgd : o.guard = none) (s x : Operand) (t : TypeId)
    (ho : o.op = .call { callee := .builtin .append, args := #[s, x], argTypes := #[t, t] })
    (e : TypeId) (i : TypeInfo) (z : Value) (sz bytes : Nat) (ht : P.underlying t = some (.slice e)) (hi : P.info? e = some i) (hz : i.zero = some z)
    (hsize : i.size = sz) (hby : i.bytes = bytes) (hzs : z.cells.size = sz) (hsz : 0 < sz) (hN : ∀ k, N k → k < w.heap.size)
    (v : Value) (n : Nat) (xs : List Value) (hs : a.eval s = v) (hown : Row N w e sz v n xs)
    (ad : Addr) (m c : Nat) (news : List Value) (hx : a.eval x = .slice (some ad) m c) (hl : news.length = m * sz) (hnews : ∀ j u, news[j]? = some u → w.cell? (ad.add j) = some u) (h1 : ∀ u ∈ news, u.oneCell' = true)
    (h63 : n + m ≤ maxLen) (hbytes : (n + m) * bytes ≤ 140737488355328)
    (h : ∀ v' w', Grew N e sz z v n m xs news w v' w' → C (a.put o.dst v') w') :
    if Region.wanted o (yielded ops a.tmps) = true then Oper.wp P o a w C Q else E := by
  have hw : Region.wanted o (yielded ops a.tmps) = true := by simp [Region.wanted, hgd]
  rw [if_pos hw]
  exact wp_append_row w s x t ho e i z sz bytes ht hi hz hsize hby hzs hsz hN v n xs hs hown ad m c news hx hl hnews h1 h63 hbytes h
end
end Go.Proofs.YbulkkeiFmt
