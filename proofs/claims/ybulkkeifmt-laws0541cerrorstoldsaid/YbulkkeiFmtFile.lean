/-
  THE STORE (3): file: a block is entered under its number; how it names the blocks that the store does not hold.
-/
import Derived.Test.YbulkkeiFmtAwait
namespace Go.Proofs.YbulkkeiFmt
open Go.RowKit Go.Extern.Stop Go.Stop Go.Extern
set_option maxRecDepth 8000
attribute [local go_sem ↓] Go.wp_at_zero Go.wp_at_succ

/-- A way in which a block is named. -/
structure RF where
  f : ByteArray
  t : ByteArray
  role : Int
  chain : Int
def RF.enc (r : RF) : List Value := [.string r.f, .string r.t, .int .i64 r.role, .int .i64 r.chain]
def rfs (l : List RF) : List Value := l.flatMap RF.enc
theorem rfs_len (l : List RF) : (rfs l).length = l.length * 4 := by
  induction l with
  | nil => rfl
  | cons r l ih => rw [rfs, List.flatMap_cons, List.length_append, ← rfs, ih]; simp [RF.enc]; omega
theorem rfs_get : ∀ (l : List RF) (i : Nat) (r : RF) (j : Nat), l[i]? = some r → j < 4 → (rfs l)[i * 4 + j]? = r.enc[j]?
  | [], i, r, j, h, _ => by simp at h
  | q :: l, 0, r, j, h, hj => by
    simp at h
    subst h
    rw [rfs, List.flatMap_cons, Nat.zero_mul, Nat.zero_add, List.getElem?_append_left (by simpa [RF.enc] using hj)]
  | q :: l, i + 1, r, j, h, hj => by
    have := rfs_get l i r j (by simpa using h) hj
    rw [rfs, List.flatMap_cons, List.getElem?_append_right (by simp [RF.enc]; omega), ← rfs, ← this]
    congr 1
    simp [RF.enc]
    omega
theorem rfs_append (a b : List RF) : rfs (a ++ b) = rfs a ++ rfs b := by simp [rfs]
theorem ownsRow_add (g j : Nat) : (⟨g, 0, none⟩ : Addr).add j = ⟨g, j, none⟩ := by unfold Addr.add; split <;> simp_all
theorem ownsRow_rf {w : World} {v : Value} {n : Nat} {l : List RF} (h : w.ownsRow 0 103 4 v n (rfs l)) {g : Nat} (hg : v.ownBlock = some g) {i : Nat} {r : RF} (hi : l[i]? = some r) :
    w.cell? ⟨g, i * 4, none⟩ = some (.string r.f) ∧ w.cell? ⟨g, i * 4 + 1, none⟩ = some (.string r.t) ∧ w.cell? ⟨g, i * 4 + 2, none⟩ = some (.int .i64 r.role) ∧ w.cell? ⟨g, i * 4 + 3, none⟩ = some (.int .i64 r.chain) := by
  have key : ∀ j u, j < 4 → r.enc[j]? = some u → w.cell? ⟨g, i * 4 + j, none⟩ = some u := by
    intro j u hj hu
    have := h.cells hg (i * 4 + j) u (by rw [rfs_get l i r j hi hj]; exact hu)
    rwa [ownsRow_add] at this
  exact ⟨key 0 _ (by omega) rfl, key 1 _ (by omega) rfl, key 2 _ (by omega) rfl, key 3 _ (by omega) rfl⟩

def upd (R : ByteArray → List RF) (k : ByteArray) (v : List RF) : ByteArray → List RF := fun x => if x = k then v else R x
def fileStep (known : ByteArray → Bool) (R : ByteArray → List RF) (r : RF) : ByteArray → List RF := if known r.t = true ∨ r.t = gen then R else upd R r.t (R r.t ++ [r])
def fileR (known : ByteArray → Bool) (R : ByteArray → List RF) (refs : List RF) : ByteArray → List RF := refs.foldl (fileStep known) R
theorem fileR_take {known : ByteArray → Bool} {R : ByteArray → List RF} {refs : List RF} {j : Nat} {r : RF} (h : refs[j]? = some r) : fileR known R (refs.take (j + 1)) = fileStep known (fileR known R (refs.take j)) r := by
  unfold fileR
  rw [List.take_add_one, h]
  simp
theorem fileR_len (known : ByteArray → Bool) : ∀ (refs : List RF) (R : ByteArray → List RF) (k : ByteArray), (fileR known R refs k).length ≤ (R k).length + refs.length
  | [], R, k => Nat.le_refl _
  | r :: refs, R, k => by
    have := fileR_len known refs (fileStep known R r) k
    have h2 : (fileStep known R r k).length ≤ (R k).length + 1 := by
      unfold fileStep
      split
      · omega
      · unfold upd
        split
        · rename_i e
          rw [e]
          simp
        · omega
    show (fileR known (fileStep known R r) refs k).length ≤ _
    simp
    omega

/-- The row of one key. -/
def rv (er : List (ByteArray × Value)) (k : ByteArray) : Value := (get er k).getD (.slice none 0 0)
/-- The ways in which blocks that are not held are named. -/
structure RefsOk (N : Nat → Prop) (w : World) (er : List (ByteArray × Value)) (R : ByteArray → List RF) : Prop where
  row : ∀ k, Row N w 103 4 (rv er k) (R k).length (rfs (R k))
  apart : ∀ k k' b, k ≠ k' → (rv er k).ownBlock = some b → (rv er k').ownBlock ≠ some b
theorem rv_put_same (er : List (ByteArray × Value)) (k : ByteArray) (v : Value) : rv (put k v er) k = v := by unfold rv; rw [get_put_same]; rfl
theorem rv_put_other (er : List (ByteArray × Value)) {k j : ByteArray} (v : Value) (h : j ≠ k) : rv (put k v er) j = rv er j := by unfold rv; rw [get_put_other _ _ _ h]
theorem rv_del_other (er : List (ByteArray × Value)) {k j : ByteArray} (h : j ≠ k) : rv (del k er) j = rv er j := by unfold rv; rw [get_del_other _ _ h]

/-- Where a list of pairs holds a key once, it is gone behind a deletion. -/
def Once (er : List (ByteArray × Value)) : Prop := (er.map Prod.fst).Nodup
theorem get_none {er : List (ByteArray × Value)} {k : ByteArray} (h : k ∉ er.map Prod.fst) : get er k = none := by
  induction er with
  | nil => rfl
  | cons p er ih =>
    rw [get_cons, if_neg (by intro e; exact h (by simp [e])), ih (by intro e; exact h (by simp at e ⊢; exact .inr e))]
theorem Once.del {er : List (ByteArray × Value)} (h : Once er) (k : ByteArray) : get (del k er) k = none ∧ Once (del k er) := by
  induction er with
  | nil => exact ⟨rfl, h⟩
  | cons p er ih =>
    have h1 : p.1 ∉ er.map Prod.fst ∧ Once er := by simpa [Once] using h
    unfold YbulkkeiFmt.del
    by_cases e : k = p.1
    · rw [if_pos e]
      exact ⟨get_none (by rw [e]; exact h1.1), h1.2⟩
    · rw [if_neg e]
      refine ⟨by rw [get_cons, if_neg e]; exact (ih h1.2).1, ?_⟩
      have hs : ∀ x, x ∈ (YbulkkeiFmt.del k er).map Prod.fst → x ∈ er.map Prod.fst := by
        intro x hx
        obtain ⟨q, hq, rfl⟩ := List.mem_map.1 hx
        have : ∀ {er : List (ByteArray × Value)}, q ∈ YbulkkeiFmt.del k er → q ∈ er := by
          intro er
          induction er with
          | nil => exact fun h => h
          | cons a er ih =>
            intro h
            unfold YbulkkeiFmt.del at h
            split at h
            · simp [h]
            · simp at h
              rcases h with h | h
              · simp [h]
              · simp [ih h]
        exact List.mem_map.2 ⟨q, this hq, rfl⟩
      have := (ih h1.2).2
      simp only [Once, List.map_cons, List.nodup_cons]
      exact ⟨fun hx => h1.1 (hs _ hx), this⟩
theorem Once.put {er : List (ByteArray × Value)} (h : Once er) (k : ByteArray) (v : Value) : Once (put k v er) := by
  induction er with
  | nil => simp [YbulkkeiFmt.put, Once]
  | cons p er ih =>
    have h1 : p.1 ∉ er.map Prod.fst ∧ Once er := by simpa [Once] using h
    unfold YbulkkeiFmt.put
    by_cases e : k = p.1
    · rw [if_pos e]
      simp only [Once, List.map_cons, List.nodup_cons]
      rw [e]
      exact h1
    · rw [if_neg e]
      have hs : ∀ x, x ∈ (YbulkkeiFmt.put k v er).map Prod.fst → x ∈ er.map Prod.fst ∨ x = k := by
        intro x hx
        have : ∀ {er : List (ByteArray × Value)}, x ∈ (YbulkkeiFmt.put k v er).map Prod.fst → x ∈ er.map Prod.fst ∨ x = k := by
          intro er
          induction er with
          | nil => intro h; simp [YbulkkeiFmt.put] at h; exact .inr h
          | cons a er ih =>
            intro h
            unfold YbulkkeiFmt.put at h
            split at h
            · rename_i hk
              simp only [List.map_cons, List.mem_cons] at h ⊢
              rcases h with h | h
              · exact .inr h
              · exact .inl (.inr h)
            · simp only [List.map_cons, List.mem_cons] at h ⊢
              rcases h with h | h
              · exact .inl (.inl h)
              · rcases ih h with h | h
                · exact .inl (.inr h)
                · exact .inr h
        exact this hx
      simp only [Once, List.map_cons, List.nodup_cons]
      refine ⟨fun hx => ?_, ih h1.2⟩
      rcases hs _ hx with hx | hx
      · exact h1.1 hx
      · exact e hx.symm
theorem rv_del_same {er : List (ByteArray × Value)} (h : Once er) (k : ByteArray) : rv (del k er) k = .slice none 0 0 := by unfold rv; rw [(h.del k).1]; rfl

theorem RefsOk.del {N : Nat → Prop} {w : World} {er : List (ByteArray × Value)} {R : ByteArray → List RF} (h : RefsOk N w er R) (ho : Once er) (k : ByteArray) : RefsOk N w (del k er) (upd R k []) where
  row x := by
    unfold upd
    by_cases e : x = k
    · subst e
      rw [if_pos rfl, rv_del_same ho]
      exact Row.nil N w 103 4
    · rw [if_neg e, rv_del_other er e]
      exact h.row x
  apart x y b hxy hb := by
    by_cases e : x = k
    · subst e
      rw [rv_del_same ho] at hb
      simp [Value.ownBlock] at hb
    · by_cases e2 : y = k
      · subst e2
        rw [rv_del_same ho]
        simp [Value.ownBlock]
      · rw [rv_del_other er e] at hb
        rw [rv_del_other er e2]
        exact h.apart x y b hxy hb
theorem RefsOk.kept {N : Nat → Prop} {w w' : World} {er : List (ByteArray × Value)} {R : ByteArray → List RF} (h : RefsOk N w er R) {W : List TypeId} {M : List Nat} (hf : Fr N W M w w') (he : 103 ∉ W) : RefsOk N w' er R :=
  ⟨fun k => (h.row k).kept hf he, h.apart⟩
/-- One row has grown. -/
theorem RefsOk.grew {N : Nat → Prop} {w w' : World} {er : List (ByteArray × Value)} {R : ByteArray → List RF} (h : RefsOk N w er R) (r : RF) {z v' : Value} (hg : Grew N 103 4 z (rv er r.t) (R r.t).length 1 (rfs (R r.t)) r.enc w v' w') : RefsOk N w' (put r.t v' er) (upd R r.t (R r.t ++ [r])) where
  row x := by
    unfold upd
    by_cases e : x = r.t
    · rw [if_pos e, e, rv_put_same, rfs_append, List.length_append]
      have := hg.row
      simpa [rfs] using this
    · rw [if_neg e, rv_put_other er v' e]
      refine (h.row x).same fun b hb => hg.other b ((h.row x).lt b hb) (fun e2 => ?_)
      exact h.apart x r.t b e hb e2.symm
  apart x y b hxy hb := by
    by_cases e : x = r.t
    · have hy : y ≠ r.t := fun e2 => hxy (e.trans e2.symm)
      rw [e, rv_put_same] at hb
      rw [rv_put_other er v' hy]
      rcases hg.at_ with ha | ha
      · rw [ha] at hb
        exact h.apart r.t y b (Ne.symm hy) hb
      · rw [ha] at hb
        cases hb
        intro h2
        have := (h.row y).lt _ h2
        omega
    · rw [rv_put_other er v' e] at hb
      by_cases e2 : y = r.t
      · rw [e2, rv_put_same]
        rcases hg.at_ with ha | ha
        · rw [ha]
          exact h.apart x r.t b e hb
        · rw [ha]
          intro h2
          cases h2
          have := (h.row x).lt _ hb
          omega
      · rw [rv_put_other er v' e2]
        exact h.apart x y b hxy hb

theorem hz103 : Ybaf.t103.zero = some (.agg #[.string ⟨#[]⟩, .string ⟨#[]⟩, .int .i64 0, .int .i64 0]) := rfl
theorem zero_refs (w : World) : (zeroValue 100).run Ybaf.prog w = .ok (.slice none 0 0) w := by kernel_rfl

/-- What file leaves, midway too. -/
structure Filed (N : Nat → Prop) (mi mr : Nat) (es : List (ByteArray × Value)) (R : ByteArray → List RF) (w w' : World) : Prop where
  index : MapAt Value.string w' mi es
  refs : ∃ er, MapAt Value.string w' mr er ∧ Once er ∧ RefsOk N w' er R
  fr : Fr N [103] [mi, mr] w w'
theorem Filed.drewN {N : Nat → Prop} {mi mr : Nat} {es : List (ByteArray × Value)} {R : ByteArray → List RF} {w w' : World} (h : Filed N mi mr es R w w') (q : Nat) : Filed N mi mr es R w (w'.drewN q) := by
  obtain ⟨h1, ⟨er, h2, h3, h4⟩, h5⟩ := h
  exact ⟨h1, ⟨er, h2, h3, fun k => (h4.row k).same (fun _ _ => rfl), h4.apart⟩, h5.drewN q⟩
theorem Filed.alloc {N : Nat → Prop} {mi mr : Nat} {es : List (ByteArray × Value)} {R : ByteArray → List RF} {w w' : World} (h : Filed N mi mr es R w w') (o : Obj) : Filed N mi mr es R w (w'.alloc o) := by
  obtain ⟨h1, ⟨er, h2, h3, h4⟩, h5⟩ := h
  have hf : Fr N [] [] w' (w'.alloc o) := (Fr.refl N [] [] w').alloc o
  exact ⟨h1.kept hf (by simp), ⟨er, h2.kept hf (by simp), h3, h4.kept hf (by simp)⟩, h5.alloc o⟩

set_option maxHeartbeats 12800000 in
theorem file_ok {N : Nat → Prop} {w : World} {s : Nat} {ch : Int} {mi : Nat} {vs gp : Value} {ms : Nat} {co : Value} {mr mu : Nat} {es er : List (ByteArray × Value)} (hS : StoreAt w s ch mi vs gp ms co mr mu) (hN : ∀ k, N k → k < w.heap.size) (hNi : ¬ N mi) (hNr : ¬ N mr) (hne : mi ≠ mr)
    (hm : MapAt Value.string w mi es) (hr : MapAt Value.string w mr er) (ho : Once er) {R : ByteArray → List RF} (hR : RefsOk N w er R) (id : ByteArray) (num : Nat) {rs : Value} {refs : List RF} (hrow : w.ownsRow 0 103 4 rs refs.length (rfs refs)) (hloc : ∀ k, rs.ownBlock = some k → N k)
    (hcount : ∀ k, (R k).length + refs.length < 1000000) :
    Calls Ybaf.prog 32 #[.pointer (some ⟨s, 0, none⟩), .string id, .int .i32 num, rs] w fun e w' => e = .returned (.tuple #[]) ∧ Filed N mi mr (put id (.int .i32 num) es) (fileR (fun k => (get (put id (.int .i32 num) es) k).isSome) (upd R id []) refs) w w' := by
  obtain ⟨s0, s1, s2, s3, s5, s6, s7, s8, s9⟩ := hS.cells
  obtain ⟨orf, cr, rfl, hr1, hr2⟩ := ownsRow_slice hrow
  simp only [maxLen] at hr2
  have HS : Hid (StoreAt w s ch mi vs gp ms co mr mu) := hS
  have HR : Hid (RefsOk N w er R) := hR
  have HMR : Hid (MapAt Value.string w mr er) := hr
  have HO : Hid (Once er) := ho
  have HROW : Hid (w.ownsRow 0 103 4 (.slice orf refs.length cr) refs.length (rfs refs)) := hrow
  have HCT : Hid (∀ k, (R k).length + refs.length < 1000000) := hcount
  clear hS hR hr hrow ho hcount
  have hlc : (refs.length : Int) < 1000000 := by have := HCT.out gen; omega
  go_enter Ybaf.func32, Ybaf.ntmps32
  go_wp2_with ((at_mapUpdate; refine Stop'.intro ?_))
  unfold Stop'
  refine wpList_mapUpdate_at (KK.string Ybaf.underlying9) _ rfl _ _ _ 74 _ rfl Ybaf.underlying74 mi es rfl hm id rfl _ rfl ?_
  intro w1 hm1 hs1
  have t8 := hs1.cell s8
  have hmr1 : MapAt Value.string w1 mr er := HMR.out.kept (hs1.fr (N := N) [] hNi) (by simpa using Ne.symm hne)
  obtain ⟨w2, hrun, hm2, hs2⟩ := run_delete (ty := 0) (KK.string Ybaf.underlying9) Ybaf.underlying80 hmr1 id
  have hF2 : Fr N [103] [mi, mr] w w2 := ((Fr.refl N [103] [mi, mr] w).mapSet hs1 (by simp) hNi).mapSet hs2 (by simp) hNr
  have hFd : Filed N mi mr (put id (.int .i32 num) es) (upd R id []) w w2 := by
    have hf : Fr N [] [mi, mr] w w2 := ((Fr.refl N [] [mi, mr] w).mapSet hs1 (by simp) hNi).mapSet hs2 (by simp) hNr
    refine ⟨hm1.kept (hs2.fr (N := N) [] hNr) (by simpa using hne), ⟨del id er, hm2, (HO.out.del id).2, ?_⟩, hF2⟩
    exact (HR.out.kept hf (by simp)).del HO.out id
  have HFd : Hid (Filed N mi mr (put id (.int .i32 num) es) (upd R id []) w w2) := hFd
  clear hFd hF2 hs1 hs2 hm1 hm2 hmr1 hm HMR
  go_wp2_with fail
  clear hrun t8
  generalize hes : put id (.int .i32 num) es = es' at HFd ⊢
  generalize hR0 : upd R id [] = R0 at HFd ⊢
  have HR0 : Hid (∀ k, (R0 k).length ≤ (R k).length) := by
    intro k
    rw [← hR0]
    unfold upd
    split <;> simp
  have HE1 : Hid (put id (.int .i32 num) es = es') := hes
  have HE2 : Hid (upd R id [] = R0) := hR0
  clear hes hR0
  generalize hkn : (fun k => (get es' k).isSome) = kn
  have HE3 : Hid ((fun k => (get es' k).isSome) = kn) := hkn
  have Hkn : Hid (∀ k, kn k = (get es' k).isSome) := by
    intro k
    rw [← hkn]
  clear hkn
  go_loopw [25] (fun s25 wr => ∃ j : Nat, s25 = .int .i64 j ∧ j ≤ refs.length ∧ Filed N mi mr es' (fileR kn R0 (refs.take j)) w wr) (fun s25 _ => refs.length - (intOf s25).toNat)
  case atStart => exact ⟨0, rfl, Nat.zero_le _, HFd.out⟩
  case round =>
    clear HFd
    obtain ⟨j, rfl, hj, hF⟩ := hrel
    by_cases hjn : j < refs.length
    · obtain ⟨r, hrj⟩ : ∃ r, refs[j]? = some r := ⟨_, List.getElem?_eq_getElem hjn⟩
      rcases HROW.out.2 with ⟨hbad, h0⟩ | ⟨g, cap, cur, hv, _, hgb, hg1, hg2, _, _⟩
      · omega
      cases hv
      have hsameg : wr.heap[g]? = w.heap[g]? := hF.fr.old g (Array.getElem?_eq_some_iff.1 hgb).1 (hloc g rfl)
      obtain ⟨d0, d1, d2, d3⟩ := ownsRow_rf HROW.out (g := g) rfl hrj
      have c0 := (World.cell?_of_block hsameg).trans d0
      have c1 := (World.cell?_of_block hsameg).trans d1
      have c2 := (World.cell?_of_block hsameg).trans d2
      have c3 := (World.cell?_of_block hsameg).trans d3
      have hSr : StoreAt wr s ch mi vs gp ms co mr mu := hF.fr.keepC _ _ _ _ HS.out (by decide)
      obtain ⟨r0, r1, r2, r3, r5, r6, r7, r8, r9⟩ := hSr.cells
      have HF : Hid (Filed N mi mr es' (fileR kn R0 (refs.take j)) w wr) := hF
      have HRJ : Hid (refs[j]? = some r) := hrj
      have zs := blk r1
      obtain ⟨rf, rt, rr, rc⟩ := r
      obtain ⟨w1, hw1⟩ : ∃ w1, w1 = wr.alloc (.cells #[.string rf, .string rt, .int .i64 rr, .int .i64 rc] 103) := ⟨_, rfl⟩
      have hm1 : MapAt Value.string w1 mi es' := by rw [hw1]; exact hF.index.kept ((Fr.refl N [] [] wr).alloc _) (by simp)
      have q1 : w1.cell? ⟨s, 1, none⟩ = some (.map (some mi)) := by rw [hw1]; exact cell_alloc r1 _
      have q8 : w1.cell? ⟨s, 8, none⟩ = some (.map (some mr)) := by rw [hw1]; exact cell_alloc r8 _
      have b0 : w1.cell? ⟨wr.heap.size, 0, none⟩ = some (.string rf) := by rw [hw1]; simp
      have b1 : w1.cell? ⟨wr.heap.size, 1, none⟩ = some (.string rt) := by rw [hw1]; simp
      have b2 : w1.cell? ⟨wr.heap.size, 2, none⟩ = some (.int .i64 rr) := by rw [hw1]; simp
      have b3 : w1.cell? ⟨wr.heap.size, 3, none⟩ = some (.int .i64 rc) := by rw [hw1]; simp
      have HF1 : Hid (Filed N mi mr es' (fileR kn R0 (refs.take j)) w w1) := by
        show Filed N mi mr es' (fileR kn R0 (refs.take j)) w w1
        rw [hw1]
        exact hF.alloc _
      have HSZ : Hid (w1.heap.size = wr.heap.size + 1) := by show w1.heap.size = wr.heap.size + 1; rw [hw1]; simp
      have Hw1 : Hid (w1 = wr.alloc (.cells #[.string rf, .string rt, .int .i64 rr, .int .i64 rc] 103)) := hw1
      have hl : ∀ (q : Nat), (Instr.lookup 74 (.map (some mi)) (.string rt) true).run Ybaf.prog (w1.drewN q) = .ok (.tuple #[(get es' rt).getD (.int .i32 0), .bool (get es' rt).isSome]) (w1.drewN q) := fun q =>
        run_look_ok (KK.string Ybaf.underlying9) Ybaf.underlying74 zero_i32 (w := w1.drewN q) hm1 rt
      clear hw1 hm1 hF hrj hSr hsameg d0 d1 d2 d3 hgb r0 r2 r3 r5 r6 r7 r9
      cases hk : (get es' rt) with
      | some x =>
        rw [hk] at hl
        simp only [Option.getD_some, Option.isSome_some] at hl
        have HK : Hid (get es' rt = some x) := hk
        clear hk
        go_wp2_with fail
        rw [← Hw1.out]
        go_quiet (fail)
        go_wp2_with fail
        go_roundw
        case rel =>
          refine ⟨j + 1, by simp, by omega, ?_⟩
          rw [fileR_take HRJ.out, fileStep, if_pos (.inl (by rw [Hkn.out]; show (get es' rt).isSome = true; rw [HK.out]; rfl))]
          exact HF1.out.drewN _
        case measure => simp [intOf]; omega
      | none =>
        rw [hk] at hl
        simp only [Option.getD_none, Option.isSome_none] at hl
        have HK : Hid (get es' rt = none) := hk
        clear hk
        by_cases hgn : rt = gen
        · have e1 := is_gen hgn
          have HG : Hid (rt = gen) := hgn
          clear hgn
          go_wp2_with fail
          rw [← Hw1.out]
          go_quiet (fail)
          go_wp2_with fail
          go_roundw
          case rel =>
            refine ⟨j + 1, by simp, by omega, ?_⟩
            rw [fileR_take HRJ.out, fileStep, if_pos (.inr HG.out)]
            exact HF1.out.drewN _
          case measure => simp [intOf]; omega
        · have e1 := ne_gen hgn
          have HG : Hid (rt ≠ gen) := hgn
          clear hgn
          go_wp2_with fail
          rw [← Hw1.out]
          go_quiet (fail)
          rename_i nq
          go_wp2_with fail
          obtain ⟨er1, hmr1, ho1, hR1⟩ := HF.out.refs
          have hrb : (rv er1 rt).ownBlock ≠ some wr.heap.size := fun e => by have := (hR1.row rt).lt _ e; omega
          have HSr : StoreAt wr s ch mi vs gp ms co mr mu := HF.out.fr.keepC _ _ _ _ HS.out (by decide)
          have hrs : (rv er1 rt).ownBlock ≠ some s := (hR1.row rt).ne HSr (by decide)
          have hfa : Fr N [] [] wr (w1.drewN nq) := by rw [Hw1.out]; exact ((Fr.refl N [] [] wr).alloc _).drewN nq
          have hcnt : (fileR kn R0 (refs.take j) rt).length < 1000000 := by
            have h1 := fileR_len kn (refs.take j) R0 rt
            have h2 := HR0.out rt
            have h3 := HCT.out rt
            have h4 : (refs.take j).length ≤ refs.length := by simp; omega
            omega
          have hN4 : ∀ k, N k → k < (w1.drewN nq).heap.size := fun k hk => by
            have h1 := hN k hk
            have h2 := HF1.out.fr.size
            exact Nat.lt_of_lt_of_le h1 h2
          have hFr4 : Fr N [103] [mi, mr] w (w1.drewN nq) := HF1.out.fr.drewN nq
          have hI4 : MapAt Value.string (w1.drewN nq) mi es' := (HF1.out.drewN nq).index
          have hM4 : MapAt Value.string (w1.drewN nq) mr er1 := hmr1.kept hfa (by simp)
          have hR4 : RefsOk N (w1.drewN nq) er1 (fileR kn R0 (refs.take j)) := hR1.kept hfa (by simp)
          have q8' : (w1.drewN nq).cell? ⟨s, 8, none⟩ = some (.map (some mr)) := q8
          have b0' : (w1.drewN nq).cell? ⟨wr.heap.size, 0, none⟩ = some (.string rf) := b0
          have b1' : (w1.drewN nq).cell? ⟨wr.heap.size, 1, none⟩ = some (.string rt) := b1
          have b2' : (w1.drewN nq).cell? ⟨wr.heap.size, 2, none⟩ = some (.int .i64 rr) := b2
          have b3' : (w1.drewN nq).cell? ⟨wr.heap.size, 3, none⟩ = some (.int .i64 rc) := b3
          generalize w1.drewN nq = w4 at hN4 hFr4 hI4 hM4 hR4 q8' b0' b1' b2' b3' ⊢
          generalize wr.heap.size = B at hrb b0' b1' b2' b3' ⊢
          have hx4 := run_look (KK.string Ybaf.underlying9) Ybaf.underlying80 zero_refs (w := w4.drew) hM4 rt
          have hx5 := run_look (KK.string Ybaf.underlying9) Ybaf.underlying80 zero_refs (w := (w4.alloc (.cells #[.string rf, .string rt, .int .i64 rr, .int .i64 rc] 103)).drew) (hM4.kept ((Fr.refl N [] [] w4).alloc _).drew (by simp)) rt
          have hrow4 := hR4.row rt
          change (Instr.lookup 80 (.map (some mr)) (.string rt) false).run Ybaf.prog w4.drew = .ok (rv er1 rt) w4.drew at hx4
          change (Instr.lookup 80 (.map (some mr)) (.string rt) false).run Ybaf.prog (w4.alloc (.cells #[.string rf, .string rt, .int .i64 rr, .int .i64 rc] 103)).drew = .ok (rv er1 rt) _ at hx5
          obtain ⟨oa, ca, hsl, _, _⟩ := ownsRow_slice hrow4.1
          have HSL : Hid (rv er1 rt = .slice oa (fileR kn R0 (refs.take j) rt).length ca) := hsl
          rw [hsl] at hx4 hx5 hrb hrs hrow4
          clear hsl
          have n1 := World.new_ne w4 ⟨s, 8, none⟩ q8'
          have n2 := World.new_ne w4 _ b0'
          have HROW4 : Hid (Row N w4 103 4 (.slice oa (fileR kn R0 (refs.take j) rt).length ca) (fileR kn R0 (refs.take j) rt).length (rfs (fileR kn R0 (refs.take j) rt))) := hrow4
          have HR4 : Hid (RefsOk N w4 er1 (fileR kn R0 (refs.take j))) := hR4
          have HM4 : Hid (MapAt Value.string w4 mr er1) := hM4
          have HI4 : Hid (MapAt Value.string w4 mi es') := hI4
          have HFr4 : Hid (Fr N [103] [mi, mr] w w4) := hFr4
          have HN4 : Hid (∀ k, N k → k < w4.heap.size) := hN4
          have HO1 : Hid (Once er1) := ho1
          have HCNT : Hid ((fileR kn R0 (refs.take j) rt).length < 1000000) := hcnt
          clear hrow4 hR4 hM4 hI4 hFr4 hN4 ho1 hcnt hR1 hmr1 HSr hfa hl q1 q8 b0 b1 b2 b3 c0 c1 c2 c3 r1 r8 zs
          go_region_held3 (fun w' => w'.cell? ⟨s, 8, none⟩ = some (.map (some mr)) ∧ w'.cell? ⟨B, 0, none⟩ = some (.string rf) ∧ w'.cell? ⟨B, 1, none⟩ = some (.string rt) ∧ w'.cell? ⟨B, 2, none⟩ = some (.int .i64 rr) ∧ w'.cell? ⟨B, 3, none⟩ = some (.int .i64 rc))
            (first
              | (go_split_ands
                 exact ⟨hs3.cell (by assumption), hs3.cell (by assumption), hs3.cell (by assumption), hs3.cell (by assumption), hs3.cell (by assumption)⟩)
              | (go_split_ands
                 exact ⟨hG.cell (by assumption) hrs, hG.cell (by assumption) hrb, hG.cell (by assumption) hrb, hG.cell (by assumption) hrb, hG.cell (by assumption) hrb⟩)
              | (go_keep; done))
            ((refine step_append_row _ (by rfl) _ _ 100 (by rfl) 103 Ybaf.t103 (.agg #[.string ⟨#[]⟩, .string ⟨#[]⟩, .int .i64 0, .int .i64 0]) 4 48 Ybaf.underlying100 (by kernel_rfl) hz103 rfl rfl rfl (by decide) (N := N) (fun k hk => by have := HN4.out k hk; simp; omega) (.slice oa (fileR kn R0 (refs.take j) rt).length ca) _ (rfs (fileR kn R0 (refs.take j) rt)) (by rfl)
                  (HROW4.out.kept ((Fr.refl N [] [] w4).alloc _).drew (by simp)) ⟨w4.heap.size, 0, none⟩ 1 1 [.string rf, .string rt, .int .i64 rr, .int .i64 rc] (by rfl) (by rfl) (news_alloc w4 _ _) (by simp [Value.oneCell']) (by have := HCNT.out; simp [maxLen]; omega) (by have := HCNT.out; omega) ?_
              intro v' w5 hG
              obtain ⟨w6, hrun, hm3, hs3⟩ := run_update (KK.string Ybaf.underlying9) Ybaf.underlying80 (((HM4.out.kept ((Fr.refl N [] [] w4).alloc _).drew (by simp)).kept hG.fr (by simp))) rt v'))
          all_goals
            have hG2 := hG
            rw [← HSL.out] at hG2
            have hRn := (HR4.out.kept ((Fr.refl N [] [] w4).alloc (.cells #[.string rf, .string rt, .int .i64 rr, .int .i64 rc] 103)).drew (by simp)).grew ⟨rf, rt, rr, rc⟩ hG2
            have hFn : Filed N mi mr es' (fileR kn R0 (refs.take (j + 1))) w w6 := by
              have hf5 : Fr N [103] [mi, mr] w w5 := ((HFr4.out.alloc _).drew).trans (hG.fr.wider (by simp) (by simp))
              refine ⟨?_, ⟨put rt v' er1, hm3, HO1.out.put rt v', ?_⟩, hf5.mapSet hs3 (by simp) hNr⟩
              · exact ((HI4.out.kept ((Fr.refl N [] [] w4).alloc _).drew (by simp)).kept hG.fr (by simp)).kept (hs3.fr (N := N) [] hNr) (by simpa using hne)
              · rw [fileR_take HRJ.out, fileStep, if_neg (by
                  rintro (h | h)
                  · rw [Hkn.out] at h
                    have h2 : (get es' rt).isSome = true := h
                    rw [HK.out] at h2
                    cases h2
                  · exact HG.out h)]
                exact hRn.kept (hs3.fr (N := N) [] hNr) (by simp)
            have HFn : Hid (Filed N mi mr es' (fileR kn R0 (refs.take (j + 1))) w w6) := hFn
            clear hFn hRn hG2
            go_wp2_with fail
            go_roundw
            case rel => exact ⟨j + 1, by simp, by omega, HFn.out⟩
            case measure => simp [intOf]; omega
    · have HF : Hid (Filed N mi mr es' (fileR kn R0 (refs.take j)) w wr) := hF
      clear hF
      go_wp2_with fail
      go_end0
      have := HF.out
      rw [List.take_of_length_le (by omega)] at this
      rw [← HE3.out, ← HE2.out, ← HE1.out] at this
      exact ⟨rfl, this⟩
end Go.Proofs.YbulkkeiFmt
