/-
  THE VIEW (2): wake.
-/
import Derived.Test.YbulkkeiFmtAwait
import Derived.Deep.RegionLaw
namespace Go.Proofs.YbulkkeiFmt
open Go.RowKit Go.Extern.Stop Go.Stop Go.Extern
set_option maxRecDepth 8000
attribute [local go_sem ↓] Go.wp_at_zero Go.wp_at_succ

def lenV : Value → Nat
  | .slice _ n _ => n
  | _ => 0
def tok (ea : List (ByteArray × Value)) : Nat := (ea.map fun p => lenV p.2).sum
theorem tok_put (k : ByteArray) (v : Value) : ∀ ea, tok (put k v ea) + lenV ((get ea k).getD (.slice none 0 0)) = tok ea + lenV v
  | [] => by simp [put, tok, get_nil, lenV]
  | p :: ea => by
    unfold put
    rw [get_cons]
    by_cases h : k = p.1
    · rw [if_pos h, if_pos h]; simp [tok]; omega
    · rw [if_neg h, if_neg h]
      have := tok_put k v ea
      simp [tok] at this ⊢
      omega
theorem tok_del (k : ByteArray) : ∀ ea, tok (del k ea) + lenV ((get ea k).getD (.slice none 0 0)) = tok ea
  | [] => by simp [del, tok, get_nil, lenV]
  | p :: ea => by
    unfold del
    rw [get_cons]
    by_cases h : k = p.1
    · rw [if_pos h, if_pos h]; simp [tok]; omega
    · rw [if_neg h, if_neg h]
      have := tok_del k ea
      simp [tok] at this ⊢
      omega
/-- Every row of the map, whichever key. -/
def AllRows (N : Nat → Prop) (w : World) (ea : List (ByteArray × Value)) : Prop := ∀ p ∈ ea, ∃ n xs, Row N w 111 3 p.2 n xs
theorem AllRows.get {N : Nat → Prop} {w : World} {ea : List (ByteArray × Value)} (h : AllRows N w ea) (k : ByteArray) : ∃ n xs, Row N w 111 3 ((get ea k).getD (.slice none 0 0)) n xs := by
  induction ea with
  | nil => exact ⟨0, [], by rw [get_nil]; exact Row.nil N w 111 3⟩
  | cons p ea ih =>
    rw [get_cons]
    by_cases hk : k = p.1
    · rw [if_pos hk]; exact h p (by simp)
    · rw [if_neg hk]; exact ih (fun q hq => h q (by simp [hq]))
theorem mem_del {k : ByteArray} {p : ByteArray × Value} : ∀ {ea : List (ByteArray × Value)}, p ∈ del k ea → p ∈ ea
  | [], h => h
  | q :: ea, h => by
    unfold del at h
    split at h
    · simp [h]
    · simp at h
      rcases h with h | h
      · simp [h]
      · simp [mem_del h]
theorem mem_put {k : ByteArray} {v : Value} {p : ByteArray × Value} : ∀ {ea : List (ByteArray × Value)}, p ∈ put k v ea → p ∈ ea ∨ p.2 = v
  | [], h => by simp [put] at h; simp [h]
  | q :: ea, h => by
    unfold put at h
    split at h
    · simp at h
      rcases h with h | h
      · simp [h]
      · simp [h]
    · simp at h
      rcases h with h | h
      · simp [h]
      · rcases mem_put h with h | h <;> simp [h]
theorem AllRows.kept {N : Nat → Prop} {w w' : World} {ea : List (ByteArray × Value)} (h : AllRows N w ea) {N' : Nat → Prop} {W : List TypeId} {M : List Nat} (hf : Fr N' W M w w') : AllRows N w' ea := fun p hp => by
  obtain ⟨n, xs, hr⟩ := h p hp
  obtain ⟨ys, hy⟩ := hr.shape hf
  exact ⟨n, ys, hy⟩
theorem row_lenV {N : Nat → Prop} {w : World} {e : TypeId} {sz : Nat} {v : Value} {n : Nat} {xs : List Value} (h : Row N w e sz v n xs) : lenV v = n := by
  obtain ⟨a, c, rfl, _⟩ := ownsRow_slice h.1
  rfl

theorem ViewAt.setWo {K : VK} {w : World} {v s : Nat} {st ch : Value} {re : Int} {ma : Nat} {wo rd : Value} (h : ViewAt K w v s st ch re ma wo rd) (wo' : Value) : ViewAt K (w.setCell ⟨v, 12, none⟩ wo') v s st ch re ma wo' rd := heap_setCell_same w h
theorem ViewAt.setRd {K : VK} {w : World} {v s : Nat} {st ch : Value} {re : Int} {ma : Nat} {wo rd : Value} (h : ViewAt K w v s st ch re ma wo rd) (rd' : Value) : ViewAt K (w.setCell ⟨v, 13, none⟩ rd') v s st ch re ma wo rd' := heap_setCell_same w h
theorem ViewAt.setRe {K : VK} {w : World} {v s : Nat} {st ch : Value} {re : Int} {ma : Nat} {wo rd : Value} (h : ViewAt K w v s st ch re ma wo rd) (re' : Int) : ViewAt K (w.setCell ⟨v, 7, none⟩ (.int .i64 re')) v s st ch re' ma wo rd := heap_setCell_same w h
theorem ViewAt.setSt {K : VK} {w : World} {v s : Nat} {st ch : Value} {re : Int} {ma : Nat} {wo rd : Value} (h : ViewAt K w v s st ch re ma wo rd) (st' : Value) : ViewAt K (w.setCell ⟨v, 5, none⟩ st') v s st' ch re ma wo rd := heap_setCell_same w h
theorem ViewAt.setCh {K : VK} {w : World} {v s : Nat} {st ch : Value} {re : Int} {ma : Nat} {wo rd : Value} (h : ViewAt K w v s st ch re ma wo rd) (ch' : Value) : ViewAt K (w.setCell ⟨v, 6, none⟩ ch') v s st ch' re ma wo rd := heap_setCell_same w h

theorem step_append_none {P : Program} {ops : Array Oper} {o : Oper} {a : Act} {w : World} {C : Act → World → Prop} {Q : Exit → Act → World → Prop} {E : Prop} (hgd : o.guard = none) (s x : Operand) (t : TypeId)
    (ho : o.op = .call { callee := .builtin .append, args := #[s, x], argTypes := #[t, t] }) (e : TypeId) (i : TypeInfo) (ht : P.underlying t = some (.slice e)) (hi : P.info? e = some i)
    (oa : Option Addr) (n cap : Nat) (hs : a.eval s = .slice oa n cap) (hn : n ≤ cap) (hx : a.eval x = .slice none 0 0) (h : C (a.put o.dst (.slice oa n cap)) w) :
    if Region.wanted o (yielded ops a.tmps) = true then Oper.wp P o a w C Q else E := by
  have hw : Region.wanted o (yielded ops a.tmps) = true := by simp [Region.wanted, hgd]
  rw [if_pos hw]
  have hr : (Builtin.append_ #[t, t] o.type #[.slice oa n cap, .slice none 0 0]).run P w = .ok (.slice oa n cap) w := by
    simp [Builtin.append_, run_underlying ht, sizeOf, typeInfo, hi, Builtin.lenOf, Builtin.firstCells, loadCells, hn]
    cases oa <;> simp [storeCells]
  unfold Oper.wp execOp
  simp only [ho, resolve, invoke, builtin, Sem.run_bind, Sem.run_pure, Result.andThen_ok, List.map_toArray, List.map_cons, List.map_nil, hs, hx, hr]
  exact h

theorem MapAt.set {κ : Type} {ι : κ → Value} {w : World} {m : Nat} {es : List (κ × Value)} (h : MapAt ι w m es) {k o : Nat} {u : Value} (hk : k ≠ m) : MapAt ι (w.setCell ⟨k, o, none⟩ u) m es := by
  obtain ⟨arr, clock, h1, h2⟩ := h
  exact ⟨arr, clock, (heap_setCell_other w (Ne.symm hk)).trans h1, h2⟩
theorem MapAt.ne {κ : Type} {ι : κ → Value} {w : World} {m : Nat} {es : List (κ × Value)} (h : MapAt ι w m es) {k : Nat} {c : Array Value} {e : TypeId} {f : Nat × Nat} (hk : w.heap[k]? = some (.cells c e f)) : k ≠ m := by
  obtain ⟨arr, clock, h1, h2⟩ := h
  intro e
  subst e
  rw [h1] at hk
  cases hk
theorem Typed.set {N : Nat → Prop} {w : World} {e : TypeId} {sz : Nat} {Φ : Nat → Value → Prop} (h : Typed N w e sz Φ) {k o : Nat} {u : Value} {c : Array Value} {e' : TypeId} {f : Nat × Nat} (hk : w.heap[k]? = some (.cells c e' f)) (hne : e' ≠ e) : Typed N (w.setCell ⟨k, o, none⟩ u) e sz Φ := by
  refine h.kept fun j c' f' _ hb => ?_
  by_cases hj : j = k
  · subst hj
    rw [heap_setCell_same w hk] at hb
    cases hb
    exact absurd rfl hne
  · rwa [heap_setCell_other w hj] at hb

theorem HeldΦ.one {n j : Nat} {u : Value} (h : HeldΦ n j u) (hj : j < 3) : u.oneCell' = true := by
  rcases (by omega : j = 0 ∨ j = 1 ∨ j = 2) with rfl | rfl | rfl
  · rw [h.1 rfl]; rfl
  · obtain ⟨a, rfl, _⟩ := h.2.1 rfl; rfl
  · obtain ⟨a, rfl⟩ := h.2.2 rfl; rfl

/-- What wake leaves. -/
structure Woke (N : Nat → Prop) (K : VK) (v s : Nat) (st ch : Value) (re : Int) (ma : Nat) (wo rd : Value) (ea : List (ByteArray × Value)) (nv : Nat) (w : World) (wo' : Value) (ea' : List (ByteArray × Value)) (w' : World) : Prop where
  view : ViewAt K w' v s st ch re ma wo' rd
  map : MapAt Value.string w' ma ea'
  row : ∃ n xs, Row N w' 111 3 wo' n xs
  rows : AllRows N w' ea'
  count : lenV wo' + tok ea' = lenV wo + tok ea
  typed : Typed N w' 111 3 (HeldΦ nv)
  fr : Fr N [70, 111] [ma] w w'

set_option maxHeartbeats 3200000 in
theorem wake_ok {N : Nat → Prop} {K : VK} {w : World} {v s : Nat} {st ch : Value} {re : Int} {ma : Nat} {wo rd : Value} (hV : ViewAt K w v s st ch re ma wo rd) (hN : ∀ k, N k → k < w.heap.size) (hnv : ¬ N v) (hma : ¬ N ma)
    {ea : List (ByteArray × Value)} (hm : MapAt Value.string w ma ea) (hrow : ∃ n xs, Row N w 111 3 wo n xs) (hrows : AllRows N w ea) {nv : Nat} (h0 : 0 < nv) (hT : Typed N w 111 3 (HeldΦ nv)) (hlen : lenV wo + tok ea < 1000) (id : ByteArray) :
    Calls Ybaf.prog 47 #[.pointer (some ⟨v, 0, none⟩), .string id] w fun e w' => e = .returned (.tuple #[]) ∧ ∃ wo' ea', Woke N K v s st ch re ma wo rd ea nv w wo' ea' w' := by
  obtain ⟨v0, v4, v5, v6, v7, v10, v12, v13, v16⟩ := hV.cells
  have fv := hV.free 12
  have hm0 := hm
  obtain ⟨arr, clock, hb, hl⟩ := hm0
  have hsz : arr.size = ea.length := by have := congrArg List.length hl; simpa using this
  have hrl : (Builtin.len_ #[64] 3 #[.map (some ma)]).run Ybaf.prog w = .ok (.int .i64 ea.length) w := by
    unfold Builtin.len_
    simp [MapKept.run_getObj_map hb, hsz]
    rfl
  have HV : Hid (ViewAt K w v s st ch re ma wo rd) := hV
  have HM : Hid (MapAt Value.string w ma ea) := hm
  have HT : Hid (Typed N w 111 3 (HeldΦ nv)) := hT
  have HRS : Hid (AllRows N w ea) := hrows
  by_cases he : ea.length = 0
  · rw [he] at hrl
    clear hV hm hT hb hl hrows
    go_enter Ybaf.func47, Ybaf.ntmps47
    go_wp2_with fail
    refine bodyPost_ret (v := .tuple #[]) (by simp [results]) rfl ?_
    exact ⟨rfl, wo, ea, HV.out, HM.out, hrow, HRS.out, rfl, HT.out, Fr.refl ..⟩
  · have he2 : ((ea.length : Int) == 0) = false := by
      rw [beq_eq_false_iff_ne]
      omega
    have hlk := run_look (KK.string Ybaf.underlying9) Ybaf.underlying64 zero_held (w := w.drew) HM.out id
    obtain ⟨na, xa, hra⟩ := hrows.get id
    have hca := tok_del id ea
    generalize (get ea id).getD (.slice none 0 0) = aw at hlk hra hca
    obtain ⟨nw, xw, hrw⟩ := hrow
    have lw := row_lenV hrw
    have la := row_lenV hra
    have HRW : Hid (Row N w 111 3 wo nw xw) := hrw
    obtain ⟨ow, cw, rfl, _, _⟩ := ownsRow_slice hrw.1
    have hwv : (Value.slice ow nw cw).ownBlock ≠ some v := hrw.ne hV (by decide)
    clear hV hm hT hb hl hrows hrw
    rcases hra.cases with ⟨rfl, rfl, rfl⟩ | ⟨g, cap, cur, rfl, hg, hgb, hc1, hc2, hc3, hc4⟩
    · go_enter Ybaf.func47, Ybaf.ntmps47
      go_wp2_with fail
      go_region_law ((refine step_append_none (by rfl) _ _ 66 (by rfl) 111 Ybaf.t111 Ybaf.underlying66 (by kernel_rfl) ow nw cw (by rfl) (by assumption) (by rfl) ?_))
      all_goals
        have hV2 : ViewAt K (w.setCell ⟨v, 12, none⟩ (.slice ow nw cw)).drew v s st ch re ma (.slice ow nw cw) rd := HV.out.setWo _
        have hM2 : MapAt Value.string (w.setCell ⟨v, 12, none⟩ (.slice ow nw cw)).drew ma ea := HM.out.set (HM.out.ne HV.out)
        have hF2 : Fr N [70, 111] [ma] w (w.setCell ⟨v, 12, none⟩ (.slice ow nw cw)).drew := ((Fr.refl N [70, 111] [ma] w).setCell HV.out (by simp) hnv).drew
        have hT2 : Typed N (w.setCell ⟨v, 12, none⟩ (.slice ow nw cw)).drew 111 3 (HeldΦ nv) := HT.out.set HV.out (by decide)
        generalize (w.setCell ⟨v, 12, none⟩ (.slice ow nw cw)).drew = w2 at hV2 hM2 hF2 hT2 ⊢
        have u10 := hV2.cells.2.2.2.2.2.1
        have HV2 : Hid (ViewAt K w2 v s st ch re ma (.slice ow nw cw) rd) := hV2
        have HF2 : Hid (Fr N [70, 111] [ma] w w2) := hF2
        have HT2 : Hid (Typed N w2 111 3 (HeldΦ nv)) := hT2
        clear hV2 hF2 hT2 v0 v4 v5 v6 v7 v10 v12 v13 v16 fv hrl hlk
        obtain ⟨w3, hrun, hm3, hs3⟩ := run_delete (ty := 0) (KK.string Ybaf.underlying9) Ybaf.underlying64 hM2 id
        go_wp2_with fail
        go_end0
        have hF3 : Fr N [70, 111] [ma] w w3 := HF2.out.mapSet hs3 (by simp) hma
        have hm3' := hm3
        obtain ⟨arr3, clock3, h3, _⟩ := hm3'
        refine ⟨rfl, _, del id ea, hs3.block HV2.out, hm3, ?_, ?_, ?_, HT2.out.mapSet hs3 ⟨_, _, h3⟩, hF3⟩
        · obtain ⟨ys, hy⟩ := HRW.out.shape hF3
          exact ⟨_, _, hy⟩
        · exact fun p hp => (HRS.out.kept hF3) p (mem_del hp)
        · simp [lenV] at hca ⊢
          omega
    · have hlk2 : ∀ j u, xa[j]? = some u → w.cell? ((⟨g, 0, none⟩ : Addr).add j) = some u := hra.1.cells (g := g) rfl
      have hΦ : ∀ (j : Nat) (u : Value), xa[j]? = some u → HeldΦ nv (j % 3) u := by
        intro j u hj
        refine HT.out g cur _ hg hgb j u ?_
        rw [← hc4, List.getElem?_take] at hj
        split at hj
        · simpa using hj
        · cases hj
      have hone : ∀ u ∈ xa, u.oneCell' = true := by
        intro u hu
        obtain ⟨j, hj⟩ := List.getElem?_of_mem hu
        exact (hΦ j u hj).one (Nat.mod_lt _ (by omega))
      have HΦ : Hid (∀ (j : Nat) (u : Value), xa[j]? = some u → HeldΦ nv (j % 3) u) := hΦ
      clear hΦ
      go_enter Ybaf.func47, Ybaf.ntmps47
      go_wp2_with fail
      go_region_law
       ((refine step_append_row _ (by rfl) _ _ 66 (by rfl) 111 Ybaf.t111 (.agg #[.pointer none, .int .i32 0, .int .i64 0]) 3 24 Ybaf.underlying66 (by kernel_rfl) hz111 rfl rfl rfl (by decide) (N := N) hN (.slice ow nw cw) nw xw (by rfl)
          (HRW.out.same (fun _ _ => rfl)) ⟨g, 0, none⟩ na cap xa (by rfl) hra.len hlk2 hone (by simp [maxLen, lenV] at *; omega) (by simp [lenV] at *; omega) ?_
         intro v' w2 hG
         obtain ⟨o2, cap2, rfl, _, _⟩ := ownsRow_slice hG.row.1
         have u12 := hG.cell (b := v) (o := 12) (by exact v12) hwv
         have f12 : w2.frozen? ⟨v, 12, none⟩ = false := (show ViewAt K w2 v s st ch re ma (.slice ow nw cw) rd from hG.fr.keepC v _ _ _ HV.out (by decide)).free 12))
      all_goals
        have hVa : ViewAt K w2 v s st ch re ma (.slice ow nw cw) rd := hG.fr.keepC v _ _ _ HV.out (by decide)
        have hMa : MapAt Value.string w2 ma ea := HM.out.kept (w' := w2) (show Fr N [111] [] w w2 from (Fr.refl N [111] [] w).drew.trans hG.fr) (by simp)
        have hFa : Fr N [70, 111] [ma] w w2 := (Fr.refl N [70, 111] [ma] w).drew.trans (hG.fr.wider (by simp) (by simp))
        have hTa : Typed N w2 111 3 (HeldΦ nv) := hG.typed _ HT.out HΦ.out (HeldΦ.zero h0)
        have hV2 := hVa.setWo (.slice o2 (nw + na) cap2)
        have hM2 := hMa.set (k := v) (o := 12) (u := .slice o2 (nw + na) cap2) (hMa.ne hVa)
        have hF2 := hFa.setCell (o := 12) (v := .slice o2 (nw + na) cap2) hVa (by simp) hnv
        have hT2 := hTa.set (o := 12) (u := .slice o2 (nw + na) cap2) hVa (by decide)
        have hR2 := hG.row.setCell (k := v) (o := 12) (u := .slice o2 (nw + na) cap2) (hG.row.ne hVa (by decide))
        clear hVa hMa hFa hTa hG u12 f12
        generalize w2.setCell ⟨v, 12, none⟩ (.slice o2 (nw + na) cap2) = w4 at hV2 hM2 hF2 hT2 hR2 ⊢
        have u10 := hV2.cells.2.2.2.2.2.1
        have HV2 : Hid (ViewAt K w4 v s st ch re ma (.slice o2 (nw + na) cap2) rd) := hV2
        have HF2 : Hid (Fr N [70, 111] [ma] w w4) := hF2
        have HT2 : Hid (Typed N w4 111 3 (HeldΦ nv)) := hT2
        have HR2 : Hid (Row N w4 111 3 (.slice o2 (nw + na) cap2) (nw + na) (xw ++ xa)) := hR2
        clear hV2 hF2 hT2 hR2 v0 v4 v5 v6 v7 v10 v12 v13 v16 fv hrl hlk hlk2 hone hra
        obtain ⟨w3, hrun, hm3, hs3⟩ := run_delete (ty := 0) (KK.string Ybaf.underlying9) Ybaf.underlying64 hM2 id
        go_wp2_with fail
        go_end0
        have hF3 : Fr N [70, 111] [ma] w w3 := HF2.out.mapSet hs3 (by simp) hma
        have hm3' := hm3
        obtain ⟨arr3, clock3, h3, _⟩ := hm3'
        refine ⟨rfl, _, del id ea, hs3.block HV2.out, hm3, ⟨_, _, HR2.out.kept (hs3.fr [] hma) (by simp)⟩, ?_, ?_, HT2.out.mapSet hs3 ⟨_, _, h3⟩, hF3⟩
        · exact fun p hp => (HRS.out.kept hF3) p (mem_del hp)
        · simp [lenV] at hca ⊢
          omega
end Go.Proofs.YbulkkeiFmt
