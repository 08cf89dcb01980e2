/-
  THE VIEW (11): AddVoter.
-/
import Derived.Test.YbulkkeiFmtReceive2
namespace Go.Proofs.YbulkkeiFmt
open Go.RowKit Go.Extern.Stop Go.Stop Go.Extern
set_option maxRecDepth 8000
attribute [local go_sem ↓] Go.wp_at_zero Go.wp_at_succ

section
variable {V : VA} {A : SA} {L : Nat → Prop} {w : World} {g : SG} {x : VG}

theorem kcOf_add (hp : Plain g) {id : ByteArray} (hn : get g.es id = none) {vs co : Value} {slot : Nat} {par : Int} {cs : List Int} {er : List (ByteArray × Value)} {em eu : List (Int × Value)} {refs : List RF} {c : Int} (hpre : g.cs <+: cs) (hs : cs[slot]? = some c) (y : ByteArray) :
    kcOf (g.add vs co id slot par cs er em eu refs) y = if y = id then some c else kcOf g y := by
  unfold kcOf
  show (match get (put id (.int .i32 g.l.length) g.es) y with | some (.int _ i) => ((g.l ++ [(⟨id, slot, par, false, 0⟩ : VR)])[i.toNat]?).bind fun r => cs[r.slot]? | _ => none) = _
  by_cases e : y = id
  · subst e
    rw [get_put_same, if_pos rfl]
    simp [hs]
  · rw [get_put_other _ _ _ e, if_neg e]
    cases hk : get g.es y with
    | none => rfl
    | some v =>
      obtain ⟨i, r, rfl, h1, h2⟩ := (hp.index y v).1 hk
      have h3 := hp.slot i r h1
      have h4 : (g.l ++ [(⟨id, slot, par, false, 0⟩ : VR)])[i]? = some r := getElem?_old h1
      obtain ⟨t, rfl⟩ := hpre
      simp only [Int.toNat_natCast, h4, h1, Option.bind_some]
      rw [List.getElem?_append_left h3]

theorem Onw.add {vs co : Value} {id : ByteArray} {slot : Nat} {par : Int} {cs : List Int} {er : List (ByteArray × Value)} {em eu : List (Int × Value)} {refs : List RF} : Onw g (g.add vs co id slot par cs er em eu refs) :=
  ⟨by show g.l.length ≤ (g.l ++ [_]).length; simp, fun i r hi => ⟨r, getElem?_old hi, fun _ => rfl, fun _ => rfl⟩⟩

/-- The store's refusal. -/
def Bad (A : SA) (g : SG) (k : Nat) (c : Int) (p : ByteArray) (xs : List ByteArray) : Prop := 4 ≤ k ∨ c < 0 ∨ A.ch ≤ c ∨ (get g.es (nameB k)).isSome = true ∨ admitBad (kcOf g) g.R (nameB k) c (mkRefs (nameB k) c p xs) = true

def ViewAdds (V : VA) (A : SA) (L : Nat → Prop) (g : SG) (x : VG) (k : Nat) (c : Int) (p : ByteArray) (xs : List ByteArray) (w : World) (e : Ending) (w' : World) : Prop :=
  (∃ (v : Value), e = .returned v ∧ Err v ∧ Bad A g k c p xs ∧ Below w.heap.size w w') ∨
  (∃ (g' : SG) (x' : VG), e = .returned .nilIface ∧ ¬ Bad A g k c p xs ∧ Both V A L w' g' x' ∧ Fr L WW (MM V A) w w' ∧ x'.ss.length = g'.l.length ∧ x'.cnt + lenV x'.wo ≤ x.cnt + lenV x.wo + 1 ∧ (∀ y, (get g'.es y).isSome = ((get g.es y).isSome || decide (y = nameB k))) ∧ (∀ y, kcOf g' y = if y = nameB k then some c else kcOf g y) ∧ g'.R = fileR (fun y => (get g'.es y).isSome) (upd g.R (nameB k) []) (mkRefs (nameB k) c p xs))
theorem ViewAdds.refused {V : VA} {A : SA} {L : Nat → Prop} {g : SG} {x : VG} {k : Nat} {c : Int} {p : ByteArray} {xs : List ByteArray} {w : World} {e : Ending} {w' : World} (v : Value) (h1 : e = .returned v) (h2 : Err v) (h3 : Bad A g k c p xs) (h4 : Below w.heap.size w w') : ViewAdds V A L g x k c p xs w e w' := .inl ⟨v, h1, h2, h3, h4⟩
theorem ViewAdds.added {V : VA} {A : SA} {L : Nat → Prop} {g : SG} {x : VG} {k : Nat} {c : Int} {p : ByteArray} {xs : List ByteArray} {w : World} {e : Ending} {w' : World} (g' : SG) (x' : VG) (h1 : e = .returned .nilIface) (h2 : ¬ Bad A g k c p xs) (h3 : Both V A L w' g' x') (h4 : Fr L WW (MM V A) w w') (h5 : x'.ss.length = g'.l.length) (h6 : x'.cnt + lenV x'.wo ≤ x.cnt + lenV x.wo + 1) (h7 : (∀ y, (get g'.es y).isSome = ((get g.es y).isSome || decide (y = nameB k)))) (h8 : (∀ y, kcOf g' y = if y = nameB k then some c else kcOf g y)) (h9 : g'.R = fileR (fun y => (get g'.es y).isSome) (upd g.R (nameB k) []) (mkRefs (nameB k) c p xs)) : ViewAdds V A L g x k c p xs w e w' := .inr (⟨g', x', h1, h2, h3, h4, h5, h6, h7, h8, h9⟩)

/-- A world of the same view and store. -/
structure AsWas (V : VA) (A : SA) (L : Nat → Prop) (x : VG) (w w2 wx : World) : Prop where
  both : ∀ g', Both V A L w2 g' x → Both V A L wx g' x
  fr : ∀ W M, Fr L W M w w2 → Fr L W M w wx
  below : Below w.heap.size w w2 → Below w.heap.size w wx
theorem AsWas.alloc57 (w w2 : World) (c : Array Value) : AsWas V A L x w w2 (w2.alloc (.cells c 57)) :=
  ⟨fun _ h => (h.alloc c 57 (fun h => absurd h (by decide))).both, fun _ _ h => h.alloc _, fun h => h.alloc h.size _⟩
theorem AsWas.set57 {w w2 : World} {B : Nat} {c : Array Value} (hb : w2.heap[B]? = some (.cells c 57 (0, 0))) (hL : ¬ L B) (hB : w.heap.size ≤ B) (u0 u1 : Value) : AsWas V A L x w w2 ((w2.setCell ⟨B, 0, none⟩ u0).setCell ⟨B, 1, none⟩ u1) := by
  have hf : Fr L [57] [] w2 ((w2.setCell ⟨B, 0, none⟩ u0).setCell ⟨B, 1, none⟩ u1) := ((Fr.refl L [57] [] w2).setCell hb (by simp) hL).setCell (heap_setCell_same w2 hb) (by simp) hL
  refine ⟨fun g' h => h.ofStore (h.store.kept hf (by decide) (by simp)) hf (by decide) (by simp) (Onw.refl g'), fun _ _ h => (h.setFresh hB).setFresh hB, fun h => ?_⟩
  exact (h.setCell (p := ⟨B, 0, none⟩) hB _).setCell (p := ⟨B, 1, none⟩) hB _
/-- Behind 'e, err := v.store.AddVoter(b)'. -/
def AddMid (V : VA) (A : SA) (L : Nat → Prop) (g : SG) (x : VG) (k : Nat) (c : Int) (p : ByteArray) (xs : List ByteArray) (w : World) (s5 s6 : Value) (wx : World) : Prop :=
  ∃ (o : Option Addr) (n : Int) (B : Nat) (wz w2 : World), Both V A L wz g x ∧ Fr L WW (MM V A) w wz ∧ Below w.heap.size w wz ∧ Adds A L g k c p xs wz (.returned (.tuple #[.agg #[.pointer o, .int .i32 n], s6])) w2 ∧ s5 = .pointer (some ⟨B, 0, none⟩) ∧ wx.heap[B]? = some (.cells #[.pointer o, .int .i32 n] 57 (0, 0)) ∧ AsWas V A L x w w2 wx
theorem Adds.keeps {k : Nat} {c : Int} {p : ByteArray} {xs : List ByteArray} {wz w2 : World} {e : Ending} (h : Adds A L g k c p xs wz e w2) {B : Nat} {cc : Array Value} (hb : wz.heap[B]? = some (.cells cc 57 (0, 0))) : w2.heap[B]? = some (.cells cc 57 (0, 0)) := by
  have hlt : B < wz.heap.size := (Array.getElem?_eq_some_iff.1 hb).1
  rcases h with ⟨_, _, _, _, hB⟩ | ⟨_, _, _, _, _, _, _, _, hB⟩ | ⟨_, _, _, _, _, _, _, _, _, _, _, _, _, _, _, _, _, hF⟩
  · exact (hB.block B hlt).trans hb
  · exact (hB.block B hlt).trans hb
  · exact hF.keepC _ _ _ _ hb (by decide)
theorem Adds.shape {k : Nat} {c : Int} {p : ByteArray} {xs : List ByteArray} {wz w2 : World} {e : Ending} (h : Adds A L g k c p xs wz e w2) : ∃ (o : Option Addr) (n : Int) (er : Value), e = .returned (.tuple #[.agg #[.pointer o, .int .i32 n], er]) := by
  rcases h with ⟨v, he, -⟩ | ⟨i, r, _, _, _, he, -⟩ | ⟨_, _, _, _, _, _, _, _, _, _, _, _, _, he, -⟩
  · exact ⟨_, _, _, he⟩
  · exact ⟨_, _, _, he⟩
  · exact ⟨_, _, _, he⟩

set_option maxHeartbeats 12800000 in
theorem addV_ok (F : Interp) (h : Both V A L w g x) (hF : F.answers w.tape) (hfull : x.ss.length = g.l.length) (hc : x.cnt + lenV x.wo < 900) {k : Nat} (hk : k < 6) (c : Int) (hc1 : -1000 < c) (hc2 : c < 1000) {p : ByteArray} (hp : k < 4 → p = gen ∨ Less p (nameB k)) {vb : Value} {gb cb : Nat} {xs : List ByteArray} (hvb : vb = .slice (some ⟨gb, 0, none⟩) xs.length cb) (hvr : w.ownsRow 0 9 1 vb xs.length (strs xs)) (hx : xs.length ≤ 256) :
    Calls Ybaf.prog 7 #[.pointer (some ⟨V.v, 0, none⟩), blockV (nameB k) c p vb] w fun e w' => ViewAdds V A L g x k c p xs w e w' := by
  unfold blockV
  obtain ⟨w1, hw1⟩ : ∃ w1, w1 = w.alloc (.cells #[.string (nameB k), .int .i64 c, .string p, vb] 42) := ⟨_, rfl⟩
  have hM1 : Moved V A L w g x w1 g x := by rw [hw1]; exact h.alloc _ 42 (fun h => absurd h (by decide))
  obtain ⟨w1z, hw1z⟩ : ∃ w1z, w1z = w1.alloc (.cells #[.pointer none, .int .i32 0] 57) := ⟨_, rfl⟩
  have hM2 : Moved V A L w g x w1.drew g x := hM1.trans hM1.both.drew
  have hM3 : Moved V A L w g x w1z.drew g x := by
    have h1 : Moved V A L w g x w1z g x := by rw [hw1z]; exact hM1.trans (hM1.both.alloc _ 57 (fun h => absurd h (by decide)))
    exact h1.trans h1.both.drew
  have hBl : Below w.heap.size w w1.drew := by rw [hw1]; exact ((Below.refl _ w).alloc (Nat.le_refl _) _).drew
  have hBl3 : Below w.heap.size w w1z.drew := by rw [hw1z, hw1]; exact (((Below.refl _ w).alloc (Nat.le_refl _) _).alloc (by simp) _).drew
  have key : ∀ wz, Moved V A L w g x wz g x → Below w.heap.size w wz → Calls Ybaf.prog 11 #[.pointer (some ⟨A.s, 0, none⟩), .agg #[.string (nameB k), .int .i64 c, .string p, vb]] wz fun e w' => Adds A L g k c p xs wz e w' := by
    intro wz hM hB
    have hvr2 := ownsRow_kept hvr (Fr.of_below (N := noN) (W := []) (M := []) hB) (by simp)
    rcases (by omega : k < 4 ∨ k = 4 ∨ k = 5) with h4 | h4
    · exact storeAdd_ok F (by rw [hB.tape]; exact hF) hM.both.sa hM.both.low hM.both.store h4 c hc1 hc2 (hp h4) hvb hvr2 hx
    · exact storeAdd_bad F (by rw [hB.tape]; exact hF) h4 c p vb xs
  have hadd := key w1.drew hM2 hBl
  have hadd3 := key w1z.drew hM3 hBl3
  have v0 : w.cell? ⟨V.v, 0, none⟩ = some (.pointer (some ⟨A.s, 0, none⟩)) := by
    obtain ⟨_, _, _, h0⟩ := h.view
    exact h0.at_.cells.1
  have v01 : w1.cell? ⟨V.v, 0, none⟩ = some (.pointer (some ⟨A.s, 0, none⟩)) := by rw [hw1]; exact cell_alloc v0 _
  have b0 : w1.cell? ⟨w.heap.size, 0, none⟩ = some (.string (nameB k)) := by rw [hw1]; simp
  have b1 : w1.cell? ⟨w.heap.size, 1, none⟩ = some (.int .i64 c) := by rw [hw1]; simp
  have b2 : w1.cell? ⟨w.heap.size, 2, none⟩ = some (.string p) := by rw [hw1]; simp
  have b3 : w1.cell? ⟨w.heap.size, 3, none⟩ = some vb := by rw [hw1]; simp
  have Hw1 : Hid (w1 = w.alloc (.cells #[.string (nameB k), .int .i64 c, .string p, vb] 42)) := hw1
  have HM2 : Hid (Moved V A L w g x w1.drew g x) := hM2
  have HBl : Hid (Below w.heap.size w w1.drew) := hBl
  have HM3 : Hid (Moved V A L w g x w1z.drew g x) := hM3
  have HBl3 : Hid (Below w.heap.size w w1z.drew) := hBl3
  have Hw1z : Hid (w1z = w1.alloc (.cells #[.pointer none, .int .i32 0] 57)) := hw1z
  have HLo : Hid (∀ j, L j → j < w.heap.size) := h.low
  have zv := blk v01
  have zb := blk b0
  have HFU : Hid (x.ss.length = g.l.length) := hfull
  have HF : Hid (F.answers w.tape) := hF
  clear hM1 hM2 hM3 hw1 hw1z hBl hBl3 hvr hvb h hF hp hfull key
  go_enter Ybaf.func7, Ybaf.ntmps7
  go_upto_region 1 with fail
  go_cut [5, 6] from 7 to 15 (fun s5 s6 wx => AddMid V A L g x k c p xs w s5 s6 wx)
  case first =>
    rw [← Hw1.out]
    go_region_law
     (first
       | (go_simp
          go_at_call 11
          refine hadd.mono ?_
          rintro e w2 hA2
          obtain ⟨o, n, er, rfl⟩ := hA2.shape
          have HA2 : Hid (Adds A L g k c p xs w1.drew (.returned (.tuple #[.agg #[.pointer o, .int .i32 n], er])) w2) := hA2
          have HM : Hid (AddMid V A L g x k c p xs w (.pointer (some ⟨w2.heap.size, 0, none⟩)) er (w2.alloc (.cells #[.pointer o, .int .i32 n] 57))) := ⟨o, n, w2.heap.size, w1.drew, w2, HM2.out.both, HM2.out.fr, HBl.out, HA2.out, rfl, heap_alloc_new w2 _, AsWas.alloc57 w w2 _⟩
          clear hA2)
       | (go_simp
          go_at_call 11
          rw [← Hw1z.out]
          refine hadd3.mono ?_
          rintro e w2 hA2
          obtain ⟨o, n, er, rfl⟩ := hA2.shape
          have hz2 : w2.heap[w1.heap.size]? = some (.cells #[.pointer none, .int .i32 0] 57 (0, 0)) := hA2.keeps (by rw [Hw1z.out]; exact heap_alloc_new w1 _)
          have z0 : w2.cell? ⟨w1.heap.size, 0, none⟩ = some (.pointer none) := by simp [World.cell?, hz2]
          have z1 : w2.cell? ⟨w1.heap.size, 1, none⟩ = some (.int .i32 0) := by simp [World.cell?, hz2]
          have z2 : w2.frozen? ⟨w1.heap.size, 0, none⟩ = false := by simp [World.frozen?, hz2]
          have z3 : w2.frozen? ⟨w1.heap.size, 1, none⟩ = false := by simp [World.frozen?, hz2]
          have hszw : w.heap.size ≤ w1.heap.size := by rw [Hw1.out]; simp
          have HM : Hid (AddMid V A L g x k c p xs w (.pointer (some ⟨w1.heap.size, 0, none⟩)) er ((w2.setCell ⟨w1.heap.size, 0, none⟩ (.pointer o)).setCell ⟨w1.heap.size, 1, none⟩ (.int .i32 n))) := by
            refine ⟨o, n, w1.heap.size, w1z.drew, w2, HM3.out.both, HM3.out.fr, HBl3.out, hA2, rfl, ?_, AsWas.set57 hz2 (fun hh => by have := HLo.out _ hh; omega) hszw _ _⟩
            rw [heap_setCell_same _ (heap_setCell_same w2 hz2)]
            rfl
          clear hA2 hz2))
    all_goals
      go_wp2_with fail
      go_meet
      exact HM.out
  case rest =>
    obtain ⟨o, n, B, wz, w2, hBz, hFz, hBlz, hA2, rfl, hbx, hAs⟩ := hcut
    have d0 : wc.cell? ⟨B, 0, none⟩ = some (.pointer o) := by simp [World.cell?, hbx]
    have d1 : wc.cell? ⟨B, 1, none⟩ = some (.int .i32 n) := by simp [World.cell?, hbx]
    clear v0 v01 b0 b1 b2 b3 hadd hadd3 hbx zv zb
    have HAs : Hid (AsWas V A L x w w2 wc) := hAs
    have HBz : Hid (Both V A L wz g x) := hBz
    have HFz : Hid (Fr L WW (MM V A) w wz) := hFz
    have HBlz : Hid (Below w.heap.size w wz) := hBlz
    clear hAs hBz hFz hBlz
    rcases hA2 with ⟨v, he, hv, hbad, hB⟩ | ⟨i, r, h4, hn1, hn2, he, hk2, hi, hB⟩ | ⟨slot, vs, co, par, cs, er, em, eu, h4, hn1, hn2, hk2, hbd, he, hS, hpre, hsl, hF2⟩
    · skip
      obtain ⟨a, rfl⟩ := hv
      simp only [Ending.returned.injEq, Value.tuple.injEq, Array.mk.injEq, List.cons.injEq, and_true] at he
      obtain ⟨-, rfl⟩ := he
      have HE : Hid (ViewAdds V A L g x k c p xs w (.returned (.iface 113 (.pointer (some a)))) wc) := .refused _ rfl ⟨a, rfl⟩ hbad (HAs.out.below (HBlz.out.trans (hB.mono HBlz.out.size)))
      clear hB hbad
      go_wp2_with fail
      go_ret
      exact HE.out
    · skip
      simp only [entryV, Ending.returned.injEq, Value.tuple.injEq, Array.mk.injEq, List.cons.injEq, and_true, Value.agg.injEq, Value.pointer.injEq, Value.int.injEq, true_and] at he
      obtain ⟨⟨rfl, rfl⟩, rfl⟩ := he
      have hfB : Fr L [] [] wz w2 := Fr.of_below hB
      have hB2 : Both V A L w2 g x := HBz.out.ofStore (HBz.out.store.kept hfB (by simp) (by simp)) hfB (by simp) (by simp) (Onw.refl g)
      have hB3 := HAs.out.both g hB2
      have hBw : Below w.heap.size w wc := HAs.out.below (HBlz.out.trans (hB.mono HBlz.out.size))
      have hrec := Receive_known F hB3 (by rw [hBw.tape]; exact HF.out) hi (by rw [HFU.out]; exact (List.getElem?_eq_some_iff.1 hi).1)
      have HBw : Hid (Below w.heap.size w wc) := hBw
      have HK : Hid ((get g.es (nameB k)).isSome = true) := by show (get g.es (nameB k)).isSome = true; rw [hk2]; rfl
      unfold entryV at hrec
      clear hfB hB2 hB3 hBw hB hk2
      go_wp2_with fail
      refine hrec.mono ?_
      rintro e w5 ⟨⟨v, rfl, hv⟩, hB5⟩
      have HE : Hid (ViewAdds V A L g x k c p xs w (.returned v) w5) := .refused v rfl hv (.inr (.inr (.inr (.inl HK.out)))) (HBw.out.trans (hB5.mono HBw.out.size))
      clear hv hB5 hrec
      go_wp2_with fail
      go_ret
      exact HE.out
    · skip
      simp only [entryV, Ending.returned.injEq, Value.tuple.injEq, Array.mk.injEq, List.cons.injEq, and_true, Value.agg.injEq, Value.pointer.injEq, Value.int.injEq, true_and] at he
      obtain ⟨⟨rfl, rfl⟩, rfl⟩ := he
      have hma := HBz.out.ma
      have hB2 : Both V A L w2 (g.add vs co (nameB k) slot par cs er em eu (mkRefs (nameB k) c p xs)) x := HBz.out.ofStore hS hF2 (by decide) (by simp at hma ⊢; exact ⟨hma.2.1, hma.1, hma.2.2.1, hma.2.2.2⟩) Onw.add
      have hrec := Receive_new (HAs.out.both _ hB2) (by show x.ss.length + 1 = (g.l ++ [_]).length; simp [HFU.out]) hc
      have HFw : Hid (Fr L WW (MM V A) w wc) := HAs.out.fr _ _ (HFz.out.trans (hF2.wider (by decide) (by simp [MM])))
      have HPL : Hid (Plain (g.add vs co (nameB k) slot par cs er em eu (mkRefs (nameB k) c p xs))) := hS.plain
      have HPG : Hid (Plain g) := HBz.out.store.plain
      have HK : Hid (get g.es (nameB k) = none) := hk2
      have HPRE : Hid (g.cs <+: cs) := hpre
      have HSL : Hid (cs[slot]? = some c) := hsl
      have HNB : Hid (¬ Bad A g k c p xs) := by
        rintro (h | h | h | h | h)
        · omega
        · exact hn1 h
        · exact hn2 h
        · rw [hk2] at h; cases h
        · rw [hbd] at h; cases h
      unfold entryV at hrec
      rw [HFU.out] at hrec
      clear hB2 hS hF2 hk2 hbd hpre hsl hma
      go_wp2_with fail
      refine hrec.mono ?_
      rintro e w5 ⟨rfl, g5, x5, hB5, hL5, hF5, hl5, hc5⟩
      have HE : Hid (ViewAdds V A L g x k c p xs w (.returned .nilIface) w5) := by
        refine .added g5 x5 rfl HNB.out hB5 (HFw.out.trans hF5) hl5 hc5 ?_ ?_ ?_
        · intro y
          rw [hL5.es]
          show (get (put (nameB k) _ g.es) y).isSome = _
          by_cases e : y = nameB k
          · rw [e, get_put_same]
            simp
          · rw [get_put_other _ _ _ e]
            simp [e]
        · intro y
          rw [hL5.kc HPL.out]
          exact kcOf_add HPG.out HK.out HPRE.out HSL.out y
        · rw [hL5.R, hL5.es]
          rfl
      clear hB5 hL5 hF5 hl5 hc5 hrec
      go_wp2_with fail
      go_ret
      exact HE.out
end
end Go.Proofs.YbulkkeiFmt
