/-
  sameIDs, sameVoter: they only read.
-/
import Derived.Test.YbulkkeiFmtLeaf2
import Derived.LoopTactic
namespace Go.Proofs.YbulkkeiFmt
open Go.RowKit Go.Extern.Stop Go.Stop Go.Extern
set_option maxRecDepth 8000

def IsBool (v : Value) : Prop := ∃ r, v = .bool r
def strs (l : List ByteArray) : List Value := l.map Value.string
theorem strs_len (l : List ByteArray) : (strs l).length = l.length := by simp [strs]

theorem ownsRow_str {w : World} {v : Value} {n : Nat} {l : List ByteArray} (h : w.ownsRow 0 9 1 v n (strs l)) : l.length = n := by have := h.1; simpa [strs] using this
theorem ownsRow_slice {w : World} {B : Nat} {e : TypeId} {sz : Nat} {v : Value} {n : Nat} {xs : List Value} (h : w.ownsRow B e sz v n xs) : ∃ a cap, v = .slice a n cap ∧ n ≤ cap ∧ cap ≤ maxLen := by
  rcases h.2 with ⟨h, h0⟩ | ⟨g, cap, cur, h, _, _, h1, h2, _⟩
  · exact ⟨none, 0, by rw [h, h0], by omega, by simp [maxLen]⟩
  · exact ⟨_, cap, h, h1, h2⟩

set_option maxHeartbeats 1600000 in
theorem sameIDs_ok {w : World} {a b : Value} {n m : Nat} {xs ys : List ByteArray} (ha : w.ownsRow 0 9 1 a n (strs xs)) (hb : w.ownsRow 0 9 1 b m (strs ys)) :
    Calls Ybaf.prog 28 #[a, b] w fun e w' => e = .returned (.bool (decide (xs = ys))) ∧ ∃ q, w' = w.drewN q := by
  have la := ownsRow_str ha
  have lb := ownsRow_str hb
  by_cases hnm : n = m
  · subst hnm
    by_cases h0 : n = 0
    · subst h0
      obtain ⟨oa, ca, rfl, _⟩ := ownsRow_slice ha
      obtain ⟨ob, cb, rfl, _⟩ := ownsRow_slice hb
      clear ha hb
      go_enter Ybaf.func28, Ybaf.ntmps28
      go_wp2
      go_loop [13] (fun i => i = .int .i64 0) (fun _ => 0)
      case atStart => rfl
      case round =>
        subst hrel
        go_wp2
        go_ret
        have hx : xs = [] := List.eq_nil_of_length_eq_zero la
        have hy : ys = [] := List.eq_nil_of_length_eq_zero lb
        exact ⟨by simp [hx, hy], 0, rfl⟩
    · rcases ha.2 with ⟨_, h⟩ | ⟨g, ca, _, rfl, _, _, c1, c2, _⟩
      · omega
      rcases hb.2 with ⟨_, h⟩ | ⟨k, cb, _, rfl, _, _, c3, c4, _⟩
      · omega
      simp only [maxLen] at c2 c4
      have ra : ∀ (i : Nat) (x : ByteArray), xs[i]? = some x → w.cell? ⟨g, i, none⟩ = some (.string x) := fun i x hi => by
        have := ha.cells (g := g) rfl i (.string x) (by simp [strs, hi])
        rwa [show (⟨g, 0, none⟩ : Addr).add i = ⟨g, i, none⟩ by unfold Addr.add; split <;> simp_all] at this
      have rb : ∀ (i : Nat) (x : ByteArray), ys[i]? = some x → w.cell? ⟨k, i, none⟩ = some (.string x) := fun i x hi => by
        have := hb.cells (g := k) rfl i (.string x) (by simp [strs, hi])
        rwa [show (⟨k, 0, none⟩ : Addr).add i = ⟨k, i, none⟩ by unfold Addr.add; split <;> simp_all] at this
      clear ha hb
      go_enter Ybaf.func28, Ybaf.ntmps28
      go_wp2
      go_loopw [13] (fun i wr => ∃ j : Nat, i = .int .i64 j ∧ j ≤ n ∧ xs.take j = ys.take j ∧ ∃ q, wr = w.drewN q) (fun i _ => n - (intOf i).toNat)
      case atStart => exact ⟨0, rfl, by omega, by simp, 0, rfl⟩
      case round =>
        obtain ⟨j, rfl, hj, ht, q, rfl⟩ := hrel
        by_cases hjn : j < n
        · have ea : w.cell? ⟨g, j, none⟩ = some (.string xs[j]) := ra j _ (by simp)
          have eb : w.cell? ⟨k, j, none⟩ = some (.string ys[j]) := rb j _ (by simp)
          generalize hX : xs[j]'(by omega) = x at ea
          generalize hY : ys[j]'(by omega) = y at eb
          have HX : Hid (xs[j]? = some x) := by rw [← hX]; exact List.getElem?_eq_getElem _
          have HY : Hid (ys[j]? = some y) := by rw [← hY]; exact List.getElem?_eq_getElem _
          have HT : Hid (xs.take j = ys.take j) := ht
          clear hX hY ht
          clear ra rb
          generalize hw : w.drewN q = wq
          have ea' : wq.cell? ⟨g, j, none⟩ = some (.string x) := by rw [← hw]; exact ea
          have eb' : wq.cell? ⟨k, j, none⟩ = some (.string y) := by rw [← hw]; exact eb
          have Hw : Hid (w.drewN q = wq) := hw
          clear hw ea eb
          go_wp2_with fail
          go_quiet (fail)
          go_wp2_with fail
          · go_ret
            refine ⟨?_, _, by rw [← Hw.out, World.drewN_drewN]⟩
            have hne : xs ≠ ys := by
              intro he
              subst he
              have := HX.out.symm.trans HY.out
              simp_all
            simp [hne]
          · go_roundw
            case rel =>
              refine ⟨j + 1, by simp, by omega, ?_, _, by rw [← Hw.out, World.drewN_drewN]⟩
              rw [List.take_add_one, List.take_add_one, HX.out, HY.out, HT.out]
              congr 2
              simp_all
              exact toList_inj (by assumption)
            case measure => simp [intOf]; omega
        · have hT : xs = ys := by
            have e : j = n := by omega
            subst e
            rwa [List.take_of_length_le (by omega), List.take_of_length_le (by omega)] at ht
          clear ht
          go_wp2
          go_ret
          exact ⟨by simp [hT], _, rfl⟩
  · obtain ⟨oa, ca, rfl, c1, c2⟩ := ownsRow_slice ha
    obtain ⟨ob, cb, rfl, c3, c4⟩ := ownsRow_slice hb
    simp only [maxLen] at c2 c4
    clear ha hb
    go_enter Ybaf.func28, Ybaf.ntmps28
    go_wp2
    all_goals try (exfalso; omega)
    go_ret
    have hne : xs ≠ ys := by
      intro he
      subst he
      omega
    exact ⟨by simp [hne], 0, rfl⟩

theorem zero_ptr118 (w : World) : (zeroValue 118).run Ybaf.prog w = .ok (.pointer none) w := by kernel_rfl
theorem blk {w : World} {b o : Nat} {v : Value} (h : w.cell? ⟨b, o, none⟩ = some v) : b < w.heap.size := World.block_lt_of_cell? w ⟨b, o, none⟩ h

/-- The voter block as it is handed in. -/
def blockV (id : ByteArray) (c : Int) (p : ByteArray) (vb : Value) : Value := .agg #[.string id, .int .i64 c, .string p, vb]

set_option maxHeartbeats 3200000 in
theorem sameVoter_un {w : World} {s mu u : Nat} {i : Nat} {cu : Int} {pu : ByteArray} {vu : Value} {nu : Nat} {xs : List ByteArray} {eu : List (Int × Value)}
    (hs : w.cell? ⟨s, 9, none⟩ = some (.map (some mu))) (hm : MapAt (Value.int .i32) w mu eu) (hg : get eu (i : Int) = some (.pointer (some ⟨u, 0, none⟩)))
    (u1 : w.cell? ⟨u, 1, none⟩ = some (.int .i64 cu)) (u2 : w.cell? ⟨u, 2, none⟩ = some (.string pu)) (u3 : w.cell? ⟨u, 3, none⟩ = some vu) (hu : w.ownsRow 0 9 1 vu nu (strs xs))
    (id : ByteArray) (c : Int) (p : ByteArray) {vb : Value} {nb : Nat} {ys : List ByteArray} (hb : w.ownsRow 0 9 1 vb nb (strs ys)) :
    Calls Ybaf.prog 18 #[.pointer (some ⟨s, 0, none⟩), .int .i32 i, blockV id c p vb] w fun e w' => ∃ v, e = .returned v ∧ IsBool v ∧ Below w.heap.size w w' := by
  unfold blockV
  have hm1 : MapAt (Value.int .i32) (w.alloc (.cells #[.string id, .int .i64 c, .string p, vb] 42)) mu eu := hm.kept ((Fr.refl (fun _ => False) [] [] w).alloc _) (by simp)
  have hl := run_look (KK.int Ybaf.underlying21) Ybaf.underlying81 zero_ptr118 hm1 (i : Int)
  rw [hg] at hl
  have hu1 := hu.alloc (.cells #[.string id, .int .i64 c, .string p, vb] 42)
  have hb1 := hb.alloc (.cells #[.string id, .int .i64 c, .string p, vb] 42)
  have hsz := blk hs
  have huz := blk u1
  clear hm hm1 hu hb
  have key : ∀ (b1 b2 : Bool), (cu == c) = b1 → (pu.toList == p.toList) = b2 →
      Calls Ybaf.prog 18 #[.pointer (some ⟨s, 0, none⟩), .int .i32 i, .agg #[.string id, .int .i64 c, .string p, vb]] w fun e w' => ∃ v, e = .returned v ∧ IsBool v ∧ Below w.heap.size w w' := by
    intro b1 b2 e1 e2
    cases b1 <;> cases b2
    all_goals
      go_enter Ybaf.func18, Ybaf.ntmps18
      go_wp2_with fail
      go_quiet ((go_at_call 28; exact Calls.quiet_of (sameIDs_ok hu1 hb1)))
      go_wp2_with fail
      go_ret
      exact ⟨_, rfl, ⟨_, rfl⟩, below_drewN (((Below.refl _ _).alloc (Nat.le_refl _) _)) _⟩
  exact key _ _ rfl rfl
end Go.Proofs.YbulkkeiFmt
