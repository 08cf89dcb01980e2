/-
  sameVoter of a block whose names are resolved.
-/
import Derived.Test.YbulkkeiFmtSame
namespace Go.Proofs.YbulkkeiFmt
open Go.RowKit Go.Extern.Stop Go.Stop Go.Extern
set_option maxRecDepth 8000

theorem cell_alloc {w : World} {b o : Nat} {v : Value} (h : w.cell? ⟨b, o, none⟩ = some v) (x : Obj) : (w.alloc x).cell? ⟨b, o, none⟩ = some v := (World.cell?_of_block (w := w) (Below.heap_alloc w x b (blk h))).trans h

def i64s (l : List Int) : List Value := l.map fun x => Value.int .i64 x

set_option maxHeartbeats 6400000 in
theorem sameVoter_res {N : Nat → Prop} {w : World} {s mu : Nat} {vs co : Value} {nv nc : Nat} {l : List VR} {cs : List Int} {eu : List (Int × Value)}
    (hs2 : w.cell? ⟨s, 2, none⟩ = some vs) (hs7 : w.cell? ⟨s, 7, none⟩ = some co) (hs : w.cell? ⟨s, 9, none⟩ = some (.map (some mu))) (hm : MapAt (Value.int .i32) w mu eu)
    (i : Nat) (hg : get eu (i : Int) = none) (hr : Row N w 122 10 vs nv (vrs l)) (r : VR) (hi : l[i]? = some r) (hc : Row N w 3 1 co nc (i64s cs)) (cv : Int) (hcv : cs[r.slot]? = some cv) (pid : ByteArray) (hp : (r.par = -1 ∧ pid = gen) ∨ ∃ (j : Nat) (q : VR), r.par = j ∧ l[j]? = some q ∧ q.id = pid)
    (id : ByteArray) (c : Int) (p : ByteArray) {vb : Value} {nb : Nat} {ys : List ByteArray} (hb : w.ownsRow 0 9 1 vb nb (strs ys)) :
    Calls Ybaf.prog 18 #[.pointer (some ⟨s, 0, none⟩), .int .i32 i, blockV id c p vb] w fun e w' => ∃ v, e = .returned v ∧ IsBool v ∧ Below w.heap.size w w' := by
  unfold blockV
  have hf : Fr N [] [] w (w.alloc (.cells #[.string id, .int .i64 c, .string p, vb] 42)) := (Fr.refl N [] [] w).alloc _
  have hm1 : MapAt (Value.int .i32) (w.alloc (.cells #[.string id, .int .i64 c, .string p, vb] 42)) mu eu := hm.kept hf (by simp)
  have hl := run_look (KK.int Ybaf.underlying21) Ybaf.underlying81 zero_ptr118 hm1 (i : Int)
  rw [hg] at hl
  have hr1 := hr.kept hf (by simp)
  have hsz := blk hs
  have hlen := hr.vlen
  have hin : i < nv := by
    have := (List.getElem?_eq_some_iff.1 hi).1
    omega
  have hlc : cs.length = nc := by have := hc.len; simpa [i64s] using this
  have hsl : r.slot < nc := by
    have := (List.getElem?_eq_some_iff.1 hcv).1
    omega
  obtain ⟨g, cap, cur, rfl, _, hbk, h1, h2, _, _⟩ := hr.form (by omega)
  obtain ⟨k, capk, curk, rfl, _, hbk2, k1, k2, _, _⟩ := hc.form (by omega)
  simp only [maxLen] at h2 k2
  have hcc : w.cell? ⟨k, r.slot, none⟩ = some (.int .i64 cv) := hc.cell rfl (by simp [i64s, hcv])
  obtain ⟨c0, c1, c2, c3, c4, c5, c6, c7, c8, c9⟩ := hr.vcell rfl hi
  have hgz := blk c0
  have hkz := blk hcc
  obtain ⟨ov, cb, rfl, b3, b4⟩ := ownsRow_slice hb
  simp only [maxLen] at b4
  have hs2' : (w.alloc (.cells #[.string id, .int .i64 c, .string p, .slice ov nb cb] 42)).cell? ⟨s, 2, none⟩ = some (.slice (some ⟨g, 0, none⟩) nv cap) := cell_alloc hs2 _
  have hvid : ∀ n, Calls Ybaf.prog 29 #[.pointer (some ⟨s, 0, none⟩), .int .i32 r.par] ((w.alloc (.cells #[.string id, .int .i64 c, .string p, .slice ov nb cb] 42)).drewN n) fun e w' => e = .returned (.string pid) ∧ w' = (w.alloc (.cells #[.string id, .int .i64 c, .string p, .slice ov nb cb] 42)).drewN n := by
    intro n
    rcases hp with ⟨e1, e2⟩ | ⟨j, q, e1, e2, e3⟩
    · rw [e1, e2]
      exact voterID_gen s _
    · rw [e1, ← e3]
      exact voterID_ok (N := N) (w := (w.alloc (.cells #[.string id, .int .i64 c, .string p, .slice ov nb cb] 42)).drewN n) hs2' (hr1.same (w' := (w.alloc (.cells #[.string id, .int .i64 c, .string p, .slice ov nb cb] 42)).drewN n) (fun _ _ => rfl)) j q e2
  clear hm hm1 hr1 hb hf hp
  have key : ∀ (b1 b2 : Bool), (!(cv != c)) = b1 → (pid.toList == p.toList) = b2 →
      Calls Ybaf.prog 18 #[.pointer (some ⟨s, 0, none⟩), .int .i32 i, .agg #[.string id, .int .i64 c, .string p, .slice ov nb cb]] w fun e w' => ∃ v, e = .returned v ∧ IsBool v ∧ Below w.heap.size w w' := by
    intro b1 b2 e1 e2
    have e1 : (cv != c) = !b1 := by rw [← e1, Bool.not_not]
    cases b1
    all_goals simp only [Bool.not_true, Bool.not_false] at e1
    · go_enter Ybaf.func18, Ybaf.ntmps18
      go_wp2_with fail
      go_quiet ((go_at_call 29; exact Calls.quiet_of_same (hvid _)))
      go_wp2_with fail
      go_ret
      exact ⟨_, rfl, ⟨_, rfl⟩, below_drewN (((Below.refl _ _).alloc (Nat.le_refl _) _)) _⟩
    · cases b2
      · go_enter Ybaf.func18, Ybaf.ntmps18
        go_wp2_with fail
        go_quiet ((go_at_call 29; exact Calls.quiet_of_same (hvid _)))
        go_wp2_with fail
        go_ret
        exact ⟨_, rfl, ⟨_, rfl⟩, below_drewN (((Below.refl _ _).alloc (Nat.le_refl _) _)) _⟩
      · by_cases hnb : nb = 0
        · subst hnb
          go_enter Ybaf.func18, Ybaf.ntmps18
          go_wp2_with fail
          go_quiet ((go_at_call 29; exact Calls.quiet_of_same (hvid _)))
          go_wp2_with fail
          go_loop [93] (fun i => i = .int .i64 0) (fun _ => 0)
          case atStart => rfl
          case round =>
            subst hrel
            go_wp2_with fail
            go_ret
            exact ⟨_, rfl, ⟨_, rfl⟩, below_drewN (((Below.refl _ _).alloc (Nat.le_refl _) _)) _⟩
        · have hnb2 : ((0 : Int) != (nb : Int)) = true := by
            rw [bne_iff_ne]
            omega
          go_enter Ybaf.func18, Ybaf.ntmps18
          go_wp2_with fail
          go_quiet ((go_at_call 29; exact Calls.quiet_of_same (hvid _)))
          go_wp2_with fail
          go_ret
          exact ⟨_, rfl, ⟨_, rfl⟩, below_drewN (((Below.refl _ _).alloc (Nat.le_refl _) _)) _⟩
  exact key _ _ rfl rfl
end Go.Proofs.YbulkkeiFmt
