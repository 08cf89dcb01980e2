/-
  THE LEAVES (2): statuses, ids, heights.
-/
import Derived.Test.YbulkkeiFmtLeaf
import Derived.BigQuiet
namespace Go.Proofs.YbulkkeiFmt
open Go.RowKit Go.Extern.Stop Go.Stop Go.Extern
set_option maxRecDepth 8000

/-- What of the view never turns. -/
structure VK where
  ru : Value
  ba : Value
  ge : Value
  m8 : Value
  m9 : Value
  m11 : Value
  lv : Value
  t17 : Value
  t18 : Value
/-- The view's block. -/
def viewC (K : VK) (s : Nat) (st ch : Value) (re : Int) (ma : Nat) (wo rd : Value) : Array Value :=
  #[.pointer (some ⟨s, 0, none⟩), K.ru, K.ba, K.ge, .slice none 0 0, st, ch, .int .i64 re, K.m8, K.m9, .map (some ma), K.m11, wo, rd, K.lv, .int .i64 0, .slice none 0 0, K.t17, K.t18]
def ViewAt (K : VK) (w : World) (v s : Nat) (st ch : Value) (re : Int) (ma : Nat) (wo rd : Value) : Prop := w.heap[v]? = some (Obj.cells (viewC K s st ch re ma wo rd) 70 (0, 0))
theorem ViewAt.cells {K : VK} {w : World} {v s : Nat} {st ch : Value} {re : Int} {ma : Nat} {wo rd : Value} (h : ViewAt K w v s st ch re ma wo rd) :
    w.cell? ⟨v, 0, none⟩ = some (.pointer (some ⟨s, 0, none⟩)) ∧ w.cell? ⟨v, 4, none⟩ = some (.slice none 0 0) ∧ w.cell? ⟨v, 5, none⟩ = some st ∧ w.cell? ⟨v, 6, none⟩ = some ch ∧ w.cell? ⟨v, 7, none⟩ = some (.int .i64 re) ∧
    w.cell? ⟨v, 10, none⟩ = some (.map (some ma)) ∧ w.cell? ⟨v, 12, none⟩ = some wo ∧ w.cell? ⟨v, 13, none⟩ = some rd ∧ w.cell? ⟨v, 16, none⟩ = some (.slice none 0 0) := by
  unfold ViewAt viewC at h
  simp [World.cell?, h]
theorem ViewAt.free {K : VK} {w : World} {v s : Nat} {st ch : Value} {re : Int} {ma : Nat} {wo rd : Value} (h : ViewAt K w v s st ch re ma wo rd) (o : Nat) : w.frozen? ⟨v, o, none⟩ = false := by
  unfold ViewAt at h
  simp [World.frozen?, h]

def u8s (l : List Int) : List Value := l.map fun x => Value.int .u8 x

theorem Row.len1 {N : Nat → Prop} {w : World} {e : TypeId} {v : Value} {n : Nat} {l : List Int} (h : Row N w e 1 v n (u8s l)) : l.length = n := by have := h.len; simpa [u8s] using this

set_option maxHeartbeats 800000 in
theorem voterStatus_gen (v : Nat) (w : World) : Calls Ybaf.prog 14 #[.pointer (some ⟨v, 0, none⟩), .int .i32 (-1)] w fun e w' => e = .returned (.int .u8 2) ∧ w' = w := by
  go_enter Ybaf.func14, Ybaf.ntmps14
  go_wp2
  go_ret
  exact ⟨rfl, rfl⟩

set_option maxHeartbeats 800000 in
theorem voterStatus_ok {N : Nat → Prop} {w : World} {v : Nat} {st : Value} {n : Nat} {l : List Int} (hv : w.cell? ⟨v, 5, none⟩ = some st) (hr : Row N w 47 1 st n (u8s l)) (i : Nat) (x : Int) (hi : l[i]? = some x) :
    Calls Ybaf.prog 14 #[.pointer (some ⟨v, 0, none⟩), .int .i32 i] w fun e w' => e = .returned (.int .u8 x) ∧ w' = w := by
  have hlen := hr.len1
  have hin : i < n := by
    have := (List.getElem?_eq_some_iff.1 hi).1
    omega
  obtain ⟨g, cap, cur, rfl, _, hb, h1, h2, _, _⟩ := hr.form (by omega)
  have hmax : cap ≤ 9223372036854775807 := by simpa [maxLen] using h2
  have hc : w.cell? ⟨g, i, none⟩ = some (.int .u8 x) := hr.cell rfl (by simp [u8s, hi])
  clear hr hb
  go_enter Ybaf.func14, Ybaf.ntmps14
  go_wp2
  all_goals try (exfalso; omega)
  go_ret
  exact ⟨rfl, rfl⟩

/-- A voter block as the store holds it. -/
structure VR where
  id : ByteArray
  slot : Nat
  par : Int
  settled : Bool
  height : Nat
def VR.enc (r : VR) : List Value := [.string r.id, .int .i32 r.slot, .int .i32 r.par, .int .i32 0, .int .i32 0, .bool r.settled, .bool r.settled, .int .i32 r.height, .int .i32 0, .int .i32 0]
def vrs (l : List VR) : List Value := l.flatMap VR.enc

theorem vrs_len (l : List VR) : (vrs l).length = l.length * 10 := by
  induction l with
  | nil => rfl
  | cons r l ih => rw [vrs, List.flatMap_cons, List.length_append, ← vrs, ih]; simp [VR.enc]; omega
theorem vrs_get : ∀ (l : List VR) (i : Nat) (r : VR) (j : Nat), l[i]? = some r → j < 10 → (vrs l)[i * 10 + j]? = r.enc[j]?
  | [], i, r, j, h, _ => by simp at h
  | q :: l, 0, r, j, h, hj => by
    simp at h
    subst h
    rw [vrs, List.flatMap_cons, Nat.zero_mul, Nat.zero_add, List.getElem?_append_left (by simpa [VR.enc] using hj)]
  | q :: l, i + 1, r, j, h, hj => by
    have := vrs_get l i r j (by simpa using h) hj
    rw [vrs, List.flatMap_cons, List.getElem?_append_right (by simp [VR.enc]; omega), ← vrs, ← this]
    congr 1
    simp [VR.enc]
    omega
theorem Row.vlen {N : Nat → Prop} {w : World} {v : Value} {n : Nat} {l : List VR} (h : Row N w 122 10 v n (vrs l)) : l.length = n := by
  have := h.len
  rw [vrs_len] at this
  omega
theorem Row.vcell {N : Nat → Prop} {w : World} {v : Value} {n : Nat} {l : List VR} (h : Row N w 122 10 v n (vrs l)) {g : Nat} (hg : v.ownBlock = some g) {i : Nat} {r : VR} (hi : l[i]? = some r) :
    w.cell? ⟨g, i * 10, none⟩ = some (.string r.id) ∧ w.cell? ⟨g, i * 10 + 1, none⟩ = some (.int .i32 r.slot) ∧ w.cell? ⟨g, i * 10 + 2, none⟩ = some (.int .i32 r.par) ∧ w.cell? ⟨g, i * 10 + 3, none⟩ = some (.int .i32 0) ∧ w.cell? ⟨g, i * 10 + 4, none⟩ = some (.int .i32 0) ∧
    w.cell? ⟨g, i * 10 + 5, none⟩ = some (.bool r.settled) ∧ w.cell? ⟨g, i * 10 + 6, none⟩ = some (.bool r.settled) ∧ w.cell? ⟨g, i * 10 + 7, none⟩ = some (.int .i32 r.height) ∧ w.cell? ⟨g, i * 10 + 8, none⟩ = some (.int .i32 0) ∧ w.cell? ⟨g, i * 10 + 9, none⟩ = some (.int .i32 0) := by
  refine ⟨h.cell hg (j := i * 10 + 0) ?_, h.cell hg ?_, h.cell hg ?_, h.cell hg ?_, h.cell hg ?_, h.cell hg ?_, h.cell hg ?_, h.cell hg ?_, h.cell hg ?_, h.cell hg ?_⟩
  all_goals
    rw [vrs_get l i r _ hi (by omega)]
    rfl

set_option maxHeartbeats 800000 in
theorem height_gen (s : Nat) (w : World) : Calls Ybaf.prog 54 #[.pointer (some ⟨s, 0, none⟩), .int .i32 (-1)] w fun e w' => e = .returned (.int .i64 0) ∧ w' = w := by
  go_enter Ybaf.func54, Ybaf.ntmps54
  go_wp2
  go_ret
  exact ⟨rfl, rfl⟩
set_option maxHeartbeats 800000 in
theorem height_ok {N : Nat → Prop} {w : World} {s : Nat} {vs : Value} {n : Nat} {l : List VR} (hs : w.cell? ⟨s, 2, none⟩ = some vs) (hr : Row N w 122 10 vs n (vrs l)) (i : Nat) (r : VR) (hi : l[i]? = some r) (hh : r.height < 2147483648) :
    Calls Ybaf.prog 54 #[.pointer (some ⟨s, 0, none⟩), .int .i32 i] w fun e w' => e = .returned (.int .i64 r.height) ∧ w' = w := by
  have hlen := hr.vlen
  have hin : i < n := by
    have := (List.getElem?_eq_some_iff.1 hi).1
    omega
  obtain ⟨g, cap, cur, rfl, _, hb, h1, h2, _, _⟩ := hr.form (by omega)
  have hmax : cap ≤ 9223372036854775807 := by simpa [maxLen] using h2
  obtain ⟨c0, c1, c2, c3, c4, c5, c6, c7, c8, c9⟩ := hr.vcell rfl hi
  clear hr hb
  go_enter Ybaf.func54, Ybaf.ntmps54
  go_wp2
  all_goals try (exfalso; omega)
  go_ret
  exact ⟨rfl, rfl⟩
set_option maxHeartbeats 800000 in
theorem voterID_gen (s : Nat) (w : World) : Calls Ybaf.prog 29 #[.pointer (some ⟨s, 0, none⟩), .int .i32 (-1)] w fun e w' => e = .returned (.string gen) ∧ w' = w := by
  go_enter Ybaf.func29, Ybaf.ntmps29
  go_wp2
  go_ret
  exact ⟨rfl, rfl⟩
set_option maxHeartbeats 800000 in
theorem voterID_ok {N : Nat → Prop} {w : World} {s : Nat} {vs : Value} {n : Nat} {l : List VR} (hs : w.cell? ⟨s, 2, none⟩ = some vs) (hr : Row N w 122 10 vs n (vrs l)) (i : Nat) (r : VR) (hi : l[i]? = some r) :
    Calls Ybaf.prog 29 #[.pointer (some ⟨s, 0, none⟩), .int .i32 i] w fun e w' => e = .returned (.string r.id) ∧ w' = w := by
  have hlen := hr.vlen
  have hin : i < n := by
    have := (List.getElem?_eq_some_iff.1 hi).1
    omega
  obtain ⟨g, cap, cur, rfl, _, hb, h1, h2, _, _⟩ := hr.form (by omega)
  have hmax : cap ≤ 9223372036854775807 := by simpa [maxLen] using h2
  obtain ⟨c0, c1, c2, c3, c4, c5, c6, c7, c8, c9⟩ := hr.vcell rfl hi
  clear hr hb
  go_enter Ybaf.func29, Ybaf.ntmps29
  go_wp2
  all_goals try (exfalso; omega)
  go_ret
  exact ⟨rfl, rfl⟩
theorem xor_small (i : Nat) (hi : i < 4) : Go.bits BinOp.xor IntKind.i32 (-1) i = -(i : Int) - 1 := by
  rcases (by omega : i = 0 ∨ i = 1 ∨ i = 2 ∨ i = 3) with rfl | rfl | rfl | rfl <;> decide
theorem i32_signed : IntKind.i32.signed = true := rfl

set_option maxHeartbeats 800000 in
theorem id_ok {N : Nat → Prop} {w : World} {s : Nat} {vs : Value} {n : Nat} {l : List VR} (hs : w.cell? ⟨s, 2, none⟩ = some vs) (hr : Row N w 122 10 vs n (vrs l)) (i : Nat) (r : VR) (hi : l[i]? = some r) (hi2 : i < 4) :
    Calls Ybaf.prog 23 #[.pointer (some ⟨s, 0, none⟩), .int .i32 i] w fun e w' => e = .returned (.string r.id) ∧ w' = w := by
  have hlen := hr.vlen
  have hin : i < n := by
    have := (List.getElem?_eq_some_iff.1 hi).1
    omega
  obtain ⟨g, cap, cur, rfl, _, hb, h1, h2, _, _⟩ := hr.form (by omega)
  have hmax : cap ≤ 9223372036854775807 := by simpa [maxLen] using h2
  obtain ⟨c0, c1, c2, c3, c4, c5, c6, c7, c8, c9⟩ := hr.vcell rfl hi
  clear hr hb
  have hx := xor_small i hi2
  have hsg := i32_signed
  go_enter Ybaf.func23, Ybaf.ntmps23
  go_wp2
  all_goals try (exfalso; omega)
  go_ret
  exact ⟨rfl, rfl⟩

set_option maxHeartbeats 1600000 in
theorem has_in {N : Nat → Prop} {w : World} {v : Nat} {st : Value} {n : Nat} {l : List Int} (hv : w.cell? ⟨v, 5, none⟩ = some st) (hr : Row N w 47 1 st n (u8s l)) (i : Nat) (hi2 : i < 4) (x : Int) (hi : l[i]? = some x) (hx0 : x ≠ 0) :
    Calls Ybaf.prog 22 #[.pointer (some ⟨v, 0, none⟩), .int .i32 i] w fun e w' => e = .returned (.bool true) ∧ w' = w := by
  have hlen := hr.len1
  have hin : i < n := by
    have := (List.getElem?_eq_some_iff.1 hi).1
    omega
  obtain ⟨g, cap, cur, rfl, _, hb, h1, h2, _, _⟩ := hr.form (by omega)
  have hmax : cap ≤ 9223372036854775807 := by simpa [maxLen] using h2
  have hc : w.cell? ⟨g, i, none⟩ = some (.int .u8 x) := hr.cell rfl (by simp [u8s, hi])
  have hx := xor_small i hi2
  have hsg := i32_signed
  clear hr hb
  go_enter Ybaf.func22, Ybaf.ntmps22
  go_wp2
  all_goals try (exfalso; omega)
  go_ret
  exact ⟨by simp [hx0], rfl⟩
set_option maxHeartbeats 1600000 in
theorem has_out {N : Nat → Prop} {w : World} {v : Nat} {st : Value} {n : Nat} {l : List Int} (hv : w.cell? ⟨v, 5, none⟩ = some st) (hr : Row N w 47 1 st n (u8s l)) (i : Nat) (hi2 : i < 4) (hi : n ≤ i) :
    Calls Ybaf.prog 22 #[.pointer (some ⟨v, 0, none⟩), .int .i32 i] w fun e w' => e = .returned (.bool false) ∧ w' = w := by
  have hx := xor_small i hi2
  have hsg := i32_signed
  obtain ⟨a, cap, rfl⟩ : ∃ a cap, st = .slice a n cap := by
    rcases hr.cases with ⟨h, h0, _⟩ | ⟨g, cap, cur, h, _⟩
    · exact ⟨none, 0, by rw [h, h0]⟩
    · exact ⟨_, cap, h⟩
  clear hr
  go_enter Ybaf.func22, Ybaf.ntmps22
  go_wp2
  all_goals try (exfalso; omega)
  go_ret
  exact ⟨rfl, rfl⟩

set_option maxHeartbeats 1600000 in
theorem Status_none {w : World} {v s : Nat} {mi : Nat} (hv : w.cell? ⟨v, 0, none⟩ = some (.pointer (some ⟨s, 0, none⟩))) (hs : w.cell? ⟨s, 1, none⟩ = some (.map (some mi))) {es : List (ByteArray × Value)} (hm : MapAt Value.string w mi es) (id : ByteArray) (hg : get es id = none) :
    Calls Ybaf.prog 8 #[.pointer (some ⟨v, 0, none⟩), .string id] w fun e w' => e = .returned (.int .u8 0) ∧ w' = w := by
  have hl := run_look_ok (KK.string Ybaf.underlying9) Ybaf.underlying74 zero_i32 hm id
  rw [hg] at hl
  clear hm hg
  go_enter Ybaf.func8, Ybaf.ntmps8
  go_wp2
  go_ret
  exact ⟨rfl, rfl⟩
set_option maxHeartbeats 1600000 in
theorem Status_some {N : Nat → Prop} {w : World} {v s : Nat} {mi : Nat} {st : Value} {n : Nat} {l : List Int} (hv : w.cell? ⟨v, 0, none⟩ = some (.pointer (some ⟨s, 0, none⟩))) (hv5 : w.cell? ⟨v, 5, none⟩ = some st) (hr : Row N w 47 1 st n (u8s l)) (hs : w.cell? ⟨s, 1, none⟩ = some (.map (some mi))) {es : List (ByteArray × Value)} (hm : MapAt Value.string w mi es) (id : ByteArray)
    (i : Nat) (x : Int) (hi : l[i]? = some x) (hg : get es id = some (.int .i32 i)) :
    Calls Ybaf.prog 8 #[.pointer (some ⟨v, 0, none⟩), .string id] w fun e w' => e = .returned (.int .u8 x) ∧ w' = w := by
  have hl := run_look_ok (KK.string Ybaf.underlying9) Ybaf.underlying74 zero_i32 hm id
  rw [hg] at hl
  clear hm hg
  go_enter Ybaf.func8, Ybaf.ntmps8
  go_wp2_with fail
  all_goals try (exfalso; omega)
  refine (voterStatus_ok hv5 hr i x hi).mono ?_
  rintro e w1 ⟨rfl, rfl⟩
  go_wp2
  go_ret
  exact ⟨rfl, rfl⟩
end Go.Proofs.YbulkkeiFmt
