/-
  THE LEAVES: names, lookUp, fits, statuses, heights.
-/
import Derived.Test.YbulkkeiFmtErr
namespace Go.Proofs.YbulkkeiFmt
open Go.RowKit Go.Extern.Stop Go.Stop Go.Extern
set_option maxRecDepth 8000

/-- The store's block. -/
def storeC (ch : Int) (mi : Nat) (vs : Value) (gp : Value) (ms : Nat) (co : Value) (mr mu : Nat) : Array Value :=
  #[.int .i64 ch, .map (some mi), vs, .slice none 0 0, gp, .slice none 0 0, .map (some ms), co, .map (some mr), .map (some mu)]
def StoreAt (w : World) (s : Nat) (ch : Int) (mi : Nat) (vs : Value) (gp : Value) (ms : Nat) (co : Value) (mr mu : Nat) : Prop := w.heap[s]? = some (Obj.cells (storeC ch mi vs gp ms co mr mu) 83 (0, 0))
theorem StoreAt.cells {w : World} {s : Nat} {ch : Int} {mi : Nat} {vs gp : Value} {ms : Nat} {co : Value} {mr mu : Nat} (h : StoreAt w s ch mi vs gp ms co mr mu) :
    w.cell? ⟨s, 0, none⟩ = some (.int .i64 ch) ∧ w.cell? ⟨s, 1, none⟩ = some (.map (some mi)) ∧ w.cell? ⟨s, 2, none⟩ = some vs ∧ w.cell? ⟨s, 3, none⟩ = some (.slice none 0 0) ∧ w.cell? ⟨s, 5, none⟩ = some (.slice none 0 0) ∧
    w.cell? ⟨s, 6, none⟩ = some (.map (some ms)) ∧ w.cell? ⟨s, 7, none⟩ = some co ∧ w.cell? ⟨s, 8, none⟩ = some (.map (some mr)) ∧ w.cell? ⟨s, 9, none⟩ = some (.map (some mu)) := by
  unfold StoreAt storeC at h
  simp [World.cell?, h]
theorem StoreAt.free {w : World} {s : Nat} {ch : Int} {mi : Nat} {vs gp : Value} {ms : Nat} {co : Value} {mr mu : Nat} (h : StoreAt w s ch mi vs gp ms co mr mu) (o : Nat) : w.frozen? ⟨s, o, none⟩ = false := by
  unfold StoreAt at h
  simp [World.frozen?, h]

def nameB : Nat → ByteArray
  | 0 => ⟨#[118, 48]⟩ | 1 => ⟨#[118, 49]⟩ | 2 => ⟨#[118, 50]⟩ | 3 => ⟨#[118, 51]⟩ | 4 => ⟨#[]⟩ | _ => ⟨#[103, 101, 110, 101, 115, 105, 115]⟩
def gen : ByteArray := ⟨#[103, 101, 110, 101, 115, 105, 115]⟩
def voteB : Nat → ByteArray
  | 4 => ⟨#[112, 48]⟩ | 5 => ⟨#[112, 49]⟩ | 6 => ⟨#[103, 101, 110, 101, 115, 105, 115]⟩ | k => nameB k

set_option maxHeartbeats 800000 in
theorem name_ok (k : Nat) (w : World) : Calls Ybaf.prog 5 #[.int .i64 k] w fun e w' => e = .returned (.string (nameB k)) ∧ w' = w := by
  rcases (by omega : k = 0 ∨ k = 1 ∨ k = 2 ∨ k = 3 ∨ k = 4 ∨ 5 ≤ k) with rfl | rfl | rfl | rfl | rfl | h
  all_goals
    go_enter Ybaf.func5, Ybaf.ntmps5
    go_wp2
  all_goals try (exfalso; omega)
  all_goals
    go_ret
    first
      | exact ⟨rfl, rfl⟩
      | (refine ⟨?_, rfl⟩; obtain ⟨j, rfl⟩ := Nat.exists_eq_add_of_le h; rw [Nat.add_comm]; rfl)

set_option maxHeartbeats 800000 in
theorem vote_ok (k : Nat) (hk : k < 7) (w : World) : Calls Ybaf.prog 6 #[.int .i64 k] w fun e w' => e = .returned (.string (voteB k)) ∧ w' = w := by
  by_cases h4 : k < 4
  · go_enter Ybaf.func6, Ybaf.ntmps6
    go_wp2_with fail
    all_goals try (exfalso; omega)
    refine (name_ok k _).mono ?_
    rintro e w1 ⟨rfl, rfl⟩
    go_wp2
    go_ret
    refine ⟨?_, rfl⟩
    rcases (by omega : k = 0 ∨ k = 1 ∨ k = 2 ∨ k = 3) with rfl | rfl | rfl | rfl <;> rfl
  · rcases (by omega : k = 4 ∨ k = 5 ∨ k = 6) with rfl | rfl | rfl
    all_goals
      go_enter Ybaf.func6, Ybaf.ntmps6
      go_wp2
      go_ret
      exact ⟨rfl, rfl⟩

theorem zero_i32 (w : World) : (zeroValue 21).run Ybaf.prog w = .ok (.int .i32 0) w := by kernel_rfl

set_option maxHeartbeats 1600000 in
theorem lookUp_empty (s : Addr) (w : World) : Calls Ybaf.prog 16 #[.pointer (some s), .string ⟨#[]⟩] w fun e w' => Below w.heap.size w w' ∧ ∃ v, e = .returned (.tuple #[.int .i32 0, .bool false, v]) ∧ Err v := by
  go_enter Ybaf.func16, Ybaf.ntmps16
  go_wp2_with fail
  refine (errNew _ _).mono ?_
  rintro e w1 ⟨⟨v, rfl, hv⟩, hb⟩
  go_wp2
  refine bodyPost_ret (v := .tuple #[.int .i32 0, .bool false, v]) (by simp [results]) rfl ?_
  exact ⟨hb, v, rfl, hv⟩

set_option maxHeartbeats 1600000 in
theorem lookUp_gen (F : Interp) (s : Addr) (w : World) (hF : F.answers w.tape) : Calls Ybaf.prog 16 #[.pointer (some s), .string gen] w fun e w' => Below w.heap.size w w' ∧ ∃ v, e = .returned (.tuple #[.int .i32 0, .bool false, v]) ∧ Err v := by
  unfold gen
  go_enter Ybaf.func16, Ybaf.ntmps16
  go_wp2_with fail
  refine (errf0 F _ _ _ (by exact hF) (by simp; rfl)).mono ?_
  rintro e w1 ⟨⟨v, rfl, hv⟩, hb⟩
  go_wp2
  refine bodyPost_ret (v := .tuple #[.int .i32 0, .bool false, v]) (by simp [results]) rfl ?_
  exact ⟨Below.alloc_trans (by simpa using hb), v, rfl, hv⟩

theorem toList_inj {a b : ByteArray} (h : a.toList = b.toList) : a = b := by
  rw [ByteArray.toList_eq, ByteArray.toList_eq] at h
  exact ByteArray.ext (Array.toList_inj.mp h)
theorem ne_str {a b : ByteArray} (h : a ≠ b) : (a.toList == b.toList) = false := by
  rw [beq_eq_false_iff_ne]
  exact fun h2 => h (toList_inj h2)
theorem eq_str {a b : ByteArray} (h : a = b) : (a.toList == b.toList) = true := by subst h; simp
theorem gen_toList : gen.toList = [103, 101, 110, 101, 115, 105, 115] := by rw [ByteArray.toList_eq]; rfl
theorem ne_gen {a : ByteArray} (h : a ≠ gen) : (a.toList == [103, 101, 110, 101, 115, 105, 115]) = false := by rw [← gen_toList]; exact ne_str h
theorem is_gen {a : ByteArray} (h : a = gen) : (a.toList == [103, 101, 110, 101, 115, 105, 115]) = true := by rw [← gen_toList]; exact eq_str h
theorem ne_empty {a : ByteArray} (h : a ≠ ⟨#[]⟩) : a.toList.isEmpty = false := by
  cases hl : a.toList with
  | nil => exact absurd (toList_inj (b := ⟨#[]⟩) (hl.trans (by rw [ByteArray.toList_eq]))) h
  | cons _ _ => rfl

set_option maxHeartbeats 1600000 in
theorem lookUp_ok {w : World} {s : Nat} {ch : Int} {mi : Nat} {vs gp : Value} {ms : Nat} {co : Value} {mr mu : Nat} (hS : StoreAt w s ch mi vs gp ms co mr mu) {es : List (ByteArray × Value)} (hm : MapAt Value.string w mi es) (id : ByteArray) (h0 : id ≠ ⟨#[]⟩) (h1 : id ≠ gen) :
    Calls Ybaf.prog 16 #[.pointer (some ⟨s, 0, none⟩), .string id] w fun e w' => e = .returned (.tuple #[(get es id).getD (.int .i32 0), .bool (get es id).isSome, .nilIface]) ∧ w' = w := by
  obtain ⟨s0, s1, s2, s3, s5, s6, s7, s8, s9⟩ := hS.cells
  have hl := run_look_ok (KK.string Ybaf.underlying9) Ybaf.underlying74 zero_i32 hm id
  have e0 := ne_empty h0
  have e1 := ne_gen h1
  clear hm hS h0 h1
  go_enter Ybaf.func16, Ybaf.ntmps16
  go_wp2
  refine bodyPost_ret (v := .tuple #[(get es id).getD (.int .i32 0), .bool (get es id).isSome, .nilIface]) (by simp [results]) rfl ⟨rfl, rfl⟩

def refV (f t : ByteArray) (r c : Int) : Value := .agg #[.string f, .string t, .int .i64 r, .int .i64 c]

/-- An error, or nil. -/
def ErrIf (b : Bool) (v : Value) : Prop := if b = true then Err v else v = .nilIface

/-- A reference that a voter block of chain 'chain' does not fill. -/
def unfit (r c chain : Int) : Bool := r == 3 || (r == 2 && chain != c)

set_option maxHeartbeats 1600000 in
theorem fits_ok (F : Interp) (f t : ByteArray) (r c chain : Int) (hr : r = 2 ∨ r = 3) (w : World) (hF : F.answers w.tape) :
    Calls Ybaf.prog 30 #[refV f t r c, .bool true, .int .i64 chain] w fun e w' => Below w.heap.size w w' ∧ ∃ v, e = .returned v ∧ ErrIf (unfit r c chain) v := by
  unfold refV
  rcases hr with rfl | rfl
  · by_cases hc : chain = c
    · subst hc
      go_enter Ybaf.func30, Ybaf.ntmps30
      go_wp2
      go_ret
      exact ⟨by repeat (first | exact Below.refl _ _ | refine Below.alloc ?_ (by simp) _), _, rfl, by simp [ErrIf, unfit]⟩
    · go_enter Ybaf.func30, Ybaf.ntmps30
      go_wp2_with fail
      refine (errf4 F _ f c t chain _ (by exact hF) (by simp) (by simp) (by simp) (by simp)).mono ?_
      rintro e w1 ⟨⟨v, rfl, hv⟩, hb⟩
      go_wp2
      go_ret
      exact ⟨(((Below.refl _ w).alloc (Nat.le_refl _) _).alloc (by simp) _).trans (hb.mono (by simp; omega)), _, rfl, by simpa [ErrIf, unfit, hc] using hv⟩
  · go_enter Ybaf.func30, Ybaf.ntmps30
    go_wp2_with fail
    refine (errf5 F _ f t _ (by exact hF) (by simp) (by simp)).mono ?_
    rintro e w1 ⟨⟨v, rfl, hv⟩, hb⟩
    go_wp2
    go_ret
    exact ⟨(((Below.refl _ w).alloc (Nat.le_refl _) _).alloc (by simp) _).trans (hb.mono (by simp; omega)), _, rfl, by simpa [ErrIf, unfit] using hv⟩
end Go.Proofs.YbulkkeiFmt
