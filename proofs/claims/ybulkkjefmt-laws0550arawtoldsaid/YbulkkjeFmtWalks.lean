/-
  THE WALKS of this seat: cmp.Or at uint16, VersionName, fmt.Errorf at the two formats, (*Config).versions. For every F that answers fmt.
-/
import Derived.Test.YbulkkjeFmtRows
import Derived.Test.YbulkkjeFmtFacts
import Derived.WalkKit
import Derived.WalkSpells
import Derived.Below
import Derived.Deep.RegionWith
import Derived.Deep.CutRange
namespace Go.Proofs.YbulkkjeFmt
open Go.RowKit Go.Extern.Stop Go.Stop Go.Extern
attribute [local go_sem] Ybaf.call12 Ybaf.call14 Ybaf.guard Ybaf.fmt0 Ybaf.fmt0r Ybaf.fmt1 Ybaf.fmt1r Ybaf.fmt2 Ybaf.fmt2r Ybaf.op9_115w Ybaf.op22_88 Ybaf.ptr48 Ybaf.elem48 Ybaf.isError48

/-- 'cmp.Or(x, 0x0303)'. -/
def orV (x : Int) : Int := if x = 0 then 771 else x

set_option maxHeartbeats 400000 in
theorem or_c (g : Nat) (x : Int) (w : World) (h0 : w.cell? ⟨g, 0, none⟩ = some (.int .u16 x)) (h1 : w.cell? ⟨g, 1, none⟩ = some (.int .u16 771)) :
    Calls Ybaf.prog 9 #[.slice (some ⟨g, 0, none⟩) 2 2] w fun e w' => e = .returned (.int .u16 (orV x)) ∧ w' = w := by
  by_cases hx : x = 0
  · subst hx
    go_enter Ybaf.func9, Ybaf.ntmps9
    go_wp2
    go_loop [8] (fun i => i = .int .i64 0 ∨ i = .int .i64 1) (fun i => (2 - intOf i).toNat)
    case atStart => exact Or.inl rfl
    case round =>
      rcases hrel with rfl | rfl
      · go_wp2
        go_round
        case rel => exact Or.inr rfl
        case measure => simp [intOf]
      · go_wp2
        go_ret
        exact ⟨rfl, rfl⟩
  · have hb : (x != 0) = true := by rw [bne_iff_ne]; exact hx
    go_enter Ybaf.func9, Ybaf.ntmps9
    go_wp2
    go_loop [8] (fun i => i = .int .i64 0) (fun i => (2 - intOf i).toNat)
    case atStart => exact rfl
    case round =>
      subst hrel
      go_wp2
      go_ret
      exact ⟨by simp [orV, hx], rfl⟩

set_option maxHeartbeats 400000 in
theorem name_c (F : Interp) (v : Int) (w : World) (hF : F.answers w.tape) :
    Calls Ybaf.prog 11 #[.int .u16 v] w fun e w' => ∃ s : ByteArray, e = .returned (.string s) ∧ Below w.heap.size w w' := by
  have hF' := answers_open hF
  by_cases h1 : v = 769
  · subst h1
    go_enter Ybaf.func11, Ybaf.ntmps11
    go_wp2
    go_ret
    exact ⟨_, rfl, Below.refl _ _⟩
  by_cases h2 : v = 770
  · subst h2
    go_enter Ybaf.func11, Ybaf.ntmps11
    go_wp2
    go_ret
    exact ⟨_, rfl, Below.refl _ _⟩
  by_cases h3 : v = 771
  · subst h3
    go_enter Ybaf.func11, Ybaf.ntmps11
    go_wp2
    go_ret
    exact ⟨_, rfl, Below.refl _ _⟩
  · have e1 : (v == 769) = false := beq_eq_false_iff_ne.2 h1
    have e2 : (v == 770) = false := beq_eq_false_iff_ne.2 h2
    have e3 : (v == 771) = false := beq_eq_false_iff_ne.2 h3
    go_enter Ybaf.func11, Ybaf.ntmps11
    go_wp2
    go_ret
    exact ⟨_, rfl, ((Below.refl _ _).alloc (Nat.le_refl _) _).drew⟩

set_option maxHeartbeats 400000 in
theorem errorf1_c (F : Interp) (g : Nat) (s : ByteArray) (w : World) (hF : F.answers w.tape) (hc : w.cell? ⟨g, 0, none⟩ = some (.iface 9 (.string s))) :
    Calls Ybaf.prog 10 #[.string ⟨#[99, 111, 110, 102, 105, 103, 117, 114, 101, 100, 32, 118, 101, 114, 115, 105, 111, 110, 32, 37, 115, 32, 105, 115, 32, 110, 111, 116, 32, 111, 110, 101, 32, 116, 104, 105, 115, 32, 112, 97, 99, 107, 97, 103, 101, 32, 115, 112, 101, 97, 107, 115]⟩, .slice (some ⟨g, 0, none⟩) 1 1] w fun e w' =>
      e = .returned (.iface 48 (.pointer (some ⟨w.heap.size, 0, none⟩))) ∧ Below w.heap.size w w' := by
  have hF' := answers_open hF
  go_enter Ybaf.func10, Ybaf.ntmps10
  go_wp2
  go_ret
  exact ⟨rfl, ((Below.refl _ _).alloc (Nat.le_refl _) _).drew⟩

set_option maxHeartbeats 400000 in
theorem errorf2_c (F : Interp) (g : Nat) (s t : ByteArray) (w : World) (hF : F.answers w.tape) (hc : w.cell? ⟨g, 0, none⟩ = some (.iface 9 (.string s))) (hd : w.cell? ⟨g, 1, none⟩ = some (.iface 9 (.string t))) :
    Calls Ybaf.prog 10 #[.string ⟨#[99, 111, 110, 102, 105, 103, 117, 114, 101, 100, 32, 77, 105, 110, 86, 101, 114, 115, 105, 111, 110, 32, 37, 115, 32, 105, 115, 32, 97, 98, 111, 118, 101, 32, 77, 97, 120, 86, 101, 114, 115, 105, 111, 110, 32, 37, 115]⟩, .slice (some ⟨g, 0, none⟩) 2 2] w fun e w' =>
      e = .returned (.iface 48 (.pointer (some ⟨w.heap.size, 0, none⟩))) ∧ Below w.heap.size w w' := by
  have hF' := answers_open hF
  go_enter Ybaf.func10, Ybaf.ntmps10
  go_wp2
  go_ret
  exact ⟨rfl, ((Below.refl _ _).alloc (Nat.le_refl _) _).drew⟩

/-- What 'versions' answers. -/
def okV (x y : Int) : Prop := 769 ≤ orV x ∧ orV x ≤ 771 ∧ 769 ≤ orV y ∧ orV y ≤ 771 ∧ orV x ≤ orV y
def VPost (w : World) (x y : Int) (e : Ending) (w' : World) : Prop :=
  (okV x y ∧ e = .returned (.tuple #[.int .u16 (orV x), .int .u16 (orV y), .nilIface]) ∧ Below w.heap.size w w') ∨
  (¬ okV x y ∧ ∃ a, e = .returned (.tuple #[.int .u16 0, .int .u16 0, .iface 48 (.pointer (some a))]) ∧ Below w.heap.size w w')

set_option maxHeartbeats 4000000 in
theorem versions_c (F : Interp) (b : Nat) (x y : Int) (w : World) (hF : F.answers w.tape) (hb : b < w.heap.size) (h4 : w.cell? ⟨b, 4, none⟩ = some (.int .u16 x)) (h5 : w.cell? ⟨b, 5, none⟩ = some (.int .u16 y)) :
    Calls Ybaf.prog 7 #[.pointer (some ⟨b, 0, none⟩)] w fun e w' => VPost w x y e w' := by
  go_enter Ybaf.func7, Ybaf.ntmps7
  go_upto_region 1 with fail
  go_cut [2, 3] from 7 to 18 (fun s2 s3 wx => s2 = .int .u16 (orV x) ∧ s3 = .int .u16 (orV y) ∧ Below w.heap.size w wx)
  case first =>
    go_region_with (first
      | (go_at_call 9; refine (or_c _ x _ ?_ ?_).mono ?_; (focus (go_simp; done)); (focus (go_simp; done)); rintro e w' ⟨rfl, rfl⟩)
      | (go_at_call 9; refine (or_c _ y _ ?_ ?_).mono ?_; (focus (go_simp; done)); (focus (go_simp; done)); rintro e w' ⟨rfl, rfl⟩))
    all_goals (go_wp2_with fail; go_meet; exact ⟨rfl, rfl, by repeat (first | exact Below.refl _ _ | apply Below.drew | refine Below.alloc ?_ (by simp) _)⟩)
  case rest =>
    obtain ⟨rfl, rfl, hB⟩ := hcut
    have hsz := hB.size
    have hFc : F.answers wc.tape := by rw [hB.tape]; exact hF
    clear h4 h5 hF
    have hBa : ∀ o, Below w.heap.size w (wc.alloc o) := fun o => hB.alloc hsz o
    by_cases hlo : orV x < 769 ∨ 771 < orV x
    · have hno : ¬ okV x y := by unfold okV; omega
      have HB : Hid (∀ o, Below w.heap.size w (wc.alloc o)) := hBa
      have HN : Hid (¬ okV x y) := hno
      clear hBa hno
      go_wp2_with fail
      go_loop [23] (fun i => i = .int .i64 0) (fun i => (2 - intOf i).toNat)
      case atStart => exact rfl
      case round =>
        subst hrel
        rcases hlo with hlo | hlo
        all_goals
          go_wp2_with fail
          refine (name_c F _ _ (by exact hFc)).mono ?_
          rintro e w1 ⟨s, rfl, hb1⟩
          have hF1 : F.answers w1.tape := by rw [hb1.tape]; exact hFc
          have hb2 := (HB.out _).trans (hb1.mono (by simp; omega))
          have hs1 := hb1.size
          clear hb1
          go_wp2_with fail
          refine (errorf1_c F _ s _ (by exact hF1) (by go_simp)).mono ?_
          rintro e w2 ⟨rfl, hb3⟩
          have hb4 := (hb2.alloc (by simp at hs1; omega) _).trans (hb3.mono (by simp at hs1 ⊢; omega))
          go_wp2_with fail
          go_ret3
          exact Or.inr ⟨HN.out, _, rfl, hb4⟩
    have l1 : 769 ≤ orV x := by omega
    have l2 : orV x ≤ 771 := by omega
    clear hlo
    have HB : Hid (∀ o, Below w.heap.size w (wc.alloc o)) := hBa
    clear hBa
    by_cases hhi : orV y < 769 ∨ 771 < orV y
    · have hno : ¬ okV x y := by unfold okV; omega
      have HN : Hid (¬ okV x y) := hno
      clear hno
      go_wp2_with fail
      go_loop [23] (fun i => i = .int .i64 0 ∨ i = .int .i64 1) (fun i => (2 - intOf i).toNat)
      case atStart => exact Or.inl rfl
      case round =>
        rcases hrel with rfl | rfl
        · clear hhi
          go_wp2_with fail
          go_round
          case rel => exact Or.inr rfl
          case measure => simp [intOf]
        rcases hhi with hhi | hhi
        all_goals
          go_wp2_with fail
          refine (name_c F _ _ (by exact hFc)).mono ?_
          rintro e w1 ⟨s, rfl, hb1⟩
          have hF1 : F.answers w1.tape := by rw [hb1.tape]; exact hFc
          have hb2 := (HB.out _).trans (hb1.mono (by simp; omega))
          have hs1 := hb1.size
          clear hb1
          go_wp2_with fail
          refine (errorf1_c F _ s _ (by exact hF1) (by go_simp)).mono ?_
          rintro e w2 ⟨rfl, hb3⟩
          have hb4 := (hb2.alloc (by simp at hs1; omega) _).trans (hb3.mono (by simp at hs1 ⊢; omega))
          go_wp2_with fail
          go_ret3
          exact Or.inr ⟨HN.out, _, rfl, hb4⟩
    have l3 : 769 ≤ orV y := by omega
    have l4 : orV y ≤ 771 := by omega
    clear hhi
    go_wp2_with fail
    go_loop [2, 3, 4, 23] (fun s2 s3 s4 i => s2 = .int .u16 (orV x) ∧ s3 = .int .u16 (orV y) ∧ s4 = .nilIface ∧ (i = .int .i64 0 ∨ i = .int .i64 1 ∨ i = .int .i64 2)) (fun _ _ _ i => (2 - intOf i).toNat)
    case atStart => exact ⟨rfl, rfl, rfl, Or.inl rfl⟩
    case round =>
      obtain ⟨rfl, rfl, rfl, hrel⟩ := hrel
      rcases hrel with rfl | rfl | rfl
      · go_wp2_with fail
        go_round
        case rel => exact ⟨rfl, rfl, rfl, Or.inr (Or.inl rfl)⟩
        case measure => simp [intOf]
      · go_wp2_with fail
        go_round
        case rel => exact ⟨rfl, rfl, rfl, Or.inr (Or.inr rfl)⟩
        case measure => simp [intOf]
      by_cases hle : orV x ≤ orV y
      · have hok : okV x y := ⟨l1, l2, l3, l4, hle⟩
        have HN : Hid (okV x y) := hok
        clear hok
        go_wp2_with fail
        go_ret3
        exact Or.inl ⟨HN.out, rfl, HB.out _⟩
      · have hno : ¬ okV x y := by unfold okV; omega
        have HN : Hid (¬ okV x y) := hno
        clear hno
        go_wp2_with fail
        refine (name_c F _ _ (by exact hFc)).mono ?_
        rintro e w1 ⟨s, rfl, hb1⟩
        have hF1 : F.answers w1.tape := by rw [hb1.tape]; exact hFc
        have hb2 := (HB.out _).trans (hb1.mono (by simp; omega))
        have hs1 := hb1.size
        clear hb1
        go_wp2_with fail
        refine (name_c F _ _ (by exact hF1)).mono ?_
        rintro e w2 ⟨t, rfl, hb3⟩
        have hF2 : F.answers w2.tape := by rw [hb3.tape]; exact hF1
        have hb4 := hb2.trans (hb3.mono (by simp at hs1; omega))
        have hs2 := hb3.size
        clear hb3 hb2
        go_wp2_with fail
        refine (errorf2_c F _ s t _ (by exact hF2) (by go_simp) (by go_simp)).mono ?_
        rintro e w3 ⟨rfl, hb5⟩
        have hb6 := (hb4.alloc (by simp at hs1; omega) _).trans (hb5.mono (by simp at hs1 ⊢; omega))
        go_wp2_with fail
        go_ret3
        exact Or.inr ⟨HN.out, _, rfl, hb6⟩
end Go.Proofs.YbulkkjeFmt
