/-
  THE VIEW (5): extend.
-/
import Derived.Test.YbulkkeiFmtChain
namespace Go.Proofs.YbulkkeiFmt
open Go.RowKit Go.Extern.Stop Go.Stop Go.Extern
set_option maxRecDepth 8000
attribute [local go_sem ↓] Go.wp_at_zero Go.wp_at_succ

def hgt (l : List VR) (x : Int) : Nat := if x < 0 then 0 else match l[x.toNat]? with | some r => r.height | none => 0
/-- A chain's genesis, or a block that is settled. -/
def Std (l : List VR) (x : Int) : Prop := x = -1 ∨ ∃ (i : Nat) (r : VR), x = i ∧ l[i]? = some r ∧ r.settled = true
theorem hgt_gen (l : List VR) : hgt l (-1) = 0 := rfl
theorem hgt_at {l : List VR} {i : Nat} {r : VR} (h : l[i]? = some r) : hgt l i = r.height := by
  unfold hgt
  rw [if_neg (by omega), Int.toNat_natCast, h]
theorem Recs.le {l : List VR} (h : Recs l) {i : Nat} {r : VR} (hi : l[i]? = some r) : r.height ≤ 4 := by
  obtain ⟨k, hk, e⟩ := h.ids i r hi
  have := h.bound i r k hi e
  omega
/-- One step up. -/
theorem Recs.up {l : List VR} (h : Recs l) {i : Nat} {r : VR} (hi : l[i]? = some r) (hs : r.settled = true) : Std l r.par ∧ r.height = hgt l r.par + 1 := by
  rcases h.set i r hi hs with ⟨h1, h2⟩ | ⟨j, q, h1, h2, h3, h4⟩
  · rw [h1, hgt_gen]
    exact ⟨.inl rfl, h2⟩
  · rw [h1, hgt_at h2]
    exact ⟨.inr ⟨j, q, rfl, h2, h3⟩, h4⟩
theorem Std.pos {l : List VR} (h : Recs l) {x : Int} (hx : Std l x) (h0 : hgt l x = 0) : x = -1 := by
  rcases hx with hx | ⟨i, r, rfl, h1, h2⟩
  · exact hx
  · rw [hgt_at h1, (h.up h1 h2).2] at h0
    omega
/-- y lies n steps below x. -/
def DescN (l : List VR) : Nat → Int → Int → Prop
  | 0, x, y => x = y
  | n + 1, x, y => ∃ (i : Nat) (r : VR), x = i ∧ l[i]? = some r ∧ r.settled = true ∧ DescN l n r.par y
def Desc (l : List VR) (x y : Int) : Prop := ∃ n, DescN l n x y
theorem Desc.refl {l : List VR} (x : Int) : Desc l x x := ⟨0, rfl⟩
theorem Desc.step {l : List VR} {i : Nat} {r : VR} {y : Int} (h1 : l[i]? = some r) (h2 : r.settled = true) (h : Desc l r.par y) : Desc l i y := by
  obtain ⟨n, hn⟩ := h
  exact ⟨n + 1, i, r, rfl, h1, h2, hn⟩
theorem DescN.snoc {l : List VR} {i : Nat} {r : VR} (hi : l[i]? = some r) (hs : r.settled = true) : ∀ (n : Nat) (x : Int), DescN l n x i → Desc l x r.par
  | 0, x, h => by
    have h1 : x = (i : Int) := h
    subst h1
    exact .step hi hs (.refl _)
  | n + 1, x, h => by
    obtain ⟨j, q, rfl, h1, h2, h3⟩ := h
    exact .step h1 h2 (DescN.snoc hi hs n _ h3)
theorem Desc.snoc {l : List VR} {x : Int} {i : Nat} {r : VR} {y : Int} (h : Desc l x y) (hy : y = i) (hi : l[i]? = some r) (hs : r.settled = true) : Desc l x r.par := by
  subst hy
  obtain ⟨n, hn⟩ := h
  exact DescN.snoc hi hs n x hn
theorem Desc.split {l : List VR} {x y : Int} (h : Desc l x y) (hne : ¬ x = y) : ∃ (i : Nat) (r : VR), x = i ∧ l[i]? = some r ∧ r.settled = true ∧ Desc l r.par y := by
  obtain ⟨n, hn⟩ := h
  match n, hn with
  | 0, hn => exact absurd hn hne
  | m + 1, ⟨i, r, h1, h2, h3, h4⟩ => exact ⟨i, r, h1, h2, h3, m, h4⟩

section
variable {N : Nat → Prop} {w : World} {s : Nat} {vs : Value} {l : List VR}
theorem height_any (hs : w.cell? ⟨s, 2, none⟩ = some vs) (hr : Row N w 122 10 vs l.length (vrs l)) (hl : Recs l) {x : Int} (hx : Std l x) :
    Calls Ybaf.prog 54 #[.pointer (some ⟨s, 0, none⟩), .int .i32 x] w fun e w' => e = .returned (.int .i64 (hgt l x)) ∧ w' = w := by
  rcases hx with rfl | ⟨i, r, rfl, h1, h2⟩
  · exact height_gen s w
  · rw [hgt_at h1]
    exact height_ok hs hr i r h1 (by have := hl.le h1; omega)
end

set_option maxHeartbeats 12800000 in
theorem extend_ok {N : Nat → Prop} {w : World} {v s : Nat} {vs : Value} {l : List VR} (hv0 : w.cell? ⟨v, 0, none⟩ = some (.pointer (some ⟨s, 0, none⟩))) (hv16 : w.cell? ⟨v, 16, none⟩ = some (.slice none 0 0)) (hs2 : w.cell? ⟨s, 2, none⟩ = some vs) (hs5 : w.cell? ⟨s, 5, none⟩ = some (.slice none 0 0))
    (hr : Row N w 122 10 vs l.length (vrs l)) (hl : Recs l) (hl4 : l.length ≤ 4) {ch : Value} {gc : Nat} (hgc : ch.ownBlock = some gc) (hvg : v ≠ gc) {cl : List (Int × Nat)} (hc : Row N w 143 2 ch cl.length (chs cl)) (slot : Nat) (tip : Int) (ht : Nat) (hsl : cl[slot]? = some (tip, ht)) (htip : Std l tip) (hht : hgt l tip = ht)
    (b : Nat) (r : VR) (hb : l[b]? = some r) (hbs : r.settled = true) (hgt1 : ht < r.height) :
    Calls Ybaf.prog 50 #[.pointer (some ⟨v, 0, none⟩), .pointer (some ⟨gc, slot * 2, none⟩), .int .i32 b] w fun e w' => e = .returned (.tuple #[]) ∧ Row N w' 143 2 ch cl.length (chs (cl.set slot ((b : Int), r.height))) ∧ Fr N [143] [] w w' := by
  have hbn : b < l.length := (List.getElem?_eq_some_iff.1 hb).1
  have hsn : slot < cl.length := (List.getElem?_eq_some_iff.1 hsl).1
  have HR : Hid (Row N w 122 10 vs l.length (vrs l)) := hr
  obtain ⟨g, cap, cur, rfl, -, hbk, h1, h2, -, -⟩ := hr.form (by omega)
  simp only [maxLen] at h2
  have HC : Hid (Row N w 143 2 ch cl.length (chs cl)) := hc
  obtain ⟨gc', capc, curc, hch, hNc, hbc, _, _, hcs, _⟩ := hc.form (by omega)
  rw [hch] at hgc
  simp [Value.ownBlock] at hgc
  subst hgc
  have k0 : w.cell? ⟨gc', slot * 2, none⟩ = some (.int .i32 tip) := hc.cell (by rw [hch]; rfl) (chs_get cl slot _ hsl).1
  have k1 : w.cell? ⟨gc', slot * 2 + 1, none⟩ = some (.int .i64 ht) := hc.cell (by rw [hch]; rfl) (chs_get cl slot _ hsl).2
  have fk0 : w.frozen? ⟨gc', slot * 2, none⟩ = false := by simp [World.frozen?, hbc]
  have fk1 : w.frozen? ⟨gc', slot * 2 + 1, none⟩ = false := by simp [World.frozen?, hbc]
  obtain ⟨c0, c1, -, -, -, -, -, -, -, -⟩ := hr.vcell rfl hb
  have HL : Hid (Recs l) := hl
  have HT : Hid (Std l tip) := htip
  have HB : Hid (l[b]? = some r) := hb
  have HBS : Hid (r.settled = true) := hbs
  have HG : Hid (hgt l tip < r.height) := by rw [hht]; exact hgt1
  have HBC : Hid (w.heap[gc']? = some (.cells curc 143 (0, 0))) := hbc
  have HCH : Hid (ch = .slice (some ⟨gc', 0, none⟩) cl.length capc) := hch
  have HNC : Hid (¬ N gc') := hNc
  clear hr hc hbk hbc hl htip hb hbs hgt1 hht hsl hch hNc
  go_enter Ybaf.func50, Ybaf.ntmps50
  go_wp2_with fail
  refine (tell_ok hv16 _ _ _).mono ?_
  rintro e w1 ⟨rfl, rfl⟩
  go_wp2_with fail
  have HH : Hid (∀ (q : Nat) (x : Int), Std l x → Calls Ybaf.prog 54 #[.pointer (some ⟨s, 0, none⟩), .int .i32 x] (w1.drewN q) fun e w' => e = .returned (.int .i64 (hgt l x)) ∧ w' = w1.drewN q) := fun q x hx => height_any (w := w1.drewN q) hs2 (HR.out.same (fun _ _ => rfl)) HL.out hx
  have HVC : Hid (∀ (i : Nat) (r : VR), l[i]? = some r → w1.cell? ⟨g, i * 10 + 2, none⟩ = some (.int .i32 r.par) ∧ w1.cell? ⟨g, i * 10 + 3, none⟩ = some (.int .i32 0) ∧ w1.cell? ⟨g, i * 10 + 4, none⟩ = some (.int .i32 0)) := fun i r hi => by
    obtain ⟨-, -, a2, a3, a4, -, -, -, -, -⟩ := HR.out.vcell rfl hi
    exact ⟨a2, a3, a4⟩
  go_loopw [9] (fun s9 wr => ∃ x : Int, s9 = .int .i32 x ∧ Std l x ∧ Desc l b x ∧ hgt l tip ≤ hgt l x ∧ ∃ q, wr = w1.drewN q) (fun s9 _ => hgt l (intOf s9))
  case atStart => exact ⟨b, rfl, .inr ⟨b, r, rfl, HB.out, HBS.out⟩, .refl _, by rw [hgt_at HB.out]; have := HG.out; omega, 0, rfl⟩
  case round =>
    obtain ⟨x, rfl, hx, hd, hge, q, rfl⟩ := hrel
    have HX : Hid (Std l x) := hx
    have HD : Hid (Desc l b x) := hd
    clear hx hd
    go_wp2_with fail
    refine (HH.out q x HX.out).mono ?_
    rintro e w2 ⟨rfl, rfl⟩
    go_wp2_with fail
    refine (HH.out q tip HT.out).mono ?_
    rintro e w2 ⟨rfl, rfl⟩
    by_cases hc : hgt l tip < hgt l x
    · have hcI : ((hgt l tip : Nat) : Int) < ((hgt l x : Nat) : Int) := by omega
      rcases HX.out with hx1 | ⟨i, ri, hx1, h1, h2⟩
      · exfalso
        rw [hx1, hgt_gen] at hc
        omega
      subst hx1
      have hin : i < l.length := (List.getElem?_eq_some_iff.1 h1).1
      obtain ⟨a2, a3, a4⟩ := HVC.out i ri h1
      have HUP := HL.out.up h1 h2
      have HI : Hid (l[i]? = some ri) := h1
      have HS : Hid (ri.settled = true) := h2
      have HUP2 : Hid (Std l ri.par ∧ ri.height = hgt l ri.par + 1) := HUP
      clear h1 h2 HUP
      go_wp2_with fail
      go_roundw
      case rel =>
        refine ⟨ri.par, rfl, HUP2.out.1, HD.out.snoc rfl HI.out HS.out, ?_, q, rfl⟩
        have := HUP2.out.2
        rw [hgt_at HI.out] at hc
        omega
      case measure =>
        have := HUP2.out.2
        simp only [intOf]
        rw [hgt_at HI.out]
        omega
    · have hcI : ¬ ((hgt l tip : Nat) : Int) < ((hgt l x : Nat) : Int) := by omega
      have HEQ : Hid (hgt l tip = hgt l x) := by show hgt l tip = hgt l x; omega
      clear hge hc
      go_wp2_with fail
      clear hcI
      go_loopw [8, 9, 10] (fun s8 s9 s10 wr => ∃ y z : Int, s8 = .int .i32 y ∧ s9 = .int .i32 z ∧ s10 = .slice none 0 0 ∧ Std l y ∧ Std l z ∧ hgt l y = hgt l z ∧ Desc l b z ∧ ∃ q, wr = w1.drewN q) (fun _ s9 _ _ => hgt l (intOf s9))
      case atStart => exact ⟨tip, x, rfl, rfl, rfl, HT.out, HX.out, HEQ.out, HD.out, _, rfl⟩
      case round =>
        clear HX HD HEQ
        obtain ⟨y, z, rfl, rfl, rfl, hy, hz, heq, hd, q2, rfl⟩ := hrel
        by_cases hyz : y = z
        · subst hyz
          have HZ : Hid (Desc l b y) := hd
          clear hy hz heq hd
          go_wp2_with fail
          go_loopw [10, 14] (fun s10 s14 wr => ∃ x : Int, s10 = .slice none 0 0 ∧ s14 = .int .i32 x ∧ Desc l x y ∧ ∃ q, wr = w1.drewN q) (fun _ s14 _ => hgt l (intOf s14))
          case atStart => exact ⟨b, rfl, rfl, HZ.out, _, rfl⟩
          case round =>
            clear HZ
            obtain ⟨x2, rfl, rfl, hd, q3, rfl⟩ := hrel
            by_cases hxy : x2 = y
            · subst hxy
              clear hd
              have hbI : ((b : Nat) : Int) < (l.length : Int) := by omega
              go_wp2_with fail
              refine (HH.out q3 b (.inr ⟨b, r, rfl, HB.out, HBS.out⟩)).mono ?_
              rintro e w2 ⟨rfl, rfl⟩
              rw [hgt_at HB.out]
              have t0 : (w1.drewN q3).cell? ⟨gc', slot * 2, none⟩ = some (.int .i32 tip) := k0
              have t1 : (w1.drewN q3).cell? ⟨gc', slot * 2 + 1, none⟩ = some (.int .i64 ht) := k1
              have tf0 : (w1.drewN q3).frozen? ⟨gc', slot * 2, none⟩ = false := fk0
              have tf1 : (w1.drewN q3).frozen? ⟨gc', slot * 2 + 1, none⟩ = false := fk1
              have tv : (w1.drewN q3).cell? ⟨v, 16, none⟩ = some (.slice none 0 0) := hv16
              have HBC3 : Hid ((w1.drewN q3).heap[gc']? = some (.cells curc 143 (0, 0))) := HBC.out
              have HF3 : Hid (Fr N [143] [] w1 (w1.drewN q3)) := (Fr.refl N [143] [] w1).drewN q3
              have HC3 : Hid (Row N (w1.drewN q3) 143 2 ch cl.length (chs cl)) := HC.out.same (fun _ _ => rfl)
              clear k0 k1 fk0 fk1
              generalize w1.drewN q3 = w3 at t0 t1 tf0 tf1 tv HBC3 HF3 HC3 ⊢
              have hgv : v ≠ gc' := hvg
              go_wp2_with fail
              refine (tell_ok (by go_simp) _ _ _).mono ?_
              rintro e w4 ⟨rfl, rfl⟩
              go_wp2_with fail
              go_loopw [196] (fun s196 wr => s196 = .int .i64 0 ∧ wr = (w3.setCell ⟨gc', slot * 2, none⟩ (.int .i32 b)).setCell ⟨gc', slot * 2 + 1, none⟩ (.int .i64 r.height)) (fun _ _ => 0)
              case atStart => exact ⟨rfl, rfl⟩
              case round =>
                obtain ⟨rfl, rfl⟩ := hrel
                go_wp2_with fail
                go_end0
                refine ⟨rfl, ?_, ?_⟩
                · have h1 := (HC3.out.setAt (g := gc') (by rw [HCH.out]; rfl) (slot * 2) (.int .i32 b)).setAt (g := gc') (by rw [HCH.out]; rfl) (slot * 2 + 1) (.int .i64 r.height)
                  rwa [chs_set cl slot ((b : Int), r.height) hsn] at h1
                · exact (HF3.out.setCell HBC3.out (by simp) HNC.out).setCell (heap_setCell_same w3 HBC3.out) (by simp) HNC.out
            · obtain ⟨i, ri, rfl, h1, h2, h3⟩ := hd.split hxy
              clear hd
              have hin : (i : Int) < (l.length : Int) := by have := (List.getElem?_eq_some_iff.1 h1).1; omega
              have hne : ((i : Int) != y) = true := by rw [bne_iff_ne]; exact hxy
              obtain ⟨a2, a3, a4⟩ := HVC.out i ri h1
              have HREL : Hid (Desc l ri.par y ∧ hgt l ri.par < hgt l i) := by
                have u1 := HL.out.up h1 h2
                refine ⟨h3, ?_⟩
                rw [hgt_at h1]
                omega
              clear hxy h1 h2 h3
              go_wp2_with fail
              go_quiet (fail)
              go_wp2_with fail
              go_loopw [10, 154] (fun s10 s154 wr => s10 = .slice none 0 0 ∧ s154 = .int .i64 0 ∧ ∃ q, wr = w1.drewN q) (fun _ _ _ => 0)
              case atStart => exact ⟨rfl, rfl, _, World.drewN_drewN _ _ _⟩
              case round =>
                obtain ⟨rfl, rfl, q4, rfl⟩ := hrel
                go_wp2_with fail
                go_roundw
                case rel => exact ⟨ri.par, rfl, rfl, HREL.out.1, _, rfl⟩
                case measure =>
                  simp only [intOf]
                  exact HREL.out.2
        · rcases hy with rfl | ⟨i, ri, rfl, h1, h2⟩
          · exfalso
            rw [hgt_gen] at heq
            exact hyz (hz.pos HL.out heq.symm).symm
          rcases hz with rfl | ⟨j, rj, rfl, h3, h4⟩
          · exfalso
            rw [hgt_gen] at heq
            exact hyz (Std.pos HL.out (.inr ⟨i, ri, rfl, h1, h2⟩) heq)
          have hin : (i : Int) < (l.length : Int) := by have := (List.getElem?_eq_some_iff.1 h1).1; omega
          have hjn : (j : Int) < (l.length : Int) := by have := (List.getElem?_eq_some_iff.1 h3).1; omega
          have hne : ((i : Int) != (j : Int)) = true := by rw [bne_iff_ne]; exact hyz
          obtain ⟨a2, a3, a4⟩ := HVC.out i ri h1
          obtain ⟨b2, b3, b4⟩ := HVC.out j rj h3
          have HREL : Hid (Std l ri.par ∧ Std l rj.par ∧ hgt l ri.par = hgt l rj.par ∧ Desc l b rj.par ∧ hgt l rj.par < hgt l j) := by
            have u1 := HL.out.up h1 h2
            have u2 := HL.out.up h3 h4
            rw [hgt_at h1, hgt_at h3] at heq
            refine ⟨u1.1, u2.1, by omega, hd.snoc rfl h3 h4, ?_⟩
            rw [hgt_at h3]
            omega
          clear hyz h1 h2 h3 h4 heq hd
          go_wp2_with fail
          go_quiet (fail)
          go_wp2_with fail
          go_loopw [10, 85] (fun s10 s85 wr => s10 = .slice none 0 0 ∧ s85 = .int .i64 0 ∧ ∃ q, wr = w1.drewN q) (fun _ _ _ => 0)
          case atStart => exact ⟨rfl, rfl, _, World.drewN_drewN _ _ _⟩
          case round =>
            obtain ⟨rfl, rfl, q3, rfl⟩ := hrel
            go_wp2_with fail
            go_quiet (fail)
            go_wp2_with fail
            go_roundw
            case rel => exact ⟨ri.par, rj.par, rfl, rfl, rfl, HREL.out.1, HREL.out.2.1, HREL.out.2.2.1, HREL.out.2.2.2.1, _, World.drewN_drewN _ _ _⟩
            case measure =>
              simp only [intOf]
              exact HREL.out.2.2.2.2
end Go.Proofs.YbulkkeiFmt
