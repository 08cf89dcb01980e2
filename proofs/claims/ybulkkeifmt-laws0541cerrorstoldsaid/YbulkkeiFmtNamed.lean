/-
  THE STORE (7): named.
-/
import Derived.Test.YbulkkeiFmtAdd
import Derived.Test.YbulkkeiFmtOnce
import Derived.Deep.RegionLaw
import Derived.Deep.CutRange
namespace Go.Proofs.YbulkkeiFmt
open Go.RowKit Go.Extern.Stop Go.Stop Go.Extern
set_option maxRecDepth 8000
attribute [local go_sem ↓] Go.wp_at_zero Go.wp_at_succ

theorem Row.alloc (N : Nat → Prop) (w : World) (e : TypeId) (sz n : Nat) (xs : List Value) (hx : xs.length = n * sz) (hn : n ≤ maxLen) (hN : ¬ N w.heap.size) : Row N (w.alloc (.cells xs.toArray e)) e sz (.slice (some ⟨w.heap.size, 0, none⟩) n n) n xs := by
  refine ⟨⟨hx, .inr ⟨w.heap.size, n, xs.toArray, rfl, Nat.zero_le _, heap_alloc_new w _, Nat.le_refl _, hn, by simpa using hx, ?_⟩⟩, ?_⟩
  · rw [← hx]
    simp
  · intro k hk
    simp [Value.ownBlock] at hk
    subst hk
    exact hN

section
variable {N : Nat → Prop} {w : World} {s : Nat} {ch : Int} {mi : Nat} {vs gp : Value} {ms : Nat} {co : Value} {mr mu : Nat} {es : List (ByteArray × Value)}

set_option maxHeartbeats 3200000 in
theorem named_res (hS : StoreAt w s ch mi vs gp ms co mr mu) {l : List VR} (hr : Row N w 122 10 vs l.length (vrs l)) (i : Nat) (r : VR) (hi : l[i]? = some r) (hp : r.par ≠ -2) :
    Calls Ybaf.prog 44 #[.pointer (some ⟨s, 0, none⟩), .int .i32 i] w fun e w' => e = .returned (.slice none 0 0) ∧ w' = w := by
  obtain ⟨s0, s1, s2, s3, s5, s6, s7, s8, s9⟩ := hS.cells
  have hin : i < l.length := (List.getElem?_eq_some_iff.1 hi).1
  obtain ⟨g, cap, cur, rfl, -, -, h1, h2, -, -⟩ := hr.form (by omega)
  simp only [maxLen] at h2
  obtain ⟨c0, c1, c2, c3, c4, c5, c6, c7, c8, c9⟩ := hr.vcell rfl hi
  have hp2 : (r.par != -2) = true := by simpa using hp
  clear hr hS
  go_enter Ybaf.func44, Ybaf.ntmps44
  go_wp2_with fail
  go_ret
  exact ⟨rfl, rfl⟩

set_option maxHeartbeats 3200000 in
theorem named_yes (hS : StoreAt w s ch mi vs gp ms co mr mu) (hNu : ¬ N mu) (hm : MapAt Value.string w mi es) {l : List VR} (hr : Row N w 122 10 vs l.length (vrs l)) (i : Nat) (r : VR) (hi : l[i]? = some r) (hp : r.par = -2)
    {eu : List (Int × Value)} (hu : MapAt (Value.int .i32) w mu eu) {u : Nat} (hg : get eu (i : Int) = some (.pointer (some ⟨u, 0, none⟩))) {p : ByteArray} (u2 : w.cell? ⟨u, 2, none⟩ = some (.string p)) (par : Int)
    (hp : (p = gen ∧ par = -1) ∨ (p ≠ gen ∧ ∃ j : Nat, par = j ∧ get es p = some (.int .i32 j))) {vv : Value} (u3 : w.cell? ⟨u, 3, none⟩ = some vv) (hv : w.ownsRow 0 9 1 vv 0 []) :
    Calls Ybaf.prog 44 #[.pointer (some ⟨s, 0, none⟩), .int .i32 i] w fun e w' => e = .returned (.slice none 0 0) ∧ Row N w' 122 10 vs l.length (vrs (l.set i { r with par := par })) ∧ MapAt (Value.int .i32) w' mu (del (i : Int) eu) ∧ Fr N [122] [mu] w w' := by
  have hres := resolve_yes hS hm hr i r hi u2 par hp u3 hv
  obtain ⟨s0, s1, s2, s3, s5, s6, s7, s8, s9⟩ := hS.cells
  have HS : Hid (StoreAt w s ch mi vs gp ms co mr mu) := hS
  have HU : Hid (MapAt (Value.int .i32) w mu eu) := hu
  have hin : i < l.length := (List.getElem?_eq_some_iff.1 hi).1
  obtain ⟨g, cap, cur, rfl, -, -, h1, h2, -, -⟩ := hr.form (by omega)
  simp only [maxLen] at h2
  obtain ⟨c0, c1, c2, c3, c4, c5, c6, c7, c8, c9⟩ := hr.vcell rfl hi
  have hl := run_look (KK.int Ybaf.underlying21) Ybaf.underlying81 zero_ptr118 hu (i : Int)
  rw [hg] at hl
  have e2 : r.par = -2 := by assumption
  rw [e2] at c2
  have HR : Hid (Calls Ybaf.prog 33 #[.pointer (some ⟨s, 0, none⟩), .int .i32 i, .pointer (some ⟨u, 0, none⟩)] w fun e w' => e = .returned (.bool true) ∧ Row N w' 122 10 (.slice (some ⟨g, 0, none⟩) l.length cap) l.length (vrs (l.set i { r with par := par })) ∧ Fr N [122] [] w w') := hres
  clear hr hS hm hu hres hp hv
  go_enter Ybaf.func44, Ybaf.ntmps44
  go_wp2_with fail
  refine HR.out.mono ?_
  rintro e w2 ⟨rfl, r1, r2⟩
  have HR1 : Hid (Row N w2 122 10 (.slice (some ⟨g, 0, none⟩) l.length cap) l.length (vrs (l.set i { r with par := par }))) := r1
  have HR2 : Hid (Fr N [122] [] w w2) := r2
  have hS2 : StoreAt w2 s ch mi (.slice (some ⟨g, 0, none⟩) l.length cap) gp ms co mr mu := r2.keepC _ _ _ _ HS.out (by decide)
  have t9 := hS2.cells.2.2.2.2.2.2.2.2
  obtain ⟨w3, hrun, hm3, hs3⟩ := run_delete (ty := 0) (KK.int Ybaf.underlying21) Ybaf.underlying81 (HU.out.kept r2 (by simp)) (i : Int)
  have HM3 : Hid (MapAt (Value.int .i32) w3 mu (del (i : Int) eu)) := hm3
  have HS3 : Hid (MapSet mu w2 w3) := hs3
  clear r1 r2 hS2 hm3 hs3
  go_wp2_with fail
  go_ret
  exact ⟨rfl, HR1.out.kept (HS3.out.fr (N := N) [] hNu) (by simp), HM3.out, (HR2.out.wider (by simp) (by simp)).mapSet HS3.out (by simp) hNu⟩

/-- Is the block missing? -/
def lacks (es : List (ByteArray × Value)) (x : ByteArray) : Bool := (get es x).isNone && decide (x ≠ gen)
def lacksIn (es : List (ByteArray × Value)) (ys : List ByteArray) : List ByteArray := ys.filter (lacks es)
theorem lacksIn_take {es : List (ByteArray × Value)} {ys : List ByteArray} {j : Nat} {y : ByteArray} (h : ys[j]? = some y) : lacksIn es (ys.take (j + 1)) = if lacks es y = true then lacksIn es (ys.take j) ++ [y] else lacksIn es (ys.take j) := by
  unfold lacksIn
  rw [List.take_add_one, h, List.filter_append]
  cases hy : lacks es y <;> simp [hy]

/-- The ids that an unresolved block names. -/
structure Listed (w : World) (ys : List ByteArray) (v ln : Value) (wx : World) : Prop where
  row : ∃ a cap, v = .slice (some ⟨a, 0, none⟩) ys.length cap ∧ wx.ownsRow 0 9 1 v ys.length (strs ys)
  len : ln = .int .i64 ys.length
  below : Below w.heap.size w wx

structure Missing (w : World) (es : List (ByteArray × Value)) (ys : List ByteArray) (v : Value) (wr : World) : Prop where
  row : Row noN wr 9 1 v (lacksIn es ys).length (strs (lacksIn es ys))
  own : ∀ b, v.ownBlock = some b → w.heap.size ≤ b
  below : Below w.heap.size w wr

set_option maxHeartbeats 6400000 in
theorem named_no (hS : StoreAt w s ch mi vs gp ms co mr mu) (hm : MapAt Value.string w mi es) {l : List VR} (hr : Row N w 122 10 vs l.length (vrs l)) (i : Nat) (r : VR) (hi : l[i]? = some r) (hpar : r.par = -2)
    {eu : List (Int × Value)} (hu : MapAt (Value.int .i32) w mu eu) {u : Nat} (hg : get eu (i : Int) = some (.pointer (some ⟨u, 0, none⟩))) {p : ByteArray} (u2 : w.cell? ⟨u, 2, none⟩ = some (.string p)) {vv : Value} {xs : List ByteArray} (u3 : w.cell? ⟨u, 3, none⟩ = some vv) (hv : w.ownsRow 0 9 1 vv xs.length (strs xs)) (hx : xs.length < 1000)
    (hno : (p ≠ gen ∧ get es p = none) ∨ ∃ x ys, xs = x :: ys ∧ x ≠ gen ∧ get es x = none ∧ (p = gen ∨ (p ≠ gen ∧ ∃ j : Nat, get es p = some (.int .i32 j)))) :
    Calls Ybaf.prog 44 #[.pointer (some ⟨s, 0, none⟩), .int .i32 i] w fun e w' => ∃ a n cap x, e = .returned (.slice (some ⟨a, 0, none⟩) n cap) ∧ 0 < n ∧ n ≤ cap ∧ cap ≤ maxLen ∧ w'.cell? ⟨a, 0, none⟩ = some (.string x) ∧ Below w.heap.size w w' := by
  have hres : Calls Ybaf.prog 33 #[.pointer (some ⟨s, 0, none⟩), .int .i32 i, .pointer (some ⟨u, 0, none⟩)] w fun e w' => e = .returned (.bool false) ∧ ∃ q, w' = w.drewN q := by
    rcases hno with ⟨h1, h2⟩ | ⟨x, ys, rfl, h1, h2, h3⟩
    · exact resolve_par hS hm i u2 h1 h2
    · exact resolve_vote hS hm i u2 h3 u3 hv h2
  have hpos : 0 < (lacksIn es (p :: xs)).length := by
    rcases hno with ⟨h1, h2⟩ | ⟨x, ys, rfl, h1, h2, h3⟩
    · apply List.length_pos_of_mem (a := p)
      simp [lacksIn, lacks, h1, h2]
    · apply List.length_pos_of_mem (a := x)
      simp [lacksIn, lacks, h1, h2]
  have HPOS : Hid (0 < (lacksIn es (p :: xs)).length) := hpos
  obtain ⟨s0, s1, s2, s3, s5, s6, s7, s8, s9⟩ := hS.cells
  have HS : Hid (StoreAt w s ch mi vs gp ms co mr mu) := hS
  have HM : Hid (MapAt Value.string w mi es) := hm
  have hin : i < l.length := (List.getElem?_eq_some_iff.1 hi).1
  obtain ⟨g, cap, cur, rfl, -, -, h1, h2, -, -⟩ := hr.form (by omega)
  simp only [maxLen] at h2
  obtain ⟨c0, c1, c2, c3, c4, c5, c6, c7, c8, c9⟩ := hr.vcell rfl hi
  have hl := run_look (KK.int Ybaf.underlying21) Ybaf.underlying81 zero_ptr118 hu (i : Int)
  rw [hg] at hl
  rw [hpar] at c2
  have HR : Hid (Calls Ybaf.prog 33 #[.pointer (some ⟨s, 0, none⟩), .int .i32 i, .pointer (some ⟨u, 0, none⟩)] w fun e w' => e = .returned (.bool false) ∧ ∃ q, w' = w.drewN q) := hres
  have HV : Hid (w.ownsRow 0 9 1 vv xs.length (strs xs)) := hv
  obtain ⟨ov, cv, rfl, _, _⟩ := ownsRow_slice hv
  clear hr hS hm hu hres hno hv hpos
  go_enter Ybaf.func44, Ybaf.ntmps44
  go_wp2_with fail
  refine HR.out.mono ?_
  rintro e w2 ⟨rfl, q, rfl⟩
  have t2 : (w.drewN q).cell? ⟨u, 2, none⟩ = some (.string p) := u2
  have t3 : (w.drewN q).cell? ⟨u, 3, none⟩ = some (.slice ov xs.length cv) := u3
  have HV2 : Hid ((w.drewN q).ownsRow 0 9 1 (.slice ov xs.length cv) xs.length (strs xs)) := HV.out
  have HB2 : Hid (Below w.heap.size w (w.drewN q)) := below_drewN (Below.refl _ _) q
  clear hl c0 c1 c2 c3 c4 c5 c6 c7 c8 c9 u2 u3 s0 s1 s2 s3 s5 s6 s7 s8 s9 HR
  generalize w.drewN q = w2 at t2 t3 HV2 HB2 ⊢
  have z2 := blk t2
  go_upto_region 8 with fail
  go_cut [44, 45, 46] from 35 to 46 (fun s44 s45 s46 wx => s46 = .int .i64 0 ∧ Listed w (p :: xs) s44 s45 wx)
  case first =>
    rcases HV2.out.2 with ⟨h1, h0⟩ | ⟨gv, cpv, cur, h1, _, hgb, _, _, _, _⟩
    · have hx0 : xs = [] := List.eq_nil_of_length_eq_zero h0
      subst hx0
      simp only [List.length_nil, Value.slice.injEq] at h1
      obtain ⟨rfl, _, rfl⟩ := h1
      go_region_law ((refine step_append_none (by rfl) _ _ 40 (by rfl) 9 Ybaf.t9 Ybaf.underlying40 (by kernel_rfl) (some ⟨w2.heap.size, 0, none⟩) 1 1 (by rfl) (by omega) (by rfl) ?_))
      all_goals
        go_wp2_with fail
        go_meet
        refine ⟨rfl, ⟨_, _, rfl, ?_⟩, rfl, ?_⟩
        · exact (Row.alloc noN w2 9 1 1 [.string p] rfl (by simp [maxLen]) (by simp [noN])).1
        · exact (HB2.out.alloc HB2.out.size _).drew
    · simp only [Value.slice.injEq] at h1
      obtain ⟨rfl, _, rfl⟩ := h1
      have hlow : ∀ j u, (strs xs)[j]? = some u → w2.cell? ((⟨gv, 0, none⟩ : Addr).add j) = some u := HV2.out.cells (g := gv) rfl
      have HLOW : Hid (∀ j u, (strs xs)[j]? = some u → w2.cell? ((⟨gv, 0, none⟩ : Addr).add j) = some u) := hlow
      have HG : Hid (gv < w2.heap.size) := (Array.getElem?_eq_some_iff.1 hgb).1
      clear hlow hgb
      go_region_law
       ((refine step_append_row _ (by rfl) _ _ 40 (by rfl) 9 Ybaf.t9 (.string ⟨#[]⟩) 1 16 Ybaf.underlying40 (by kernel_rfl) rfl rfl rfl rfl (by decide) (N := noN) ?n1 (.slice (some ⟨w2.heap.size, 0, none⟩) 1 1) 1 [.string p] (by rfl) ?n2 ⟨gv, 0, none⟩ xs.length cv (strs xs) (by rfl) (by simp [strs]) ?n6 ?n3 (by simp [maxLen]; omega) (by omega) ?_
         case n1 => exact fun k hk => hk.elim
         case n2 => exact (Row.alloc noN w2 9 1 1 [.string p] rfl (by simp [maxLen]) (by simp [noN])).same (fun _ _ => rfl)
         case n3 => intro u hu; simp [strs] at hu; obtain ⟨x, _, rfl⟩ := hu; rfl
         case n6 =>
           intro j u hj
           have h1 := HLOW.out j u hj
           rw [ownsRow_add] at h1 ⊢
           exact cell_alloc h1 _
         intro v' w3 hGr
         obtain ⟨o3, c3, rfl, _, _⟩ := ownsRow_slice hGr.row.1))
      all_goals
        go_wp2_with fail
        go_meet
        have hlen : 1 + xs.length = (p :: xs).length := by simp; omega
        have hrow := hGr.row
        rw [hlen] at hrow
        obtain ⟨g3, cap3, cur3, hv3, -, hb3, q1, q2, q3, q4⟩ := hrow.form (by simp)
        simp only [Value.slice.injEq] at hv3
        obtain ⟨rfl, _, rfl⟩ := hv3
        refine ⟨rfl, ⟨_, _, by rw [hlen], ?_⟩, by simp; omega, ?_⟩
        · rw [hlen]
          exact hrow.1
        · have hb : Below w2.heap.size w2 w3 := by
            refine ⟨hGr.fr.os, hGr.fr.tape, hGr.fr.output, ?_, fun k hk => ?_⟩
            · have := hGr.fr.size
              simp at this
              omega
            · rw [hGr.other k (by simp; omega) (by simp [Value.ownBlock]; omega)]
              exact Below.heap_alloc w2 _ k hk
          exact HB2.out.trans (hb.mono HB2.out.size)
  case rest =>
    obtain ⟨rfl, hL⟩ := hcut
    obtain ⟨⟨a, cap2, hv44, hrow⟩, hln, hbel⟩ := hL
    subst hv44 hln
    have HB3 : Hid (Below w.heap.size w wc) := hbel
    have HROW : Hid (wc.ownsRow 0 9 1 (.slice (some ⟨a, 0, none⟩) (p :: xs).length cap2) (p :: xs).length (strs (p :: xs))) := hrow
    obtain ⟨_, _, hvv, hc1, hc2⟩ := ownsRow_slice hrow
    simp only [maxLen] at hc2
    cases hvv
    have hlt : a < wc.heap.size := (hrow.lt a rfl).2
    have HS3 : Hid (StoreAt wc s ch mi (.slice (some ⟨g, 0, none⟩) l.length cap) gp ms co mr mu) := (Fr.of_below (N := noN) (W := []) (M := []) hbel).keepC _ _ _ _ HS.out (by simp)
    have HM3 : Hid (MapAt Value.string wc mi es) := HM.out.kept (Fr.of_below (N := noN) (W := []) (M := []) hbel) (by simp)
    have HLT : Hid (a < wc.heap.size) := hlt
    obtain ⟨ys, hys⟩ : ∃ ys, ys = p :: xs := ⟨_, rfl⟩
    rw [← hys] at HROW HPOS hc1 ⊢
    have hyl : ys.length < 1002 := by rw [hys]; simp; omega
    have HYL : Hid (ys.length < 1002) := hyl
    clear hbel hrow hlt t2 t3 z2 HV2 HB2 hys hyl
    go_wp2_with fail
    go_loopw [6, 46] (fun s6 s46 wr => ∃ j : Nat, s46 = .int .i64 j ∧ j ≤ ys.length ∧ Missing wc es (ys.take j) s6 wr) (fun _ s46 _ => ys.length - (intOf s46).toNat)
    case atStart => exact ⟨0, rfl, Nat.zero_le _, Row.nil noN wc 9 1, by simp [Value.ownBlock], Below.refl _ _⟩
    case round =>
      obtain ⟨j, rfl, hj, hMi⟩ := hrel
      obtain ⟨o6, c6, hv6, _, _⟩ := ownsRow_slice hMi.row.1
      subst hv6
      have HMi : Hid (Missing wc es (ys.take j) (.slice o6 (lacksIn es (ys.take j)).length c6) wr) := hMi
      by_cases hjn : j < ys.length
      · obtain ⟨y, hy⟩ : ∃ y, ys[j]? = some y := ⟨_, List.getElem?_eq_getElem hjn⟩
        have hf : Fr noN [] [] wc wr := Fr.of_below hMi.below
        have hSr := hf.keepC _ _ _ _ HS3.out (by simp)
        have r1 := (show StoreAt wr s ch mi (.slice (some ⟨g, 0, none⟩) l.length cap) gp ms co mr mu from hSr).cells.2.1
        have hl := run_look_ok (KK.string Ybaf.underlying9) Ybaf.underlying74 zero_i32 (HM3.out.kept hf (by simp)) y
        have hcy : wr.cell? ⟨a, j, none⟩ = some (.string y) := by
          have h1 := HROW.out.cells (g := a) rfl j (.string y) (by simp [strs, hy])
          rw [ownsRow_add] at h1
          exact (World.cell?_of_block (hMi.below.block a HLT.out)).trans h1
        have HY : Hid (ys[j]? = some y) := hy
        clear hy hf hSr hMi
        cases hk : get es y with
        | some v =>
          rw [hk] at hl
          simp only [Option.getD_some, Option.isSome_some] at hl
          have HK : Hid (lacks es y = false) := by show lacks es y = false; simp [lacks, hk]
          clear hk
          go_wp2_with fail
          go_roundw
          case rel =>
            refine ⟨j + 1, by simp, by omega, ?_⟩
            have h1 := HMi.out
            exact ⟨by rw [lacksIn_take HY.out, HK.out]; exact h1.row, h1.own, h1.below⟩
          case measure => simp [intOf]; omega
        | none =>
          rw [hk] at hl
          simp only [Option.getD_none, Option.isSome_none] at hl
          by_cases hgn : y = gen
          · have e1 := is_gen hgn
            have HK : Hid (lacks es y = false) := by show lacks es y = false; simp [lacks, hgn]
            clear hk hgn
            go_wp2_with fail
            go_roundw
            case rel =>
              refine ⟨j + 1, by simp, by omega, ?_⟩
              have h1 := HMi.out
              exact ⟨by rw [lacksIn_take HY.out, HK.out]; exact h1.row, h1.own, h1.below⟩
            case measure => simp [intOf]; omega
          · have e1 := ne_gen hgn
            have HK : Hid (lacks es y = true) := by show lacks es y = true; simp [lacks, hk, hgn]
            have hcn : (lacksIn es (ys.take j)).length < 1002 := by
              have h1 : (lacksIn es (ys.take j)).length ≤ (ys.take j).length := List.length_filter_le _ _
              have h2 : (ys.take j).length ≤ ys.length := by simp; omega
              have h3 := HYL.out
              omega
            have HCN : Hid ((lacksIn es (ys.take j)).length < 1002) := hcn
            clear hk hgn hcn
            go_wp2_with ((at_builtin; refine Stop'.intro ?_))
            unfold Stop'
            refine wpList_append_row _ rfl _ _ 40 rfl 9 Ybaf.t9 (.string ⟨#[]⟩) 1 16 Ybaf.underlying40 (by kernel_rfl) rfl rfl rfl rfl (by decide) (N := noN) (fun k hk => hk.elim) (.slice o6 (lacksIn es (ys.take j)).length c6) (lacksIn es (ys.take j)).length (strs (lacksIn es (ys.take j))) rfl (HMi.out.row.kept ((Fr.refl noN [] [] wr).alloc _) (by simp)) ⟨wr.heap.size, 0, none⟩ 1 1 [.string y] rfl rfl (news_alloc wr [.string y] 9) (by simp [Value.oneCell']) ?n4 ?n5 ?_
            case n4 => have := HCN.out; simp [maxLen]; omega
            case n5 => have := HCN.out; omega
            intro v' w3 hGr
            have HMn : Hid (Missing wc es (ys.take (j + 1)) v' w3) := by
              have h1 := HMi.out
              refine ⟨?_, ?_, ?_⟩
              · rw [lacksIn_take HY.out, if_pos HK.out, List.length_append]
                have h2 := hGr.row
                simpa [strs] using h2
              · intro b hb
                rcases hGr.at_ with h2 | h2
                · rw [h2] at hb
                  exact h1.own b hb
                · rw [h2] at hb
                  cases hb
                  have := h1.below.size
                  simp
                  omega
              · refine h1.below.trans ⟨hGr.fr.os, hGr.fr.tape, hGr.fr.output, ?_, fun k hk => ?_⟩
                · have h2 := hGr.fr.size
                  simp at h2
                  omega
                · have h3 := h1.below.size
                  rw [hGr.other k (by simp; omega) ?_]
                  · exact Below.heap_alloc wr _ k (by omega)
                  · intro e
                    have := h1.own k e.symm
                    omega
            obtain ⟨o7, c7, rfl, _, _⟩ := ownsRow_slice hGr.row.1
            clear hGr
            go_wp2_with fail
            go_roundw
            case rel => exact ⟨j + 1, by simp, by omega, HMn.out⟩
            case measure => simp [intOf]; omega
      · clear hMi
        go_wp2_with fail
        go_ret
        have h1 := HMi.out
        have h2 := h1.row
        rw [List.take_of_length_le (by omega)] at h2
        obtain ⟨g3, cap3, cur3, hv3, -, -, q1, q2, -, -⟩ := h2.form HPOS.out
        obtain ⟨y, hy⟩ : ∃ y, (lacksIn es ys)[0]? = some y := ⟨_, List.getElem?_eq_getElem HPOS.out⟩
        refine ⟨g3, _, cap3, y, by show Ending.returned (.slice o6 (lacksIn es (ys.take j)).length c6) = _; rw [List.take_of_length_le (by omega), hv3], HPOS.out, q1, q2, h2.cell (by rw [hv3]; rfl) (by simp [strs, hy]), HB3.out.trans (h1.below.mono HB3.out.size)⟩
end
end Go.Proofs.YbulkkeiFmt
