/-
  THE WALKS of this seat: expNeg and newPoisson.
-/
import Derived.Test.YbulkkeiRows
import Derived.Test.YbulkkeiExpNeg
import Derived.WalkKit
import Derived.WalkSpells
import Derived.Below
import Derived.Laws.FloatArith
namespace Go.Proofs.Ybulkkei
open Go.RowKit
set_option linter.unusedSimpArgs false

/-- What the walk takes for an operation on floats. -/
theorem run_mul {x y r : Nat} (h : Ieee.double.mul x y = some r) (t : TypeId) (w : World) : (binOp .mul t (.float .f64 x) (.float .f64 y)).run Yba.prog w = .ok (.float .f64 r) w := run_float_arith w .mul t .f64 x y r h
theorem run_add {x y r : Nat} (h : Ieee.double.add x y = some r) (t : TypeId) (w : World) : (binOp .add t (.float .f64 x) (.float .f64 y)).run Yba.prog w = .ok (.float .f64 r) w := run_float_arith w .add t .f64 x y r h
theorem run_sub {x y r : Nat} (h : Ieee.double.sub x y = some r) (t : TypeId) (w : World) : (binOp .sub t (.float .f64 x) (.float .f64 y)).run Yba.prog w = .ok (.float .f64 r) w := run_float_arith w .sub t .f64 x y r h
theorem run_div {x y r : Nat} (h : Ieee.double.div x y = some r) (t : TypeId) (w : World) : (binOp .quo t (.float .f64 x) (.float .f64 y)).run Yba.prog w = .ok (.float .f64 r) w := run_float_arith w .quo t .f64 x y r h
theorem fl_nat (n : Nat) : floatOfInt .f64 (n : Int) = Fl.natW n := by
  have : ¬ ((n : Int) < 0) := by omega
  simp [floatOfInt, FloatKind.nearest, FloatKind.encode, FloatKind.format, Ieee.Format.write, Fl.natW, this]

set_option maxHeartbeats 1000000 in
theorem expNeg_c (x k : Nat) (a v : Rat) (w : World) (_hx : Fl.F x a) (hk : k ≤ 16) (hfl : (Ieee.double.read x).toInt .zero = some (k : Int)) (hsub : Ieee.double.sub x (Fl.natW k) = some (Fl.subW x (Fl.natW k)))
    (hf : Fl.F (Fl.subW x (Fl.natW k)) v) (hv1 : v ≤ 1) :
    Calls Yba.prog 6 #[.float .f64 x] w fun e w' => e = .returned (.float .f64 (Fl.expW (Fl.subW x (Fl.natW k)) k)) ∧ w' = w := by
  generalize hfw : Fl.subW x (Fl.natW k) = f at *
  clear hfw
  have h1 : floatToIntVal .f64 x .i64 = some (k : Int) := by
    unfold floatToIntVal
    have e : FloatKind.f64.decode x = Ieee.double.read x := rfl
    rw [e, hfl]
    simp [IntKind.min, IntKind.max, IntKind.signed, IntKind.bits]
    omega
  have c1 : ∀ w, (convert 22 3 (.float .f64 x)).run Yba.prog w = .ok (.int .i64 k) w := fun w => run_convert_float_int w 22 3 .f64 .i64 x k (by kernel_rfl) Yba.underlying3 h1
  have c2 : floatOfInt .f64 (k : Int) = Fl.natW k := fl_nat k
  have c3 := run_sub hsub
  obtain ⟨d1, _⟩ := Fl.y_zero hf hv1
  have HF : Hid (Fl.F f v ∧ v ≤ 1) := ⟨hf, hv1⟩
  have c4 := run_div d1
  clear hfl hsub hf hv1 h1 d1
  go_enter Yba.func6, Yba.ntmps6
  go_wp2_with (simp only [c1, c2, c3])
  go_loop [5, 6, 7] (fun s5 s6 s7 => ∃ i : Nat, i ≤ 20 ∧ s7 = .int .i64 ((i + 1 : Nat) : Int) ∧ s5 = .float .f64 (Fl.sW f i) ∧ s6 = .float .f64 (Fl.tW f i)) (fun _ _ s7 => (21 - intOf s7).toNat)
  case atStart => exact ⟨0, by omega, rfl, rfl, rfl⟩
  case round =>
    obtain ⟨i, hi, rfl, rfl, rfl⟩ := hrel
    by_cases hlt : i < 20
    · obtain ⟨m1, m2, m3⟩ := Fl.ts_valid HF.out.1 HF.out.2 i hlt
      have e1 := run_mul m1
      have e2 := run_div m2
      have e3 := run_add m3
      have e4 : floatOfInt .f64 ((i + 1 : Nat) : Int) = Fl.natW (i + 1) := fl_nat (i + 1)
      have hb : ((i + 1 : Nat) : Int) ≤ 20 := by omega
      clear m1 m2 m3 c1 c2 c3 c4
      generalize hq : ((i + 1 : Nat) : Int) = q at *
      have hq0 : 0 ≤ q := by omega
      have HQ : Hid (((i + 1 : Nat) : Int) = q) := hq
      clear hq
      go_wp2_with (simp only [e1, e2, e3, e4])
      go_round
      case rel => exact ⟨i + 1, by omega, by rw [← HQ.out]; go_num, rfl, rfl⟩
      case measure => simp [intOf]; omega
    · have : i = 20 := by omega
      subst this
      clear c1 c2 c3
      go_wp2_with (simp only [c4])
      go_loop [8, 31] (fun s8 s31 => ∃ j : Nat, j ≤ k ∧ s31 = .int .i64 (j : Int) ∧ s8 = .float .f64 (Fl.yW (Fl.sW f 20) j)) (fun _ s31 => ((k : Int) - intOf s31).toNat)
      case atStart => exact ⟨0, by omega, rfl, rfl⟩
      case round =>
        clear c4
        obtain ⟨j, hj, rfl, rfl⟩ := hrel
        by_cases hjk : j < k
        · have m1 := Fl.y_valid HF.out.1 HF.out.2 j (by omega)
          have e1 := run_mul m1
          clear m1
          go_wp2_with (simp only [e1])
          go_round
          case rel => exact ⟨j + 1, by omega, by go_num, rfl⟩
          case measure => simp [intOf]; omega
        · have : j = k := by omega
          subst this
          go_wp2_with fail
          go_ret
          exact ⟨rfl, rfl⟩

/-- The sums as values. -/
def cs (p0 x n : Nat) : List Value := (List.range n).map fun i => .float .f64 (Fl.cW p0 x i)
theorem cs_succ (p0 x n : Nat) : cs p0 x (n + 1) = cs p0 x n ++ [.float .f64 (Fl.cW p0 x n)] := by simp [cs, List.range_succ]
theorem cs_get (p0 x n i : Nat) (h : i < n) : (cs p0 x n)[i]? = some (.float .f64 (Fl.cW p0 x i)) := by simp [cs, h]

/-- What newPoisson has made. -/
structure Made (b : Nat) (w w' : World) (J K x k f Bp g cap : Nat) : Prop where
  hJ : J ≤ 26
  over : ∀ i, i < J → 16 < Fl.val (Fl.qW b i)
  under : Fl.val (Fl.qW b J) ≤ 16
  hx : x = Fl.qW b J
  hk : k ≤ 16
  hfl : (k : Rat) ≤ Fl.val x ∧ Fl.val x < (k : Rat) + 1
  hf : Fl.F f (Fl.val x - (k : Rat))
  hK0 : K < 400
  moves : ∀ i, i < K → Fl.val (Fl.cW (Fl.expW f k) x i) ≠ Fl.val (Fl.cW (Fl.expW f k) x (i + 1))
  stops : Fl.val (Fl.cW (Fl.expW f k) x (K + 1)) = Fl.val (Fl.cW (Fl.expW f k) x K)
  p0 : w'.cell? ⟨Bp, 0, none⟩ = some (.int .i64 ((2 ^ J : Nat) : Int))
  p1 : w'.cell? ⟨Bp, 1, none⟩ = some (.slice (some ⟨g, 0, none⟩) (K + 1) cap)
  row : ∀ i, i < K + 1 → w'.cell? ⟨g, i, none⟩ = some (.float .f64 (Fl.cW (Fl.expW f k) x i))
  hcap : K + 1 ≤ cap ∧ cap ≤ maxLen
  below : Below w.heap.size w w'

set_option maxRecDepth 100000 in
set_option maxHeartbeats 2000000 in
theorem newPoisson_c (b : Nat) (M : Rat) (w : World) (hb : Fl.F b M) (hM : M ≤ 1000000000) :
    Calls Yba.prog 5 #[.float .f64 b] w fun e w' => ∃ J K x k f Bp g cap, e = .returned (.pointer (some ⟨Bp, 0, none⟩)) ∧ Made b w w' J K x k f Bp g cap := by
  have HB : Hid (Fl.F b M ∧ M ≤ 1000000000) := ⟨hb, hM⟩
  clear hb hM
  go_enter Yba.func5, Yba.ntmps5
  go_wp2_with fail
  go_loop [3] (fun s3 => ∃ j : Nat, j ≤ 26 ∧ s3 = .int .i64 ((2 ^ j : Nat) : Int) ∧ ∀ i, i < j → 16 < Fl.val (Fl.qW b i)) (fun s3 => (67108865 - intOf s3).toNat)
  case atStart => exact ⟨0, by omega, rfl, fun i hi => by omega⟩
  case round =>
    obtain ⟨j, hj, rfl, hov⟩ := hrel
    obtain ⟨q1, q2, q3⟩ := Fl.q_ok (j := j) HB.out.1 HB.out.2 (by omega)
    have e1 := run_div q1
    have e2 : floatOfInt .f64 ((2 ^ j : Nat) : Int) = Fl.natW (2 ^ j) := fl_nat (2 ^ j)
    have hpow : 2 ^ j ≤ 67108864 := Nat.le_trans (Nat.pow_le_pow_right (by omega) hj) (by decide)
    have hpow1 : 1 ≤ 2 ^ j := Nat.two_pow_pos j
    have HOV : Hid (∀ i, i < j → 16 < Fl.val (Fl.qW b i)) := hov
    clear hov q1 q3
    obtain ⟨P, hP⟩ : ∃ P, P = 2 ^ j := ⟨_, rfl⟩
    rw [← hP] at hpow hpow1 e1 e2 ⊢
    have HP : Hid (P = 2 ^ j) := hP
    clear hP
    by_cases hgt : 16 < Fl.val (Fl.qW b j)
    · have hj' : j < 26 := by
        by_cases h : j < 26
        · exact h
        · have : j = 26 := by omega
          subst this
          have := Fl.q_26 HB.out.1 HB.out.2
          grind
      have ho : FloatKind.f64.format.order (Fl.qW b j) 4625196817309499392 = some .gt := Fl.order_gt q2 Fl.F_sixteen hgt
      have HG : Hid (16 < Fl.val (Fl.qW b j)) := hgt
      clear q2 hgt
      go_wp2_with (simp only [e1, e2])
      go_round
      case rel =>
        refine ⟨j + 1, by omega, ?_, fun i hi => ?_⟩
        · rw [Nat.pow_succ, ← HP.out]; go_num
        · by_cases h : i < j
          · exact HOV.out i h
          · have : i = j := by omega
            rw [this]; exact HG.out
      case measure => simp [intOf]; omega
    · have hle : Fl.val (Fl.qW b j) ≤ 16 := by grind
      have ho : (FloatKind.f64.format.order (Fl.qW b j) 4625196817309499392 == some .gt) = false := by
        by_cases h : Fl.val (Fl.qW b j) < 16
        · have : FloatKind.f64.format.order (Fl.qW b j) 4625196817309499392 = some .lt := Fl.order_lt q2 Fl.F_sixteen h
          rw [this]; rfl
        · have : FloatKind.f64.format.order (Fl.qW b j) 4625196817309499392 = some .eq := Fl.order_eq q2 Fl.F_sixteen (by grind)
          rw [this]; rfl
      -- the whole part and the rest
      obtain ⟨k, k1, k2, k3, k4⟩ := Fl.F_floor q2
      have hk16 : k ≤ 16 := by
        have h1 : (k : Rat) ≤ 16 := by grind
        exact_mod_cast h1
      have hsub := Fl.subW_ok q2 (Fl.natW_ok k (by omega)) k2 (by grind) k4
      obtain ⟨s1, s2⟩ := hsub
      have hst := Fl.exp_start s2 (by grind) hk16 q2 hle
      have HX : Hid (Fl.val (Fl.qW b j) ≤ 16 ∧ k ≤ 16 ∧ ((k : Rat) ≤ Fl.val (Fl.qW b j) ∧ Fl.val (Fl.qW b j) < (k : Rat) + 1) ∧ Fl.F (Fl.subW (Fl.qW b j) (Fl.natW k)) (Fl.val (Fl.qW b j) - (k : Rat))) := ⟨hle, hk16, ⟨k2, k3⟩, s2⟩
      have hcall := fun w => expNeg_c (Fl.qW b j) k _ _ w q2 hk16 k1 s1 s2 (by grind)
      have HC : Hid (∀ w, Calls Yba.prog 6 #[.float .f64 (Fl.qW b j)] w fun e w' => e = .returned (.float .f64 (Fl.expW (Fl.subW (Fl.qW b j) (Fl.natW k)) k)) ∧ w' = w) := hcall
      have HS : Hid (Fl.Start (Fl.expW (Fl.subW (Fl.qW b j) (Fl.natW k)) k) (Fl.qW b j) (Fl.val (Fl.expW (Fl.subW (Fl.qW b j) (Fl.natW k)) k)) (Fl.val (Fl.qW b j))) := hst
      clear hcall hst s1 s2 k1 k2 k3 k4 hle hgt q2 hk16
      generalize Fl.subW (Fl.qW b j) (Fl.natW k) = f at HX HC HS
      go_wp2_with (simp only [e1, e2])
      refine (HC.out _).mono ?_
      rintro e w1 ⟨rfl, hw1⟩
      obtain rfl : w = w1 := hw1.symm
      clear e1 e2 ho HC
      go_wp2_with fail
      -- the table's loop
      have HM : Hid (Fl.val (Fl.qW b j) ≤ 16) := HX.out.1
      generalize hxq : Fl.qW b j = x at *
      have HQ : Hid (Fl.qW b j = x) := hxq
      clear hxq
      obtain ⟨p0, hp0⟩ : ∃ p0, p0 = Fl.expW f k := ⟨_, rfl⟩
      rw [← hp0] at HS ⊢
      have HP0 : Hid (p0 = Fl.expW f k) := hp0
      clear hp0
      have hown0 : (w.alloc (.cells #[.float .f64 p0] 22)).ownsRow w.heap.size 22 1 (.slice (some ⟨w.heap.size, 0, none⟩) 1 1) 1 (cs p0 x 1) :=
        ⟨by simp [cs], .inr ⟨w.heap.size, 1, #[.float .f64 p0], rfl, Nat.le_refl _, heap_alloc_new w _, by omega, by unfold maxLen; omega, rfl, by simp [cs, Fl.cW, List.range_succ]⟩⟩
      have HW0 : Hid ((w.alloc (.cells #[.float .f64 p0] 22)).ownsRow w.heap.size 22 1 (.slice (some ⟨w.heap.size, 0, none⟩) 1 1) 1 (cs p0 x 1)) := hown0
      clear hown0
      go_loopw [5, 6, 7, 8] (fun s5 s6 s7 _ wr => ∃ n g cap : Nat, n ≤ 399 ∧ s7 = .int .i64 ((n + 1 : Nat) : Int) ∧ s5 = .float .f64 (Fl.pW p0 x n) ∧ s6 = .slice (some ⟨g, 0, none⟩) (n + 1) cap ∧
          wr.ownsRow w.heap.size 22 1 (.slice (some ⟨g, 0, none⟩) (n + 1) cap) (n + 1) (cs p0 x (n + 1)) ∧ Below w.heap.size w wr ∧ ∀ i, i < n → Fl.val (Fl.cW p0 x i) ≠ Fl.val (Fl.cW p0 x (i + 1))) (fun _ _ s7 _ _ => (401 - intOf s7).toNat)
      case atStart => exact ⟨0, _, _, by omega, rfl, rfl, rfl, HW0.out, (Below.refl _ _).alloc (Nat.le_refl _) _, fun i hi => by omega⟩
      case round =>
        clear HW0
        obtain ⟨n, g, cap, hn, rfl, rfl, rfl, hown, hnx, hmv⟩ := hrel
        obtain ⟨m1, m2, m3, m4, m5⟩ := Fl.c_step HS.out n (by omega)
        have f1 := (Fl.c_all HS.out (n + 1) (by omega)).1
        have f2 := (Fl.c_all HS.out n (by omega)).1
        have e1 := run_mul m1
        have e2 := run_div m2
        have e3 := run_add m3
        have e4 : floatOfInt .f64 ((n : Int) + 1) = Fl.natW (n + 1) := by rw [← fl_nat (n + 1)]; simp
        have hcell : wr.cell? ⟨g, n, none⟩ = some (.float .f64 (Fl.cW p0 x n)) := by
          have h := hown.cells (g := g) rfl n _ (cs_get p0 x (n + 1) n (by omega))
          by_cases h0 : n = 0
          · subst h0; simpa [Addr.add] using h
          · simpa [Addr.add, h0] using h
        have hg := hown.lt g rfl
        have hcap : n + 1 ≤ cap ∧ cap ≤ maxLen := by
          rcases hown.2 with ⟨h, _⟩ | ⟨g', cap', cur, h, _, _, h1, h2, _⟩
          · cases h
          · cases h; exact ⟨h1, h2⟩
        have HO : Hid (wr.ownsRow w.heap.size 22 1 (.slice (some ⟨g, 0, none⟩) (n + 1) cap) (n + 1) (cs p0 x (n + 1))) := hown
        have HV : Hid (∀ i, i < n → Fl.val (Fl.cW p0 x i) ≠ Fl.val (Fl.cW p0 x (i + 1))) := hmv
        clear m1 m2 m3 m4 hown hmv
        by_cases heq : Fl.val (Fl.cW p0 x (n + 1)) = Fl.val (Fl.cW p0 x n)
        · have ho : FloatKind.f64.format.order (Fl.cW p0 x (n + 1)) (Fl.cW p0 x n) = some .eq := Fl.order_eq f1 f2 heq
          have HE : Hid (Fl.val (Fl.cW p0 x (n + 1)) = Fl.val (Fl.cW p0 x n)) := heq
          clear heq f1 f2 m5
          go_wp2_with (simp only [e1, e2, e3, e4])
          go_ret
          obtain rfl := HP0.out
          have hx := HX.out
          have hrow : ∀ i, i < n + 1 → (wr.alloc (.cells #[.int .i64 (P : Int), .slice (some ⟨g, 0, none⟩) (n + 1) cap] 27)).cell? ⟨g, i, none⟩ = some (.float .f64 (Fl.cW (Fl.expW f k) x i)) := by
            intro i hi
            have h := (HO.out.alloc (.cells #[.int .i64 (P : Int), .slice (some ⟨g, 0, none⟩) (n + 1) cap] 27)).cells (g := g) rfl i _ (cs_get (Fl.expW f k) x (n + 1) i hi)
            by_cases h0 : i = 0
            · subst h0; simpa [Addr.add] using h
            · simpa [Addr.add, h0] using h
          refine ⟨j, n, x, k, f, _, g, cap, rfl, ⟨hj, HOV.out, ?_, HQ.out.symm, hx.2.1, hx.2.2.1, hx.2.2.2, ?_, HV.out, HE.out, ?_, ?_, hrow, hcap, hnx.alloc hnx.size _⟩⟩
          · rw [HQ.out]; exact hx.1
          · omega
          · rw [← HP.out]; go_simp
          · go_simp
        · have hlt : Fl.val (Fl.cW p0 x n) < Fl.val (Fl.cW p0 x (n + 1)) := by grind
          have ho : FloatKind.f64.format.order (Fl.cW p0 x (n + 1)) (Fl.cW p0 x n) = some .gt := Fl.order_gt f1 f2 hlt
          have hn9 : n < 399 := by
            by_cases h : n < 399
            · exact h
            · exact absurd (Fl.c_ends HS.out n (by omega)) heq
          have HE : Hid (Fl.val (Fl.cW p0 x n) ≠ Fl.val (Fl.cW p0 x (n + 1))) := fun h => heq h.symm
          clear heq f1 f2 m5 hlt
          have hsz := hnx.size
          go_wp2_with (first
            | (at_builtin; refine wpList_append_own _ rfl _ _ 25 rfl w.heap.size 22 Yba.t22 (.float .f64 0) 1 8 Yba.underlying25 (by kernel_rfl) rfl rfl rfl rfl (by decide) (.slice (some ⟨g, 0, none⟩) (n + 1) cap) (n + 1) (cs p0 x (n + 1)) rfl (HO.out.alloc _) ⟨wr.heap.size, 0, none⟩ 1 1 [.float .f64 (Fl.cW p0 x (n + 1))] rfl rfl ?c1 ?c2 ?c3 ?c4 ?c5 ?_)
            | simp only [e1, e2, e3, e4])
          case c1 =>
            intro i u hi
            match i, hi with
            | 0, hi => simp at hi; subst hi; simp [Addr.add]
          case c2 => intro u hu; simp at hu; subst hu; rfl
          case c3 => unfold maxLen; omega
          case c4 => omega
          case c5 => simp; omega
          intro v' w1 hown' hgrow _
          have hown2 : w1.ownsRow w.heap.size 22 1 v' (n + 1 + 1) (cs p0 x (n + 1 + 1)) := by rw [cs_succ p0 x (n + 1)]; exact hown'
          have hB1 : Below w.heap.size w w1 := (hnx.alloc hsz _).grown hgrow (by simp; omega) (fun k' hk' => by
            have h1 : g = k' := by simpa [Value.ownBlock] using hk'
            have h2 := hg.1
            omega)
          rcases hown2.2 with ⟨_, h⟩ | ⟨g', cap', cur, hv', _⟩
          · omega
          subst hv'
          have HO2 : Hid (w1.ownsRow w.heap.size 22 1 (.slice (some ⟨g', 0, none⟩) (n + 1 + 1) cap') (n + 1 + 1) (cs p0 x (n + 1 + 1))) := hown2
          clear hown' hgrow hown2
          go_wp2_with fail
          go_roundw
          case rel =>
            refine ⟨n + 1, g', cap', by omega, by go_num, rfl, rfl, HO2.out, hB1, fun i hi => ?_⟩
            by_cases h : i < n
            · exact HV.out i h
            · have : i = n := by omega
              rw [this]; exact HE.out
          case measure => simp [intOf]; omega
end Go.Proofs.Ybulkkei
