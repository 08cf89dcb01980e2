/-
  THE LAW (4): what it wants: regions 41 to 58.
-/
import Derived.Test.YbulkkeiFmtLawW3
import Derived.Deep.CutRange
namespace Go.Proofs.YbulkkeiFmt
open Go.RowKit Go.Extern.Stop Go.Stop Go.Extern
set_option maxRecDepth 8000
attribute [local go_sem ↓] Go.wp_at_zero Go.wp_at_succ

set_option maxHeartbeats 12800000 in
theorem law_want {L : Nat → Prop} {z ad co pe : Nat} {m : LM} {w : World} {o22 : Option Addr} {n22 cap22 : Nat} {idx : Nat} {c ch par : Int} {sel : List Nat} {Q : Exit → Act → World → Prop} {K : Act → World → Prop}
    {c0 c1 c2 c3 c4 c5 c6 c7 c9 c10 c11 c15 c16 c20 c21 c23 c24 c25 c26 c28 c29 c30 c31 c32 c33 c34 c35 c36 c37 c38 c39 c40 c41 c42 c43 c44 c45 c46 c47 c48 c49 c50 c51 c52 c53 c54 c55 c56 c57 c58 c59 c60 c61 c62 c63 c64 c65 c66 c67 c68 c69 c70 c71 c72 c73 c74 c75 c76 c77 c78 c79 c80 c81 c82 c83 c84 c85 c86 c87 c88 c89 c90 c91 c92 c93 c94 c95 c96 c97 c98 c99 c100 c101 c102 c103 c104 c105 c106 c107 c108 c109 c110 c111 c112 c113 c114 c115 c116 c117 c118 c119 c120 c121 c122 c123 c124 c125 c126 c127 c128 c129 c130 c131 c132 c133 c134 c135 c136 c137 c138 c139 c140 c141 c142 c143 c144 c145 c146 c147 c148 c149 c150 c151 c152 c153 c154 c155 c156 c157 c158 c159 c160 c161 c162 c163 c164 c165 c166 c167 c168 c169 c170 c171 c172 c173 c174 c175 c176 c177 c178 c179 c180 c181 c182 c183 c184 c185 c186 c187 c188 c189 c190 c191 c192 c193 c194 c195 c196 c197 c198 c199 c200 c201 c202 c203 c204 c205 c206 c207 c208 c209 c210 c211 c212 c213 c214 c215 c216 c217 c218 c219 c220 c221 c222 c223 c224 c225 c226 c227 c228 c229 c230 c231 c232 c233 c234 c235 c236 c237 c238 c239 c240 c241 c242 c243 c244 c245 c246 c247 c248 c249 c250 c251 c252 c253 c254 c255 c256 c257 c258 c259 c260 c261 c262 c263 c264 c265 c266 c267 c268 c269 : Value}
    (hM : LawMem L z ad co pe m w) (hR : Row noN w 3 1 (.slice o22 n22 cap22) n22 (i64s (sel.map Int.ofNat))) (hn22 : n22 = sel.length)
    (hcap : n22 ≤ cap22) (hsl : sel.length ≤ 256) (hpl : (m.pend idx).length ≤ 100000) (hpar : par < 4) (hs7 : ∀ k ∈ sel, k < 7)
    (hK : ∀ (u29 u31 u134 u135 u136 u137 u138 u139 u140 u141 u142 u143 u144 u145 u146 u147 u148 u149 u150 u151 u152 u153 u154 u155 u156 u157 u158 u159 u160 u161 u162 u163 u164 u165 u166 u167 u168 u169 u170 u171 u172 u173 u174 u175 u176 u177 u178 u179 u180 u181 u182 u183 u184 u185 u186 u187 u188 u189 u190 u191 u192 u193 u194 u195 u196 u197 u198 u199 u200 u201 : Value) (w' : World), Below w.heap.size w w' →
      K ⟨List.toArray (c0 :: c1 :: c2 :: c3 :: c4 :: c5 :: c6 :: c7 :: .int .i64 ch :: c9 :: c10 :: c11 :: .pointer (some ⟨ad, 0, none⟩) :: .pointer (some ⟨co, 0, none⟩) :: .pointer (some ⟨pe, 0, none⟩) :: c15 :: c16 :: .int .i64 idx :: .int .i64 c :: .int .i64 par :: c20 :: c21 :: .slice o22 n22 cap22 :: c23 :: c24 :: c25 :: c26 :: .bool (wantB ch m idx c par sel) :: c28 :: u29 :: c30 :: u31 :: c32 :: c33 :: c34 :: c35 :: c36 :: c37 :: c38 :: c39 :: c40 :: c41 :: c42 :: c43 :: c44 :: c45 :: c46 :: c47 :: c48 :: c49 :: c50 :: c51 :: c52 :: c53 :: c54 :: c55 :: c56 :: c57 :: c58 :: c59 :: c60 :: c61 :: c62 :: c63 :: c64 :: c65 :: c66 :: c67 :: c68 :: c69 :: c70 :: c71 :: c72 :: c73 :: c74 :: c75 :: c76 :: c77 :: c78 :: c79 :: c80 :: c81 :: c82 :: c83 :: c84 :: c85 :: c86 :: c87 :: c88 :: c89 :: c90 :: c91 :: c92 :: c93 :: c94 :: c95 :: c96 :: c97 :: c98 :: c99 :: c100 :: c101 :: c102 :: c103 :: c104 :: c105 :: c106 :: c107 :: c108 :: c109 :: c110 :: c111 :: c112 :: c113 :: c114 :: c115 :: c116 :: c117 :: c118 :: c119 :: c120 :: c121 :: c122 :: c123 :: c124 :: c125 :: c126 :: c127 :: c128 :: c129 :: c130 :: c131 :: c132 :: c133 :: u134 :: u135 :: u136 :: u137 :: u138 :: u139 :: u140 :: u141 :: u142 :: u143 :: u144 :: u145 :: u146 :: u147 :: u148 :: u149 :: u150 :: u151 :: u152 :: u153 :: u154 :: u155 :: u156 :: u157 :: u158 :: u159 :: u160 :: u161 :: u162 :: u163 :: u164 :: u165 :: u166 :: u167 :: u168 :: u169 :: u170 :: u171 :: u172 :: u173 :: u174 :: u175 :: u176 :: u177 :: u178 :: u179 :: u180 :: u181 :: u182 :: u183 :: u184 :: u185 :: u186 :: u187 :: u188 :: u189 :: u190 :: u191 :: u192 :: u193 :: u194 :: u195 :: u196 :: u197 :: u198 :: u199 :: u200 :: u201 :: c202 :: c203 :: c204 :: c205 :: c206 :: c207 :: c208 :: c209 :: c210 :: c211 :: c212 :: c213 :: c214 :: c215 :: c216 :: c217 :: c218 :: c219 :: c220 :: c221 :: c222 :: c223 :: c224 :: c225 :: c226 :: c227 :: c228 :: c229 :: c230 :: c231 :: c232 :: c233 :: c234 :: c235 :: c236 :: c237 :: c238 :: c239 :: c240 :: c241 :: c242 :: c243 :: c244 :: c245 :: c246 :: c247 :: c248 :: c249 :: c250 :: c251 :: c252 :: c253 :: c254 :: c255 :: c256 :: c257 :: c258 :: c259 :: c260 :: c261 :: c262 :: c263 :: c264 :: c265 :: c266 :: c267 :: c268 :: c269 :: []), []⟩ w') :
    Code.wp Ybaf.prog (cHd (rdT 12 Ybaf.f3)) (Exit.then K Q) ⟨List.toArray (c0 :: c1 :: c2 :: c3 :: c4 :: c5 :: c6 :: c7 :: .int .i64 ch :: c9 :: c10 :: c11 :: .pointer (some ⟨ad, 0, none⟩) :: .pointer (some ⟨co, 0, none⟩) :: .pointer (some ⟨pe, 0, none⟩) :: c15 :: c16 :: .int .i64 idx :: .int .i64 c :: .int .i64 par :: c20 :: c21 :: .slice o22 n22 cap22 :: c23 :: c24 :: c25 :: c26 :: .bool false :: c28 :: c29 :: c30 :: c31 :: c32 :: c33 :: c34 :: c35 :: c36 :: c37 :: c38 :: c39 :: c40 :: c41 :: c42 :: c43 :: c44 :: c45 :: c46 :: c47 :: c48 :: c49 :: c50 :: c51 :: c52 :: c53 :: c54 :: c55 :: c56 :: c57 :: c58 :: c59 :: c60 :: c61 :: c62 :: c63 :: c64 :: c65 :: c66 :: c67 :: c68 :: c69 :: c70 :: c71 :: c72 :: c73 :: c74 :: c75 :: c76 :: c77 :: c78 :: c79 :: c80 :: c81 :: c82 :: c83 :: c84 :: c85 :: c86 :: c87 :: c88 :: c89 :: c90 :: c91 :: c92 :: c93 :: c94 :: c95 :: c96 :: c97 :: c98 :: c99 :: c100 :: c101 :: c102 :: c103 :: c104 :: c105 :: c106 :: c107 :: c108 :: c109 :: c110 :: c111 :: c112 :: c113 :: c114 :: c115 :: c116 :: c117 :: c118 :: c119 :: c120 :: c121 :: c122 :: c123 :: c124 :: c125 :: c126 :: c127 :: c128 :: c129 :: c130 :: c131 :: c132 :: c133 :: c134 :: c135 :: c136 :: c137 :: c138 :: c139 :: c140 :: c141 :: c142 :: c143 :: c144 :: c145 :: c146 :: c147 :: c148 :: c149 :: c150 :: c151 :: c152 :: c153 :: c154 :: c155 :: c156 :: c157 :: c158 :: c159 :: c160 :: c161 :: c162 :: c163 :: c164 :: c165 :: c166 :: c167 :: c168 :: c169 :: c170 :: c171 :: c172 :: c173 :: c174 :: c175 :: c176 :: c177 :: c178 :: c179 :: c180 :: c181 :: c182 :: c183 :: c184 :: c185 :: c186 :: c187 :: c188 :: c189 :: c190 :: c191 :: c192 :: c193 :: c194 :: c195 :: c196 :: c197 :: c198 :: c199 :: c200 :: c201 :: c202 :: c203 :: c204 :: c205 :: c206 :: c207 :: c208 :: c209 :: c210 :: c211 :: c212 :: c213 :: c214 :: c215 :: c216 :: c217 :: c218 :: c219 :: c220 :: c221 :: c222 :: c223 :: c224 :: c225 :: c226 :: c227 :: c228 :: c229 :: c230 :: c231 :: c232 :: c233 :: c234 :: c235 :: c236 :: c237 :: c238 :: c239 :: c240 :: c241 :: c242 :: c243 :: c244 :: c245 :: c246 :: c247 :: c248 :: c249 :: c250 :: c251 :: c252 :: c253 :: c254 :: c255 :: c256 :: c257 :: c258 :: c259 :: c260 :: c261 :: c262 :: c263 :: c264 :: c265 :: c266 :: c267 :: c268 :: c269 :: []), []⟩ w := by
  conv => arg 2; whnf
  subst hn22
  have HK : Hid _ := hK
  have HM : Hid (LawMem L z ad co pe m w) := hM
  have HR : Hid (Row noN w 3 1 (.slice o22 sel.length cap22) sel.length (i64s (sel.map Int.ofNat))) := hR
  have HS : Hid (∀ k ∈ sel, k < 7) := hs7
  clear hK hM hR hs7
  by_cases h4 : 4 ≤ idx
  · have h4I : (4 : Int) ≤ (idx : Int) := by omega
    have hwant : wantB ch m idx c par sel = true := by unfold wantB; rw [if_pos (.inl h4)]
    rw [hwant] at HK
    go_wp2_with fail
    refine HK.out _ _ _ _ _ _ _ _ _ _ _ _ _ _ _ _ _ _ _ _ _ _ _ _ _ _ _ _ _ _ _ _ _ _ _ _ _ _ _ _ _ _ _ _ _ _ _ _ _ _ _ _ _ _ _ _ _ _ _ _ _ _ _ _ _ _ _ _ _ _ _ (Below.refl _ _)
  have h4' : idx < 4 := by omega
  have h4I : (idx : Int) < 4 := by omega
  have hadd := HM.out.addCell h4'
  cases ha : m.added idx with
  | true =>
    rw [ha] at hadd
    have hwant : wantB ch m idx c par sel = true := by unfold wantB; rw [if_pos (.inr (.inl ha))]
    rw [hwant] at HK
    go_wp2_with fail
    all_goals try (exfalso; omega)
    refine HK.out _ _ _ _ _ _ _ _ _ _ _ _ _ _ _ _ _ _ _ _ _ _ _ _ _ _ _ _ _ _ _ _ _ _ _ _ _ _ _ _ _ _ _ _ _ _ _ _ _ _ _ _ _ _ _ _ _ _ _ _ _ _ _ _ _ _ _ _ _ _ _ (Below.refl _ _)
  | false =>
    rw [ha] at hadd
    by_cases hc0 : c < 0
    · have hwant : wantB ch m idx c par sel = true := by unfold wantB; rw [if_pos (.inr (.inr (.inl hc0)))]
      rw [hwant] at HK
      go_wp2_with fail
      all_goals try (exfalso; omega)
      refine HK.out _ _ _ _ _ _ _ _ _ _ _ _ _ _ _ _ _ _ _ _ _ _ _ _ _ _ _ _ _ _ _ _ _ _ _ _ _ _ _ _ _ _ _ _ _ _ _ _ _ _ _ _ _ _ _ _ _ _ _ _ _ _ _ _ _ _ _ _ _ _ _ (Below.refl _ _)
    by_cases hch : ch ≤ c
    · have hwant : wantB ch m idx c par sel = true := by unfold wantB; rw [if_pos (.inr (.inr (.inr hch)))]
      rw [hwant] at HK
      go_wp2_with fail
      all_goals try (exfalso; omega)
      refine HK.out _ _ _ _ _ _ _ _ _ _ _ _ _ _ _ _ _ _ _ _ _ _ _ _ _ _ _ _ _ _ _ _ _ _ _ _ _ _ _ _ _ _ _ _ _ _ _ _ _ _ _ _ _ _ _ _ _ _ _ _ _ _ _ _ _ _ _ _ _ _ _ (Below.refl _ _)
    have hwant : wantB ch m idx c par sel = (want1 m idx c || want2 m c par || want3 m idx sel) := by unfold wantB; rw [if_neg (by rintro (h | h | h | h); exact h4 h; rw [ha] at h; cases h; exact hc0 h; exact hch h)]
    rw [hwant] at HK
    clear hwant
    have HA : Hid (m.added idx = false) := ha
    obtain ⟨op, capp, hpe, hprow, hp1, hp2⟩ := HM.out.peCell h4'
    have HP : Hid (Row (lowN z) w 45 2 (.slice op (m.pend idx).length capp) (m.pend idx).length (pendV (m.pend idx))) := hprow
    clear hprow ha
    have hc0' : ¬ c < 0 := hc0
    have hch' : ¬ ch ≤ c := hch
    simp only [maxLen] at hp2
    obtain ⟨np, hnp⟩ : ∃ np, np = (m.pend idx).length := ⟨_, rfl⟩
    rw [← hnp] at hpe HP hp1 hpl
    have HNP : Hid (np = (m.pend idx).length) := hnp
    clear hnp
    go_wp2_with fail
    all_goals try (exfalso; omega)
    go_loopw [27, 154] (fun s27 s154 wx => ∃ t : Nat, s154 = .int .i64 t ∧ t ≤ np ∧ s27 = .bool (((m.pend idx).take t).any fun r => r.1 || r.2 != c) ∧ Below w.heap.size w wx) (fun _ s154 _ => np - (intOf s154).toNat)
    case atStart => exact ⟨0, rfl, Nat.zero_le _, by simp, Below.refl _ _⟩
    case round =>
      obtain ⟨t, rfl, ht, rfl, hB⟩ := hrel
      have HB : Hid (Below w.heap.size w wr) := hB
      by_cases htn : t < np
      · obtain ⟨r, hr⟩ : ∃ r, (m.pend idx)[t]? = some r := ⟨_, List.getElem?_eq_getElem (by rw [← HNP.out]; exact htn)⟩
        obtain ⟨gp, rfl, d0, d1⟩ := (HP.out.keptF (Fr.of_below (N := noN) (W := []) (M := []) hB) (by simp)).pendCell hr
        have HN : Hid ((((m.pend idx).take (t + 1)).any fun r => r.1 || r.2 != c) = ((((m.pend idx).take t).any fun r => r.1 || r.2 != c) || (r.1 || r.2 != c))) := any_take_succ _ hr
        clear hB hr hpe
        obtain ⟨rv, rc⟩ := r
        simp only at d0 d1 HN
        generalize (((m.pend idx).take t).any fun r => r.1 || r.2 != c) = b27 at HN ⊢
        cases rv with
        | true =>
          go_wp2_with fail
          all_goals try (exfalso; omega)
          go_roundw
          case rel => exact ⟨t + 1, by simp, by omega, by rw [HN.out]; simp, HB.out.alloc HB.out.size _⟩
          case measure => simp [intOf]; omega
        | false =>
          by_cases hrc : rc = c
          · have hrc' : (rc != c) = false := by simp [hrc]
            clear hrc
            go_wp2_with fail
            all_goals try (exfalso; omega)
            go_roundw
            case rel => exact ⟨t + 1, by simp, by omega, by rw [HN.out, hrc']; simp, HB.out.alloc HB.out.size _⟩
            case measure => simp [intOf]; omega
          · have hrc' : (rc != c) = true := by simp [hrc]
            clear hrc
            go_wp2_with fail
            all_goals try (exfalso; omega)
            go_roundw
            case rel => exact ⟨t + 1, by simp, by omega, by rw [HN.out, hrc']; simp, HB.out.alloc HB.out.size _⟩
            case measure => simp [intOf]; omega
      · have ht2 : t = np := by omega
        have HE : Hid ((((m.pend idx).take t).any fun r => r.1 || r.2 != c) = want1 m idx c) := by
          show _ = want1 m idx c
          rw [ht2, HNP.out, List.take_length]
          rfl
        have htI : ¬ ((t : Int) < (np : Int)) := by omega
        clear ht2 hB
        rw [HE.out]
        clear HE
        generalize want1 m idx c = b1 at HK ⊢
        by_cases hp0 : par < 0
        · have hpI : ¬ (0 : Int) ≤ par := by omega
          have HW : Hid (want2 m c par = false) := by
            show want2 m c par = false
            unfold want2
            rw [decide_eq_false hpI]
            rfl
          rw [HW.out, Bool.or_false] at HK
          go_wp2_with fail
          all_goals try (exfalso; omega)
          refine law_want3 (HM.out.below HB.out) (HR.out.keptF (Fr.of_below (N := noN) (W := []) (M := []) HB.out) (by simp)) rfl hcap hsl HS.out ?_
          intros
          show K _ _
          exact HK.out _ _ _ _ _ _ _ _ _ _ _ _ _ _ _ _ _ _ _ _ _ _ _ _ _ _ _ _ _ _ _ _ _ _ _ _ _ _ _ _ _ _ _ _ _ _ _ _ _ _ _ _ _ _ _ _ _ _ _ _ _ _ _ _ _ _ _ _ _ _ _ HB.out
        · have hpI : (0 : Int) ≤ par := by omega
          have hp4 : par.toNat < 4 := by omega
          have HW : Hid (want2 m c par = (m.added par.toNat && (m.chain par.toNat != c))) := by
            show want2 m c par = _
            unfold want2
            rw [decide_eq_true hpI]
            rfl
          rw [HW.out] at HK
          have p1 := (HM.out.below HB.out).addCell hp4
          have p2 := (HM.out.below HB.out).chCell hp4
          obtain ⟨pn, hpn⟩ : ∃ pn : Nat, par = (pn : Int) := ⟨par.toNat, by omega⟩
          subst hpn
          simp only [Int.toNat_natCast] at p1 p2 HK hp4
          clear HW
          cases hap : m.added pn with
          | false =>
            rw [hap] at p1 HK
            clear hap
            rw [Bool.false_and, Bool.or_false] at HK
            go_wp2_with fail
            all_goals try (exfalso; omega)
            refine law_want3 (HM.out.below HB.out) (HR.out.keptF (Fr.of_below (N := noN) (W := []) (M := []) HB.out) (by simp)) rfl hcap hsl HS.out ?_
            intros
            show K _ _
            exact HK.out _ _ _ _ _ _ _ _ _ _ _ _ _ _ _ _ _ _ _ _ _ _ _ _ _ _ _ _ _ _ _ _ _ _ _ _ _ _ _ _ _ _ _ _ _ _ _ _ _ _ _ _ _ _ _ _ _ _ _ _ _ _ _ _ _ _ _ _ _ _ _ HB.out
          | true =>
            rw [hap] at p1 HK
            clear hap
            rw [Bool.true_and] at HK
            generalize m.chain pn = cp at p2 HK
            by_cases hcc : cp = c
            · have hne : (cp != c) = false := by simp [hcc]
              clear hcc
              rw [hne, Bool.or_false] at HK
              go_wp2_with fail
              all_goals try (exfalso; omega)
              refine law_want3 (HM.out.below HB.out) (HR.out.keptF (Fr.of_below (N := noN) (W := []) (M := []) HB.out) (by simp)) rfl hcap hsl HS.out ?_
              intros
              show K _ _
              exact HK.out _ _ _ _ _ _ _ _ _ _ _ _ _ _ _ _ _ _ _ _ _ _ _ _ _ _ _ _ _ _ _ _ _ _ _ _ _ _ _ _ _ _ _ _ _ _ _ _ _ _ _ _ _ _ _ _ _ _ _ _ _ _ _ _ _ _ _ _ _ _ _ HB.out
            · have hne : (cp != c) = true := by simp [hcc]
              clear hcc
              rw [hne, Bool.or_true] at HK
              go_wp2_with fail
              all_goals try (exfalso; omega)
              refine law_want3 (HM.out.below HB.out) (HR.out.keptF (Fr.of_below (N := noN) (W := []) (M := []) HB.out) (by simp)) rfl hcap hsl HS.out ?_
              intros
              show K _ _
              exact HK.out _ _ _ _ _ _ _ _ _ _ _ _ _ _ _ _ _ _ _ _ _ _ _ _ _ _ _ _ _ _ _ _ _ _ _ _ _ _ _ _ _ _ _ _ _ _ _ _ _ _ _ _ _ _ _ _ _ _ _ _ _ _ _ _ _ _ _ _ _ _ _ HB.out
end Go.Proofs.YbulkkeiFmt
