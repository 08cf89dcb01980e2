/-
  THE LAW (3): what it wants, the votes: regions 52 to 58.
-/
import Derived.Test.YbulkkeiFmtLawCut
import Derived.Deep.CutRange
namespace Go.Proofs.YbulkkeiFmt
open Go.RowKit Go.Extern.Stop Go.Stop Go.Extern
set_option maxRecDepth 8000
attribute [local go_sem ↓] Go.wp_at_zero Go.wp_at_succ

set_option maxHeartbeats 12800000 in
theorem law_want3 {L : Nat → Prop} {z ad co pe : Nat} {m : LM} {w : World} {o22 : Option Addr} {n22 cap22 : Nat} {idx : Nat} {sel : List Nat} {Q : Exit → Act → World → Prop} {b27 : Bool}
    {c0 c1 c2 c3 c4 c5 c6 c7 c8 c9 c10 c11 c13 c14 c15 c16 c18 c19 c20 c21 c22 c23 c24 c25 c26 c28 c29 c30 c31 c32 c33 c34 c35 c36 c37 c38 c39 c40 c41 c42 c43 c44 c45 c46 c47 c48 c49 c50 c51 c52 c53 c54 c55 c56 c57 c58 c59 c60 c61 c62 c63 c64 c65 c66 c67 c68 c69 c70 c71 c72 c73 c74 c75 c76 c77 c78 c79 c80 c81 c82 c83 c84 c85 c86 c87 c88 c89 c90 c91 c92 c93 c94 c95 c96 c97 c98 c99 c100 c101 c102 c103 c104 c105 c106 c107 c108 c109 c110 c111 c112 c113 c114 c115 c116 c117 c118 c119 c120 c121 c122 c123 c124 c125 c126 c127 c128 c129 c130 c131 c132 c133 c134 c135 c136 c137 c138 c139 c140 c141 c142 c143 c144 c145 c146 c147 c148 c149 c150 c151 c152 c153 c154 c155 c156 c157 c158 c159 c160 c161 c162 c163 c164 c165 c166 c167 c168 c169 c170 c171 c172 c173 c174 c175 c176 c177 c178 c179 c180 c184 c185 c186 c187 c188 c189 c190 c191 c192 c193 c194 c195 c196 c197 c198 c199 c200 c201 c202 c203 c204 c205 c206 c207 c208 c209 c210 c211 c212 c213 c214 c215 c216 c217 c218 c219 c220 c221 c222 c223 c224 c225 c226 c227 c228 c229 c230 c231 c232 c233 c234 c235 c236 c237 c238 c239 c240 c241 c242 c243 c244 c245 c246 c247 c248 c249 c250 c251 c252 c253 c254 c255 c256 c257 c258 c259 c260 c261 c262 c263 c264 c265 c266 c267 c268 c269 : Value}
    (hM : LawMem L z ad co pe m w) (hR : Row noN w 3 1 (.slice o22 n22 cap22) n22 (i64s (sel.map Int.ofNat))) (hn22 : n22 = sel.length)
    (hcap : n22 ≤ cap22) (hsl : sel.length ≤ 256) (hs7 : ∀ k ∈ sel, k < 7)
    (hK : ∀ (u31 u183 u184 u185 u186 u187 u188 u189 u190 u191 u192 u193 u194 u195 u196 u197 u198 u199 u200 u201 : Value), Q (.exit 8) ⟨List.toArray (c0 :: c1 :: c2 :: c3 :: c4 :: c5 :: c6 :: c7 :: c8 :: c9 :: c10 :: c11 :: .pointer (some ⟨ad, 0, none⟩) :: c13 :: c14 :: c15 :: c16 :: .int .i64 idx :: c18 :: c19 :: c20 :: c21 :: c22 :: c23 :: c24 :: c25 :: c26 :: .bool (b27 || want3 m idx sel) :: c28 :: c29 :: c30 :: u31 :: c32 :: c33 :: c34 :: c35 :: c36 :: c37 :: c38 :: c39 :: c40 :: c41 :: c42 :: c43 :: c44 :: c45 :: c46 :: c47 :: c48 :: c49 :: c50 :: c51 :: c52 :: c53 :: c54 :: c55 :: c56 :: c57 :: c58 :: c59 :: c60 :: c61 :: c62 :: c63 :: c64 :: c65 :: c66 :: c67 :: c68 :: c69 :: c70 :: c71 :: c72 :: c73 :: c74 :: c75 :: c76 :: c77 :: c78 :: c79 :: c80 :: c81 :: c82 :: c83 :: c84 :: c85 :: c86 :: c87 :: c88 :: c89 :: c90 :: c91 :: c92 :: c93 :: c94 :: c95 :: c96 :: c97 :: c98 :: c99 :: c100 :: c101 :: c102 :: c103 :: c104 :: c105 :: c106 :: c107 :: c108 :: c109 :: c110 :: c111 :: c112 :: c113 :: c114 :: c115 :: c116 :: c117 :: c118 :: c119 :: c120 :: c121 :: c122 :: c123 :: c124 :: c125 :: c126 :: c127 :: c128 :: c129 :: c130 :: c131 :: c132 :: c133 :: c134 :: c135 :: c136 :: c137 :: c138 :: c139 :: c140 :: c141 :: c142 :: c143 :: c144 :: c145 :: c146 :: c147 :: c148 :: c149 :: c150 :: c151 :: c152 :: c153 :: c154 :: c155 :: c156 :: c157 :: c158 :: c159 :: c160 :: c161 :: c162 :: c163 :: c164 :: c165 :: c166 :: c167 :: c168 :: c169 :: c170 :: c171 :: c172 :: c173 :: c174 :: c175 :: c176 :: c177 :: c178 :: c179 :: c180 :: .slice o22 n22 cap22 :: .int .i64 n22 :: u183 :: u184 :: u185 :: u186 :: u187 :: u188 :: u189 :: u190 :: u191 :: u192 :: u193 :: u194 :: u195 :: u196 :: u197 :: u198 :: u199 :: u200 :: u201 :: c202 :: c203 :: c204 :: c205 :: c206 :: c207 :: c208 :: c209 :: c210 :: c211 :: c212 :: c213 :: c214 :: c215 :: c216 :: c217 :: c218 :: c219 :: c220 :: c221 :: c222 :: c223 :: c224 :: c225 :: c226 :: c227 :: c228 :: c229 :: c230 :: c231 :: c232 :: c233 :: c234 :: c235 :: c236 :: c237 :: c238 :: c239 :: c240 :: c241 :: c242 :: c243 :: c244 :: c245 :: c246 :: c247 :: c248 :: c249 :: c250 :: c251 :: c252 :: c253 :: c254 :: c255 :: c256 :: c257 :: c258 :: c259 :: c260 :: c261 :: c262 :: c263 :: c264 :: c265 :: c266 :: c267 :: c268 :: c269 :: []), []⟩ w) :
    Code.wp Ybaf.prog (cIn (cTl (cTl (cTl (cEl (cTl (cHd (rdT 12 Ybaf.f3)))))))) Q ⟨List.toArray (c0 :: c1 :: c2 :: c3 :: c4 :: c5 :: c6 :: c7 :: c8 :: c9 :: c10 :: c11 :: .pointer (some ⟨ad, 0, none⟩) :: c13 :: c14 :: c15 :: c16 :: .int .i64 idx :: c18 :: c19 :: c20 :: c21 :: c22 :: c23 :: c24 :: c25 :: c26 :: .bool b27 :: c28 :: c29 :: c30 :: c31 :: c32 :: c33 :: c34 :: c35 :: c36 :: c37 :: c38 :: c39 :: c40 :: c41 :: c42 :: c43 :: c44 :: c45 :: c46 :: c47 :: c48 :: c49 :: c50 :: c51 :: c52 :: c53 :: c54 :: c55 :: c56 :: c57 :: c58 :: c59 :: c60 :: c61 :: c62 :: c63 :: c64 :: c65 :: c66 :: c67 :: c68 :: c69 :: c70 :: c71 :: c72 :: c73 :: c74 :: c75 :: c76 :: c77 :: c78 :: c79 :: c80 :: c81 :: c82 :: c83 :: c84 :: c85 :: c86 :: c87 :: c88 :: c89 :: c90 :: c91 :: c92 :: c93 :: c94 :: c95 :: c96 :: c97 :: c98 :: c99 :: c100 :: c101 :: c102 :: c103 :: c104 :: c105 :: c106 :: c107 :: c108 :: c109 :: c110 :: c111 :: c112 :: c113 :: c114 :: c115 :: c116 :: c117 :: c118 :: c119 :: c120 :: c121 :: c122 :: c123 :: c124 :: c125 :: c126 :: c127 :: c128 :: c129 :: c130 :: c131 :: c132 :: c133 :: c134 :: c135 :: c136 :: c137 :: c138 :: c139 :: c140 :: c141 :: c142 :: c143 :: c144 :: c145 :: c146 :: c147 :: c148 :: c149 :: c150 :: c151 :: c152 :: c153 :: c154 :: c155 :: c156 :: c157 :: c158 :: c159 :: c160 :: c161 :: c162 :: c163 :: c164 :: c165 :: c166 :: c167 :: c168 :: c169 :: c170 :: c171 :: c172 :: c173 :: c174 :: c175 :: c176 :: c177 :: c178 :: c179 :: c180 :: .slice o22 n22 cap22 :: .int .i64 n22 :: .int .i64 0 :: c184 :: c185 :: c186 :: c187 :: c188 :: c189 :: c190 :: c191 :: c192 :: c193 :: c194 :: c195 :: c196 :: c197 :: c198 :: c199 :: c200 :: c201 :: c202 :: c203 :: c204 :: c205 :: c206 :: c207 :: c208 :: c209 :: c210 :: c211 :: c212 :: c213 :: c214 :: c215 :: c216 :: c217 :: c218 :: c219 :: c220 :: c221 :: c222 :: c223 :: c224 :: c225 :: c226 :: c227 :: c228 :: c229 :: c230 :: c231 :: c232 :: c233 :: c234 :: c235 :: c236 :: c237 :: c238 :: c239 :: c240 :: c241 :: c242 :: c243 :: c244 :: c245 :: c246 :: c247 :: c248 :: c249 :: c250 :: c251 :: c252 :: c253 :: c254 :: c255 :: c256 :: c257 :: c258 :: c259 :: c260 :: c261 :: c262 :: c263 :: c264 :: c265 :: c266 :: c267 :: c268 :: c269 :: []), []⟩ w := by
  conv => arg 2; whnf
  subst hn22
  have HK : Hid _ := hK
  have HM : Hid (LawMem L z ad co pe m w) := hM
  have HR : Hid (Row noN w 3 1 (.slice o22 sel.length cap22) sel.length (i64s (sel.map Int.ofNat))) := hR
  have HS : Hid (∀ k ∈ sel, k < 7) := hs7
  clear hK hM hR hs7
  go_loopw [27, 183] (fun s27 s183 wx => ∃ t : Nat, s183 = .int .i64 t ∧ t ≤ sel.length ∧ s27 = .bool (b27 || (sel.take t).any fun k => k == 6 || (decide (k < 4) && (k == idx || m.added k))) ∧ wx = w) (fun _ s183 _ => sel.length - (intOf s183).toNat)
  case atStart => exact ⟨0, rfl, Nat.zero_le _, by simp, rfl⟩
  case round =>
    obtain ⟨t, rfl, ht, rfl, hw⟩ := hrel
    have hw' := hw.symm
    clear hw
    subst hw'
    by_cases htn : t < sel.length
    · obtain ⟨k, hk⟩ : ∃ k, sel[t]? = some k := ⟨_, List.getElem?_eq_getElem htn⟩
      obtain ⟨gp, rfl, d0⟩ := HR.out.selCell hk
      have HN : Hid (((sel.take (t + 1)).any fun k => k == 6 || (decide (k < 4) && (k == idx || m.added k))) = (((sel.take t).any fun k => k == 6 || (decide (k < 4) && (k == idx || m.added k))) || (k == 6 || (decide (k < 4) && (k == idx || m.added k))))) := any_take_succ _ hk
      have hk7 := HS.out k (List.mem_of_getElem? hk)
      clear hk
      generalize ((sel.take t).any fun k => k == 6 || (decide (k < 4) && (k == idx || m.added k))) = bt at HN ⊢
      rcases (by omega : k = 6 ∨ (4 ≤ k ∧ k < 6) ∨ k < 4) with h6 | h6 | h6
      · subst h6
        go_wp2_with fail
        all_goals try (exfalso; omega)
        go_roundw
        case rel => exact ⟨t + 1, by simp, by omega, by rw [HN.out]; simp, trivial⟩
        case measure => simp [intOf]; omega
      · have e6 : ((k : Int) == 6) = false := by simp; omega
        have e4 : ¬ ((k : Int) < 4) := by omega
        have HV : Hid ((k == 6 || (decide (k < 4) && (k == idx || m.added k))) = false) := by
          show _ = false
          have e1 : (k == 6) = false := by simp; omega
          have e2 : decide (k < 4) = false := by simp; omega
          rw [e1, e2]; rfl
        go_wp2_with fail
        all_goals try (exfalso; omega)
        go_roundw
        case rel => exact ⟨t + 1, by simp, by omega, by rw [HN.out, HV.out]; simp, trivial⟩
        case measure => simp [intOf]; omega
      · have e6 : ((k : Int) == 6) = false := by simp; omega
        have e4 : (k : Int) < 4 := by omega
        have hadd := HM.out.addCell h6
        by_cases hki : k = idx
        · have ei : ((k : Int) == (idx : Int)) = true := by simp [hki]
          have HV : Hid ((k == 6 || (decide (k < 4) && (k == idx || m.added k))) = true) := by
            show _ = true
            have e1 : (k == idx) = true := by simp [hki]
            have e2 : decide (k < 4) = true := by simp; omega
            rw [e1, e2]; simp
          clear hki
          go_wp2_with fail
          all_goals try (exfalso; omega)
          go_roundw
          case rel => exact ⟨t + 1, by simp, by omega, by rw [HN.out, HV.out]; simp, trivial⟩
          case measure => simp [intOf]; omega
        · have ei : ((k : Int) == (idx : Int)) = false := by simp; omega
          have HV : Hid ((k == 6 || (decide (k < 4) && (k == idx || m.added k))) = m.added k) := by
            show _ = m.added k
            have e0 : (k == 6) = false := by simp; omega
            have e1 : (k == idx) = false := by simp [hki]
            have e2 : decide (k < 4) = true := by simp; omega
            rw [e0, e1, e2]; simp
          clear hki
          generalize m.added k = bk at hadd HV HN
          cases bk with
          | true =>
            go_wp2_with fail
            all_goals try (exfalso; omega)
            go_roundw
            case rel => exact ⟨t + 1, by simp, by omega, by rw [HN.out, HV.out]; simp, trivial⟩
            case measure => simp [intOf]; omega
          | false =>
            go_wp2_with fail
            all_goals try (exfalso; omega)
            go_roundw
            case rel => exact ⟨t + 1, by simp, by omega, by rw [HN.out, HV.out]; simp, trivial⟩
            case measure => simp [intOf]; omega
    · have ht2 : t = sel.length := by omega
      have HE : Hid (((sel.take t).any fun k => k == 6 || (decide (k < 4) && (k == idx || m.added k))) = want3 m idx sel) := by
        show _ = want3 m idx sel
        rw [ht2, List.take_length]
        rfl
      have htI : ¬ ((t : Int) < (sel.length : Int)) := by omega
      clear ht2
      rw [← HE.out] at HK
      go_wp2_with fail
      all_goals try (exfalso; omega)
      exact HK.out _ _ _ _ _ _ _ _ _ _ _ _ _ _ _ _ _ _ _ _
end Go.Proofs.YbulkkeiFmt
