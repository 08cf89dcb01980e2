/-
  THE LAW (6): what it keeps of a block that is in: regions 62 to 72.
-/
import Derived.Test.YbulkkeiFmtLawW6a
import Derived.Deep.CutRange
namespace Go.Proofs.YbulkkeiFmt
open Go.RowKit Go.Extern.Stop Go.Stop Go.Extern
set_option maxRecDepth 8000
attribute [local go_sem ↓] Go.wp_at_zero Go.wp_at_succ

set_option maxHeartbeats 12800000 in
theorem law_keeps {L : Nat → Prop} {z ad co pe idx : Nat} {c par : Int} {m : LM} {w : World} {o22 : Option Addr} {n22 cap22 B : Nat} {sel : List Nat} {Q : Exit → Act → World → Prop} {K : Act → World → Prop}
    {c0 c1 c2 c3 c4 c5 c6 c7 c8 c9 c10 c11 c15 c16 c20 c21 c23 c24 c25 c26 c28 c29 c30 c31 c32 c33 c34 c35 c36 c37 c38 c39 c40 c41 c42 c43 c44 c45 c46 c47 c48 c49 c50 c51 c52 c53 c54 c55 c56 c57 c58 c59 c60 c61 c62 c63 c64 c65 c66 c67 c68 c69 c70 c71 c72 c73 c74 c75 c76 c77 c78 c79 c80 c81 c82 c83 c84 c85 c86 c87 c88 c89 c90 c91 c92 c93 c94 c95 c96 c97 c98 c99 c100 c101 c102 c103 c104 c105 c106 c107 c108 c109 c110 c111 c112 c113 c114 c115 c116 c117 c118 c119 c120 c121 c122 c123 c124 c125 c126 c127 c128 c129 c130 c131 c132 c133 c134 c135 c136 c137 c138 c139 c140 c141 c142 c143 c144 c145 c146 c147 c148 c149 c150 c151 c152 c153 c154 c155 c156 c157 c158 c159 c160 c161 c162 c163 c164 c165 c166 c167 c168 c169 c170 c171 c172 c173 c174 c175 c176 c177 c178 c179 c180 c181 c182 c183 c184 c185 c186 c187 c188 c189 c190 c191 c192 c193 c194 c195 c196 c197 c198 c199 c200 c201 c202 c203 c204 c205 c206 c207 c208 c209 c210 c211 c212 c213 c214 c215 c216 c217 c218 c219 c220 c221 c222 c223 c224 c225 c226 c227 c228 c229 c230 c231 c232 c233 c234 c235 c236 c237 c238 c239 c240 c241 c242 c243 c244 c245 c246 c247 c248 c249 c250 c251 c252 c253 c254 c255 c256 c257 c258 c259 c260 c261 c262 c263 c264 c265 c266 c267 c268 c269 : Value}
    (hM : LawMem L z ad co pe m w) (hL : ∀ b, w.heap.size ≤ b → L b) (hR : Row noN w 3 1 (.slice o22 n22 cap22) n22 (i64s (sel.map Int.ofNat))) (hn22 : n22 = sel.length)
    (hcap : n22 ≤ cap22) (hs7 : ∀ k ∈ sel, k < 7) (hpl : ∀ k, (m.pend k).length ≤ B) (hB : B + 1 + n22 ≤ 200000) (hi4 : idx < 4) (hpar : par < 4)
    (hK : ∀ (u34 u209 u210 u211 u212 u213 u214 u215 u216 u217 u218 u219 u220 u221 u222 u223 u224 u225 u226 u227 u228 u229 u230 u231 u232 u233 u234 u235 u236 u237 u238 u239 u240 u241 u242 u243 u244 u245 u246 u247 u248 u249 u250 u251 u252 u253 u254 u255 : Value) (w' : World), LawMem L z ad co pe (m.step idx c par sel) w' → Fr (lowN z) [35, 36, 38, 45] [] w w' → K ⟨List.toArray (c0 :: c1 :: c2 :: c3 :: c4 :: c5 :: c6 :: c7 :: c8 :: c9 :: c10 :: c11 :: .pointer (some ⟨ad, 0, none⟩) :: .pointer (some ⟨co, 0, none⟩) :: .pointer (some ⟨pe, 0, none⟩) :: c15 :: c16 :: .int .i64 idx :: .int .i64 c :: .int .i64 par :: c20 :: c21 :: .slice o22 n22 cap22 :: c23 :: c24 :: c25 :: c26 :: .bool false :: c28 :: c29 :: c30 :: c31 :: c32 :: c33 :: u34 :: c35 :: c36 :: c37 :: c38 :: c39 :: c40 :: c41 :: c42 :: c43 :: c44 :: c45 :: c46 :: c47 :: c48 :: c49 :: c50 :: c51 :: c52 :: c53 :: c54 :: c55 :: c56 :: c57 :: c58 :: c59 :: c60 :: c61 :: c62 :: c63 :: c64 :: c65 :: c66 :: c67 :: c68 :: c69 :: c70 :: c71 :: c72 :: c73 :: c74 :: c75 :: c76 :: c77 :: c78 :: c79 :: c80 :: c81 :: c82 :: c83 :: c84 :: c85 :: c86 :: c87 :: c88 :: c89 :: c90 :: c91 :: c92 :: c93 :: c94 :: c95 :: c96 :: c97 :: c98 :: c99 :: c100 :: c101 :: c102 :: c103 :: c104 :: c105 :: c106 :: c107 :: c108 :: c109 :: c110 :: c111 :: c112 :: c113 :: c114 :: c115 :: c116 :: c117 :: c118 :: c119 :: c120 :: c121 :: c122 :: c123 :: c124 :: c125 :: c126 :: c127 :: c128 :: c129 :: c130 :: c131 :: c132 :: c133 :: c134 :: c135 :: c136 :: c137 :: c138 :: c139 :: c140 :: c141 :: c142 :: c143 :: c144 :: c145 :: c146 :: c147 :: c148 :: c149 :: c150 :: c151 :: c152 :: c153 :: c154 :: c155 :: c156 :: c157 :: c158 :: c159 :: c160 :: c161 :: c162 :: c163 :: c164 :: c165 :: c166 :: c167 :: c168 :: c169 :: c170 :: c171 :: c172 :: c173 :: c174 :: c175 :: c176 :: c177 :: c178 :: c179 :: c180 :: c181 :: c182 :: c183 :: c184 :: c185 :: c186 :: c187 :: c188 :: c189 :: c190 :: c191 :: c192 :: c193 :: c194 :: c195 :: c196 :: c197 :: c198 :: c199 :: c200 :: c201 :: c202 :: c203 :: c204 :: c205 :: c206 :: c207 :: c208 :: u209 :: u210 :: u211 :: u212 :: u213 :: u214 :: u215 :: u216 :: u217 :: u218 :: u219 :: u220 :: u221 :: u222 :: u223 :: u224 :: u225 :: u226 :: u227 :: u228 :: u229 :: u230 :: u231 :: u232 :: u233 :: u234 :: u235 :: u236 :: u237 :: u238 :: u239 :: u240 :: u241 :: u242 :: u243 :: u244 :: u245 :: u246 :: u247 :: u248 :: u249 :: u250 :: u251 :: u252 :: u253 :: u254 :: u255 :: c256 :: c257 :: c258 :: c259 :: c260 :: c261 :: c262 :: c263 :: c264 :: c265 :: c266 :: c267 :: c268 :: c269 :: []), []⟩ w') :
    Code.wp Ybaf.prog (cHd (rdT 15 Ybaf.f3)) (Exit.then K Q) ⟨List.toArray (c0 :: c1 :: c2 :: c3 :: c4 :: c5 :: c6 :: c7 :: c8 :: c9 :: c10 :: c11 :: .pointer (some ⟨ad, 0, none⟩) :: .pointer (some ⟨co, 0, none⟩) :: .pointer (some ⟨pe, 0, none⟩) :: c15 :: c16 :: .int .i64 idx :: .int .i64 c :: .int .i64 par :: c20 :: c21 :: .slice o22 n22 cap22 :: c23 :: c24 :: c25 :: c26 :: .bool false :: c28 :: c29 :: c30 :: c31 :: c32 :: c33 :: c34 :: c35 :: c36 :: c37 :: c38 :: c39 :: c40 :: c41 :: c42 :: c43 :: c44 :: c45 :: c46 :: c47 :: c48 :: c49 :: c50 :: c51 :: c52 :: c53 :: c54 :: c55 :: c56 :: c57 :: c58 :: c59 :: c60 :: c61 :: c62 :: c63 :: c64 :: c65 :: c66 :: c67 :: c68 :: c69 :: c70 :: c71 :: c72 :: c73 :: c74 :: c75 :: c76 :: c77 :: c78 :: c79 :: c80 :: c81 :: c82 :: c83 :: c84 :: c85 :: c86 :: c87 :: c88 :: c89 :: c90 :: c91 :: c92 :: c93 :: c94 :: c95 :: c96 :: c97 :: c98 :: c99 :: c100 :: c101 :: c102 :: c103 :: c104 :: c105 :: c106 :: c107 :: c108 :: c109 :: c110 :: c111 :: c112 :: c113 :: c114 :: c115 :: c116 :: c117 :: c118 :: c119 :: c120 :: c121 :: c122 :: c123 :: c124 :: c125 :: c126 :: c127 :: c128 :: c129 :: c130 :: c131 :: c132 :: c133 :: c134 :: c135 :: c136 :: c137 :: c138 :: c139 :: c140 :: c141 :: c142 :: c143 :: c144 :: c145 :: c146 :: c147 :: c148 :: c149 :: c150 :: c151 :: c152 :: c153 :: c154 :: c155 :: c156 :: c157 :: c158 :: c159 :: c160 :: c161 :: c162 :: c163 :: c164 :: c165 :: c166 :: c167 :: c168 :: c169 :: c170 :: c171 :: c172 :: c173 :: c174 :: c175 :: c176 :: c177 :: c178 :: c179 :: c180 :: c181 :: c182 :: c183 :: c184 :: c185 :: c186 :: c187 :: c188 :: c189 :: c190 :: c191 :: c192 :: c193 :: c194 :: c195 :: c196 :: c197 :: c198 :: c199 :: c200 :: c201 :: c202 :: c203 :: c204 :: c205 :: c206 :: c207 :: c208 :: c209 :: c210 :: c211 :: c212 :: c213 :: c214 :: c215 :: c216 :: c217 :: c218 :: c219 :: c220 :: c221 :: c222 :: c223 :: c224 :: c225 :: c226 :: c227 :: c228 :: c229 :: c230 :: c231 :: c232 :: c233 :: c234 :: c235 :: c236 :: c237 :: c238 :: c239 :: c240 :: c241 :: c242 :: c243 :: c244 :: c245 :: c246 :: c247 :: c248 :: c249 :: c250 :: c251 :: c252 :: c253 :: c254 :: c255 :: c256 :: c257 :: c258 :: c259 :: c260 :: c261 :: c262 :: c263 :: c264 :: c265 :: c266 :: c267 :: c268 :: c269 :: []), []⟩ w := by
  conv => arg 2; whnf
  subst hn22
  have HK : Hid _ := hK
  have HR : Hid (Row noN w 3 1 (.slice o22 sel.length cap22) sel.length (i64s (sel.map Int.ofNat))) := hR
  have HS : Hid (∀ k ∈ sel, k < 7) := hs7
  have HL : Hid (∀ b, w.heap.size ≤ b → L b) := hL
  have HP : Hid (∀ k, (m.pend k).length ≤ B) := hpl
  have h4I : (idx : Int) < 4 := by omega
  obtain ⟨hm1, hf1⟩ := hM.mark hi4 c
  obtain ⟨w1, hw1⟩ : ∃ w1, w1 = (w.setCell ⟨ad, idx, none⟩ (.bool true)).setCell ⟨co, idx, none⟩ (.int .i64 c) := ⟨_, rfl⟩
  have hA1 : (w.setCell ⟨ad, idx, none⟩ (.bool true)).heap[co]? = some (.cells #[.int .i64 (m.chain 0), .int .i64 (m.chain 1), .int .i64 (m.chain 2), .int .i64 (m.chain 3)] 36 (0, 0)) := ((Fr.refl (lowN z) [35] [] w).setCell hM.hAd (by simp) (Nat.not_lt.2 hM.lo.1)).keepC _ _ _ _ hM.hCo (by decide)
  have s0 := free_of hM.hAd idx
  have s1 := hM.addCell hi4
  have s2 := free_of hA1 idx
  have s3 := four_cell (f := fun k => .int .i64 (m.chain k)) hA1 hi4
  rw [← hw1] at hm1 hf1
  have HM1 : Hid (LawMem L z ad co pe (m.mark idx c) w1) := hm1
  have HF1 : Hid (Fr (lowN z) [35, 36] [] w w1) := hf1
  have HW1 : Hid (w1 = (w.setCell ⟨ad, idx, none⟩ (.bool true)).setCell ⟨co, idx, none⟩ (.int .i64 c)) := hw1
  clear hK hM hR hs7 hL hpl hm1 hf1 hA1 hw1
  go_upto_region 65 with fail
  rw [← HW1.out]
  clear s0 s1 s2 s3 HW1
  by_cases hp0 : par < 0
  · have hpI : ¬ (0 : Int) ≤ par := by omega
    have HV : Hid ((m.mark idx c).parent par c = m.mark idx c) := by show _ = _; unfold LM.parent; rw [if_pos hp0]
    go_wp2_with fail
    all_goals try (exfalso; omega)
    refine law_votes (m := (m.mark idx c).parent par c) (B := B + 1) (by rw [HV.out]; exact HM1.out) (fun b hb => HL.out b (by have := (HF1.out).size; omega)) (HR.out.keptF HF1.out (by decide)) rfl hcap HS.out (fun k => Nat.le_trans (parent_len _ _ _ k) (Nat.succ_le_succ (HP.out k))) (by omega) ?_
    intros
    rename_i hM9 hF9
    show K _ _
    exact HK.out _ _ _ _ _ _ _ _ _ _ _ _ _ _ _ _ _ _ _ _ _ _ _ _ _ _ _ _ _ _ _ _ _ _ _ _ _ _ _ _ _ _ _ _ _ _ _ _ _ hM9 ((Fr.wider HF1.out (by simp) (by simp)).trans (hF9.wider (by simp) (by simp)))
  · have hpI : (0 : Int) ≤ par := by omega
    have hp4 : par.toNat < 4 := by omega
    have p1 := HM1.out.addCell hp4
    obtain ⟨op, capp, hpe, hprow, hp1, hp2⟩ := HM1.out.peCell hp4
    have HPR : Hid (Row (lowN z) w1 45 2 (.slice op ((m.mark idx c).pend par.toNat).length capp) ((m.mark idx c).pend par.toNat).length (pendV ((m.mark idx c).pend par.toNat))) := hprow
    have hpl := HP.out par.toNat
    have hpl' : ((m.mark idx c).pend par.toNat).length ≤ B := hpl
    clear hprow hpl
    have HV : Hid ((m.mark idx c).parent par c = (m.mark idx c).note par.toNat (false, c)) := by show _ = _; unfold LM.parent; rw [if_neg hp0]
    obtain ⟨pn, hpn⟩ : ∃ pn : Nat, par = (pn : Int) := ⟨par.toNat, by omega⟩
    subst hpn
    simp only [Int.toNat_natCast] at p1 hpe HPR hpl' HV hp4 hp1
    have HPE : Hid (w1.cell? ⟨pe, pn, none⟩ = some (.slice op ((m.mark idx c).pend pn).length capp)) := hpe
    simp only [maxLen] at hp2
    cases ha : (m.mark idx c).added pn with
    | true =>
      rw [ha] at p1
      have HV2 : Hid ((m.mark idx c).note pn (false, c) = m.mark idx c) := by show _ = _; unfold LM.note; rw [if_pos ha]
      clear ha
      go_wp2_with fail
      all_goals try (exfalso; omega)
      refine law_votes (m := (m.mark idx c).parent (pn : Int) c) (B := B + 1) (by rw [HV.out, HV2.out]; exact HM1.out) (fun b hb => HL.out b (by have := (HF1.out).size; omega)) (HR.out.keptF HF1.out (by decide)) rfl hcap HS.out (fun k => Nat.le_trans (parent_len _ _ _ k) (Nat.succ_le_succ (HP.out k))) (by omega) ?_
      intros
      rename_i hM9 hF9
      show K _ _
      exact HK.out _ _ _ _ _ _ _ _ _ _ _ _ _ _ _ _ _ _ _ _ _ _ _ _ _ _ _ _ _ _ _ _ _ _ _ _ _ _ _ _ _ _ _ _ _ _ _ _ _ hM9 ((Fr.wider HF1.out (by simp) (by simp)).trans (hF9.wider (by simp) (by simp)))
    | false =>
      rw [ha] at p1
      have HA : Hid ((m.mark idx c).added pn = false) := ha
      clear ha
      have hz := blk hpe
      generalize hmm : m.mark idx c = mm at *
      go_wp2_with ((at_builtin; refine Stop'.intro ?_))
      all_goals try (exfalso; omega)
      unfold Stop'
      refine wpList_append_row _ rfl _ _ 37 rfl 45 Ybaf.t45 (.agg #[.bool false, .int .i64 0]) 2 16 Ybaf.underlying37 (by kernel_rfl) hz45 rfl rfl rfl (by decide) (N := lowN z) ?n1 (.slice op (mm.pend pn).length capp) (mm.pend pn).length (pendV (mm.pend pn)) rfl (HPR.out.kept ((Fr.refl (lowN z) [] [] w1).alloc _) (by simp)) ⟨w1.heap.size, 0, none⟩ 1 1 [.bool false, .int .i64 c] rfl rfl (news_alloc w1 _ _) (by simp [Value.oneCell']) (by simp [maxLen]; omega) (by omega) ?_
      case n1 =>
        intro k hk
        have h1 : k < z := hk
        have h2 := HM1.out.lo.1
        have h3 := (Array.getElem?_eq_some_iff.1 HM1.out.hAd).1
        simp
        omega
      intro v' w2 hGr
      obtain ⟨o2, c2, rfl, _, _⟩ := ownsRow_slice hGr.row.1
      have hnew := HM1.out.push (fun b hb => HL.out b (by have := HF1.out.size; omega)) hp4 HA.out (false, c) HPE.out hGr
      have HNEW : Hid (LawMem L z ad co pe (mm.note pn (false, c)) (w2.setCell ⟨pe, pn, none⟩ (.slice o2 ((mm.pend pn).length + 1) c2)) ∧ Fr (lowN z) [38, 45] [] w1 (w2.setCell ⟨pe, pn, none⟩ (.slice o2 ((mm.pend pn).length + 1) c2))) := hnew
      obtain ⟨pv, hp3, -⟩ := HM1.out.hPe
      have hpw := hGr.fr.keepC _ _ _ _ (((Fr.refl (lowN z) [] [] w1).alloc _).keepC _ _ _ _ hp3 (by simp)) (by decide)
      have hfz := free_of hpw pn
      have hcw := four_cell hpw hp4
      clear hpw hp3 hnew hGr hpe
      go_wp2_with fail
      all_goals try (exfalso; omega)
      have HF2 : Hid (Fr (lowN z) [35, 36, 38, 45] [] w (w2.setCell ⟨pe, pn, none⟩ (.slice o2 ((mm.pend pn).length + 1) c2))) := (HF1.out.wider (by simp) (by simp)).trans (HNEW.out.2.wider (by simp) (by simp))
      subst hmm
      refine law_votes (m := (m.mark idx c).parent (pn : Int) c) (B := B + 1) (by rw [HV.out]; exact HNEW.out.1) (fun b hb => HL.out b (by have := (HF2.out).size; omega)) (HR.out.keptF HF2.out (by decide)) rfl hcap HS.out (fun k => Nat.le_trans (parent_len _ _ _ k) (Nat.succ_le_succ (HP.out k))) (by omega) ?_
      intros
      rename_i hM9 hF9
      show K _ _
      exact HK.out _ _ _ _ _ _ _ _ _ _ _ _ _ _ _ _ _ _ _ _ _ _ _ _ _ _ _ _ _ _ _ _ _ _ _ _ _ _ _ _ _ _ _ _ _ _ _ _ _ hM9 ((Fr.wider HF2.out (by simp) (by simp)).trans (hF9.wider (by simp) (by simp)))
end Go.Proofs.YbulkkeiFmt
