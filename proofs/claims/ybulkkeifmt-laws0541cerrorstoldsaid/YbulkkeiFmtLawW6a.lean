/-
  THE LAW (6a): the votes are noted: regions 68 to 72.
-/
import Derived.Test.YbulkkeiFmtLawPend
import Derived.Deep.CutRange
namespace Go.Proofs.YbulkkeiFmt
open Go.RowKit Go.Extern.Stop Go.Stop Go.Extern
set_option maxRecDepth 8000
attribute [local go_sem ↓] Go.wp_at_zero Go.wp_at_succ

theorem hz45 : Ybaf.t45.zero = some (.agg #[.bool false, .int .i64 0]) := rfl
theorem free_of {w : World} {b : Nat} {c : Array Value} {e : TypeId} (h : w.heap[b]? = some (.cells c e (0, 0))) (o : Nat) : w.frozen? ⟨b, o, none⟩ = false := by
  simp [World.frozen?, h]

set_option maxHeartbeats 12800000 in
theorem law_votes {L : Nat → Prop} {z ad co pe : Nat} {m : LM} {w : World} {o22 : Option Addr} {n22 cap22 B : Nat} {sel : List Nat} {Q : Exit → Act → World → Prop}
    {c0 c1 c2 c3 c4 c5 c6 c7 c8 c9 c10 c11 c13 c15 c16 c17 c18 c19 c20 c21 c22 c23 c24 c25 c26 c27 c28 c29 c30 c31 c32 c33 c34 c35 c36 c37 c38 c39 c40 c41 c42 c43 c44 c45 c46 c47 c48 c49 c50 c51 c52 c53 c54 c55 c56 c57 c58 c59 c60 c61 c62 c63 c64 c65 c66 c67 c68 c69 c70 c71 c72 c73 c74 c75 c76 c77 c78 c79 c80 c81 c82 c83 c84 c85 c86 c87 c88 c89 c90 c91 c92 c93 c94 c95 c96 c97 c98 c99 c100 c101 c102 c103 c104 c105 c106 c107 c108 c109 c110 c111 c112 c113 c114 c115 c116 c117 c118 c119 c120 c121 c122 c123 c124 c125 c126 c127 c128 c129 c130 c131 c132 c133 c134 c135 c136 c137 c138 c139 c140 c141 c142 c143 c144 c145 c146 c147 c148 c149 c150 c151 c152 c153 c154 c155 c156 c157 c158 c159 c160 c161 c162 c163 c164 c165 c166 c167 c168 c169 c170 c171 c172 c173 c174 c175 c176 c177 c178 c179 c180 c181 c182 c183 c184 c185 c186 c187 c188 c189 c190 c191 c192 c193 c194 c195 c196 c197 c198 c199 c200 c201 c202 c203 c204 c205 c206 c207 c208 c209 c210 c211 c212 c213 c214 c215 c216 c217 c218 c219 c220 c221 c222 c223 c224 c225 c226 c227 c228 c229 c230 c231 c232 c236 c237 c238 c239 c240 c241 c242 c243 c244 c245 c246 c247 c248 c249 c250 c251 c252 c253 c254 c255 c256 c257 c258 c259 c260 c261 c262 c263 c264 c265 c266 c267 c268 c269 : Value}
    (hM : LawMem L z ad co pe m w) (hL : ∀ b, w.heap.size ≤ b → L b) (hR : Row noN w 3 1 (.slice o22 n22 cap22) n22 (i64s (sel.map Int.ofNat))) (hn22 : n22 = sel.length)
    (hcap : n22 ≤ cap22) (hs7 : ∀ k ∈ sel, k < 7) (hpl : ∀ k, (m.pend k).length ≤ B) (hB : B + n22 ≤ 200000)
    (hK : ∀ (u34 u235 u236 u237 u238 u239 u240 u241 u242 u243 u244 u245 u246 u247 u248 u249 u250 u251 u252 u253 u254 u255 : Value) (w' : World), LawMem L z ad co pe (m.votes sel) w' → Fr (lowN z) [38, 45] [] w w' → Q (.exit 10) ⟨List.toArray (c0 :: c1 :: c2 :: c3 :: c4 :: c5 :: c6 :: c7 :: c8 :: c9 :: c10 :: c11 :: .pointer (some ⟨ad, 0, none⟩) :: c13 :: .pointer (some ⟨pe, 0, none⟩) :: c15 :: c16 :: c17 :: c18 :: c19 :: c20 :: c21 :: c22 :: c23 :: c24 :: c25 :: c26 :: c27 :: c28 :: c29 :: c30 :: c31 :: c32 :: c33 :: u34 :: c35 :: c36 :: c37 :: c38 :: c39 :: c40 :: c41 :: c42 :: c43 :: c44 :: c45 :: c46 :: c47 :: c48 :: c49 :: c50 :: c51 :: c52 :: c53 :: c54 :: c55 :: c56 :: c57 :: c58 :: c59 :: c60 :: c61 :: c62 :: c63 :: c64 :: c65 :: c66 :: c67 :: c68 :: c69 :: c70 :: c71 :: c72 :: c73 :: c74 :: c75 :: c76 :: c77 :: c78 :: c79 :: c80 :: c81 :: c82 :: c83 :: c84 :: c85 :: c86 :: c87 :: c88 :: c89 :: c90 :: c91 :: c92 :: c93 :: c94 :: c95 :: c96 :: c97 :: c98 :: c99 :: c100 :: c101 :: c102 :: c103 :: c104 :: c105 :: c106 :: c107 :: c108 :: c109 :: c110 :: c111 :: c112 :: c113 :: c114 :: c115 :: c116 :: c117 :: c118 :: c119 :: c120 :: c121 :: c122 :: c123 :: c124 :: c125 :: c126 :: c127 :: c128 :: c129 :: c130 :: c131 :: c132 :: c133 :: c134 :: c135 :: c136 :: c137 :: c138 :: c139 :: c140 :: c141 :: c142 :: c143 :: c144 :: c145 :: c146 :: c147 :: c148 :: c149 :: c150 :: c151 :: c152 :: c153 :: c154 :: c155 :: c156 :: c157 :: c158 :: c159 :: c160 :: c161 :: c162 :: c163 :: c164 :: c165 :: c166 :: c167 :: c168 :: c169 :: c170 :: c171 :: c172 :: c173 :: c174 :: c175 :: c176 :: c177 :: c178 :: c179 :: c180 :: c181 :: c182 :: c183 :: c184 :: c185 :: c186 :: c187 :: c188 :: c189 :: c190 :: c191 :: c192 :: c193 :: c194 :: c195 :: c196 :: c197 :: c198 :: c199 :: c200 :: c201 :: c202 :: c203 :: c204 :: c205 :: c206 :: c207 :: c208 :: c209 :: c210 :: c211 :: c212 :: c213 :: c214 :: c215 :: c216 :: c217 :: c218 :: c219 :: c220 :: c221 :: c222 :: c223 :: c224 :: c225 :: c226 :: c227 :: c228 :: c229 :: c230 :: c231 :: c232 :: .slice o22 n22 cap22 :: .int .i64 n22 :: u235 :: u236 :: u237 :: u238 :: u239 :: u240 :: u241 :: u242 :: u243 :: u244 :: u245 :: u246 :: u247 :: u248 :: u249 :: u250 :: u251 :: u252 :: u253 :: u254 :: u255 :: c256 :: c257 :: c258 :: c259 :: c260 :: c261 :: c262 :: c263 :: c264 :: c265 :: c266 :: c267 :: c268 :: c269 :: []), []⟩ w') :
    Code.wp Ybaf.prog (cIn (cTln 4 (cTh (cTl (cHd (rdT 15 Ybaf.f3)))))) Q ⟨List.toArray (c0 :: c1 :: c2 :: c3 :: c4 :: c5 :: c6 :: c7 :: c8 :: c9 :: c10 :: c11 :: .pointer (some ⟨ad, 0, none⟩) :: c13 :: .pointer (some ⟨pe, 0, none⟩) :: c15 :: c16 :: c17 :: c18 :: c19 :: c20 :: c21 :: c22 :: c23 :: c24 :: c25 :: c26 :: c27 :: c28 :: c29 :: c30 :: c31 :: c32 :: c33 :: c34 :: c35 :: c36 :: c37 :: c38 :: c39 :: c40 :: c41 :: c42 :: c43 :: c44 :: c45 :: c46 :: c47 :: c48 :: c49 :: c50 :: c51 :: c52 :: c53 :: c54 :: c55 :: c56 :: c57 :: c58 :: c59 :: c60 :: c61 :: c62 :: c63 :: c64 :: c65 :: c66 :: c67 :: c68 :: c69 :: c70 :: c71 :: c72 :: c73 :: c74 :: c75 :: c76 :: c77 :: c78 :: c79 :: c80 :: c81 :: c82 :: c83 :: c84 :: c85 :: c86 :: c87 :: c88 :: c89 :: c90 :: c91 :: c92 :: c93 :: c94 :: c95 :: c96 :: c97 :: c98 :: c99 :: c100 :: c101 :: c102 :: c103 :: c104 :: c105 :: c106 :: c107 :: c108 :: c109 :: c110 :: c111 :: c112 :: c113 :: c114 :: c115 :: c116 :: c117 :: c118 :: c119 :: c120 :: c121 :: c122 :: c123 :: c124 :: c125 :: c126 :: c127 :: c128 :: c129 :: c130 :: c131 :: c132 :: c133 :: c134 :: c135 :: c136 :: c137 :: c138 :: c139 :: c140 :: c141 :: c142 :: c143 :: c144 :: c145 :: c146 :: c147 :: c148 :: c149 :: c150 :: c151 :: c152 :: c153 :: c154 :: c155 :: c156 :: c157 :: c158 :: c159 :: c160 :: c161 :: c162 :: c163 :: c164 :: c165 :: c166 :: c167 :: c168 :: c169 :: c170 :: c171 :: c172 :: c173 :: c174 :: c175 :: c176 :: c177 :: c178 :: c179 :: c180 :: c181 :: c182 :: c183 :: c184 :: c185 :: c186 :: c187 :: c188 :: c189 :: c190 :: c191 :: c192 :: c193 :: c194 :: c195 :: c196 :: c197 :: c198 :: c199 :: c200 :: c201 :: c202 :: c203 :: c204 :: c205 :: c206 :: c207 :: c208 :: c209 :: c210 :: c211 :: c212 :: c213 :: c214 :: c215 :: c216 :: c217 :: c218 :: c219 :: c220 :: c221 :: c222 :: c223 :: c224 :: c225 :: c226 :: c227 :: c228 :: c229 :: c230 :: c231 :: c232 :: .slice o22 n22 cap22 :: .int .i64 n22 :: .int .i64 0 :: c236 :: c237 :: c238 :: c239 :: c240 :: c241 :: c242 :: c243 :: c244 :: c245 :: c246 :: c247 :: c248 :: c249 :: c250 :: c251 :: c252 :: c253 :: c254 :: c255 :: c256 :: c257 :: c258 :: c259 :: c260 :: c261 :: c262 :: c263 :: c264 :: c265 :: c266 :: c267 :: c268 :: c269 :: []), []⟩ w := by
  conv => arg 2; whnf
  subst hn22
  have HK : Hid _ := hK
  have HM : Hid (LawMem L z ad co pe m w) := hM
  have HR : Hid (Row noN w 3 1 (.slice o22 sel.length cap22) sel.length (i64s (sel.map Int.ofNat))) := hR
  have HS : Hid (∀ k ∈ sel, k < 7) := hs7
  have HL : Hid (∀ b, w.heap.size ≤ b → L b) := hL
  have HP : Hid (∀ k, (m.pend k).length ≤ B) := hpl
  clear hK hM hR hs7 hL hpl
  go_loopw [235] (fun s235 wx => ∃ t : Nat, s235 = .int .i64 t ∧ t ≤ sel.length ∧ LawMem L z ad co pe (m.votes (sel.take t)) wx ∧ Fr (lowN z) [38, 45] [] w wx) (fun s235 _ => sel.length - (intOf s235).toNat)
  case atStart => exact ⟨0, rfl, Nat.zero_le _, by simpa [LM.votes] using HM.out, Fr.refl _ _ _ _⟩
  case round =>
    obtain ⟨t, rfl, ht, hMt, hFt⟩ := hrel
    have HMt : Hid (LawMem L z ad co pe (m.votes (sel.take t)) wr) := hMt
    have HFt : Hid (Fr (lowN z) [38, 45] [] w wr) := hFt
    by_cases htn : t < sel.length
    · obtain ⟨k, hk⟩ : ∃ k, sel[t]? = some k := ⟨_, List.getElem?_eq_getElem htn⟩
      obtain ⟨gp, rfl, d0⟩ := (HR.out.keptF hFt (by decide)).selCell hk
      have HN : Hid (m.votes (sel.take (t + 1)) = (m.votes (sel.take t)).vote k) := votes_take m hk
      have hk7 := HS.out k (List.mem_of_getElem? hk)
      have HPt : Hid (∀ j, ((m.votes (sel.take t)).pend j).length ≤ B + t) := fun j => by
        have h1 := votes_len (sel.take t) m j
        have h2 := HP.out j
        rw [List.length_take] at h1
        omega
      clear hk hMt hFt
      generalize m.votes (sel.take t) = mt at HMt HN HPt
      by_cases h4 : k < 4
      · have e4 : (k : Int) < 4 := by omega
        have hadd := HMt.out.addCell h4
        cases ha : mt.added k with
        | true =>
          rw [ha] at hadd
          have HV : Hid (mt.vote k = mt) := by show mt.vote k = mt; unfold LM.vote LM.note; rw [if_pos h4, if_pos ha]
          clear ha
          go_wp2_with fail
          all_goals try (exfalso; omega)
          go_roundw
          case rel => exact ⟨t + 1, by simp, by omega, by rw [HN.out, HV.out]; exact HMt.out, HFt.out⟩
          case measure => simp [intOf]; omega
        | false =>
          rw [ha] at hadd
          have HV : Hid (mt.vote k = mt.note k (true, 0)) := by show mt.vote k = _; unfold LM.vote; rw [if_pos h4]
          have HA : Hid (mt.added k = false) := ha
          clear ha
          obtain ⟨op, capp, hpe, hprow, hp1, hp2⟩ := HMt.out.peCell h4
          have HPR : Hid (Row (lowN z) wr 45 2 (.slice op (mt.pend k).length capp) (mt.pend k).length (pendV (mt.pend k))) := hprow
          have HPE : Hid (wr.cell? ⟨pe, k, none⟩ = some (.slice op (mt.pend k).length capp)) := hpe
          have hpl := HPt.out k
          have hz := blk hpe
          clear hprow
          simp only [maxLen] at hp2
          go_wp2_with ((at_builtin; refine Stop'.intro ?_))
          all_goals try (exfalso; omega)
          unfold Stop'
          refine wpList_append_row _ rfl _ _ 37 rfl 45 Ybaf.t45 (.agg #[.bool false, .int .i64 0]) 2 16 Ybaf.underlying37 (by kernel_rfl) hz45 rfl rfl rfl (by decide) (N := lowN z) ?n1 (.slice op (mt.pend k).length capp) (mt.pend k).length (pendV (mt.pend k)) rfl (HPR.out.kept ((Fr.refl (lowN z) [] [] wr).alloc _) (by simp)) ⟨wr.heap.size, 0, none⟩ 1 1 [.bool true, .int .i64 0] rfl rfl (news_alloc wr _ _) (by simp [Value.oneCell']) (by simp [maxLen]; omega) (by omega) ?_
          case n1 =>
            intro k hk
            have h1 : k < z := hk
            have h2 := HMt.out.lo.1
            have h3 := (Array.getElem?_eq_some_iff.1 HMt.out.hAd).1
            simp
            omega
          intro v' w2 hGr
          obtain ⟨o2, c2, rfl, _, _⟩ := ownsRow_slice hGr.row.1
          have hnew := HMt.out.push (fun b hb => HL.out b (by have := HFt.out.size; omega)) h4 HA.out (true, 0) HPE.out hGr
          have HNEW : Hid (LawMem L z ad co pe (mt.note k (true, 0)) (w2.setCell ⟨pe, k, none⟩ (.slice o2 ((mt.pend k).length + 1) c2)) ∧ Fr (lowN z) [38, 45] [] wr (w2.setCell ⟨pe, k, none⟩ (.slice o2 ((mt.pend k).length + 1) c2))) := hnew
          obtain ⟨pv, hp3, -⟩ := HMt.out.hPe
          have hpw := hGr.fr.keepC _ _ _ _ (((Fr.refl (lowN z) [] [] wr).alloc _).keepC _ _ _ _ hp3 (by simp)) (by decide)
          have hfz := free_of hpw k
          have hcw := four_cell hpw h4
          clear hpw hp3 hnew hGr hpe
          go_wp2_with fail
          all_goals try (exfalso; omega)
          go_roundw
          case rel => exact ⟨t + 1, by simp, by omega, by rw [HN.out, HV.out]; exact HNEW.out.1, HFt.out.trans HNEW.out.2⟩
          case measure => simp [intOf]; omega
      · have e4 : ¬ (k : Int) < 4 := by omega
        have HV : Hid (mt.vote k = mt) := by show mt.vote k = mt; unfold LM.vote; rw [if_neg h4]
        go_wp2_with fail
        all_goals try (exfalso; omega)
        go_roundw
        case rel => exact ⟨t + 1, by simp, by omega, by rw [HN.out, HV.out]; exact HMt.out, HFt.out⟩
        case measure => simp [intOf]; omega
    · have ht2 : t = sel.length := by omega
      have HE : Hid (LawMem L z ad co pe (m.votes sel) wr) := by
        rw [ht2, List.take_length] at hMt
        exact hMt
      have htI : ¬ ((t : Int) < (sel.length : Int)) := by omega
      clear ht2 hMt hFt
      go_wp2_with fail
      all_goals try (exfalso; omega)
      exact HK.out _ _ _ _ _ _ _ _ _ _ _ _ _ _ _ _ _ _ _ _ _ _ _ HE.out HFt.out
end Go.Proofs.YbulkkeiFmt
