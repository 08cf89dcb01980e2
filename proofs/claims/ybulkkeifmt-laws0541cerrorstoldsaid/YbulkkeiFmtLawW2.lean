/-
  THE LAW (2b): from the votes' store to the round's end: regions 39 to 77.
-/
import Derived.Test.YbulkkeiFmtLawW5
import Derived.Test.YbulkkeiFmtLawW4
import Derived.Deep.CutRange
namespace Go.Proofs.YbulkkeiFmt
open Go.RowKit Go.Extern.Stop Go.Stop Go.Extern
set_option maxRecDepth 8000
attribute [local go_sem ↓] Go.wp_at_zero Go.wp_at_succ

set_option maxHeartbeats 12800000 in
theorem law_rest (F : Interp) {V : VA} {A : SA} {L : Nat → Prop} {g : SG} {x : VG} {m : LM} {ad co pe i idx : Nat} {c par : Int} {sel : List Nat} {w0 base w : World} {k26 : Array Value} {v22 v23 : Value} {Q : Exit → Act → World → Prop}
    {c0 c1 c2 c3 c4 c5 c6 c7 c9 c11 c15 c16 c20 c24 c25 c26 c27 c28 c29 c30 c31 c32 c33 c34 c35 c36 c37 c38 c39 c40 c41 c42 c43 c44 c45 c46 c47 c48 c49 c50 c51 c52 c53 c54 c55 c56 c57 c58 c59 c60 c61 c62 c63 c64 c65 c66 c67 c68 c69 c70 c71 c72 c73 c74 c75 c76 c77 c78 c79 c80 c81 c82 c83 c84 c85 c86 c87 c88 c89 c90 c91 c92 c93 c94 c95 c96 c97 c98 c99 c100 c101 c102 c103 c104 c105 c106 c107 c108 c109 c110 c111 c112 c113 c114 c115 c116 c117 c118 c119 c120 c121 c122 c123 c124 c125 c126 c127 c128 c129 c130 c131 c132 c133 c134 c135 c136 c137 c138 c139 c140 c141 c142 c143 c144 c145 c146 c147 c148 c149 c150 c151 c152 c153 c154 c155 c156 c157 c158 c159 c160 c161 c162 c163 c164 c165 c166 c167 c168 c169 c170 c171 c172 c173 c174 c175 c176 c177 c178 c179 c180 c181 c182 c183 c184 c185 c186 c187 c188 c189 c190 c191 c192 c193 c194 c195 c196 c197 c198 c199 c200 c201 c202 c203 c204 c205 c206 c207 c208 c209 c210 c211 c212 c213 c214 c215 c216 c217 c218 c219 c220 c221 c222 c223 c224 c225 c226 c227 c228 c229 c230 c231 c232 c233 c234 c235 c236 c237 c238 c239 c240 c241 c242 c243 c244 c245 c246 c247 c248 c249 c250 c251 c252 c253 c254 c255 c256 c257 c258 c259 c260 c261 c262 c263 c264 c265 c266 c267 c268 c269 : Value}
    (hF : F.answers w0.tape) (hi : i ≤ 256)
    (hBo : Both V A L base g x) (hfu : x.ss.length = g.l.length) (hcn : x.cnt + lenV x.wo ≤ i) (hRel : Rel g m) (hMem : LawMem L w0.heap.size ad co pe m base) (hLin : ∀ k, k < w0.heap.size → L k) (hPl : ∀ k, (m.pend k).length ≤ 300 * i) (hBl : Below w0.heap.size w0 base)
    (hSel : SelAt base k26 #[.string (nameB idx), .int .i64 c, .string (parB par), .slice none 0 0] (sel.map Int.ofNat) (sel.map voteB) v22 v23 w)
    (hi6 : idx < 6) (hc1 : -1000 < c) (hc2 : c < 1000) (hpar4 : par < 4) (hpar : idx < 4 → par < idx) (hs7 : ∀ k ∈ sel, k < 7) (hsl : sel.length ≤ 256)
    (hn : ∀ (u6 u27 u29 u31 u32 u34 u35 u132 u133 u134 u135 u136 u137 u138 u139 u140 u141 u142 u143 u144 u145 u146 u147 u148 u149 u150 u151 u152 u153 u154 u155 u156 u157 u158 u159 u160 u161 u162 u163 u164 u165 u166 u167 u168 u169 u170 u171 u172 u173 u174 u175 u176 u177 u178 u179 u180 u181 u182 u183 u184 u185 u186 u187 u188 u189 u190 u191 u192 u193 u194 u195 u196 u197 u198 u199 u200 u201 u202 u203 u204 u205 u206 u207 u208 u209 u210 u211 u212 u213 u214 u215 u216 u217 u218 u219 u220 u221 u222 u223 u224 u225 u226 u227 u228 u229 u230 u231 u232 u233 u234 u235 u236 u237 u238 u239 u240 u241 u242 u243 u244 u245 u246 u247 u248 u249 u250 u251 u252 u253 u254 u255 u256 u257 u258 u259 u260 u261 u262 u263 u264 u265 u266 u267 u268 : Value) (w' : World), LawInv V A w0 ad co pe (i + 1) w' → Q .normal ⟨List.toArray (c0 :: c1 :: c2 :: c3 :: c4 :: c5 :: u6 :: c7 :: .int .i64 A.ch :: c9 :: .pointer (some ⟨V.v, 0, none⟩) :: c11 :: .pointer (some ⟨ad, 0, none⟩) :: .pointer (some ⟨co, 0, none⟩) :: .pointer (some ⟨pe, 0, none⟩) :: c15 :: c16 :: .int .i64 idx :: .int .i64 c :: .int .i64 par :: c20 :: .pointer (some ⟨base.heap.size + 1, 0, none⟩) :: v22 :: v23 :: c24 :: c25 :: c26 :: u27 :: c28 :: u29 :: c30 :: u31 :: u32 :: c33 :: u34 :: u35 :: c36 :: c37 :: c38 :: c39 :: c40 :: c41 :: c42 :: c43 :: c44 :: c45 :: c46 :: c47 :: c48 :: c49 :: c50 :: c51 :: c52 :: c53 :: c54 :: c55 :: c56 :: c57 :: c58 :: c59 :: c60 :: c61 :: c62 :: c63 :: c64 :: c65 :: c66 :: c67 :: c68 :: c69 :: c70 :: c71 :: c72 :: c73 :: c74 :: c75 :: c76 :: c77 :: c78 :: c79 :: c80 :: c81 :: c82 :: c83 :: c84 :: c85 :: c86 :: c87 :: c88 :: c89 :: c90 :: c91 :: c92 :: c93 :: c94 :: c95 :: c96 :: c97 :: c98 :: c99 :: c100 :: c101 :: c102 :: c103 :: c104 :: c105 :: c106 :: c107 :: c108 :: c109 :: c110 :: c111 :: c112 :: c113 :: c114 :: c115 :: c116 :: c117 :: c118 :: c119 :: c120 :: c121 :: c122 :: c123 :: c124 :: c125 :: c126 :: c127 :: c128 :: c129 :: c130 :: c131 :: u132 :: u133 :: u134 :: u135 :: u136 :: u137 :: u138 :: u139 :: u140 :: u141 :: u142 :: u143 :: u144 :: u145 :: u146 :: u147 :: u148 :: u149 :: u150 :: u151 :: u152 :: u153 :: u154 :: u155 :: u156 :: u157 :: u158 :: u159 :: u160 :: u161 :: u162 :: u163 :: u164 :: u165 :: u166 :: u167 :: u168 :: u169 :: u170 :: u171 :: u172 :: u173 :: u174 :: u175 :: u176 :: u177 :: u178 :: u179 :: u180 :: u181 :: u182 :: u183 :: u184 :: u185 :: u186 :: u187 :: u188 :: u189 :: u190 :: u191 :: u192 :: u193 :: u194 :: u195 :: u196 :: u197 :: u198 :: u199 :: u200 :: u201 :: u202 :: u203 :: u204 :: u205 :: u206 :: u207 :: u208 :: u209 :: u210 :: u211 :: u212 :: u213 :: u214 :: u215 :: u216 :: u217 :: u218 :: u219 :: u220 :: u221 :: u222 :: u223 :: u224 :: u225 :: u226 :: u227 :: u228 :: u229 :: u230 :: u231 :: u232 :: u233 :: u234 :: u235 :: u236 :: u237 :: u238 :: u239 :: u240 :: u241 :: u242 :: u243 :: u244 :: u245 :: u246 :: u247 :: u248 :: u249 :: u250 :: u251 :: u252 :: u253 :: u254 :: u255 :: u256 :: u257 :: u258 :: u259 :: u260 :: u261 :: u262 :: u263 :: u264 :: u265 :: u266 :: u267 :: u268 :: c269 :: []), []⟩ w') :
    Code.wp Ybaf.prog (rdT 10 Ybaf.f3) Q ⟨List.toArray (c0 :: c1 :: c2 :: c3 :: c4 :: c5 :: c6 :: c7 :: .int .i64 A.ch :: c9 :: .pointer (some ⟨V.v, 0, none⟩) :: c11 :: .pointer (some ⟨ad, 0, none⟩) :: .pointer (some ⟨co, 0, none⟩) :: .pointer (some ⟨pe, 0, none⟩) :: c15 :: c16 :: .int .i64 idx :: .int .i64 c :: .int .i64 par :: c20 :: .pointer (some ⟨base.heap.size + 1, 0, none⟩) :: v22 :: v23 :: c24 :: c25 :: c26 :: c27 :: c28 :: c29 :: c30 :: c31 :: c32 :: c33 :: c34 :: c35 :: c36 :: c37 :: c38 :: c39 :: c40 :: c41 :: c42 :: c43 :: c44 :: c45 :: c46 :: c47 :: c48 :: c49 :: c50 :: c51 :: c52 :: c53 :: c54 :: c55 :: c56 :: c57 :: c58 :: c59 :: c60 :: c61 :: c62 :: c63 :: c64 :: c65 :: c66 :: c67 :: c68 :: c69 :: c70 :: c71 :: c72 :: c73 :: c74 :: c75 :: c76 :: c77 :: c78 :: c79 :: c80 :: c81 :: c82 :: c83 :: c84 :: c85 :: c86 :: c87 :: c88 :: c89 :: c90 :: c91 :: c92 :: c93 :: c94 :: c95 :: c96 :: c97 :: c98 :: c99 :: c100 :: c101 :: c102 :: c103 :: c104 :: c105 :: c106 :: c107 :: c108 :: c109 :: c110 :: c111 :: c112 :: c113 :: c114 :: c115 :: c116 :: c117 :: c118 :: c119 :: c120 :: c121 :: c122 :: c123 :: c124 :: c125 :: c126 :: c127 :: c128 :: c129 :: c130 :: c131 :: c132 :: c133 :: c134 :: c135 :: c136 :: c137 :: c138 :: c139 :: c140 :: c141 :: c142 :: c143 :: c144 :: c145 :: c146 :: c147 :: c148 :: c149 :: c150 :: c151 :: c152 :: c153 :: c154 :: c155 :: c156 :: c157 :: c158 :: c159 :: c160 :: c161 :: c162 :: c163 :: c164 :: c165 :: c166 :: c167 :: c168 :: c169 :: c170 :: c171 :: c172 :: c173 :: c174 :: c175 :: c176 :: c177 :: c178 :: c179 :: c180 :: c181 :: c182 :: c183 :: c184 :: c185 :: c186 :: c187 :: c188 :: c189 :: c190 :: c191 :: c192 :: c193 :: c194 :: c195 :: c196 :: c197 :: c198 :: c199 :: c200 :: c201 :: c202 :: c203 :: c204 :: c205 :: c206 :: c207 :: c208 :: c209 :: c210 :: c211 :: c212 :: c213 :: c214 :: c215 :: c216 :: c217 :: c218 :: c219 :: c220 :: c221 :: c222 :: c223 :: c224 :: c225 :: c226 :: c227 :: c228 :: c229 :: c230 :: c231 :: c232 :: c233 :: c234 :: c235 :: c236 :: c237 :: c238 :: c239 :: c240 :: c241 :: c242 :: c243 :: c244 :: c245 :: c246 :: c247 :: c248 :: c249 :: c250 :: c251 :: c252 :: c253 :: c254 :: c255 :: c256 :: c257 :: c258 :: c259 :: c260 :: c261 :: c262 :: c263 :: c264 :: c265 :: c266 :: c267 :: c268 :: c269 :: []), []⟩ w := by
  conv => arg 2; whnf
  refine wp_seq_k fun K1 hK1 => ?_
  have HK1 : Hid (∀ a w, _ → K1 a w) := hK1
  have HN : Hid _ := hn
  have z3 : w.cell? ⟨base.heap.size + 1, 3, none⟩ = some (.slice none 0 0) := by simp [World.cell?, hSel.b42]
  have zf := free_of hSel.b42 3
  obtain ⟨o22, cap22, hv22, q1, q2⟩ := ownsRow_slice hSel.r22.1
  rw [List.length_map] at hv22 q1
  obtain ⟨g23, cap23, hv23⟩ := hSel.s23
  rw [List.length_map] at hv23
  have hSel2 : SelAt base k26 #[.string (nameB idx), .int .i64 c, .string (parB par), v23] (sel.map Int.ofNat) (sel.map voteB) v22 v23 (w.setCell ⟨base.heap.size + 1, 3, none⟩ v23) := hSel.set42 3 v23
  have hpl := hPl idx
  clear hK1 hn hSel
  subst hv22
  subst hv23
  have HSel : Hid (SelAt base k26 #[.string (nameB idx), .int .i64 c, .string (parB par), .slice (some ⟨g23, 0, none⟩) sel.length cap23] (sel.map Int.ofNat) (sel.map voteB) (.slice o22 sel.length cap22) (.slice (some ⟨g23, 0, none⟩) sel.length cap23) (w.setCell ⟨base.heap.size + 1, 3, none⟩ (.slice (some ⟨g23, 0, none⟩) sel.length cap23))) := hSel2
  have HMem : Hid (LawMem L w0.heap.size ad co pe m base) := hMem
  have HF : Hid (F.answers w0.tape) := hF
  have HBo : Hid (Both V A L base g x) := hBo
  have HFu : Hid (x.ss.length = g.l.length) := hfu
  have HCn : Hid (x.cnt + lenV x.wo ≤ i) := hcn
  have HRel : Hid (Rel g m) := hRel
  have HLin : Hid (∀ k, k < w0.heap.size → L k) := hLin
  have HPl : Hid (∀ k, (m.pend k).length ≤ 300 * i) := hPl
  have HBl : Hid (Below w0.heap.size w0 base) := hBl
  have HPar : Hid (idx < 4 → par < idx) := hpar
  have HS7 : Hid (∀ k ∈ sel, k < 7) := hs7
  clear hSel2 q2 hF hBo hfu hcn hRel hMem hLin hPl hBl hpar hs7
  obtain ⟨bb, hbb⟩ : ∃ bb, bb = base.heap.size + 1 := ⟨_, rfl⟩
  rw [← hbb] at z3 zf HN HSel ⊢
  have HBB : Hid (bb = base.heap.size + 1) := hbb
  clear hbb
  go_wp2_with fail
  refine HK1.out _ _ ?_
  clear HK1 z3 zf
  refine wp_seq_k fun K2 hK2 => ?_
  have HK2 : Hid (∀ a w, _ → K2 a w) := hK2
  clear hK2
  go_wp2_with fail
  refine HK2.out _ _ ?_
  clear HK2
  refine wp_seq_k fun K3 hK3 => ?_
  have HK3 : Hid (∀ a w, _ → K3 a w) := hK3
  clear hK3
  have hr22 := HSel.out.r22
  rw [List.length_map] at hr22
  refine law_want (HMem.out.below HSel.out.below) hr22 rfl q1 hsl (by omega) hpar4 HS7.out ?_
  clear hr22
  intros
  rename_i wz hBz
  refine HK3.out _ _ ?_
  clear HK3
  have hS := HSel.out.grown hBz
  rw [HBB.out] at HN ⊢
  refine law_add F HF.out hi HBo.out HFu.out HCn.out HRel.out HMem.out HLin.out HPl.out HBl.out hS hi6 hc1 hc2 HPar.out HS7.out hsl ?_
  intros
  rename_i hI9
  exact HN.out _ _ _ _ _ _ _ _ _ _ _ _ _ _ _ _ _ _ _ _ _ _ _ _ _ _ _ _ _ _ _ _ _ _ _ _ _ _ _ _ _ _ _ _ _ _ _ _ _ _ _ _ _ _ _ _ _ _ _ _ _ _ _ _ _ _ _ _ _ _ _ _ _ _ _ _ _ _ _ _ _ _ _ _ _ _ _ _ _ _ _ _ _ _ _ _ _ _ _ _ _ _ _ _ _ _ _ _ _ _ _ _ _ _ _ _ _ _ _ _ _ _ _ _ _ _ _ _ _ _ _ _ _ _ _ _ _ _ _ _ _ _ _ _ _ hI9
end Go.Proofs.YbulkkeiFmt
