/-
  THE LAW (5): the block is handed in: regions 59 to 77.
-/
import Derived.Test.YbulkkeiFmtLawNext
import Derived.Test.YbulkkeiFmtLawW6
import Derived.Test.YbulkkeiFmtLawW7
import Derived.Deep.CutRange
namespace Go.Proofs.YbulkkeiFmt
open Go.RowKit Go.Extern.Stop Go.Stop Go.Extern
set_option maxRecDepth 8000
attribute [local go_sem ↓] Go.wp_at_zero Go.wp_at_succ

set_option maxHeartbeats 12800000 in
theorem law_add (F : Interp) {V : VA} {A : SA} {L : Nat → Prop} {g : SG} {x : VG} {m : LM} {ad co pe i idx : Nat} {c par : Int} {sel : List Nat} {w0 base w : World} {k26 : Array Value} {v22 v23 : Value} {Q : Exit → Act → World → Prop}
    {c0 c1 c2 c3 c4 c5 c6 c7 c8 c9 c11 c15 c16 c20 c23 c24 c25 c26 c28 c29 c30 c31 c32 c33 c34 c35 c36 c37 c38 c39 c40 c41 c42 c43 c44 c45 c46 c47 c48 c49 c50 c51 c52 c53 c54 c55 c56 c57 c58 c59 c60 c61 c62 c63 c64 c65 c66 c67 c68 c69 c70 c71 c72 c73 c74 c75 c76 c77 c78 c79 c80 c81 c82 c83 c84 c85 c86 c87 c88 c89 c90 c91 c92 c93 c94 c95 c96 c97 c98 c99 c100 c101 c102 c103 c104 c105 c106 c107 c108 c109 c110 c111 c112 c113 c114 c115 c116 c117 c118 c119 c120 c121 c122 c123 c124 c125 c126 c127 c128 c129 c130 c131 c132 c133 c134 c135 c136 c137 c138 c139 c140 c141 c142 c143 c144 c145 c146 c147 c148 c149 c150 c151 c152 c153 c154 c155 c156 c157 c158 c159 c160 c161 c162 c163 c164 c165 c166 c167 c168 c169 c170 c171 c172 c173 c174 c175 c176 c177 c178 c179 c180 c181 c182 c183 c184 c185 c186 c187 c188 c189 c190 c191 c192 c193 c194 c195 c196 c197 c198 c199 c200 c201 c202 c203 c204 c205 c206 c207 c208 c209 c210 c211 c212 c213 c214 c215 c216 c217 c218 c219 c220 c221 c222 c223 c224 c225 c226 c227 c228 c229 c230 c231 c232 c233 c234 c235 c236 c237 c238 c239 c240 c241 c242 c243 c244 c245 c246 c247 c248 c249 c250 c251 c252 c253 c254 c255 c256 c257 c258 c259 c260 c261 c262 c263 c264 c265 c266 c267 c268 c269 : Value}
    (hF : F.answers w0.tape) (hi : i ≤ 256)
    (hBo : Both V A L base g x) (hfu : x.ss.length = g.l.length) (hcn : x.cnt + lenV x.wo ≤ i) (hRel : Rel g m) (hMem : LawMem L w0.heap.size ad co pe m base) (hLin : ∀ k, k < w0.heap.size → L k) (hPl : ∀ k, (m.pend k).length ≤ 300 * i) (hBl : Below w0.heap.size w0 base)
    (hSel : SelAt base k26 #[.string (nameB idx), .int .i64 c, .string (parB par), v23] (sel.map Int.ofNat) (sel.map voteB) v22 v23 w)
    (hi6 : idx < 6) (hc1 : -1000 < c) (hc2 : c < 1000) (hpar : idx < 4 → par < idx) (hs7 : ∀ k ∈ sel, k < 7) (hsl : sel.length ≤ 256)
    (hn : ∀ (u6 u32 u34 u35 u202 u203 u204 u205 u206 u207 u208 u209 u210 u211 u212 u213 u214 u215 u216 u217 u218 u219 u220 u221 u222 u223 u224 u225 u226 u227 u228 u229 u230 u231 u232 u233 u234 u235 u236 u237 u238 u239 u240 u241 u242 u243 u244 u245 u246 u247 u248 u249 u250 u251 u252 u253 u254 u255 u256 u257 u258 u259 u260 u261 u262 u263 u264 u265 u266 u267 u268 : Value) (w' : World), LawInv V A w0 ad co pe (i + 1) w' → Q .normal ⟨List.toArray (c0 :: c1 :: c2 :: c3 :: c4 :: c5 :: u6 :: c7 :: c8 :: c9 :: .pointer (some ⟨V.v, 0, none⟩) :: c11 :: .pointer (some ⟨ad, 0, none⟩) :: .pointer (some ⟨co, 0, none⟩) :: .pointer (some ⟨pe, 0, none⟩) :: c15 :: c16 :: .int .i64 idx :: .int .i64 c :: .int .i64 par :: c20 :: .pointer (some ⟨base.heap.size + 1, 0, none⟩) :: v22 :: c23 :: c24 :: c25 :: c26 :: .bool (wantB A.ch m idx c par sel) :: c28 :: c29 :: c30 :: c31 :: u32 :: c33 :: u34 :: u35 :: c36 :: c37 :: c38 :: c39 :: c40 :: c41 :: c42 :: c43 :: c44 :: c45 :: c46 :: c47 :: c48 :: c49 :: c50 :: c51 :: c52 :: c53 :: c54 :: c55 :: c56 :: c57 :: c58 :: c59 :: c60 :: c61 :: c62 :: c63 :: c64 :: c65 :: c66 :: c67 :: c68 :: c69 :: c70 :: c71 :: c72 :: c73 :: c74 :: c75 :: c76 :: c77 :: c78 :: c79 :: c80 :: c81 :: c82 :: c83 :: c84 :: c85 :: c86 :: c87 :: c88 :: c89 :: c90 :: c91 :: c92 :: c93 :: c94 :: c95 :: c96 :: c97 :: c98 :: c99 :: c100 :: c101 :: c102 :: c103 :: c104 :: c105 :: c106 :: c107 :: c108 :: c109 :: c110 :: c111 :: c112 :: c113 :: c114 :: c115 :: c116 :: c117 :: c118 :: c119 :: c120 :: c121 :: c122 :: c123 :: c124 :: c125 :: c126 :: c127 :: c128 :: c129 :: c130 :: c131 :: c132 :: c133 :: c134 :: c135 :: c136 :: c137 :: c138 :: c139 :: c140 :: c141 :: c142 :: c143 :: c144 :: c145 :: c146 :: c147 :: c148 :: c149 :: c150 :: c151 :: c152 :: c153 :: c154 :: c155 :: c156 :: c157 :: c158 :: c159 :: c160 :: c161 :: c162 :: c163 :: c164 :: c165 :: c166 :: c167 :: c168 :: c169 :: c170 :: c171 :: c172 :: c173 :: c174 :: c175 :: c176 :: c177 :: c178 :: c179 :: c180 :: c181 :: c182 :: c183 :: c184 :: c185 :: c186 :: c187 :: c188 :: c189 :: c190 :: c191 :: c192 :: c193 :: c194 :: c195 :: c196 :: c197 :: c198 :: c199 :: c200 :: c201 :: u202 :: u203 :: u204 :: u205 :: u206 :: u207 :: u208 :: u209 :: u210 :: u211 :: u212 :: u213 :: u214 :: u215 :: u216 :: u217 :: u218 :: u219 :: u220 :: u221 :: u222 :: u223 :: u224 :: u225 :: u226 :: u227 :: u228 :: u229 :: u230 :: u231 :: u232 :: u233 :: u234 :: u235 :: u236 :: u237 :: u238 :: u239 :: u240 :: u241 :: u242 :: u243 :: u244 :: u245 :: u246 :: u247 :: u248 :: u249 :: u250 :: u251 :: u252 :: u253 :: u254 :: u255 :: u256 :: u257 :: u258 :: u259 :: u260 :: u261 :: u262 :: u263 :: u264 :: u265 :: u266 :: u267 :: u268 :: c269 :: []), []⟩ w') :
    Code.wp Ybaf.prog (rdT 13 Ybaf.f3) Q ⟨List.toArray (c0 :: c1 :: c2 :: c3 :: c4 :: c5 :: c6 :: c7 :: c8 :: c9 :: .pointer (some ⟨V.v, 0, none⟩) :: c11 :: .pointer (some ⟨ad, 0, none⟩) :: .pointer (some ⟨co, 0, none⟩) :: .pointer (some ⟨pe, 0, none⟩) :: c15 :: c16 :: .int .i64 idx :: .int .i64 c :: .int .i64 par :: c20 :: .pointer (some ⟨base.heap.size + 1, 0, none⟩) :: v22 :: c23 :: c24 :: c25 :: c26 :: .bool (wantB A.ch m idx c par sel) :: c28 :: c29 :: c30 :: c31 :: c32 :: c33 :: c34 :: c35 :: c36 :: c37 :: c38 :: c39 :: c40 :: c41 :: c42 :: c43 :: c44 :: c45 :: c46 :: c47 :: c48 :: c49 :: c50 :: c51 :: c52 :: c53 :: c54 :: c55 :: c56 :: c57 :: c58 :: c59 :: c60 :: c61 :: c62 :: c63 :: c64 :: c65 :: c66 :: c67 :: c68 :: c69 :: c70 :: c71 :: c72 :: c73 :: c74 :: c75 :: c76 :: c77 :: c78 :: c79 :: c80 :: c81 :: c82 :: c83 :: c84 :: c85 :: c86 :: c87 :: c88 :: c89 :: c90 :: c91 :: c92 :: c93 :: c94 :: c95 :: c96 :: c97 :: c98 :: c99 :: c100 :: c101 :: c102 :: c103 :: c104 :: c105 :: c106 :: c107 :: c108 :: c109 :: c110 :: c111 :: c112 :: c113 :: c114 :: c115 :: c116 :: c117 :: c118 :: c119 :: c120 :: c121 :: c122 :: c123 :: c124 :: c125 :: c126 :: c127 :: c128 :: c129 :: c130 :: c131 :: c132 :: c133 :: c134 :: c135 :: c136 :: c137 :: c138 :: c139 :: c140 :: c141 :: c142 :: c143 :: c144 :: c145 :: c146 :: c147 :: c148 :: c149 :: c150 :: c151 :: c152 :: c153 :: c154 :: c155 :: c156 :: c157 :: c158 :: c159 :: c160 :: c161 :: c162 :: c163 :: c164 :: c165 :: c166 :: c167 :: c168 :: c169 :: c170 :: c171 :: c172 :: c173 :: c174 :: c175 :: c176 :: c177 :: c178 :: c179 :: c180 :: c181 :: c182 :: c183 :: c184 :: c185 :: c186 :: c187 :: c188 :: c189 :: c190 :: c191 :: c192 :: c193 :: c194 :: c195 :: c196 :: c197 :: c198 :: c199 :: c200 :: c201 :: c202 :: c203 :: c204 :: c205 :: c206 :: c207 :: c208 :: c209 :: c210 :: c211 :: c212 :: c213 :: c214 :: c215 :: c216 :: c217 :: c218 :: c219 :: c220 :: c221 :: c222 :: c223 :: c224 :: c225 :: c226 :: c227 :: c228 :: c229 :: c230 :: c231 :: c232 :: c233 :: c234 :: c235 :: c236 :: c237 :: c238 :: c239 :: c240 :: c241 :: c242 :: c243 :: c244 :: c245 :: c246 :: c247 :: c248 :: c249 :: c250 :: c251 :: c252 :: c253 :: c254 :: c255 :: c256 :: c257 :: c258 :: c259 :: c260 :: c261 :: c262 :: c263 :: c264 :: c265 :: c266 :: c267 :: c268 :: c269 :: []), []⟩ w := by
  conv => arg 2; whnf
  refine wp_seq_k fun K1 hK1 => ?_
  have HK1 : Hid (∀ a w, _ → K1 a w) := hK1
  have HN : Hid _ := hn
  have hbw := bad_want (A := A) hBo.store.plain hRel c hpar hs7
  have hB := hSel.below
  obtain ⟨g23, cap23, hv23⟩ := hSel.s23
  have hadd := addV_ok F (round_both hBo hB) (by rw [hB.tape, hBl.tape]; exact hF) hfu (by omega) hi6 c hc1 hc2 (fun h4 => par_less h4 (hpar h4)) hv23 hSel.r23.1 (by rw [List.length_map]; exact hsl)
  have z0 : w.cell? ⟨base.heap.size + 1, 0, none⟩ = some (.string (nameB idx)) := by simp [World.cell?, hSel.b42]
  have z1 : w.cell? ⟨base.heap.size + 1, 1, none⟩ = some (.int .i64 c) := by simp [World.cell?, hSel.b42]
  have z2 : w.cell? ⟨base.heap.size + 1, 2, none⟩ = some (.string (parB par)) := by simp [World.cell?, hSel.b42]
  have z3 : w.cell? ⟨base.heap.size + 1, 3, none⟩ = some v23 := by simp [World.cell?, hSel.b42]
  obtain ⟨o22, cap22, hv22, q1, q2⟩ := ownsRow_slice hSel.r22.1
  rw [List.length_map] at hv22 q1
  rw [List.length_map] at hv23
  subst hv22
  rw [hv23] at z3 hadd
  unfold blockV at hadd
  obtain ⟨bb, hbb⟩ : ∃ bb, bb = base.heap.size + 1 := ⟨_, rfl⟩
  rw [← hbb] at z0 z1 z2 z3 HN ⊢
  have HBW : Hid (Bad A g idx c (parB par) (sel.map voteB) ↔ wantB A.ch m idx c par sel = true) := hbw
  have HBo : Hid (Both V A L base g x) := hBo
  have HFu : Hid (x.ss.length = g.l.length) := hfu
  have HCn : Hid (x.cnt + lenV x.wo ≤ i) := hcn
  have HRel : Hid (Rel g m) := hRel
  have HMem : Hid (LawMem L w0.heap.size ad co pe m base) := hMem
  have HLin : Hid (∀ k, k < w0.heap.size → L k) := hLin
  have HPl : Hid (∀ k, (m.pend k).length ≤ 300 * i) := hPl
  have HBl : Hid (Below w0.heap.size w0 base) := hBl
  have HB : Hid (Below base.heap.size base w) := hB
  have HSel : Hid (SelAt base k26 #[.string (nameB idx), .int .i64 c, .string (parB par), v23] (sel.map Int.ofNat) (sel.map voteB) (.slice o22 sel.length cap22) v23 w) := hSel
  have HPar : Hid (idx < 4 → par < idx) := hpar
  have HS7 : Hid (∀ k ∈ sel, k < 7) := hs7
  clear hK1 hn hbw hBo hfu hcn hRel hMem hLin hPl hBl hB hSel hpar hs7 hF hbb hv23 q2
  go_wp2_with fail
  refine hadd.mono ?_
  clear hadd z0 z1 z2 z3
  rintro e w5 (⟨v, rfl, ⟨a5, rfl⟩, hbad, hB5⟩ | ⟨g', x', rfl, hnb, hB5, hF5, hfu', hcn', h1, h2, h3⟩)
  · have hw := HBW.out.1 hbad
    rw [hw] at HN ⊢
    have HE : Hid (LawInv V A w0 ad co pe (i + 1) w5) := lawInv_refused HBo.out HFu.out HCn.out HRel.out HMem.out HLin.out HPl.out HBl.out HB.out hB5
    clear hw hbad hB5
    go_wp2_with fail
    refine HK1.out _ _ ?_
    clear HK1
    refine wp_seq_k fun K2 hK2 => ?_
    have HK2 : Hid (∀ a w, _ → K2 a w) := hK2
    clear hK2
    go_wp2_with fail
    refine HK2.out _ _ ?_
    clear HK2
    refine wp_seq_k fun K3 hK3 => ?_
    have HK3 : Hid (∀ a w, _ → K3 a w) := hK3
    clear hK3
    go_wp2_with fail
    refine HK3.out _ _ ?_
    clear HK3
    refine law_check HE.out ?_
    intros
    rename_i hI9
    exact HN.out _ _ _ _ _ _ _ _ _ _ _ _ _ _ _ _ _ _ _ _ _ _ _ _ _ _ _ _ _ _ _ _ _ _ _ _ _ _ _ _ _ _ _ _ _ _ _ _ _ _ _ _ _ _ _ _ _ _ _ _ _ _ _ _ _ _ _ _ _ _ _ _ hI9
  · have hw : wantB A.ch m idx c par sel = false := by
      rw [Bool.eq_false_iff]
      exact fun h => hnb (HBW.out.2 h)
    rw [hw] at HN ⊢
    have h4 : idx < 4 := by
      rcases Nat.lt_or_ge idx 4 with h | h
      · exact h
      · exact absurd (.inl h) hnb
    have hp := HPar.out h4
    have HM5 : Hid (LawMem (fun k => inRound L base w k ∨ w5.heap.size ≤ k) w0.heap.size ad co pe m w5) := round_mem HMem.out HB.out hF5
    have HR5 : Hid (Row noN w5 3 1 (.slice o22 sel.length cap22) sel.length (i64s (sel.map Int.ofNat))) := by
      have := round_row HSel.out hF5
      rwa [List.length_map] at this
    have HE : Hid (∀ w6, LawMem (fun k => inRound L base w k ∨ w5.heap.size ≤ k) w0.heap.size ad co pe (m.step idx c par sel) w6 → Fr (lowN w0.heap.size) [35, 36, 38, 45] [] w5 w6 → LawInv V A w0 ad co pe (i + 1) w6) := fun w6 e1 e2 => lawInv_added HCn.out HRel.out HLin.out HPl.out HBl.out HB.out h4 hp HS7.out hsl hB5 hF5 hfu' hcn' h1 h2 h3 e1 e2
    clear hw hnb hB5 hF5 hfu' hcn' h1 h2 h3
    go_wp2_with fail
    refine HK1.out _ _ ?_
    clear HK1
    refine wp_seq_k fun K2 hK2 => ?_
    have HK2 : Hid (∀ a w, _ → K2 a w) := hK2
    clear hK2
    go_wp2_with fail
    refine HK2.out _ _ ?_
    clear HK2
    refine wp_seq_k fun K3 hK3 => ?_
    have HK3 : Hid (∀ a w, _ → K3 a w) := hK3
    clear hK3
    refine law_keeps HM5.out (fun b hb => .inr hb) HR5.out rfl q1 HS7.out HPl.out (by omega) h4 (by omega) ?_
    intros
    rename_i w6 hM6 hF6
    refine HK3.out _ _ ?_
    clear HK3
    refine law_check (HE.out w6 hM6 hF6) ?_
    intros
    rename_i hI9
    exact HN.out _ _ _ _ _ _ _ _ _ _ _ _ _ _ _ _ _ _ _ _ _ _ _ _ _ _ _ _ _ _ _ _ _ _ _ _ _ _ _ _ _ _ _ _ _ _ _ _ _ _ _ _ _ _ _ _ _ _ _ _ _ _ _ _ _ _ _ _ _ _ _ _ hI9
end Go.Proofs.YbulkkeiFmt
