/-
  THE LAW (1b): the round from the block's name on: regions 27 to 77; the whole round.
-/
import Derived.Test.YbulkkeiFmtLawW1
import Derived.Deep.CutRange
namespace Go.Proofs.YbulkkeiFmt
open Go.RowKit Go.Extern.Stop Go.Stop Go.Extern
set_option maxRecDepth 8000
attribute [local go_sem ↓] Go.wp_at_zero Go.wp_at_succ

set_option maxHeartbeats 12800000 in
theorem law_block_on (F : Interp) {V : VA} {A : SA} {L : Nat → Prop} {g : SG} {x : VG} {m : LM} {ad co pe i idx : Nat} {c par : Int} {w0 base : World} {k0 k1 k2 : Value} {sl : Option Addr} {n cp : Nat} {Z : Nat → Int} {Q : Exit → Act → World → Prop}
    {c0 c1 c2 c3 c4 c5 c6 c7 c9 c11 c15 c20 c21 c22 c23 c24 c25 c26 c27 c28 c29 c30 c31 c32 c33 c34 c35 c36 c37 c38 c39 c40 c41 c42 c43 c44 c45 c46 c47 c48 c49 c50 c51 c52 c53 c54 c55 c56 c57 c58 c59 c60 c61 c62 c63 c64 c65 c66 c67 c68 c69 c70 c71 c72 c73 c74 c75 c76 c77 c78 c79 c80 c81 c82 c83 c84 c85 c86 c87 c88 c89 c90 c91 c92 c93 c94 c95 c96 c97 c98 c99 c100 c101 c102 c103 c104 c105 c106 c107 c108 c109 c110 c111 c112 c113 c114 c115 c116 c117 c118 c119 c120 c121 c122 c123 c124 c125 c126 c127 c128 c129 c130 c131 c132 c133 c134 c135 c136 c137 c138 c139 c140 c141 c142 c143 c144 c145 c146 c147 c148 c149 c150 c151 c152 c153 c154 c155 c156 c157 c158 c159 c160 c161 c162 c163 c164 c165 c166 c167 c168 c169 c170 c171 c172 c173 c174 c175 c176 c177 c178 c179 c180 c181 c182 c183 c184 c185 c186 c187 c188 c189 c190 c191 c192 c193 c194 c195 c196 c197 c198 c199 c200 c201 c202 c203 c204 c205 c206 c207 c208 c209 c210 c211 c212 c213 c214 c215 c216 c217 c218 c219 c220 c221 c222 c223 c224 c225 c226 c227 c228 c229 c230 c231 c232 c233 c234 c235 c236 c237 c238 c239 c240 c241 c242 c243 c244 c245 c246 c247 c248 c249 c250 c251 c252 c253 c254 c255 c256 c257 c258 c259 c260 c261 c262 c263 c264 c265 c266 c267 c268 c269 : Value}
    (hF : F.answers w0.tape) (hi : i ≤ 256)
    (hBo : Both V A L base g x) (hfu : x.ss.length = g.l.length) (hcn : x.cnt + lenV x.wo ≤ i) (hRel : Rel g m) (hMem : LawMem L w0.heap.size ad co pe m base) (hLin : ∀ k, k < w0.heap.size → L k) (hPl : ∀ k, (m.pend k).length ≤ 300 * i) (hBl : Below w0.heap.size w0 base)
    (hi6 : idx < 6) (hc1 : -1000 < c) (hc2 : c < 1000) (hpar4 : par < 4) (hpar : idx < 4 → par < idx)
    (hcp : n ≤ cp ∧ cp ≤ maxLen) (hn256 : n ≤ 256) (hno : sl = none → n = 0)
    (hz : ∀ a', sl = some a' → ∀ j, j < n → base.cell? (a'.add j) = some (.int .u8 (Z j)) ∧ (a'.add j).block < base.heap.size) (hbz : ∀ j, j < n → 0 ≤ Z j ∧ Z j ≤ 255)
    (hn : ∀ (u6 u21 u22 u23 u25 u26 u27 u29 u31 u32 u34 u35 u95 u96 u97 u98 u99 u100 u101 u102 u103 u104 u105 u106 u107 u108 u109 u110 u111 u112 u113 u114 u115 u116 u117 u118 u119 u120 u121 u122 u123 u124 u125 u126 u127 u128 u129 u130 u131 u132 u133 u134 u135 u136 u137 u138 u139 u140 u141 u142 u143 u144 u145 u146 u147 u148 u149 u150 u151 u152 u153 u154 u155 u156 u157 u158 u159 u160 u161 u162 u163 u164 u165 u166 u167 u168 u169 u170 u171 u172 u173 u174 u175 u176 u177 u178 u179 u180 u181 u182 u183 u184 u185 u186 u187 u188 u189 u190 u191 u192 u193 u194 u195 u196 u197 u198 u199 u200 u201 u202 u203 u204 u205 u206 u207 u208 u209 u210 u211 u212 u213 u214 u215 u216 u217 u218 u219 u220 u221 u222 u223 u224 u225 u226 u227 u228 u229 u230 u231 u232 u233 u234 u235 u236 u237 u238 u239 u240 u241 u242 u243 u244 u245 u246 u247 u248 u249 u250 u251 u252 u253 u254 u255 u256 u257 u258 u259 u260 u261 u262 u263 u264 u265 u266 u267 u268 : Value) (w' : World), LawInv V A w0 ad co pe (i + 1) w' → Q .normal ⟨List.toArray (c0 :: c1 :: c2 :: c3 :: c4 :: c5 :: u6 :: c7 :: .int .i64 A.ch :: c9 :: .pointer (some ⟨V.v, 0, none⟩) :: c11 :: .pointer (some ⟨ad, 0, none⟩) :: .pointer (some ⟨co, 0, none⟩) :: .pointer (some ⟨pe, 0, none⟩) :: c15 :: .pointer (some ⟨base.heap.size, 0, none⟩) :: .int .i64 idx :: .int .i64 c :: .int .i64 par :: c20 :: u21 :: u22 :: u23 :: c24 :: u25 :: u26 :: u27 :: c28 :: u29 :: c30 :: u31 :: u32 :: c33 :: u34 :: u35 :: c36 :: c37 :: c38 :: c39 :: c40 :: c41 :: c42 :: c43 :: c44 :: c45 :: c46 :: c47 :: c48 :: c49 :: c50 :: c51 :: c52 :: c53 :: c54 :: c55 :: c56 :: c57 :: c58 :: c59 :: c60 :: c61 :: c62 :: c63 :: c64 :: c65 :: c66 :: c67 :: c68 :: c69 :: c70 :: c71 :: c72 :: c73 :: c74 :: c75 :: c76 :: c77 :: c78 :: c79 :: c80 :: c81 :: c82 :: c83 :: c84 :: c85 :: c86 :: c87 :: c88 :: c89 :: c90 :: c91 :: c92 :: c93 :: c94 :: u95 :: u96 :: u97 :: u98 :: u99 :: u100 :: u101 :: u102 :: u103 :: u104 :: u105 :: u106 :: u107 :: u108 :: u109 :: u110 :: u111 :: u112 :: u113 :: u114 :: u115 :: u116 :: u117 :: u118 :: u119 :: u120 :: u121 :: u122 :: u123 :: u124 :: u125 :: u126 :: u127 :: u128 :: u129 :: u130 :: u131 :: u132 :: u133 :: u134 :: u135 :: u136 :: u137 :: u138 :: u139 :: u140 :: u141 :: u142 :: u143 :: u144 :: u145 :: u146 :: u147 :: u148 :: u149 :: u150 :: u151 :: u152 :: u153 :: u154 :: u155 :: u156 :: u157 :: u158 :: u159 :: u160 :: u161 :: u162 :: u163 :: u164 :: u165 :: u166 :: u167 :: u168 :: u169 :: u170 :: u171 :: u172 :: u173 :: u174 :: u175 :: u176 :: u177 :: u178 :: u179 :: u180 :: u181 :: u182 :: u183 :: u184 :: u185 :: u186 :: u187 :: u188 :: u189 :: u190 :: u191 :: u192 :: u193 :: u194 :: u195 :: u196 :: u197 :: u198 :: u199 :: u200 :: u201 :: u202 :: u203 :: u204 :: u205 :: u206 :: u207 :: u208 :: u209 :: u210 :: u211 :: u212 :: u213 :: u214 :: u215 :: u216 :: u217 :: u218 :: u219 :: u220 :: u221 :: u222 :: u223 :: u224 :: u225 :: u226 :: u227 :: u228 :: u229 :: u230 :: u231 :: u232 :: u233 :: u234 :: u235 :: u236 :: u237 :: u238 :: u239 :: u240 :: u241 :: u242 :: u243 :: u244 :: u245 :: u246 :: u247 :: u248 :: u249 :: u250 :: u251 :: u252 :: u253 :: u254 :: u255 :: u256 :: u257 :: u258 :: u259 :: u260 :: u261 :: u262 :: u263 :: u264 :: u265 :: u266 :: u267 :: u268 :: c269 :: []), []⟩ w') :
    Code.wp Ybaf.prog (rdT 5 Ybaf.f3) Q ⟨List.toArray (c0 :: c1 :: c2 :: c3 :: c4 :: c5 :: c6 :: c7 :: .int .i64 A.ch :: c9 :: .pointer (some ⟨V.v, 0, none⟩) :: c11 :: .pointer (some ⟨ad, 0, none⟩) :: .pointer (some ⟨co, 0, none⟩) :: .pointer (some ⟨pe, 0, none⟩) :: c15 :: .pointer (some ⟨base.heap.size, 0, none⟩) :: .int .i64 idx :: .int .i64 c :: .int .i64 par :: c20 :: c21 :: c22 :: c23 :: c24 :: c25 :: c26 :: c27 :: c28 :: c29 :: c30 :: c31 :: c32 :: c33 :: c34 :: c35 :: c36 :: c37 :: c38 :: c39 :: c40 :: c41 :: c42 :: c43 :: c44 :: c45 :: c46 :: c47 :: c48 :: c49 :: c50 :: c51 :: c52 :: c53 :: c54 :: c55 :: c56 :: c57 :: c58 :: c59 :: c60 :: c61 :: c62 :: c63 :: c64 :: c65 :: c66 :: c67 :: c68 :: c69 :: c70 :: c71 :: c72 :: c73 :: c74 :: c75 :: c76 :: c77 :: c78 :: c79 :: c80 :: c81 :: c82 :: c83 :: c84 :: c85 :: c86 :: c87 :: c88 :: c89 :: c90 :: c91 :: c92 :: c93 :: c94 :: c95 :: c96 :: c97 :: c98 :: c99 :: c100 :: c101 :: c102 :: c103 :: c104 :: c105 :: c106 :: c107 :: c108 :: c109 :: c110 :: c111 :: c112 :: c113 :: c114 :: c115 :: c116 :: c117 :: c118 :: c119 :: c120 :: c121 :: c122 :: c123 :: c124 :: c125 :: c126 :: c127 :: c128 :: c129 :: c130 :: c131 :: c132 :: c133 :: c134 :: c135 :: c136 :: c137 :: c138 :: c139 :: c140 :: c141 :: c142 :: c143 :: c144 :: c145 :: c146 :: c147 :: c148 :: c149 :: c150 :: c151 :: c152 :: c153 :: c154 :: c155 :: c156 :: c157 :: c158 :: c159 :: c160 :: c161 :: c162 :: c163 :: c164 :: c165 :: c166 :: c167 :: c168 :: c169 :: c170 :: c171 :: c172 :: c173 :: c174 :: c175 :: c176 :: c177 :: c178 :: c179 :: c180 :: c181 :: c182 :: c183 :: c184 :: c185 :: c186 :: c187 :: c188 :: c189 :: c190 :: c191 :: c192 :: c193 :: c194 :: c195 :: c196 :: c197 :: c198 :: c199 :: c200 :: c201 :: c202 :: c203 :: c204 :: c205 :: c206 :: c207 :: c208 :: c209 :: c210 :: c211 :: c212 :: c213 :: c214 :: c215 :: c216 :: c217 :: c218 :: c219 :: c220 :: c221 :: c222 :: c223 :: c224 :: c225 :: c226 :: c227 :: c228 :: c229 :: c230 :: c231 :: c232 :: c233 :: c234 :: c235 :: c236 :: c237 :: c238 :: c239 :: c240 :: c241 :: c242 :: c243 :: c244 :: c245 :: c246 :: c247 :: c248 :: c249 :: c250 :: c251 :: c252 :: c253 :: c254 :: c255 :: c256 :: c257 :: c258 :: c259 :: c260 :: c261 :: c262 :: c263 :: c264 :: c265 :: c266 :: c267 :: c268 :: c269 :: []), []⟩ (base.alloc (.cells #[k0, k1, k2, .slice sl n cp] 26)) := by
  conv => arg 2; whnf
  have HN : Hid _ := hn
  have HF : Hid (F.answers w0.tape) := hF
  have HBo : Hid (Both V A L base g x) := hBo
  have HFu : Hid (x.ss.length = g.l.length) := hfu
  have HCn : Hid (x.cnt + lenV x.wo ≤ i) := hcn
  have HRel : Hid (Rel g m) := hRel
  have HMem : Hid (LawMem L w0.heap.size ad co pe m base) := hMem
  have HLin : Hid (∀ k, k < w0.heap.size → L k) := hLin
  have HPl : Hid (∀ k, (m.pend k).length ≤ 300 * i) := hPl
  have HBl : Hid (Below w0.heap.size w0 base) := hBl
  have HNo : Hid (sl = none → n = 0) := hno
  have HZ : Hid (∀ a', sl = some a' → ∀ j, j < n → base.cell? (a'.add j) = some (.int .u8 (Z j)) ∧ (a'.add j).block < base.heap.size) := hz
  have HBZ : Hid (∀ j, j < n → 0 ≤ Z j ∧ Z j ≤ 255) := hbz
  have HCP : Hid (n ≤ cp ∧ cp ≤ maxLen) := hcp
  have HPar : Hid (idx < 4 → par < idx) := hpar
  clear hn hF hBo hfu hcn hRel hMem hLin hPl hBl hpar hno hz hbz hcp
  obtain ⟨k26, hk26⟩ : ∃ k26 : Array Value, k26 = #[k0, k1, k2, .slice sl n cp] := ⟨_, rfl⟩
  rw [← hk26]
  have HK26 : Hid (k26 = #[k0, k1, k2, .slice sl n cp]) := hk26
  clear hk26
  refine wp_seq_k fun K1 hK1 => ?_
  have HK1 : Hid (∀ a w, _ → K1 a w) := hK1
  clear hK1
  go_wp2_with fail
  refine (name_ok idx _).mono ?_
  rintro e w4 ⟨rfl, rfl⟩
  go_wp2_with fail
  refine HK1.out _ _ ?_
  clear HK1
  refine wp_seq_k fun K2 hK2 => ?_
  have HK2 : Hid (∀ a w, _ → K2 a w) := hK2
  clear hK2
  by_cases hneg : par < 0
  · have hnI : ¬ (0 : Int) ≤ par := by omega
    have HPB : Hid (parB par = gen) := by show parB par = gen; unfold parB; rw [if_pos hneg]
    go_wp2_with fail
    all_goals try (exfalso; omega)
    refine HK2.out _ _ ?_
    clear HK2
    have hgo := @law_votes_on F V A L g x m ad co pe i idx c par w0 base k0 k1 k2 sl n cp Z Q
    rw [HPB.out] at hgo
    rw [HK26.out]
    refine hgo HF.out hi HBo.out HFu.out HCn.out HRel.out HMem.out HLin.out HPl.out HBl.out hi6 hc1 hc2 hpar4 HPar.out HCP.out hn256 HNo.out HZ.out HBZ.out ?_
    intros
    rename_i hI9
    exact HN.out _ _ _ _ _ _ _ _ _ _ _ _ _ _ _ _ _ _ _ _ _ _ _ _ _ _ _ _ _ _ _ _ _ _ _ _ _ _ _ _ _ _ _ _ _ _ _ _ _ _ _ _ _ _ _ _ _ _ _ _ _ _ _ _ _ _ _ _ _ _ _ _ _ _ _ _ _ _ _ _ _ _ _ _ _ _ _ _ _ _ _ _ _ _ _ _ _ _ _ _ _ _ _ _ _ _ _ _ _ _ _ _ _ _ _ _ _ _ _ _ _ _ _ _ _ _ _ _ _ _ _ _ _ _ _ _ _ _ _ _ _ _ _ _ _ _ _ _ _ _ _ _ _ _ _ _ _ _ _ _ _ _ _ _ _ _ _ _ _ _ _ _ _ _ _ _ _ _ _ _ _ _ _ _ _ _ _ hI9
  · have hnI : (0 : Int) ≤ par := by omega
    have HPB : Hid (parB par = nameB par.toNat) := by show parB par = nameB par.toNat; unfold parB; rw [if_neg hneg]
    have hname : ∀ w', Calls Ybaf.prog 5 #[.int .i64 par] w' fun e w'' => e = .returned (.string (nameB par.toNat)) ∧ w'' = w' := fun w' => by
      have h1 := name_ok par.toNat w'
      rwa [show ((par.toNat : Nat) : Int) = par by omega] at h1
    go_wp2_with fail
    all_goals try (exfalso; omega)
    refine (hname _).mono ?_
    rintro e w5 ⟨rfl, rfl⟩
    clear hname
    go_wp2_with fail
    refine HK2.out _ _ ?_
    clear HK2
    have hgo := @law_votes_on F V A L g x m ad co pe i idx c par w0 base k0 k1 k2 sl n cp Z Q
    rw [HPB.out] at hgo
    rw [HK26.out]
    refine hgo HF.out hi HBo.out HFu.out HCn.out HRel.out HMem.out HLin.out HPl.out HBl.out hi6 hc1 hc2 hpar4 HPar.out HCP.out hn256 HNo.out HZ.out HBZ.out ?_
    intros
    rename_i hI9
    exact HN.out _ _ _ _ _ _ _ _ _ _ _ _ _ _ _ _ _ _ _ _ _ _ _ _ _ _ _ _ _ _ _ _ _ _ _ _ _ _ _ _ _ _ _ _ _ _ _ _ _ _ _ _ _ _ _ _ _ _ _ _ _ _ _ _ _ _ _ _ _ _ _ _ _ _ _ _ _ _ _ _ _ _ _ _ _ _ _ _ _ _ _ _ _ _ _ _ _ _ _ _ _ _ _ _ _ _ _ _ _ _ _ _ _ _ _ _ _ _ _ _ _ _ _ _ _ _ _ _ _ _ _ _ _ _ _ _ _ _ _ _ _ _ _ _ _ _ _ _ _ _ _ _ _ _ _ _ _ _ _ _ _ _ _ _ _ _ _ _ _ _ _ _ _ _ _ _ _ _ _ _ _ _ _ _ _ _ _ hI9

set_option maxHeartbeats 12800000 in
theorem law_round (F : Interp) {V : VA} {A : SA} {L : Nat → Prop} {g : SG} {x : VG} {m : LM} {ad co pe i : Nat} {I C P : Int} {w0 base : World} {a : Addr} {N cap : Nat} {sl : Option Addr} {n cp : Nat} {Z : Nat → Int} {Q : Exit → Act → World → Prop}
    {c0 c1 c2 c3 c4 c5 c6 c7 c9 c11 c15 c16 c17 c18 c19 c20 c21 c22 c23 c24 c25 c26 c27 c28 c29 c30 c31 c32 c33 c34 c35 c36 c37 c38 c39 c40 c41 c42 c43 c44 c45 c46 c47 c48 c49 c50 c51 c52 c53 c54 c55 c56 c57 c58 c59 c60 c61 c62 c63 c64 c65 c66 c67 c68 c69 c70 c71 c73 c75 c76 c77 c78 c79 c80 c81 c82 c83 c84 c85 c86 c87 c88 c89 c90 c91 c92 c93 c94 c95 c96 c97 c98 c99 c100 c101 c102 c103 c104 c105 c106 c107 c108 c109 c110 c111 c112 c113 c114 c115 c116 c117 c118 c119 c120 c121 c122 c123 c124 c125 c126 c127 c128 c129 c130 c131 c132 c133 c134 c135 c136 c137 c138 c139 c140 c141 c142 c143 c144 c145 c146 c147 c148 c149 c150 c151 c152 c153 c154 c155 c156 c157 c158 c159 c160 c161 c162 c163 c164 c165 c166 c167 c168 c169 c170 c171 c172 c173 c174 c175 c176 c177 c178 c179 c180 c181 c182 c183 c184 c185 c186 c187 c188 c189 c190 c191 c192 c193 c194 c195 c196 c197 c198 c199 c200 c201 c202 c203 c204 c205 c206 c207 c208 c209 c210 c211 c212 c213 c214 c215 c216 c217 c218 c219 c220 c221 c222 c223 c224 c225 c226 c227 c228 c229 c230 c231 c232 c233 c234 c235 c236 c237 c238 c239 c240 c241 c242 c243 c244 c245 c246 c247 c248 c249 c250 c251 c252 c253 c254 c255 c256 c257 c258 c259 c260 c261 c262 c263 c264 c265 c266 c267 c268 c269 : Value}
    (hF : F.answers w0.tape) (hi : i ≤ 256)
    (hBo : Both V A L base g x) (hfu : x.ss.length = g.l.length) (hcn : x.cnt + lenV x.wo ≤ i) (hRel : Rel g m) (hMem : LawMem L w0.heap.size ad co pe m base) (hLin : ∀ k, k < w0.heap.size → L k) (hPl : ∀ k, (m.pend k).length ≤ 300 * i) (hBl : Below w0.heap.size w0 base)
    (hcp : n ≤ cp ∧ cp ≤ maxLen) (hn256 : n ≤ 256) (hno : sl = none → n = 0)
    (hz : ∀ a', sl = some a' → ∀ j, j < n → base.cell? (a'.add j) = some (.int .u8 (Z j)) ∧ (a'.add j).block < base.heap.size) (hbz : ∀ j, j < n → 0 ≤ Z j ∧ Z j ≤ 255)
    (hiN : i < N) (bi : 0 ≤ I ∧ I ≤ 255) (bc : -128 ≤ C ∧ C ≤ 127) (bp : 0 ≤ P ∧ P ≤ 255)
    (d0 : base.cell? (a.add (i * 4)) = some (.int .u8 I)) (d1 : base.cell? ⟨(a.add (i * 4)).block, (a.add (i * 4)).off + 1, none⟩ = some (.int .i8 C)) (d2 : base.cell? ⟨(a.add (i * 4)).block, (a.add (i * 4)).off + 2, none⟩ = some (.int .u8 P)) (d3 : base.cell? ⟨(a.add (i * 4)).block, (a.add (i * 4)).off + 3, none⟩ = some (.slice sl n cp))
    (hn : ∀ (u6 u16 u17 u18 u19 u20 u21 u22 u23 u25 u26 u27 u29 u31 u32 u34 u35 u76 u77 u78 u79 u80 u81 u82 u83 u84 u85 u86 u87 u88 u89 u90 u91 u92 u93 u94 u95 u96 u97 u98 u99 u100 u101 u102 u103 u104 u105 u106 u107 u108 u109 u110 u111 u112 u113 u114 u115 u116 u117 u118 u119 u120 u121 u122 u123 u124 u125 u126 u127 u128 u129 u130 u131 u132 u133 u134 u135 u136 u137 u138 u139 u140 u141 u142 u143 u144 u145 u146 u147 u148 u149 u150 u151 u152 u153 u154 u155 u156 u157 u158 u159 u160 u161 u162 u163 u164 u165 u166 u167 u168 u169 u170 u171 u172 u173 u174 u175 u176 u177 u178 u179 u180 u181 u182 u183 u184 u185 u186 u187 u188 u189 u190 u191 u192 u193 u194 u195 u196 u197 u198 u199 u200 u201 u202 u203 u204 u205 u206 u207 u208 u209 u210 u211 u212 u213 u214 u215 u216 u217 u218 u219 u220 u221 u222 u223 u224 u225 u226 u227 u228 u229 u230 u231 u232 u233 u234 u235 u236 u237 u238 u239 u240 u241 u242 u243 u244 u245 u246 u247 u248 u249 u250 u251 u252 u253 u254 u255 u256 u257 u258 u259 u260 u261 u262 u263 u264 u265 u266 u267 u268 : Value) (w' : World), LawInv V A w0 ad co pe (i + 1) w' → Q .normal ⟨List.toArray (c0 :: c1 :: c2 :: c3 :: c4 :: c5 :: u6 :: c7 :: .int .i64 A.ch :: c9 :: .pointer (some ⟨V.v, 0, none⟩) :: c11 :: .pointer (some ⟨ad, 0, none⟩) :: .pointer (some ⟨co, 0, none⟩) :: .pointer (some ⟨pe, 0, none⟩) :: c15 :: u16 :: u17 :: u18 :: u19 :: u20 :: u21 :: u22 :: u23 :: c24 :: u25 :: u26 :: u27 :: c28 :: u29 :: c30 :: u31 :: u32 :: c33 :: u34 :: u35 :: c36 :: c37 :: c38 :: c39 :: c40 :: c41 :: c42 :: c43 :: c44 :: c45 :: c46 :: c47 :: c48 :: c49 :: c50 :: c51 :: c52 :: c53 :: c54 :: c55 :: c56 :: c57 :: c58 :: c59 :: c60 :: c61 :: c62 :: c63 :: c64 :: c65 :: c66 :: c67 :: c68 :: c69 :: c70 :: c71 :: .slice (some a) N cap :: c73 :: .int .i64 i :: c75 :: u76 :: u77 :: u78 :: u79 :: u80 :: u81 :: u82 :: u83 :: u84 :: u85 :: u86 :: u87 :: u88 :: u89 :: u90 :: u91 :: u92 :: u93 :: u94 :: u95 :: u96 :: u97 :: u98 :: u99 :: u100 :: u101 :: u102 :: u103 :: u104 :: u105 :: u106 :: u107 :: u108 :: u109 :: u110 :: u111 :: u112 :: u113 :: u114 :: u115 :: u116 :: u117 :: u118 :: u119 :: u120 :: u121 :: u122 :: u123 :: u124 :: u125 :: u126 :: u127 :: u128 :: u129 :: u130 :: u131 :: u132 :: u133 :: u134 :: u135 :: u136 :: u137 :: u138 :: u139 :: u140 :: u141 :: u142 :: u143 :: u144 :: u145 :: u146 :: u147 :: u148 :: u149 :: u150 :: u151 :: u152 :: u153 :: u154 :: u155 :: u156 :: u157 :: u158 :: u159 :: u160 :: u161 :: u162 :: u163 :: u164 :: u165 :: u166 :: u167 :: u168 :: u169 :: u170 :: u171 :: u172 :: u173 :: u174 :: u175 :: u176 :: u177 :: u178 :: u179 :: u180 :: u181 :: u182 :: u183 :: u184 :: u185 :: u186 :: u187 :: u188 :: u189 :: u190 :: u191 :: u192 :: u193 :: u194 :: u195 :: u196 :: u197 :: u198 :: u199 :: u200 :: u201 :: u202 :: u203 :: u204 :: u205 :: u206 :: u207 :: u208 :: u209 :: u210 :: u211 :: u212 :: u213 :: u214 :: u215 :: u216 :: u217 :: u218 :: u219 :: u220 :: u221 :: u222 :: u223 :: u224 :: u225 :: u226 :: u227 :: u228 :: u229 :: u230 :: u231 :: u232 :: u233 :: u234 :: u235 :: u236 :: u237 :: u238 :: u239 :: u240 :: u241 :: u242 :: u243 :: u244 :: u245 :: u246 :: u247 :: u248 :: u249 :: u250 :: u251 :: u252 :: u253 :: u254 :: u255 :: u256 :: u257 :: u258 :: u259 :: u260 :: u261 :: u262 :: u263 :: u264 :: u265 :: u266 :: u267 :: u268 :: c269 :: []), []⟩ w') :
    Code.wp Ybaf.prog (rdT 0 Ybaf.f3) Q ⟨List.toArray (c0 :: c1 :: c2 :: c3 :: c4 :: c5 :: c6 :: c7 :: .int .i64 A.ch :: c9 :: .pointer (some ⟨V.v, 0, none⟩) :: c11 :: .pointer (some ⟨ad, 0, none⟩) :: .pointer (some ⟨co, 0, none⟩) :: .pointer (some ⟨pe, 0, none⟩) :: c15 :: c16 :: c17 :: c18 :: c19 :: c20 :: c21 :: c22 :: c23 :: c24 :: c25 :: c26 :: c27 :: c28 :: c29 :: c30 :: c31 :: c32 :: c33 :: c34 :: c35 :: c36 :: c37 :: c38 :: c39 :: c40 :: c41 :: c42 :: c43 :: c44 :: c45 :: c46 :: c47 :: c48 :: c49 :: c50 :: c51 :: c52 :: c53 :: c54 :: c55 :: c56 :: c57 :: c58 :: c59 :: c60 :: c61 :: c62 :: c63 :: c64 :: c65 :: c66 :: c67 :: c68 :: c69 :: c70 :: c71 :: .slice (some a) N cap :: c73 :: .int .i64 i :: c75 :: c76 :: c77 :: c78 :: c79 :: c80 :: c81 :: c82 :: c83 :: c84 :: c85 :: c86 :: c87 :: c88 :: c89 :: c90 :: c91 :: c92 :: c93 :: c94 :: c95 :: c96 :: c97 :: c98 :: c99 :: c100 :: c101 :: c102 :: c103 :: c104 :: c105 :: c106 :: c107 :: c108 :: c109 :: c110 :: c111 :: c112 :: c113 :: c114 :: c115 :: c116 :: c117 :: c118 :: c119 :: c120 :: c121 :: c122 :: c123 :: c124 :: c125 :: c126 :: c127 :: c128 :: c129 :: c130 :: c131 :: c132 :: c133 :: c134 :: c135 :: c136 :: c137 :: c138 :: c139 :: c140 :: c141 :: c142 :: c143 :: c144 :: c145 :: c146 :: c147 :: c148 :: c149 :: c150 :: c151 :: c152 :: c153 :: c154 :: c155 :: c156 :: c157 :: c158 :: c159 :: c160 :: c161 :: c162 :: c163 :: c164 :: c165 :: c166 :: c167 :: c168 :: c169 :: c170 :: c171 :: c172 :: c173 :: c174 :: c175 :: c176 :: c177 :: c178 :: c179 :: c180 :: c181 :: c182 :: c183 :: c184 :: c185 :: c186 :: c187 :: c188 :: c189 :: c190 :: c191 :: c192 :: c193 :: c194 :: c195 :: c196 :: c197 :: c198 :: c199 :: c200 :: c201 :: c202 :: c203 :: c204 :: c205 :: c206 :: c207 :: c208 :: c209 :: c210 :: c211 :: c212 :: c213 :: c214 :: c215 :: c216 :: c217 :: c218 :: c219 :: c220 :: c221 :: c222 :: c223 :: c224 :: c225 :: c226 :: c227 :: c228 :: c229 :: c230 :: c231 :: c232 :: c233 :: c234 :: c235 :: c236 :: c237 :: c238 :: c239 :: c240 :: c241 :: c242 :: c243 :: c244 :: c245 :: c246 :: c247 :: c248 :: c249 :: c250 :: c251 :: c252 :: c253 :: c254 :: c255 :: c256 :: c257 :: c258 :: c259 :: c260 :: c261 :: c262 :: c263 :: c264 :: c265 :: c266 :: c267 :: c268 :: c269 :: []), []⟩ base := by
  conv => arg 2; whnf
  have HN : Hid _ := hn
  have HF : Hid (F.answers w0.tape) := hF
  have HBo : Hid (Both V A L base g x) := hBo
  have HFu : Hid (x.ss.length = g.l.length) := hfu
  have HCn : Hid (x.cnt + lenV x.wo ≤ i) := hcn
  have HRel : Hid (Rel g m) := hRel
  have HMem : Hid (LawMem L w0.heap.size ad co pe m base) := hMem
  have HLin : Hid (∀ k, k < w0.heap.size → L k) := hLin
  have HPl : Hid (∀ k, (m.pend k).length ≤ 300 * i) := hPl
  have HBl : Hid (Below w0.heap.size w0 base) := hBl
  have HNo : Hid (sl = none → n = 0) := hno
  have HZ : Hid (∀ a', sl = some a' → ∀ j, j < n → base.cell? (a'.add j) = some (.int .u8 (Z j)) ∧ (a'.add j).block < base.heap.size) := hz
  have HBZ : Hid (∀ j, j < n → 0 ≤ Z j ∧ Z j ≤ 255) := hbz
  have HCP : Hid (n ≤ cp ∧ cp ≤ maxLen) := hcp
  clear hn hF hBo hfu hcn hRel hMem hLin hPl hBl hno hz hbz hcp
  obtain ⟨bi1, bi2⟩ := bi
  obtain ⟨bc1, bc2⟩ := bc
  obtain ⟨bp1, bp2⟩ := bp
  obtain ⟨idx, hidx⟩ : ∃ idx : Nat, I % 6 = idx := ⟨(I % 6).toNat, by omega⟩
  have hi6 : idx < 6 := by omega
  obtain ⟨pp, hpp⟩ : ∃ pp : Nat, P % 5 = pp := ⟨(P % 5).toNat, by omega⟩
  refine wp_seq_k fun K1 hK1 => ?_
  have HK1 : Hid (∀ a w, _ → K1 a w) := hK1
  clear hK1
  go_wp2_with fail
  refine HK1.out _ _ ?_
  clear HK1
  refine wp_seq_k fun K2 hK2 => ?_
  have HK2 : Hid (∀ a w, _ → K2 a w) := hK2
  clear hK2
  go_wp2_with fail
  refine HK2.out _ _ ?_
  clear HK2
  refine wp_seq_k fun K3 hK3 => ?_
  have HK3 : Hid (∀ a w, _ → K3 a w) := hK3
  clear hK3
  go_wp2_with fail
  refine HK3.out _ _ ?_
  clear HK3
  refine wp_seq_k fun K4 hK4 => ?_
  have HK4 : Hid (∀ a w, _ → K4 a w) := hK4
  clear hK4
  go_wp2_with fail
  refine HK4.out _ _ ?_
  clear HK4
  refine wp_seq_k fun K5 hK5 => ?_
  have HK5 : Hid (∀ a w, _ → K5 a w) := hK5
  clear hK5
  by_cases h4 : idx < 4
  · have h4I : (idx : Int) < 4 := by omega
    by_cases h5 : pp < idx
    · have h5I : (pp : Int) < (idx : Int) := by omega
      go_wp2_with fail
      all_goals try (exfalso; omega)
      refine HK5.out _ _ ?_
      clear HK5
      refine law_block_on F (par := (pp : Int)) HF.out hi HBo.out HFu.out HCn.out HRel.out HMem.out HLin.out HPl.out HBl.out hi6 (by omega) (by omega) (by omega) (fun _ => by omega) HCP.out hn256 HNo.out HZ.out HBZ.out ?_
      intros
      rename_i hI9
      exact HN.out _ _ _ _ _ _ _ _ _ _ _ _ _ _ _ _ _ _ _ _ _ _ _ _ _ _ _ _ _ _ _ _ _ _ _ _ _ _ _ _ _ _ _ _ _ _ _ _ _ _ _ _ _ _ _ _ _ _ _ _ _ _ _ _ _ _ _ _ _ _ _ _ _ _ _ _ _ _ _ _ _ _ _ _ _ _ _ _ _ _ _ _ _ _ _ _ _ _ _ _ _ _ _ _ _ _ _ _ _ _ _ _ _ _ _ _ _ _ _ _ _ _ _ _ _ _ _ _ _ _ _ _ _ _ _ _ _ _ _ _ _ _ _ _ _ _ _ _ _ _ _ _ _ _ _ _ _ _ _ _ _ _ _ _ _ _ _ _ _ _ _ _ _ _ _ _ _ _ _ _ _ _ _ _ _ _ _ _ _ _ _ _ _ _ _ _ _ _ _ _ _ _ _ _ _ _ _ _ _ _ _ hI9
    · have h5I : ¬ (pp : Int) < (idx : Int) := by omega
      go_wp2_with fail
      all_goals try (exfalso; omega)
      refine HK5.out _ _ ?_
      clear HK5
      refine law_block_on F (par := -1) HF.out hi HBo.out HFu.out HCn.out HRel.out HMem.out HLin.out HPl.out HBl.out hi6 (by omega) (by omega) (by omega) (fun _ => by omega) HCP.out hn256 HNo.out HZ.out HBZ.out ?_
      intros
      rename_i hI9
      exact HN.out _ _ _ _ _ _ _ _ _ _ _ _ _ _ _ _ _ _ _ _ _ _ _ _ _ _ _ _ _ _ _ _ _ _ _ _ _ _ _ _ _ _ _ _ _ _ _ _ _ _ _ _ _ _ _ _ _ _ _ _ _ _ _ _ _ _ _ _ _ _ _ _ _ _ _ _ _ _ _ _ _ _ _ _ _ _ _ _ _ _ _ _ _ _ _ _ _ _ _ _ _ _ _ _ _ _ _ _ _ _ _ _ _ _ _ _ _ _ _ _ _ _ _ _ _ _ _ _ _ _ _ _ _ _ _ _ _ _ _ _ _ _ _ _ _ _ _ _ _ _ _ _ _ _ _ _ _ _ _ _ _ _ _ _ _ _ _ _ _ _ _ _ _ _ _ _ _ _ _ _ _ _ _ _ _ _ _ _ _ _ _ _ _ _ _ _ _ _ _ _ _ _ _ _ _ _ _ _ _ _ _ hI9
  · have h4I : ¬ (idx : Int) < 4 := by omega
    go_wp2_with fail
    all_goals try (exfalso; omega)
    refine HK5.out _ _ ?_
    clear HK5
    refine law_block_on F (par := -1) HF.out hi HBo.out HFu.out HCn.out HRel.out HMem.out HLin.out HPl.out HBl.out hi6 (by omega) (by omega) (by omega) (fun _ => by omega) HCP.out hn256 HNo.out HZ.out HBZ.out ?_
    intros
    rename_i hI9
    exact HN.out _ _ _ _ _ _ _ _ _ _ _ _ _ _ _ _ _ _ _ _ _ _ _ _ _ _ _ _ _ _ _ _ _ _ _ _ _ _ _ _ _ _ _ _ _ _ _ _ _ _ _ _ _ _ _ _ _ _ _ _ _ _ _ _ _ _ _ _ _ _ _ _ _ _ _ _ _ _ _ _ _ _ _ _ _ _ _ _ _ _ _ _ _ _ _ _ _ _ _ _ _ _ _ _ _ _ _ _ _ _ _ _ _ _ _ _ _ _ _ _ _ _ _ _ _ _ _ _ _ _ _ _ _ _ _ _ _ _ _ _ _ _ _ _ _ _ _ _ _ _ _ _ _ _ _ _ _ _ _ _ _ _ _ _ _ _ _ _ _ _ _ _ _ _ _ _ _ _ _ _ _ _ _ _ _ _ _ _ _ _ _ _ _ _ _ _ _ _ _ _ _ _ _ _ _ _ _ _ _ _ _ hI9
end Go.Proofs.YbulkkeiFmt
