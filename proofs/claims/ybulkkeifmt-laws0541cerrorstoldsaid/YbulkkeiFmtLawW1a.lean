/-
  THE LAW (2a): the selections and the votes are made: regions 33 to 38.
-/
import Derived.Test.YbulkkeiFmtLawCut
import Derived.Deep.CutRange
namespace Go.Proofs.YbulkkeiFmt
open Go.RowKit Go.Extern.Stop Go.Stop Go.Extern
set_option maxRecDepth 8000
attribute [local go_sem ↓] Go.wp_at_zero Go.wp_at_succ

set_option maxHeartbeats 12800000 in
theorem law_sel {base w : World} {k26 k42 : Array Value} {v22 v23 : Value} {sl : Option Addr} {n cp : Nat} {Z : Nat → Int} {Q : Exit → Act → World → Prop}
    {c0 c1 c2 c3 c4 c5 c6 c7 c8 c9 c10 c11 c12 c13 c14 c15 c16 c17 c18 c19 c20 c21 c24 c25 c26 c27 c28 c29 c30 c31 c32 c33 c34 c35 c36 c37 c38 c39 c40 c41 c42 c43 c44 c45 c46 c47 c48 c49 c50 c51 c52 c53 c54 c55 c56 c57 c58 c59 c60 c61 c62 c63 c64 c65 c66 c67 c68 c69 c70 c71 c72 c73 c74 c75 c76 c77 c78 c79 c80 c81 c82 c83 c84 c85 c86 c87 c88 c89 c90 c91 c92 c93 c94 c95 c96 c97 c98 c99 c100 c101 c102 c103 c104 c105 c106 c107 c108 c109 c110 c111 c112 c116 c117 c118 c119 c120 c121 c122 c123 c124 c125 c126 c127 c128 c129 c130 c131 c132 c133 c134 c135 c136 c137 c138 c139 c140 c141 c142 c143 c144 c145 c146 c147 c148 c149 c150 c151 c152 c153 c154 c155 c156 c157 c158 c159 c160 c161 c162 c163 c164 c165 c166 c167 c168 c169 c170 c171 c172 c173 c174 c175 c176 c177 c178 c179 c180 c181 c182 c183 c184 c185 c186 c187 c188 c189 c190 c191 c192 c193 c194 c195 c196 c197 c198 c199 c200 c201 c202 c203 c204 c205 c206 c207 c208 c209 c210 c211 c212 c213 c214 c215 c216 c217 c218 c219 c220 c221 c222 c223 c224 c225 c226 c227 c228 c229 c230 c231 c232 c233 c234 c235 c236 c237 c238 c239 c240 c241 c242 c243 c244 c245 c246 c247 c248 c249 c250 c251 c252 c253 c254 c255 c256 c257 c258 c259 c260 c261 c262 c263 c264 c265 c266 c267 c268 c269 : Value}
    (hSel : SelAt base k26 k42 [] [] v22 v23 w) (hcp : n ≤ cp ∧ cp ≤ maxLen) (hn256 : n ≤ 256) (hno : sl = none → n = 0)
    (hz : ∀ a', sl = some a' → ∀ j, j < n → base.cell? (a'.add j) = some (.int .u8 (Z j)) ∧ (a'.add j).block < base.heap.size) (hbz : ∀ j, j < n → 0 ≤ Z j ∧ Z j ≤ 255)
    (hK : ∀ (u22 u23 u25 u26 u115 u116 u117 u118 u119 u120 u121 u122 u123 u124 u125 u126 u127 u128 u129 u130 u131 : Value) (w' : World), SelAt base k26 k42 ((selOf Z n).map Int.ofNat) ((selOf Z n).map voteB) u22 u23 w' → Q (.exit 4) ⟨List.toArray (c0 :: c1 :: c2 :: c3 :: c4 :: c5 :: c6 :: c7 :: c8 :: c9 :: c10 :: c11 :: c12 :: c13 :: c14 :: c15 :: c16 :: c17 :: c18 :: c19 :: c20 :: c21 :: u22 :: u23 :: c24 :: u25 :: u26 :: c27 :: c28 :: c29 :: c30 :: c31 :: c32 :: c33 :: c34 :: c35 :: c36 :: c37 :: c38 :: c39 :: c40 :: c41 :: c42 :: c43 :: c44 :: c45 :: c46 :: c47 :: c48 :: c49 :: c50 :: c51 :: c52 :: c53 :: c54 :: c55 :: c56 :: c57 :: c58 :: c59 :: c60 :: c61 :: c62 :: c63 :: c64 :: c65 :: c66 :: c67 :: c68 :: c69 :: c70 :: c71 :: c72 :: c73 :: c74 :: c75 :: c76 :: c77 :: c78 :: c79 :: c80 :: c81 :: c82 :: c83 :: c84 :: c85 :: c86 :: c87 :: c88 :: c89 :: c90 :: c91 :: c92 :: c93 :: c94 :: c95 :: c96 :: c97 :: c98 :: c99 :: c100 :: c101 :: c102 :: c103 :: c104 :: c105 :: c106 :: c107 :: c108 :: c109 :: c110 :: c111 :: c112 :: .slice sl n cp :: .int .i64 n :: u115 :: u116 :: u117 :: u118 :: u119 :: u120 :: u121 :: u122 :: u123 :: u124 :: u125 :: u126 :: u127 :: u128 :: u129 :: u130 :: u131 :: c132 :: c133 :: c134 :: c135 :: c136 :: c137 :: c138 :: c139 :: c140 :: c141 :: c142 :: c143 :: c144 :: c145 :: c146 :: c147 :: c148 :: c149 :: c150 :: c151 :: c152 :: c153 :: c154 :: c155 :: c156 :: c157 :: c158 :: c159 :: c160 :: c161 :: c162 :: c163 :: c164 :: c165 :: c166 :: c167 :: c168 :: c169 :: c170 :: c171 :: c172 :: c173 :: c174 :: c175 :: c176 :: c177 :: c178 :: c179 :: c180 :: c181 :: c182 :: c183 :: c184 :: c185 :: c186 :: c187 :: c188 :: c189 :: c190 :: c191 :: c192 :: c193 :: c194 :: c195 :: c196 :: c197 :: c198 :: c199 :: c200 :: c201 :: c202 :: c203 :: c204 :: c205 :: c206 :: c207 :: c208 :: c209 :: c210 :: c211 :: c212 :: c213 :: c214 :: c215 :: c216 :: c217 :: c218 :: c219 :: c220 :: c221 :: c222 :: c223 :: c224 :: c225 :: c226 :: c227 :: c228 :: c229 :: c230 :: c231 :: c232 :: c233 :: c234 :: c235 :: c236 :: c237 :: c238 :: c239 :: c240 :: c241 :: c242 :: c243 :: c244 :: c245 :: c246 :: c247 :: c248 :: c249 :: c250 :: c251 :: c252 :: c253 :: c254 :: c255 :: c256 :: c257 :: c258 :: c259 :: c260 :: c261 :: c262 :: c263 :: c264 :: c265 :: c266 :: c267 :: c268 :: c269 :: []), []⟩ w') :
    Code.wp Ybaf.prog (cIn (cTl (cHd (rdT 9 Ybaf.f3)))) Q ⟨List.toArray (c0 :: c1 :: c2 :: c3 :: c4 :: c5 :: c6 :: c7 :: c8 :: c9 :: c10 :: c11 :: c12 :: c13 :: c14 :: c15 :: c16 :: c17 :: c18 :: c19 :: c20 :: c21 :: v22 :: v23 :: c24 :: c25 :: c26 :: c27 :: c28 :: c29 :: c30 :: c31 :: c32 :: c33 :: c34 :: c35 :: c36 :: c37 :: c38 :: c39 :: c40 :: c41 :: c42 :: c43 :: c44 :: c45 :: c46 :: c47 :: c48 :: c49 :: c50 :: c51 :: c52 :: c53 :: c54 :: c55 :: c56 :: c57 :: c58 :: c59 :: c60 :: c61 :: c62 :: c63 :: c64 :: c65 :: c66 :: c67 :: c68 :: c69 :: c70 :: c71 :: c72 :: c73 :: c74 :: c75 :: c76 :: c77 :: c78 :: c79 :: c80 :: c81 :: c82 :: c83 :: c84 :: c85 :: c86 :: c87 :: c88 :: c89 :: c90 :: c91 :: c92 :: c93 :: c94 :: c95 :: c96 :: c97 :: c98 :: c99 :: c100 :: c101 :: c102 :: c103 :: c104 :: c105 :: c106 :: c107 :: c108 :: c109 :: c110 :: c111 :: c112 :: .slice sl n cp :: .int .i64 n :: .int .i64 0 :: c116 :: c117 :: c118 :: c119 :: c120 :: c121 :: c122 :: c123 :: c124 :: c125 :: c126 :: c127 :: c128 :: c129 :: c130 :: c131 :: c132 :: c133 :: c134 :: c135 :: c136 :: c137 :: c138 :: c139 :: c140 :: c141 :: c142 :: c143 :: c144 :: c145 :: c146 :: c147 :: c148 :: c149 :: c150 :: c151 :: c152 :: c153 :: c154 :: c155 :: c156 :: c157 :: c158 :: c159 :: c160 :: c161 :: c162 :: c163 :: c164 :: c165 :: c166 :: c167 :: c168 :: c169 :: c170 :: c171 :: c172 :: c173 :: c174 :: c175 :: c176 :: c177 :: c178 :: c179 :: c180 :: c181 :: c182 :: c183 :: c184 :: c185 :: c186 :: c187 :: c188 :: c189 :: c190 :: c191 :: c192 :: c193 :: c194 :: c195 :: c196 :: c197 :: c198 :: c199 :: c200 :: c201 :: c202 :: c203 :: c204 :: c205 :: c206 :: c207 :: c208 :: c209 :: c210 :: c211 :: c212 :: c213 :: c214 :: c215 :: c216 :: c217 :: c218 :: c219 :: c220 :: c221 :: c222 :: c223 :: c224 :: c225 :: c226 :: c227 :: c228 :: c229 :: c230 :: c231 :: c232 :: c233 :: c234 :: c235 :: c236 :: c237 :: c238 :: c239 :: c240 :: c241 :: c242 :: c243 :: c244 :: c245 :: c246 :: c247 :: c248 :: c249 :: c250 :: c251 :: c252 :: c253 :: c254 :: c255 :: c256 :: c257 :: c258 :: c259 :: c260 :: c261 :: c262 :: c263 :: c264 :: c265 :: c266 :: c267 :: c268 :: c269 :: []), []⟩ w := by
  conv => arg 2; whnf
  have HK : Hid _ := hK
  have HSel : Hid (SelAt base k26 k42 [] [] v22 v23 w) := hSel
  have HNo : Hid (sl = none → n = 0) := hno
  have HZ : Hid (∀ a', sl = some a' → ∀ j, j < n → base.cell? (a'.add j) = some (.int .u8 (Z j)) ∧ (a'.add j).block < base.heap.size) := hz
  have HBZ : Hid (∀ j, j < n → 0 ≤ Z j ∧ Z j ≤ 255) := hbz
  obtain ⟨hcp1, hcp2⟩ := hcp
  clear hK hSel hno hz hbz hcp2
  go_loopw [22, 23, 115] (fun s22 s23 s115 wx => ∃ t : Nat, s115 = .int .i64 t ∧ t ≤ n ∧ SelAt base k26 k42 ((selOf Z t).map Int.ofNat) ((selOf Z t).map voteB) s22 s23 wx) (fun _ _ s115 _ => n - (intOf s115).toNat)
  case atStart => exact ⟨0, rfl, Nat.zero_le _, HSel.out⟩
  case round =>
    clear HSel
    obtain ⟨t, rfl, ht, hSel⟩ := hrel
    by_cases htn : t < n
    · obtain ⟨a', ha'⟩ : ∃ a', sl = some a' := by
        rcases Option.eq_none_or_eq_some sl with h | h
        · have := HNo.out h
          omega
        · exact h
      obtain ⟨hzc, hzb⟩ := HZ.out a' ha' t htn
      have d0 := (World.cell?_of_block (hSel.below.block _ hzb)).trans hzc
      subst ha'
      obtain ⟨bz1, bz2⟩ := HBZ.out t htn
      obtain ⟨o22, c22, hv22, _, _⟩ := ownsRow_slice hSel.r22.1
      obtain ⟨o23, c23, hv23, _, _⟩ := ownsRow_slice hSel.r23.1
      rw [List.length_map, selOf_len] at hv22 hv23
      subst hv22
      subst hv23
      have HSel : Hid (SelAt base k26 k42 ((selOf Z t).map Int.ofNat) ((selOf Z t).map voteB) (.slice o22 t c22) (.slice o23 t c23) wr) := hSel
      clear hSel hzc hzb
      have HSu : Hid (selOf Z (t + 1) = selOf Z t ++ [(Z t % 7).toNat]) := selOf_succ Z t
      have HLen : Hid ((selOf Z t).length = t) := selOf_len Z t
      generalize Z t = zt at d0 bz1 bz2 HSu
      obtain ⟨k, hk⟩ : ∃ k : Nat, zt % 7 = k := ⟨(zt % 7).toNat, by omega⟩
      have hk7 : k < 7 := by omega
      rw [hk, Int.toNat_natCast] at HSu
      generalize selOf Z t = st at HSel HSu HLen
      go_wp2_with ((at_builtin; refine Stop'.intro ?_))
      all_goals try (exfalso; omega)
      unfold Stop'
      have hr22 := HSel.out.r22
      rw [List.length_map, HLen.out] at hr22
      refine wpList_append_row _ rfl _ _ 43 rfl 3 Ybaf.t3 (.int .i64 0) 1 8 Ybaf.underlying43 (by kernel_rfl) rfl rfl rfl rfl (by decide) (N := noN) (fun k hk => hk.elim) (.slice o22 t c22) t (i64s (st.map Int.ofNat)) rfl (hr22.kept ((Fr.refl noN [] [] wr).alloc _) (by simp)) ⟨wr.heap.size, 0, none⟩ 1 1 [.int .i64 k] rfl rfl (news_alloc wr _ _) (by simp [Value.oneCell']) (by simp [maxLen]; omega) (by omega) ?_
      clear hr22
      intro v' w2 hGr
      obtain ⟨o2, c2, hv', _, _⟩ := ownsRow_slice hGr.row.1
      have HSel2 : Hid (SelAt base k26 k42 (st.map Int.ofNat ++ [(k : Int)]) (st.map voteB) v' (.slice o23 t c23) w2) := by
        have hG' : Grew noN 3 1 (.int .i64 0) (.slice o22 t c22) (st.map Int.ofNat).length 1 (i64s (st.map Int.ofNat)) [.int .i64 k] (wr.alloc (.cells [Value.int .i64 (k : Int)].toArray 3)) v' w2 := by
          rw [List.length_map, HLen.out]
          exact hGr
        exact HSel.out.push22 (k : Int) hG'
      subst hv'
      clear hGr d0
      have hvote := vote_ok k hk7 w2
      go_wp2_with fail
      refine hvote.mono ?_
      rintro e w3 ⟨rfl, rfl⟩
      clear hvote
      go_wp2_with ((at_builtin; refine Stop'.intro ?_))
      all_goals try (exfalso; omega)
      unfold Stop'
      have hr23 := HSel2.out.r23
      rw [List.length_map, HLen.out] at hr23
      refine wpList_append_row _ rfl _ _ 40 rfl 9 Ybaf.t9 (.string ⟨#[]⟩) 1 16 Ybaf.underlying40 (by kernel_rfl) rfl rfl rfl rfl (by decide) (N := noN) (fun k hk => hk.elim) (.slice o23 t c23) t (strs (st.map voteB)) rfl (hr23.kept ((Fr.refl noN [] [] w3).alloc _) (by simp)) ⟨w3.heap.size, 0, none⟩ 1 1 [.string (voteB k)] rfl rfl (news_alloc w3 _ _) (by simp [Value.oneCell']) (by simp [maxLen]; omega) (by omega) ?_
      clear hr23
      intro v' w4 hGr
      obtain ⟨o4, c4, hv', _, _⟩ := ownsRow_slice hGr.row.1
      have HSel4 : Hid (SelAt base k26 k42 ((st ++ [k]).map Int.ofNat) ((st ++ [k]).map voteB) (.slice o2 (t + 1) c2) v' w4) := by
        have hG' : Grew noN 9 1 (.string ⟨#[]⟩) (.slice o23 t c23) (st.map voteB).length 1 (strs (st.map voteB)) [.string (voteB k)] (w3.alloc (.cells [Value.string (voteB k)].toArray 9)) v' w4 := by
          rw [List.length_map, HLen.out]
          exact hGr
        have := HSel2.out.push23 (voteB k) hG'
        simp only [List.map_append]
        exact this
      subst hv'
      clear hGr HSel HSel2
      go_wp2_with fail
      all_goals try (exfalso; omega)
      go_roundw
      case rel => exact ⟨t + 1, by simp, by omega, by rw [HSu.out]; exact HSel4.out⟩
      case measure => simp [intOf]; omega
    · have ht2 : t = n := by omega
      have HE : Hid (∀ u22 u23 w', SelAt base k26 k42 ((selOf Z t).map Int.ofNat) ((selOf Z t).map voteB) u22 u23 w' → SelAt base k26 k42 ((selOf Z n).map Int.ofNat) ((selOf Z n).map voteB) u22 u23 w') := fun _ _ _ h => by rwa [ht2] at h
      have htI : ¬ ((t : Int) < (n : Int)) := by omega
      have HSel := HE.out _ _ _ hSel
      have HSel2 : Hid (SelAt base k26 k42 ((selOf Z n).map Int.ofNat) ((selOf Z n).map voteB) _ _ wr) := HSel
      clear ht2 hSel HSel HE
      go_wp2_with fail
      all_goals try (exfalso; omega)
      exact HK.out _ _ _ _ _ _ _ _ _ _ _ _ _ _ _ _ _ _ _ _ _ _ HSel2.out
end Go.Proofs.YbulkkeiFmt
