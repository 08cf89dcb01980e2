/-
  THE LAW (7): its look at the four ids: regions 73 to 77.
-/
import Derived.Test.YbulkkeiFmtLawCut
import Derived.Deep.CutRange
import Derived.BigQuiet
namespace Go.Proofs.YbulkkeiFmt
open Go.RowKit Go.Extern.Stop Go.Stop Go.Extern
set_option maxRecDepth 8000
attribute [local go_sem ↓] Go.wp_at_zero Go.wp_at_succ

theorem status_fix {V : VA} {A : SA} {L : Nat → Prop} {w : World} {g : SG} {x : VG} (h : Both V A L w g x) (hfull : x.ss.length = g.l.length) (k : Nat) :
    ∃ s : Int, (s == 0) = !(get g.es (nameB k)).isSome ∧ ∀ q, Calls Ybaf.prog 8 #[.pointer (some ⟨V.v, 0, none⟩), .string (nameB k)] (w.drewN q) fun e w' => e = .returned (.int .u8 s) ∧ w' = w.drewN q := by
  cases hk : get g.es (nameB k) with
  | none =>
    refine ⟨0, by simp, fun q => ?_⟩
    have h := (h.drewN q).both
    obtain ⟨Nv, _, _, h3⟩ := h.view
    exact Status_none h3.at_.cells.1 h.store.at_.cells.2.1 h.store.index (nameB k) hk
  | some v =>
    obtain ⟨i, r, rfl, h4, _⟩ := (h.store.plain.index _ v).1 hk
    have hi : i < x.ss.length := by rw [hfull]; exact (List.getElem?_eq_some_iff.1 h4).1
    have hsi : x.ss[i]? = some x.ss[i] := List.getElem?_eq_getElem hi
    refine ⟨x.ss[i], ?_, fun q => ?_⟩
    · obtain ⟨Nv, _, _, h3⟩ := h.view
      rcases h3.sts.two i _ hsi with e | e <;> rw [e] <;> rfl
    · have h := (h.drewN q).both
      obtain ⟨Nv, _, _, h3⟩ := h.view
      exact Status_some h3.at_.cells.1 h3.at_.cells.2.2.1 h3.srow h.store.at_.cells.2.1 h.store.index (nameB k) i _ hsi hk

theorem LawMem.drewN {L : Nat → Prop} {z ad co pe : Nat} {m : LM} {w : World} (h : LawMem L z ad co pe m w) (q : Nat) : LawMem L z ad co pe m (w.drewN q) := by
  obtain ⟨pv, h1, h2, h3⟩ := h.hPe
  exact ⟨h.hAd, h.hCo, ⟨pv, h1, fun k hk => ⟨(h2 k hk).1.same (fun _ _ => rfl), (h2 k hk).2⟩, h3⟩, h.inL, h.lo⟩

set_option maxHeartbeats 12800000 in
theorem law_check {V : VA} {A : SA} {w0 w : World} {ad co pe i : Nat} {Q : Exit → Act → World → Prop}
    {c0 c1 c2 c3 c4 c5 c6 c7 c8 c9 c11 c13 c14 c15 c16 c17 c18 c19 c20 c21 c22 c23 c24 c25 c26 c27 c28 c29 c30 c31 c32 c33 c34 c35 c36 c37 c38 c39 c40 c41 c42 c43 c44 c45 c46 c47 c48 c49 c50 c51 c52 c53 c54 c55 c56 c57 c58 c59 c60 c61 c62 c63 c64 c65 c66 c67 c68 c69 c70 c71 c72 c73 c74 c75 c76 c77 c78 c79 c80 c81 c82 c83 c84 c85 c86 c87 c88 c89 c90 c91 c92 c93 c94 c95 c96 c97 c98 c99 c100 c101 c102 c103 c104 c105 c106 c107 c108 c109 c110 c111 c112 c113 c114 c115 c116 c117 c118 c119 c120 c121 c122 c123 c124 c125 c126 c127 c128 c129 c130 c131 c132 c133 c134 c135 c136 c137 c138 c139 c140 c141 c142 c143 c144 c145 c146 c147 c148 c149 c150 c151 c152 c153 c154 c155 c156 c157 c158 c159 c160 c161 c162 c163 c164 c165 c166 c167 c168 c169 c170 c171 c172 c173 c174 c175 c176 c177 c178 c179 c180 c181 c182 c183 c184 c185 c186 c187 c188 c189 c190 c191 c192 c193 c194 c195 c196 c197 c198 c199 c200 c201 c202 c203 c204 c205 c206 c207 c208 c209 c210 c211 c212 c213 c214 c215 c216 c217 c218 c219 c220 c221 c222 c223 c224 c225 c226 c227 c228 c229 c230 c231 c232 c233 c234 c235 c236 c237 c238 c239 c240 c241 c242 c243 c244 c245 c246 c247 c248 c249 c250 c251 c252 c253 c254 c255 c256 c257 c258 c259 c260 c261 c262 c263 c264 c265 c266 c267 c268 c269 : Value}
    (hI : LawInv V A w0 ad co pe i w)
    (hn : ∀ (u6 u35 u256 u257 u258 u259 u260 u261 u262 u263 u264 u265 u266 u267 u268 : Value) (w' : World), LawInv V A w0 ad co pe i w' → Q .normal ⟨List.toArray (c0 :: c1 :: c2 :: c3 :: c4 :: c5 :: u6 :: c7 :: c8 :: c9 :: .pointer (some ⟨V.v, 0, none⟩) :: c11 :: .pointer (some ⟨ad, 0, none⟩) :: c13 :: c14 :: c15 :: c16 :: c17 :: c18 :: c19 :: c20 :: c21 :: c22 :: c23 :: c24 :: c25 :: c26 :: c27 :: c28 :: c29 :: c30 :: c31 :: c32 :: c33 :: c34 :: u35 :: c36 :: c37 :: c38 :: c39 :: c40 :: c41 :: c42 :: c43 :: c44 :: c45 :: c46 :: c47 :: c48 :: c49 :: c50 :: c51 :: c52 :: c53 :: c54 :: c55 :: c56 :: c57 :: c58 :: c59 :: c60 :: c61 :: c62 :: c63 :: c64 :: c65 :: c66 :: c67 :: c68 :: c69 :: c70 :: c71 :: c72 :: c73 :: c74 :: c75 :: c76 :: c77 :: c78 :: c79 :: c80 :: c81 :: c82 :: c83 :: c84 :: c85 :: c86 :: c87 :: c88 :: c89 :: c90 :: c91 :: c92 :: c93 :: c94 :: c95 :: c96 :: c97 :: c98 :: c99 :: c100 :: c101 :: c102 :: c103 :: c104 :: c105 :: c106 :: c107 :: c108 :: c109 :: c110 :: c111 :: c112 :: c113 :: c114 :: c115 :: c116 :: c117 :: c118 :: c119 :: c120 :: c121 :: c122 :: c123 :: c124 :: c125 :: c126 :: c127 :: c128 :: c129 :: c130 :: c131 :: c132 :: c133 :: c134 :: c135 :: c136 :: c137 :: c138 :: c139 :: c140 :: c141 :: c142 :: c143 :: c144 :: c145 :: c146 :: c147 :: c148 :: c149 :: c150 :: c151 :: c152 :: c153 :: c154 :: c155 :: c156 :: c157 :: c158 :: c159 :: c160 :: c161 :: c162 :: c163 :: c164 :: c165 :: c166 :: c167 :: c168 :: c169 :: c170 :: c171 :: c172 :: c173 :: c174 :: c175 :: c176 :: c177 :: c178 :: c179 :: c180 :: c181 :: c182 :: c183 :: c184 :: c185 :: c186 :: c187 :: c188 :: c189 :: c190 :: c191 :: c192 :: c193 :: c194 :: c195 :: c196 :: c197 :: c198 :: c199 :: c200 :: c201 :: c202 :: c203 :: c204 :: c205 :: c206 :: c207 :: c208 :: c209 :: c210 :: c211 :: c212 :: c213 :: c214 :: c215 :: c216 :: c217 :: c218 :: c219 :: c220 :: c221 :: c222 :: c223 :: c224 :: c225 :: c226 :: c227 :: c228 :: c229 :: c230 :: c231 :: c232 :: c233 :: c234 :: c235 :: c236 :: c237 :: c238 :: c239 :: c240 :: c241 :: c242 :: c243 :: c244 :: c245 :: c246 :: c247 :: c248 :: c249 :: c250 :: c251 :: c252 :: c253 :: c254 :: c255 :: u256 :: u257 :: u258 :: u259 :: u260 :: u261 :: u262 :: u263 :: u264 :: u265 :: u266 :: u267 :: u268 :: c269 :: []), []⟩ w') :
    Code.wp Ybaf.prog (rdT 16 Ybaf.f3) Q ⟨List.toArray (c0 :: c1 :: c2 :: c3 :: c4 :: c5 :: c6 :: c7 :: c8 :: c9 :: .pointer (some ⟨V.v, 0, none⟩) :: c11 :: .pointer (some ⟨ad, 0, none⟩) :: c13 :: c14 :: c15 :: c16 :: c17 :: c18 :: c19 :: c20 :: c21 :: c22 :: c23 :: c24 :: c25 :: c26 :: c27 :: c28 :: c29 :: c30 :: c31 :: c32 :: c33 :: c34 :: c35 :: c36 :: c37 :: c38 :: c39 :: c40 :: c41 :: c42 :: c43 :: c44 :: c45 :: c46 :: c47 :: c48 :: c49 :: c50 :: c51 :: c52 :: c53 :: c54 :: c55 :: c56 :: c57 :: c58 :: c59 :: c60 :: c61 :: c62 :: c63 :: c64 :: c65 :: c66 :: c67 :: c68 :: c69 :: c70 :: c71 :: c72 :: c73 :: c74 :: c75 :: c76 :: c77 :: c78 :: c79 :: c80 :: c81 :: c82 :: c83 :: c84 :: c85 :: c86 :: c87 :: c88 :: c89 :: c90 :: c91 :: c92 :: c93 :: c94 :: c95 :: c96 :: c97 :: c98 :: c99 :: c100 :: c101 :: c102 :: c103 :: c104 :: c105 :: c106 :: c107 :: c108 :: c109 :: c110 :: c111 :: c112 :: c113 :: c114 :: c115 :: c116 :: c117 :: c118 :: c119 :: c120 :: c121 :: c122 :: c123 :: c124 :: c125 :: c126 :: c127 :: c128 :: c129 :: c130 :: c131 :: c132 :: c133 :: c134 :: c135 :: c136 :: c137 :: c138 :: c139 :: c140 :: c141 :: c142 :: c143 :: c144 :: c145 :: c146 :: c147 :: c148 :: c149 :: c150 :: c151 :: c152 :: c153 :: c154 :: c155 :: c156 :: c157 :: c158 :: c159 :: c160 :: c161 :: c162 :: c163 :: c164 :: c165 :: c166 :: c167 :: c168 :: c169 :: c170 :: c171 :: c172 :: c173 :: c174 :: c175 :: c176 :: c177 :: c178 :: c179 :: c180 :: c181 :: c182 :: c183 :: c184 :: c185 :: c186 :: c187 :: c188 :: c189 :: c190 :: c191 :: c192 :: c193 :: c194 :: c195 :: c196 :: c197 :: c198 :: c199 :: c200 :: c201 :: c202 :: c203 :: c204 :: c205 :: c206 :: c207 :: c208 :: c209 :: c210 :: c211 :: c212 :: c213 :: c214 :: c215 :: c216 :: c217 :: c218 :: c219 :: c220 :: c221 :: c222 :: c223 :: c224 :: c225 :: c226 :: c227 :: c228 :: c229 :: c230 :: c231 :: c232 :: c233 :: c234 :: c235 :: c236 :: c237 :: c238 :: c239 :: c240 :: c241 :: c242 :: c243 :: c244 :: c245 :: c246 :: c247 :: c248 :: c249 :: c250 :: c251 :: c252 :: c253 :: c254 :: c255 :: c256 :: c257 :: c258 :: c259 :: c260 :: c261 :: c262 :: c263 :: c264 :: c265 :: c266 :: c267 :: c268 :: c269 :: []), []⟩ w := by
  conv => arg 2; whnf
  have HN : Hid _ := hn
  obtain ⟨L, g, x, m, hBo, hfu, hcn, hRel, hMem, hLin, hPl, hBl⟩ := hI
  have HI : Hid (∀ q, LawInv V A w0 ad co pe i (w.drewN q)) := fun q => ⟨L, g, x, m, (hBo.drewN q).both, hfu, hcn, hRel, hMem.drewN q, hLin, hPl, below_drewN hBl q⟩
  have HF : Hid (∀ k, k < 4 → ∃ s : Int, (s == 0) = !(m.added k) ∧ ∀ q, Calls Ybaf.prog 8 #[.pointer (some ⟨V.v, 0, none⟩), .string (nameB k)] (w.drewN q) fun e w' => e = .returned (.int .u8 s) ∧ w' = w.drewN q) := by
    intro k hk
    rw [hRel.known k hk]
    exact status_fix hBo hfu k
  have HA : Hid (∀ k, k < 4 → ∀ q, (w.drewN q).cell? ⟨ad, k, none⟩ = some (.bool (m.added k))) := fun k hk q => hMem.addCell hk
  clear hn hBo hfu hcn hRel hMem hLin hPl hBl
  go_wp2_with fail
  go_loopw [35] (fun s35 wx => ∃ j : Nat, s35 = .int .i64 j ∧ j ≤ 4 ∧ ∃ q, wx = w.drewN q) (fun s35 _ => 4 - (intOf s35).toNat)
  case atStart => exact ⟨0, rfl, by omega, 0, rfl⟩
  case round =>
    obtain ⟨j, rfl, hj, q, rfl⟩ := hrel
    by_cases hj4 : j < 4
    · have hjI : (j : Int) < 4 := by omega
      obtain ⟨s, hs, hst⟩ := HF.out j hj4
      have ha : ∀ n, ((w.drewN q).drewN n).cell? ⟨ad, j, none⟩ = some (.bool (m.added j)) := fun n => HA.out j hj4 n
      have hnm : ∀ n, Calls Ybaf.prog 5 #[.int .i64 (j : Int)] ((w.drewN q).drewN n) fun e w' => e = .returned (.string (nameB j)) ∧ w' = (w.drewN q).drewN n := fun n => name_ok j _
      have hst' : ∀ n, Calls Ybaf.prog 8 #[.pointer (some ⟨V.v, 0, none⟩), .string (nameB j)] ((w.drewN q).drewN n) fun e w' => e = .returned (.int .u8 s) ∧ w' = (w.drewN q).drewN n := fun n => by
        rw [World.drewN_drewN]
        exact hst (q + n)
      have HX : Hid (∀ n, ∃ q', (w.drewN q).drewN n = w.drewN q') := fun n => ⟨_, World.drewN_drewN _ _ _⟩
      clear hj hst
      generalize w.drewN q = wq at ha hnm hst' HX ⊢
      cases hm : m.added j with
      | true =>
        rw [hm] at hs
        simp only [hm] at ha
        clear hm
        simp only [Bool.not_true] at hs
        go_wp2_with fail
        all_goals try (exfalso; omega)
        go_quiet (first | (go_at_call 5; exact Calls.quiet_of_same (hnm _)) | (go_at_call 8; exact Calls.quiet_of_same (hst' _)))
        rename_i nq
        obtain ⟨q', hq'⟩ := HX.out nq
        rw [hq']
        clear hq' HX ha hst' hnm hs
        go_wp2_with fail
        go_roundw
        case rel => exact ⟨j + 1, by simp, by omega, _, rfl⟩
        case measure => simp [intOf]; omega
      | false =>
        rw [hm] at hs
        simp only [hm] at ha
        clear hm
        simp only [Bool.not_false] at hs
        go_wp2_with fail
        all_goals try (exfalso; omega)
        go_quiet (first | (go_at_call 5; exact Calls.quiet_of_same (hnm _)) | (go_at_call 8; exact Calls.quiet_of_same (hst' _)))
        rename_i nq
        obtain ⟨q', hq'⟩ := HX.out nq
        rw [hq']
        clear hq' HX ha hst' hnm hs
        go_wp2_with fail
        go_roundw
        case rel => exact ⟨j + 1, by simp, by omega, _, rfl⟩
        case measure => simp [intOf]; omega
    · have hjI : ¬ (j : Int) < 4 := by omega
      have hw' := HI.out q
      have HI2 : Hid (LawInv V A w0 ad co pe i (w.drewN q)) := hw'
      clear hw' hj HI HF HA
      go_wp2_with fail
      all_goals try (exfalso; omega)

      exact HN.out _ _ _ _ _ _ _ _ _ _ _ _ _ _ _ _ HI2.out
end Go.Proofs.YbulkkeiFmt
