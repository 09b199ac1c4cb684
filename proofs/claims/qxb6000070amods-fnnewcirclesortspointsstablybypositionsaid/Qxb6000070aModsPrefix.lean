/-
  sortPoints, loop 4: the counts of one digit become places.
-/
import Derived.Test.Qxb6000070aModsPlain
namespace Go.Proofs.Qxb6000070aMods
open Go.RowKit

theorem run_index_row (ag : Array Value) (k : Nat) (v : Value) (hk : k < 2048) (hv : ag[k]? = some v) (w : World) :
    (Instr.index 57 (.agg ag) (.int .i64 (k : Int))).run Trym.prog w = .ok v w := by
  obtain ⟨i, h1, h2, h3, h4⟩ := info_parts Trym.infoInt
  simp [Instr.index, asIntOf, run_underlying Trym.underlying57, run_underlying Trym.underlying3, part, isAgg, sizeOf, typeInfo, h1, h3, hv]
  intro h
  omega

set_option maxHeartbeats 1000000 in
set_option maxRecDepth 1000000 in
theorem pref (N d : Nat) (ag : Array Value) (nx : List Nat) (c0 c1 c2 c3 c4 c6 c7 c8 c11 c12 c13 c14 c15 c16 c17 c18 c19 c20 c21 c22 c23 c24 c25 c26 c27 c28 c29 c30 c31 c32 c33 c34 c35 c36 c37 c38 c39 c40 c41 c42 c43 c44 c45 c46 c47 c48 c49 c50 c51 c52 c53 c54 c55 c56 c57 c58 c59 c60 c61 c62 c63 c64 c65 c66 c67 c68 c69 c70 c71 c72 c73 c74 c75 c78 c79 c80 c81 c82 c83 c84 c85 c86 c87 c88 c89 c90 c91 c92 c93 c94 c95 c96 c97 c98 c99 c100 c101 c102 c103 c104 c105 c106 c107 c108 c109 c110 c111 c112 c113 c114 c115 c116 c117 c118 c119 c120 c121 c122 c123 c124 c125 c126 c127 c128 c129 c130 c131 c132 c133 c134 c135 c136 c137 c138 c139 c140 c141 c142 c143 c144 c145 c146 c147 c148 c149 c150 c151 c152 c153 c154 c155 c156 c157 c158 c159 c160 c161 c162 c163 c164 c165 c166 c167 c168 c169 c170 c171 c172 c173 c174 c175 c176 c177 c178 c179 c180 c181 c182 c183 c184 c185 c186 c187 c188 c189 c190 c191 c192 c193 c194 c195 c196 c197 c198 c199 c200 c201 c202 c203 c204 c205 c206 c207 c208 c209 c210 c211 c212 c213 c214 c215 c216 c217 c218 c219 c220 c221 c222 c223 c224 c225 c226 c227 c228 c229 c230 c231 c232 c233 c234 c235 c236 c237 c238 c239 c240 c241 c242 c243 c244 c245 c246 c247 c248 c249 c250 c251 c252 c253 c254 c255 c256 c257 c258 c259 c260 c261 c262 c263 c264 c265 c266 c267 c268 c269 c270 c271 c272 c273 : Value) (Q : Exit → Act → World → Prop) (w : World)
    (hd : d < 3) (hN0 : nx.length = 6144) (rN : Row w N 58 (ints .i64 nx)) (hag : ∀ k, k < 2048 → ag[k]? = some (.int .i64 ((nx.getD (d * 2048 + k) 0 : Nat) : Int)))
    (hb : ∀ k, k ≤ 2048 → sumTo nx (d * 2048) k < 1000000)
    (hexit : ∀ (u10 u11 u12 u77 u78 u79 u80 u81 u82 u83 u84 u85 u86 u87 u88 u89 : Value) (w' : World), Row w' N 58 (ints .i64 (prefTo nx (d * 2048) 2048)) → Kept [N] w w' → Q (.exit 6) ⟨List.toArray (c0 :: c1 :: c2 :: c3 :: c4 :: .pointer (some ⟨N, 0, none⟩) :: c6 :: c7 :: c8 :: .int .i64 d :: u10 :: u11 :: u12 :: c13 :: c14 :: c15 :: c16 :: c17 :: c18 :: c19 :: c20 :: c21 :: c22 :: c23 :: c24 :: c25 :: c26 :: c27 :: c28 :: c29 :: c30 :: c31 :: c32 :: c33 :: c34 :: c35 :: c36 :: c37 :: c38 :: c39 :: c40 :: c41 :: c42 :: c43 :: c44 :: c45 :: c46 :: c47 :: c48 :: c49 :: c50 :: c51 :: c52 :: c53 :: c54 :: c55 :: c56 :: c57 :: c58 :: c59 :: c60 :: c61 :: c62 :: c63 :: c64 :: c65 :: c66 :: c67 :: c68 :: c69 :: c70 :: c71 :: c72 :: c73 :: c74 :: c75 :: .agg ag :: u77 :: u78 :: u79 :: u80 :: u81 :: u82 :: u83 :: u84 :: u85 :: u86 :: u87 :: u88 :: u89 :: c90 :: c91 :: c92 :: c93 :: c94 :: c95 :: c96 :: c97 :: c98 :: c99 :: c100 :: c101 :: c102 :: c103 :: c104 :: c105 :: c106 :: c107 :: c108 :: c109 :: c110 :: c111 :: c112 :: c113 :: c114 :: c115 :: c116 :: c117 :: c118 :: c119 :: c120 :: c121 :: c122 :: c123 :: c124 :: c125 :: c126 :: c127 :: c128 :: c129 :: c130 :: c131 :: c132 :: c133 :: c134 :: c135 :: c136 :: c137 :: c138 :: c139 :: c140 :: c141 :: c142 :: c143 :: c144 :: c145 :: c146 :: c147 :: c148 :: c149 :: c150 :: c151 :: c152 :: c153 :: c154 :: c155 :: c156 :: c157 :: c158 :: c159 :: c160 :: c161 :: c162 :: c163 :: c164 :: c165 :: c166 :: c167 :: c168 :: c169 :: c170 :: c171 :: c172 :: c173 :: c174 :: c175 :: c176 :: c177 :: c178 :: c179 :: c180 :: c181 :: c182 :: c183 :: c184 :: c185 :: c186 :: c187 :: c188 :: c189 :: c190 :: c191 :: c192 :: c193 :: c194 :: c195 :: c196 :: c197 :: c198 :: c199 :: c200 :: c201 :: c202 :: c203 :: c204 :: c205 :: c206 :: c207 :: c208 :: c209 :: c210 :: c211 :: c212 :: c213 :: c214 :: c215 :: c216 :: c217 :: c218 :: c219 :: c220 :: c221 :: c222 :: c223 :: c224 :: c225 :: c226 :: c227 :: c228 :: c229 :: c230 :: c231 :: c232 :: c233 :: c234 :: c235 :: c236 :: c237 :: c238 :: c239 :: c240 :: c241 :: c242 :: c243 :: c244 :: c245 :: c246 :: c247 :: c248 :: c249 :: c250 :: c251 :: c252 :: c253 :: c254 :: c255 :: c256 :: c257 :: c258 :: c259 :: c260 :: c261 :: c262 :: c263 :: c264 :: c265 :: c266 :: c267 :: c268 :: c269 :: c270 :: c271 :: c272 :: c273 :: []), []⟩ w') :
    Code.wp Trym.prog (Code.loop (((Trym.f31.body.map loops).getD []).getD 3 .skip)) Q ⟨List.toArray (c0 :: c1 :: c2 :: c3 :: c4 :: .pointer (some ⟨N, 0, none⟩) :: c6 :: c7 :: c8 :: .int .i64 d :: .int .i64 0 :: c11 :: c12 :: c13 :: c14 :: c15 :: c16 :: c17 :: c18 :: c19 :: c20 :: c21 :: c22 :: c23 :: c24 :: c25 :: c26 :: c27 :: c28 :: c29 :: c30 :: c31 :: c32 :: c33 :: c34 :: c35 :: c36 :: c37 :: c38 :: c39 :: c40 :: c41 :: c42 :: c43 :: c44 :: c45 :: c46 :: c47 :: c48 :: c49 :: c50 :: c51 :: c52 :: c53 :: c54 :: c55 :: c56 :: c57 :: c58 :: c59 :: c60 :: c61 :: c62 :: c63 :: c64 :: c65 :: c66 :: c67 :: c68 :: c69 :: c70 :: c71 :: c72 :: c73 :: c74 :: c75 :: .agg ag :: .int .i64 0 :: c78 :: c79 :: c80 :: c81 :: c82 :: c83 :: c84 :: c85 :: c86 :: c87 :: c88 :: c89 :: c90 :: c91 :: c92 :: c93 :: c94 :: c95 :: c96 :: c97 :: c98 :: c99 :: c100 :: c101 :: c102 :: c103 :: c104 :: c105 :: c106 :: c107 :: c108 :: c109 :: c110 :: c111 :: c112 :: c113 :: c114 :: c115 :: c116 :: c117 :: c118 :: c119 :: c120 :: c121 :: c122 :: c123 :: c124 :: c125 :: c126 :: c127 :: c128 :: c129 :: c130 :: c131 :: c132 :: c133 :: c134 :: c135 :: c136 :: c137 :: c138 :: c139 :: c140 :: c141 :: c142 :: c143 :: c144 :: c145 :: c146 :: c147 :: c148 :: c149 :: c150 :: c151 :: c152 :: c153 :: c154 :: c155 :: c156 :: c157 :: c158 :: c159 :: c160 :: c161 :: c162 :: c163 :: c164 :: c165 :: c166 :: c167 :: c168 :: c169 :: c170 :: c171 :: c172 :: c173 :: c174 :: c175 :: c176 :: c177 :: c178 :: c179 :: c180 :: c181 :: c182 :: c183 :: c184 :: c185 :: c186 :: c187 :: c188 :: c189 :: c190 :: c191 :: c192 :: c193 :: c194 :: c195 :: c196 :: c197 :: c198 :: c199 :: c200 :: c201 :: c202 :: c203 :: c204 :: c205 :: c206 :: c207 :: c208 :: c209 :: c210 :: c211 :: c212 :: c213 :: c214 :: c215 :: c216 :: c217 :: c218 :: c219 :: c220 :: c221 :: c222 :: c223 :: c224 :: c225 :: c226 :: c227 :: c228 :: c229 :: c230 :: c231 :: c232 :: c233 :: c234 :: c235 :: c236 :: c237 :: c238 :: c239 :: c240 :: c241 :: c242 :: c243 :: c244 :: c245 :: c246 :: c247 :: c248 :: c249 :: c250 :: c251 :: c252 :: c253 :: c254 :: c255 :: c256 :: c257 :: c258 :: c259 :: c260 :: c261 :: c262 :: c263 :: c264 :: c265 :: c266 :: c267 :: c268 :: c269 :: c270 :: c271 :: c272 :: c273 :: []), []⟩ w := by
  conv => arg 2; arg 1; whnf
  have HX := (show Hid _ from hexit)
  clear hexit
  go_loopw [77, 10] (fun i s wr => ∃ k : Nat, k ≤ 2048 ∧ i = .int .i64 k ∧ s = .int .i64 ((sumTo nx (d * 2048) k : Nat) : Int) ∧ Row wr N 58 (ints .i64 (prefTo nx (d * 2048) k)) ∧ Kept [N] w wr) (fun i _ _ => 2048 - (intOf i).toNat)
  case atStart => exact ⟨0, Nat.zero_le _, rfl, rfl, rN, Kept.refl _ _⟩
  case round =>
    obtain ⟨k, hk, rfl, rfl, qN, hK⟩ := hrel
    by_cases hlt : k < 2048
    · have hl := prefTo_len nx (d * 2048) k
      have g := qN.int (d * 2048 + k) (by omega)
      have gf := qN.free (d * 2048 + k)
      have hx := run_index_row ag k _ hlt (hag k hlt)
      have hb1 := hb k (by omega)
      have hb2 : sumTo nx (d * 2048) k + nx.getD (d * 2048 + k) 0 < 1000000 := hb (k + 1) (by omega)
      have HS : Hid (sumTo nx (d * 2048) (k + 1) = sumTo nx (d * 2048) k + nx.getD (d * 2048 + k) 0) := rfl
      have HQ : Hid (prefTo nx (d * 2048) (k + 1) = (prefTo nx (d * 2048) k).set (d * 2048 + k) (sumTo nx (d * 2048) k)) := rfl
      have HN := (show Hid _ from qN)
      have HK := (show Hid _ from hK)
      clear qN hK hb hag rN hN0 hl
      generalize sumTo nx (d * 2048) k = s at *
      generalize nx.getD (d * 2048 + k) 0 = c at *
      go_wp2_with fail
      go_roundw
      case rel =>
        refine ⟨k + 1, by omega, by go_num, ?_, ?_, HK.out.setCell (.inr (by simp)) _⟩
        · rw [HS.out]; go_num
        · rw [HQ.out]
          exact Row.setInt HN.out (d * 2048 + k) s
      case measure => simp [intOf]; omega
    · have hkn : k = 2048 := by omega
      subst hkn
      go_wp2_with fail
      exact HX.out _ _ _ _ _ _ _ _ _ _ _ _ _ _ _ _ _ qN hK

end Go.Proofs.Qxb6000070aMods
