/-
  sortPoints, loop 3: the counts of all three digits become places.
-/
import Derived.Test.Qxb6000070aModsPrefix
import Derived.Deep.Cut
namespace Go.Proofs.Qxb6000070aMods
open Go.RowKit

theorem size_row {ag : List Value} (h : ag.length = 2048) : (Trym.prog.info? 57).map (·.size) = some ag.length := by rw [h]; exact Trym.infoRow
theorem prefs_succ {nx nd : List Nat} {d : Nat} (h : prefs nx d = nd) : prefs nx (d + 1) = prefTo nd (d * 2048) 2048 := by rw [prefs, h]
/-- One digit's 2048 counts, as they are loaded. -/
def rowOf (nx : List Nat) (o : Nat) : List Value := ints .i64 ((nx.drop o).take 2048)
theorem rowOf_len (nx : List Nat) (d : Nat) (hd : d < 3) (h : nx.length = 6144) : (rowOf nx (d * 2048)).length = 2048 := by
  simp [rowOf, ints, h]; omega
theorem rowOf_get (nx : List Nat) (d k : Nat) (hd : d < 3) (h : nx.length = 6144) (hk : k < 2048) : (rowOf nx (d * 2048))[k]? = some (.int .i64 ((nx.getD (d * 2048 + k) 0 : Nat) : Int)) := by
  have h1 : d * 2048 + k < nx.length := by omega
  simp [rowOf, ints, hk, List.getElem?_drop, h1]
theorem rowOf_range {w : World} {N : Nat} {nx : List Nat} (r : Row w N 58 (ints .i64 nx)) (d : Nat) (hd : d < 3) (h : nx.length = 6144) : w.rangeAt N (d * 2048) (rowOf nx (d * 2048)) := by
  intro j v hv
  have hj : j < 2048 := by
    have := (List.getElem?_eq_some_iff.1 hv).1
    rw [rowOf_len nx d hd h] at this
    exact this
  rw [rowOf_get nx d j hd h hj] at hv
  rw [r.int (d * 2048 + j) (by omega)]
  exact hv

set_option maxHeartbeats 1000000 in
set_option maxRecDepth 1000000 in
theorem prefAll (N : Nat) (nx : List Nat) (c0 c1 c2 c3 c4 c6 c7 c8 c9 c10 c11 c12 c13 c14 c15 c16 c17 c18 c19 c20 c21 c22 c23 c24 c25 c26 c27 c28 c29 c30 c31 c32 c33 c34 c35 c36 c37 c38 c39 c40 c41 c42 c43 c44 c45 c46 c47 c48 c49 c50 c51 c52 c53 c54 c55 c56 c57 c58 c59 c60 c61 c62 c63 c64 c65 c66 c67 c68 c69 c70 c72 c73 c74 c75 c76 c77 c78 c79 c80 c81 c82 c83 c84 c85 c86 c87 c88 c89 c90 c91 c92 c93 c94 c95 c96 c97 c98 c99 c100 c101 c102 c103 c104 c105 c106 c107 c108 c109 c110 c111 c112 c113 c114 c115 c116 c117 c118 c119 c120 c121 c122 c123 c124 c125 c126 c127 c128 c129 c130 c131 c132 c133 c134 c135 c136 c137 c138 c139 c140 c141 c142 c143 c144 c145 c146 c147 c148 c149 c150 c151 c152 c153 c154 c155 c156 c157 c158 c159 c160 c161 c162 c163 c164 c165 c166 c167 c168 c169 c170 c171 c172 c173 c174 c175 c176 c177 c178 c179 c180 c181 c182 c183 c184 c185 c186 c187 c188 c189 c190 c191 c192 c193 c194 c195 c196 c197 c198 c199 c200 c201 c202 c203 c204 c205 c206 c207 c208 c209 c210 c211 c212 c213 c214 c215 c216 c217 c218 c219 c220 c221 c222 c223 c224 c225 c226 c227 c228 c229 c230 c231 c232 c233 c234 c235 c236 c237 c238 c239 c240 c241 c242 c243 c244 c245 c246 c247 c248 c249 c250 c251 c252 c253 c254 c255 c256 c257 c258 c259 c260 c261 c262 c263 c264 c265 c266 c267 c268 c269 c270 c271 c272 c273 : Value) (Q : Exit → Act → World → Prop) (w : World)
    (hN0 : nx.length = 6144) (rN : Row w N 58 (ints .i64 nx))
    (hb : ∀ d k, d < 3 → k ≤ 2048 → sumTo (prefs nx d) (d * 2048) k < 1000000)
    (hexit : ∀ (u9 u10 u11 u12 u71 u72 u73 u74 u75 u76 u77 u78 u79 u80 u81 u82 u83 u84 u85 u86 u87 u88 u89 u90 : Value) (w' : World), Row w' N 58 (ints .i64 (prefs nx 3)) → Kept [N] w w' → Q (.exit 4) ⟨List.toArray (c0 :: c1 :: c2 :: c3 :: c4 :: .pointer (some ⟨N, 0, none⟩) :: c6 :: c7 :: c8 :: u9 :: u10 :: u11 :: u12 :: c13 :: c14 :: c15 :: c16 :: c17 :: c18 :: c19 :: c20 :: c21 :: c22 :: c23 :: c24 :: c25 :: c26 :: c27 :: c28 :: c29 :: c30 :: c31 :: c32 :: c33 :: c34 :: c35 :: c36 :: c37 :: c38 :: c39 :: c40 :: c41 :: c42 :: c43 :: c44 :: c45 :: c46 :: c47 :: c48 :: c49 :: c50 :: c51 :: c52 :: c53 :: c54 :: c55 :: c56 :: c57 :: c58 :: c59 :: c60 :: c61 :: c62 :: c63 :: c64 :: c65 :: c66 :: c67 :: c68 :: c69 :: c70 :: u71 :: u72 :: u73 :: u74 :: u75 :: u76 :: u77 :: u78 :: u79 :: u80 :: u81 :: u82 :: u83 :: u84 :: u85 :: u86 :: u87 :: u88 :: u89 :: u90 :: c91 :: c92 :: c93 :: c94 :: c95 :: c96 :: c97 :: c98 :: c99 :: c100 :: c101 :: c102 :: c103 :: c104 :: c105 :: c106 :: c107 :: c108 :: c109 :: c110 :: c111 :: c112 :: c113 :: c114 :: c115 :: c116 :: c117 :: c118 :: c119 :: c120 :: c121 :: c122 :: c123 :: c124 :: c125 :: c126 :: c127 :: c128 :: c129 :: c130 :: c131 :: c132 :: c133 :: c134 :: c135 :: c136 :: c137 :: c138 :: c139 :: c140 :: c141 :: c142 :: c143 :: c144 :: c145 :: c146 :: c147 :: c148 :: c149 :: c150 :: c151 :: c152 :: c153 :: c154 :: c155 :: c156 :: c157 :: c158 :: c159 :: c160 :: c161 :: c162 :: c163 :: c164 :: c165 :: c166 :: c167 :: c168 :: c169 :: c170 :: c171 :: c172 :: c173 :: c174 :: c175 :: c176 :: c177 :: c178 :: c179 :: c180 :: c181 :: c182 :: c183 :: c184 :: c185 :: c186 :: c187 :: c188 :: c189 :: c190 :: c191 :: c192 :: c193 :: c194 :: c195 :: c196 :: c197 :: c198 :: c199 :: c200 :: c201 :: c202 :: c203 :: c204 :: c205 :: c206 :: c207 :: c208 :: c209 :: c210 :: c211 :: c212 :: c213 :: c214 :: c215 :: c216 :: c217 :: c218 :: c219 :: c220 :: c221 :: c222 :: c223 :: c224 :: c225 :: c226 :: c227 :: c228 :: c229 :: c230 :: c231 :: c232 :: c233 :: c234 :: c235 :: c236 :: c237 :: c238 :: c239 :: c240 :: c241 :: c242 :: c243 :: c244 :: c245 :: c246 :: c247 :: c248 :: c249 :: c250 :: c251 :: c252 :: c253 :: c254 :: c255 :: c256 :: c257 :: c258 :: c259 :: c260 :: c261 :: c262 :: c263 :: c264 :: c265 :: c266 :: c267 :: c268 :: c269 :: c270 :: c271 :: c272 :: c273 :: []), []⟩ w') :
    Code.wp Trym.prog (Code.loop (((Trym.f31.body.map loops).getD []).getD 2 .skip)) Q ⟨List.toArray (c0 :: c1 :: c2 :: c3 :: c4 :: .pointer (some ⟨N, 0, none⟩) :: c6 :: c7 :: c8 :: c9 :: c10 :: c11 :: c12 :: c13 :: c14 :: c15 :: c16 :: c17 :: c18 :: c19 :: c20 :: c21 :: c22 :: c23 :: c24 :: c25 :: c26 :: c27 :: c28 :: c29 :: c30 :: c31 :: c32 :: c33 :: c34 :: c35 :: c36 :: c37 :: c38 :: c39 :: c40 :: c41 :: c42 :: c43 :: c44 :: c45 :: c46 :: c47 :: c48 :: c49 :: c50 :: c51 :: c52 :: c53 :: c54 :: c55 :: c56 :: c57 :: c58 :: c59 :: c60 :: c61 :: c62 :: c63 :: c64 :: c65 :: c66 :: c67 :: c68 :: c69 :: c70 :: .int .i64 0 :: c72 :: c73 :: c74 :: c75 :: c76 :: c77 :: c78 :: c79 :: c80 :: c81 :: c82 :: c83 :: c84 :: c85 :: c86 :: c87 :: c88 :: c89 :: c90 :: c91 :: c92 :: c93 :: c94 :: c95 :: c96 :: c97 :: c98 :: c99 :: c100 :: c101 :: c102 :: c103 :: c104 :: c105 :: c106 :: c107 :: c108 :: c109 :: c110 :: c111 :: c112 :: c113 :: c114 :: c115 :: c116 :: c117 :: c118 :: c119 :: c120 :: c121 :: c122 :: c123 :: c124 :: c125 :: c126 :: c127 :: c128 :: c129 :: c130 :: c131 :: c132 :: c133 :: c134 :: c135 :: c136 :: c137 :: c138 :: c139 :: c140 :: c141 :: c142 :: c143 :: c144 :: c145 :: c146 :: c147 :: c148 :: c149 :: c150 :: c151 :: c152 :: c153 :: c154 :: c155 :: c156 :: c157 :: c158 :: c159 :: c160 :: c161 :: c162 :: c163 :: c164 :: c165 :: c166 :: c167 :: c168 :: c169 :: c170 :: c171 :: c172 :: c173 :: c174 :: c175 :: c176 :: c177 :: c178 :: c179 :: c180 :: c181 :: c182 :: c183 :: c184 :: c185 :: c186 :: c187 :: c188 :: c189 :: c190 :: c191 :: c192 :: c193 :: c194 :: c195 :: c196 :: c197 :: c198 :: c199 :: c200 :: c201 :: c202 :: c203 :: c204 :: c205 :: c206 :: c207 :: c208 :: c209 :: c210 :: c211 :: c212 :: c213 :: c214 :: c215 :: c216 :: c217 :: c218 :: c219 :: c220 :: c221 :: c222 :: c223 :: c224 :: c225 :: c226 :: c227 :: c228 :: c229 :: c230 :: c231 :: c232 :: c233 :: c234 :: c235 :: c236 :: c237 :: c238 :: c239 :: c240 :: c241 :: c242 :: c243 :: c244 :: c245 :: c246 :: c247 :: c248 :: c249 :: c250 :: c251 :: c252 :: c253 :: c254 :: c255 :: c256 :: c257 :: c258 :: c259 :: c260 :: c261 :: c262 :: c263 :: c264 :: c265 :: c266 :: c267 :: c268 :: c269 :: c270 :: c271 :: c272 :: c273 :: []), []⟩ w := by
  conv => arg 2; arg 1; whnf
  have HX := (show Hid _ from hexit)
  clear hexit
  go_loopw [71] (fun i wr => ∃ d : Nat, d ≤ 3 ∧ i = .int .i64 d ∧ Row wr N 58 (ints .i64 (prefs nx d)) ∧ Kept [N] w wr) (fun i _ => 3 - (intOf i).toNat)
  case atStart => exact ⟨0, Nat.zero_le _, rfl, rN, Kept.refl _ _⟩
  case round =>
    obtain ⟨d, hd, rfl, qN, hK⟩ := hrel
    by_cases hlt : d < 3
    · have hl : (prefs nx d).length = 6144 := by rw [prefs_len]; exact hN0
      have hrg := rowOf_range qN d hlt hl
      have hsz : (rowOf (prefs nx d) (d * 2048)).length = 2048 := rowOf_len _ d hlt hl
      have HR := (show Hid _ from hrg)
      have HZ := (show Hid _ from hsz)
      have hag : ∀ k, k < 2048 → (rowOf (prefs nx d) (d * 2048)).toArray[k]? = some (.int .i64 (((prefs nx d).getD (d * 2048 + k) 0 : Nat) : Int)) := fun k hk => by
        rw [List.getElem?_toArray]; exact rowOf_get _ d k hlt hl hk
      have HA := (show Hid _ from hag)
      have HB := (show Hid _ from fun k hk => hb d k hlt hk)
      have HN := (show Hid (Row wr N 58 (ints .i64 (prefs nx d))) from qN)
      have HK := (show Hid _ from hK)
      have HL := (show Hid _ from hl)
      clear qN hK hb hag rN hN0 hl hrg hsz
      generalize rowOf (prefs nx d) (d * 2048) = ag at *
      generalize hnd : prefs nx d = nd at *
      have HD : Hid (prefs nx d = nd) := hnd
      clear hnd
      go_wp2_with (refine wpList_load_mid rfl 57 (.tmp 75) rfl N (d * 2048) rfl ag (.array 2048 3) HR.out Trym.underlying57 rfl (size_row HZ.out) ?_)
      refine pref N d ag.toArray nd _ _ _ _ _ _ _ _ _ _ _ _ _ _ _ _ _ _ _ _ _ _ _ _ _ _ _ _ _ _ _ _ _ _ _ _ _ _ _ _ _ _ _ _ _ _ _ _ _ _ _ _ _ _ _ _ _ _ _ _ _ _ _ _ _ _ _ _ _ _ _ _ _ _ _ _ _ _ _ _ _ _ _ _ _ _ _ _ _ _ _ _ _ _ _ _ _ _ _ _ _ _ _ _ _ _ _ _ _ _ _ _ _ _ _ _ _ _ _ _ _ _ _ _ _ _ _ _ _ _ _ _ _ _ _ _ _ _ _ _ _ _ _ _ _ _ _ _ _ _ _ _ _ _ _ _ _ _ _ _ _ _ _ _ _ _ _ _ _ _ _ _ _ _ _ _ _ _ _ _ _ _ _ _ _ _ _ _ _ _ _ _ _ _ _ _ _ _ _ _ _ _ _ _ _ _ _ _ _ _ _ _ _ _ _ _ _ _ _ _ _ _ _ _ _ _ _ _ _ _ _ _ _ _ _ _ _ _ _ _ _ _ _ _ _ _ _ _ _ _ _ _ _ _ _ _ _ _ _ _ _ _ _ _ _ _ _ _ _ _ _ hlt HL.out HN.out HA.out HB.out ?_
      intro v10 v11 v12 v77 v78 v79 v80 v81 v82 v83 v84 v85 v86 v87 v88 v89 w1 qN1 hK1
      have HN1 := (show Hid (Row w1 N 58 (ints .i64 (prefTo nd (d * 2048) 2048))) from qN1)
      have HK1 := (show Hid _ from hK1)
      clear qN1 hK1
      go_wp2_with fail
      go_roundw
      case rel => exact ⟨d + 1, by omega, by go_num, by rw [prefs_succ HD.out]; exact HN1.out, HK.out.trans HK1.out⟩
      case measure => simp [intOf]; omega
    · have hkn : d = 3 := by omega
      subst hkn
      go_wp2_with fail
      exact HX.out _ _ _ _ _ _ _ _ _ _ _ _ _ _ _ _ _ _ _ _ _ _ _ _ _ qN hK

end Go.Proofs.Qxb6000070aMods
