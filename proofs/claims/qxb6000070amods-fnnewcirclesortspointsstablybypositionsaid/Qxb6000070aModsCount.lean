/-
  sortPoints, loops 1 and 2: the counts.
-/
import Derived.Test.Qxb6000070aModsPlain
import Derived.RegionTactic
import Derived.BigRegion
import Derived.Deep.DrawnRows
import Derived.Deep.RegionHeld3
import Derived.LoopN
import Derived.StillTailTactics
namespace Go.Proofs.Qxb6000070aMods
open Go.RowKit
attribute [local go_sem ↓] Go.wp_at_zero Go.wp_at_succ

set_option maxHeartbeats 2000000 in
set_option maxRecDepth 1000000 in
theorem count (P N n cp : Nat) (ap : Option Addr) (A nx0 : List Nat) (c0 c1 c2 c3 c6 c7 c8 c9 c10 c11 c12 c13 c14 c15 c16 c17 c18 c19 c20 c21 c22 c23 c24 c25 c26 c27 c28 c29 c30 c31 c32 c33 c34 c38 c39 c40 c41 c42 c43 c44 c45 c46 c47 c48 c49 c50 c51 c52 c53 c54 c55 c56 c57 c58 c59 c60 c61 c62 c63 c64 c65 c66 c67 c68 c69 c70 c71 c72 c73 c74 c75 c76 c77 c78 c79 c80 c81 c82 c83 c84 c85 c86 c87 c88 c89 c90 c91 c92 c93 c94 c95 c96 c97 c98 c99 c100 c101 c102 c103 c104 c105 c106 c107 c108 c109 c110 c111 c112 c113 c114 c115 c116 c117 c118 c119 c120 c121 c122 c123 c124 c125 c126 c127 c128 c129 c130 c131 c132 c133 c134 c135 c136 c137 c138 c139 c140 c141 c142 c143 c144 c145 c146 c147 c148 c149 c150 c151 c152 c153 c154 c155 c156 c157 c158 c159 c160 c161 c162 c163 c164 c165 c166 c167 c168 c169 c170 c171 c172 c173 c174 c175 c176 c177 c178 c179 c180 c181 c182 c183 c184 c185 c186 c187 c188 c189 c190 c191 c192 c193 c194 c195 c196 c197 c198 c199 c200 c201 c202 c203 c204 c205 c206 c207 c208 c209 c210 c211 c212 c213 c214 c215 c216 c217 c218 c219 c220 c221 c222 c223 c224 c225 c226 c227 c228 c229 c230 c231 c232 c233 c234 c235 c236 c237 c238 c239 c240 c241 c242 c243 c244 c245 c246 c247 c248 c249 c250 c251 c252 c253 c254 c255 c256 c257 c258 c259 c260 c261 c262 c263 c264 c265 c266 c267 c268 c269 c270 c271 c272 c273 : Value) (Q : Exit → Act → World → Prop) (w : World)
    (hA : A.length = n) (hn : n < 131074) (hN0 : nx0.length = 6144) (hap : 0 < n → ap = some ⟨P, 0, none⟩) (h64 : ∀ p ∈ A, p < 18446744073709551616)
    (rP : 0 < n → Row w P 44 (ints .u64 A)) (rN : Row w N 58 (ints .i64 nx0))
    (nPN : P ≠ N) (hidx : ∀ k j, k < n → (countTo A nx0 k).getD j 0 ≤ k)
    (hexit : ∀ (u7 u8 u37 u38 u39 u40 u41 u42 u43 u44 u45 u46 u47 u48 u49 u50 u51 u52 u53 u54 u55 u56 u57 u58 u59 u60 u61 u62 u63 u64 u65 u66 u67 u68 u69 u70 : Value) (w' : World), Row w' N 58 (ints .i64 (countTo A nx0 n)) → Kept [N] w w' → Q (.exit 0) ⟨List.toArray (c0 :: c1 :: c2 :: c3 :: .bool false :: .pointer (some ⟨N, 0, none⟩) :: c6 :: u7 :: u8 :: c9 :: c10 :: c11 :: c12 :: c13 :: c14 :: c15 :: c16 :: c17 :: c18 :: c19 :: c20 :: c21 :: c22 :: c23 :: c24 :: c25 :: c26 :: c27 :: c28 :: c29 :: c30 :: c31 :: c32 :: c33 :: c34 :: .slice ap n cp :: .int .i64 n :: u37 :: u38 :: u39 :: u40 :: u41 :: u42 :: u43 :: u44 :: u45 :: u46 :: u47 :: u48 :: u49 :: u50 :: u51 :: u52 :: u53 :: u54 :: u55 :: u56 :: u57 :: u58 :: u59 :: u60 :: u61 :: u62 :: u63 :: u64 :: u65 :: u66 :: u67 :: u68 :: u69 :: u70 :: c71 :: c72 :: c73 :: c74 :: c75 :: c76 :: c77 :: c78 :: c79 :: c80 :: c81 :: c82 :: c83 :: c84 :: c85 :: c86 :: c87 :: c88 :: c89 :: c90 :: c91 :: c92 :: c93 :: c94 :: c95 :: c96 :: c97 :: c98 :: c99 :: c100 :: c101 :: c102 :: c103 :: c104 :: c105 :: c106 :: c107 :: c108 :: c109 :: c110 :: c111 :: c112 :: c113 :: c114 :: c115 :: c116 :: c117 :: c118 :: c119 :: c120 :: c121 :: c122 :: c123 :: c124 :: c125 :: c126 :: c127 :: c128 :: c129 :: c130 :: c131 :: c132 :: c133 :: c134 :: c135 :: c136 :: c137 :: c138 :: c139 :: c140 :: c141 :: c142 :: c143 :: c144 :: c145 :: c146 :: c147 :: c148 :: c149 :: c150 :: c151 :: c152 :: c153 :: c154 :: c155 :: c156 :: c157 :: c158 :: c159 :: c160 :: c161 :: c162 :: c163 :: c164 :: c165 :: c166 :: c167 :: c168 :: c169 :: c170 :: c171 :: c172 :: c173 :: c174 :: c175 :: c176 :: c177 :: c178 :: c179 :: c180 :: c181 :: c182 :: c183 :: c184 :: c185 :: c186 :: c187 :: c188 :: c189 :: c190 :: c191 :: c192 :: c193 :: c194 :: c195 :: c196 :: c197 :: c198 :: c199 :: c200 :: c201 :: c202 :: c203 :: c204 :: c205 :: c206 :: c207 :: c208 :: c209 :: c210 :: c211 :: c212 :: c213 :: c214 :: c215 :: c216 :: c217 :: c218 :: c219 :: c220 :: c221 :: c222 :: c223 :: c224 :: c225 :: c226 :: c227 :: c228 :: c229 :: c230 :: c231 :: c232 :: c233 :: c234 :: c235 :: c236 :: c237 :: c238 :: c239 :: c240 :: c241 :: c242 :: c243 :: c244 :: c245 :: c246 :: c247 :: c248 :: c249 :: c250 :: c251 :: c252 :: c253 :: c254 :: c255 :: c256 :: c257 :: c258 :: c259 :: c260 :: c261 :: c262 :: c263 :: c264 :: c265 :: c266 :: c267 :: c268 :: c269 :: c270 :: c271 :: c272 :: c273 :: []), []⟩ w') :
    Code.wp Trym.prog (Code.loop (((Trym.f31.body.map loops).getD []).getD 0 .skip)) Q ⟨List.toArray (c0 :: c1 :: c2 :: c3 :: .bool false :: .pointer (some ⟨N, 0, none⟩) :: c6 :: c7 :: c8 :: c9 :: c10 :: c11 :: c12 :: c13 :: c14 :: c15 :: c16 :: c17 :: c18 :: c19 :: c20 :: c21 :: c22 :: c23 :: c24 :: c25 :: c26 :: c27 :: c28 :: c29 :: c30 :: c31 :: c32 :: c33 :: c34 :: .slice ap n cp :: .int .i64 n :: .int .i64 0 :: c38 :: c39 :: c40 :: c41 :: c42 :: c43 :: c44 :: c45 :: c46 :: c47 :: c48 :: c49 :: c50 :: c51 :: c52 :: c53 :: c54 :: c55 :: c56 :: c57 :: c58 :: c59 :: c60 :: c61 :: c62 :: c63 :: c64 :: c65 :: c66 :: c67 :: c68 :: c69 :: c70 :: c71 :: c72 :: c73 :: c74 :: c75 :: c76 :: c77 :: c78 :: c79 :: c80 :: c81 :: c82 :: c83 :: c84 :: c85 :: c86 :: c87 :: c88 :: c89 :: c90 :: c91 :: c92 :: c93 :: c94 :: c95 :: c96 :: c97 :: c98 :: c99 :: c100 :: c101 :: c102 :: c103 :: c104 :: c105 :: c106 :: c107 :: c108 :: c109 :: c110 :: c111 :: c112 :: c113 :: c114 :: c115 :: c116 :: c117 :: c118 :: c119 :: c120 :: c121 :: c122 :: c123 :: c124 :: c125 :: c126 :: c127 :: c128 :: c129 :: c130 :: c131 :: c132 :: c133 :: c134 :: c135 :: c136 :: c137 :: c138 :: c139 :: c140 :: c141 :: c142 :: c143 :: c144 :: c145 :: c146 :: c147 :: c148 :: c149 :: c150 :: c151 :: c152 :: c153 :: c154 :: c155 :: c156 :: c157 :: c158 :: c159 :: c160 :: c161 :: c162 :: c163 :: c164 :: c165 :: c166 :: c167 :: c168 :: c169 :: c170 :: c171 :: c172 :: c173 :: c174 :: c175 :: c176 :: c177 :: c178 :: c179 :: c180 :: c181 :: c182 :: c183 :: c184 :: c185 :: c186 :: c187 :: c188 :: c189 :: c190 :: c191 :: c192 :: c193 :: c194 :: c195 :: c196 :: c197 :: c198 :: c199 :: c200 :: c201 :: c202 :: c203 :: c204 :: c205 :: c206 :: c207 :: c208 :: c209 :: c210 :: c211 :: c212 :: c213 :: c214 :: c215 :: c216 :: c217 :: c218 :: c219 :: c220 :: c221 :: c222 :: c223 :: c224 :: c225 :: c226 :: c227 :: c228 :: c229 :: c230 :: c231 :: c232 :: c233 :: c234 :: c235 :: c236 :: c237 :: c238 :: c239 :: c240 :: c241 :: c242 :: c243 :: c244 :: c245 :: c246 :: c247 :: c248 :: c249 :: c250 :: c251 :: c252 :: c253 :: c254 :: c255 :: c256 :: c257 :: c258 :: c259 :: c260 :: c261 :: c262 :: c263 :: c264 :: c265 :: c266 :: c267 :: c268 :: c269 :: c270 :: c271 :: c272 :: c273 :: []), []⟩ w := by
  conv => arg 2; arg 1; whnf
  have HX := (show Hid _ from hexit)
  clear hexit
  go_loopw [37] (fun i wr => ∃ k : Nat, k ≤ n ∧ i = .int .i64 k ∧ Row wr N 58 (ints .i64 (countTo A nx0 k)) ∧ Kept [N] w wr) (fun i _ => n - (intOf i).toNat)
  case atStart => exact ⟨0, Nat.zero_le _, rfl, rN, Kept.refl _ _⟩
  case round =>
    obtain ⟨k, hk, rfl, qN, hK⟩ := hrel
    by_cases hlt : k < n
    · have hn0 : 0 < n := by omega
      obtain rfl := hap hn0
      have qP := hK.row (rP hn0) (by simp [nPN])
      have e1 := countTo_len A nx0 k
      have hi := fun j => hidx k j hlt
      have hm : A.getD k 0 ∈ A := by rw [List.getD, List.getElem?_eq_getElem (by omega)]; simp
      have hp64 : A.getD k 0 < 18446744073709551616 := h64 _ hm
      have hs := countTo_succ A nx0 k (by omega)
      have gP := qP.int k (by omega)
      generalize countTo A nx0 k = nx at *
      generalize hp : A.getD k 0 = p at *
      have HP : Hid (A.getD k 0 = p) := hp
      have HS := (show Hid _ from hs)
      clear hp hs hidx h64 hap rP rN hA hm
      clear hn0
      have hq := div_pos p
      have z0 : IntKind.i64.wrap 0 = 0 := by decide
      have z1 : IntKind.i64.wrap 11 = 11 := by decide
      have z2 : IntKind.i64.wrap 22 = 22 := by decide
      have z3 : IntKind.i64.wrap 32 = 32 := by decide
      have z4 : IntKind.i64.wrap 43 = 43 := by decide
      have z5 : IntKind.i64.wrap 54 = 54 := by decide
      have hl0 : nx.length = 6144 := by omega
      have HL0 := (show Hid _ from hl0)
      have HB0 := (show Hid _ from hi)
      have b0 : bits .and .u64 (pos p : Int) 2047 = ((d0 p : Nat) : Int) := and_d0 p hp64
      have b1 := and_d1' p hp64
      have b2 := and_d2 p hp64
      have b3 := div_d2 p
      have l0 := d0_lt p
      have l1 := d1_lt p
      have l2 := d2_lt p hp64
      generalize hv0 : d0 p = v0 at *
      generalize hv1 : d1 p = v1 at *
      generalize hv2 : d2 p = v2 at *
      have HV : Hid (d0 p = v0 ∧ d1 p = v1 ∧ d2 p = v2) := ⟨hv0, hv1, hv2⟩
      have a0 : (0 : Int) ≤ (v0 : Int) ∧ (v0 : Int) < 2048 := by omega
      have a1 : (0 : Int) ≤ (v1 : Int) ∧ (v1 : Int) < 2048 := by omega
      have a2 : (0 : Int) ≤ (v2 : Int) ∧ (v2 : Int) < 2048 := by omega
      have HN0 := (show Hid (Row wr N 58 (ints .i64 nx)) from qN)
      have HK0 := (show Hid (Kept [N] w wr) from hK)
      clear hv0 hv1 hv2 hN0 hi hl0 e1 qN hK qP
      obtain ⟨a00, a01⟩ := a0
      obtain ⟨a10, a11⟩ := a1
      obtain ⟨a20, a21⟩ := a2
      go_wp2_with fail
      clear gP
      refine wp_loop_rounds 4 ?_
      -- digit 0
      have g := HN0.out.int v0 (by have := HL0.out; omega)
      have gf := HN0.out.free v0
      have gb := HB0.out v0
      generalize hii : nx.getD (v0) 0 = i0 at *
      have HI0 := (show Hid (nx.getD (v0) 0 = i0) from hii)
      clear hii
      have gb2 : (i0 : Int) < 1000000 := by omega
      have gb3 : IntKind.i64.wrap ((i0 : Int) + 1) = (i0 : Int) + 1 := by rw [IntKind.wrap_i64]; omega
      rw [rounds_succ]
      go_wp2_with fail
      refine wp_region_tail 13 Trym.mixed (by kernel_rfl) ?_
      simp only [List.take_succ_cons, List.take_zero, List.drop_succ_cons, List.drop_zero]
      repeat still_step
      refine wpStill_nil ?_
      go_wp2_with fail
      clear g gf gb gb2 gb3
      have HN1 : Hid (Row (wr.setCell ⟨N, v0, none⟩ (.int .i64 ((i0 : Int) + 1))).drew N 58 (ints .i64 (bump1 nx v0))) := by
        have := (HN0.out.setInt v0 (i0 + 1)).drew
        rw [bump1_eq HI0.out]
        exact this
      have HK1 : Hid (Kept [N] w (wr.setCell ⟨N, v0, none⟩ (.int .i64 ((i0 : Int) + 1))).drew) := (HK0.out.setCell (.inr (by simp)) _).drew
      have HL1 : Hid ((bump1 nx v0).length = 6144) := by rw [bump1_len]; exact HL0.out
      have HB1 : Hid (∀ j, (bump1 nx v0).getD j 0 ≤ k + 1) := bump1_le _ _ _ HB0.out
      generalize (wr.setCell ⟨N, v0, none⟩ (.int .i64 ((i0 : Int) + 1))).drew = w1 at *
      -- digit 1
      have g := HN1.out.int (2048 + v1) (by have := HL1.out; omega)
      have gf := HN1.out.free (2048 + v1)
      have gb := HB1.out (2048 + v1)
      generalize hii : (bump1 nx v0).getD ((2048 + v1)) 0 = i1 at *
      have HI1 := (show Hid ((bump1 nx v0).getD ((2048 + v1)) 0 = i1) from hii)
      clear hii
      have gb2 : (i1 : Int) < 1000000 := by omega
      have gb3 : IntKind.i64.wrap ((i1 : Int) + 1) = (i1 : Int) + 1 := by rw [IntKind.wrap_i64]; omega
      rw [rounds_succ]
      go_wp2_with fail
      refine wp_region_tail 13 Trym.mixed (by kernel_rfl) ?_
      simp only [List.take_succ_cons, List.take_zero, List.drop_succ_cons, List.drop_zero]
      repeat still_step
      refine wpStill_nil ?_
      go_wp2_with fail
      clear g gf gb gb2 gb3
      have HN2 : Hid (Row (w1.setCell ⟨N, 2048 + v1, none⟩ (.int .i64 ((i1 : Int) + 1))).drew N 58 (ints .i64 (bump1 (bump1 nx v0) (2048 + v1)))) := by
        have := (HN1.out.setInt (2048 + v1) (i1 + 1)).drew
        rw [bump1_eq HI1.out]
        exact this
      have HK2 : Hid (Kept [N] w (w1.setCell ⟨N, 2048 + v1, none⟩ (.int .i64 ((i1 : Int) + 1))).drew) := (HK1.out.setCell (.inr (by simp)) _).drew
      have HL2 : Hid ((bump1 (bump1 nx v0) (2048 + v1)).length = 6144) := by rw [bump1_len]; exact HL1.out
      have HB2 : Hid (∀ j, (bump1 (bump1 nx v0) (2048 + v1)).getD j 0 ≤ k + 2) := bump1_le _ _ _ HB1.out
      generalize (w1.setCell ⟨N, 2048 + v1, none⟩ (.int .i64 ((i1 : Int) + 1))).drew = w2 at *
      -- digit 2
      have g := HN2.out.int (4096 + v2) (by have := HL2.out; omega)
      have gf := HN2.out.free (4096 + v2)
      have gb := HB2.out (4096 + v2)
      generalize hii : (bump1 (bump1 nx v0) (2048 + v1)).getD ((4096 + v2)) 0 = i2 at *
      have HI2 := (show Hid ((bump1 (bump1 nx v0) (2048 + v1)).getD ((4096 + v2)) 0 = i2) from hii)
      clear hii
      have gb2 : (i2 : Int) < 1000000 := by omega
      have gb3 : IntKind.i64.wrap ((i2 : Int) + 1) = (i2 : Int) + 1 := by rw [IntKind.wrap_i64]; omega
      rw [rounds_succ]
      go_wp2_with fail
      refine wp_region_tail 13 Trym.mixed (by kernel_rfl) ?_
      simp only [List.take_succ_cons, List.take_zero, List.drop_succ_cons, List.drop_zero]
      repeat still_step
      refine wpStill_nil ?_
      go_wp2_with fail
      clear g gf gb gb2 gb3
      have HN3 : Hid (Row (w2.setCell ⟨N, 4096 + v2, none⟩ (.int .i64 ((i2 : Int) + 1))).drew N 58 (ints .i64 (bump1 (bump1 (bump1 nx v0) (2048 + v1)) (4096 + v2)))) := by
        have := (HN2.out.setInt (4096 + v2) (i2 + 1)).drew
        rw [bump1_eq HI2.out]
        exact this
      have HK3 : Hid (Kept [N] w (w2.setCell ⟨N, 4096 + v2, none⟩ (.int .i64 ((i2 : Int) + 1))).drew) := (HK2.out.setCell (.inr (by simp)) _).drew
      have HL3 : Hid ((bump1 (bump1 (bump1 nx v0) (2048 + v1)) (4096 + v2)).length = 6144) := by rw [bump1_len]; exact HL2.out
      have HB3 : Hid (∀ j, (bump1 (bump1 (bump1 nx v0) (2048 + v1)) (4096 + v2)).getD j 0 ≤ k + 3) := bump1_le _ _ _ HB2.out
      generalize (w2.setCell ⟨N, 4096 + v2, none⟩ (.int .i64 ((i2 : Int) + 1))).drew = w3 at *
      rw [rounds_succ]
      go_wp2_with fail
      go_roundw
      case rel =>
        obtain ⟨e0, e1, e2⟩ := HV.out
        refine ⟨k + 1, by omega, by go_num, ?_, HK3.out⟩
        rw [HS.out]
        unfold bump
        rw [e0, e1, e2]
        exact HN3.out
      case measure => simp [intOf]; omega

    · have hkn : k = n := by omega
      subst hkn
      go_wp2_with fail
      exact HX.out _ _ _ _ _ _ _ _ _ _ _ _ _ _ _ _ _ _ _ _ _ _ _ _ _ _ _ _ _ _ _ _ _ _ _ _ _ qN hK

end Go.Proofs.Qxb6000070aMods
