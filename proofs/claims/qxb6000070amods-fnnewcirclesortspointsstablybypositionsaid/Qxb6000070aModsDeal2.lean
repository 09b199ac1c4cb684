/-
  sortPoints, loop 7: the second deal, back to points.
-/
import Derived.Test.Qxb6000070aModsPoint
import Derived.RegionTactic
import Derived.BigRegion
import Derived.Deep.DrawnRows
import Derived.Deep.RegionHeld3
namespace Go.Proofs.Qxb6000070aMods
open Go.RowKit
attribute [local go_sem ↓] Go.wp_at_zero Go.wp_at_succ

set_option maxHeartbeats 1000000 in
set_option maxRecDepth 1000000 in
theorem deal2 (C P N W O n cp : Nat) (ap : Option Addr) (A L0 nx0 : List Nat) (x0 x1 x2 x4 x5 : Value) (c2 c3 c4 c6 c7 c8 c9 c10 c11 c12 c13 c14 c15 c16 c17 c18 c19 c20 c21 c22 c23 c24 c25 c26 c27 c28 c29 c30 c31 c32 c33 c34 c35 c36 c37 c38 c39 c40 c41 c42 c43 c44 c45 c46 c47 c48 c49 c50 c51 c52 c53 c54 c55 c56 c57 c58 c59 c60 c61 c62 c63 c64 c65 c66 c67 c68 c69 c70 c71 c72 c73 c74 c75 c76 c77 c78 c79 c80 c81 c82 c83 c84 c85 c86 c87 c88 c89 c90 c91 c92 c93 c94 c95 c96 c97 c98 c99 c100 c101 c102 c103 c104 c105 c106 c107 c108 c109 c110 c111 c112 c113 c114 c115 c116 c117 c118 c119 c120 c121 c122 c123 c124 c125 c126 c127 c128 c129 c130 c131 c132 c133 c134 c135 c136 c137 c138 c139 c140 c141 c142 c143 c144 c145 c146 c147 c148 c149 c150 c151 c152 c153 c154 c158 c159 c160 c161 c162 c163 c164 c165 c166 c167 c168 c169 c170 c171 c172 c173 c174 c175 c176 c177 c178 c179 c180 c181 c182 c183 c184 c185 c186 c187 c188 c189 c190 c191 c192 c193 c194 c195 c196 c197 c198 c199 c200 c201 c202 c203 c204 c205 c206 c207 c208 c209 c210 c211 c212 c213 c214 c215 c216 c217 c218 c219 c220 c221 c222 c223 c224 c225 c226 c227 c228 c229 c230 c231 c232 c233 c234 c235 c236 c237 c238 c239 c240 c241 c242 c243 c244 c245 c246 c247 c248 c249 c250 c251 c252 c253 c254 c255 c256 c257 c258 c259 c260 c261 c262 c263 c264 c265 c266 c267 c268 c269 c270 c271 c272 c273 : Value) (Q : Exit → Act → World → Prop) (w : World)
    (hA : A.length = n) (hn : n < 131074) (hN0 : nx0.length = 6144) (hL0 : L0.length = n) (hap : 0 < n → ap = some ⟨P, 0, none⟩) (h64 : ∀ p ∈ A, p < 18446744073709551616) (how : ∀ p ∈ A, p % 4294967296 < 65536)
    (rC : Row w C 48 [x0, x1, x2, .slice (some ⟨O, 0, none⟩) n n, x4, x5]) (rP : 0 < n → Row w P 44 (ints .u64 L0)) (rN : Row w N 58 (ints .i64 nx0))
    (rW : Row w W 24 (ints .u32 (A.map pos))) (rO : Row w O 34 (ints .u16 (A.map own)))
    (nCN : C ≠ N) (nCP : C ≠ P) (nPN : P ≠ N) (nPW : P ≠ W) (nPO : P ≠ O) (nNW : N ≠ W) (nNO : N ≠ O)
    (hidx : ∀ k, k < n → (dealTo d1 2048 A (nx0, L0) k).1.getD (2048 + d1 (A.getD k 0)) 0 < n)
    (hexit : ∀ (u18 u19 u20 u157 u158 u159 u160 u161 u162 u163 u164 u165 u166 u167 u168 u169 u170 u171 u172 u173 u174 u175 u176 u177 u178 u179 u180 u181 u182 u183 u184 u185 u186 u187 : Value) (w' : World), Row w' N 58 (ints .i64 (dealTo d1 2048 A (nx0, L0) n).1) → (0 < n → Row w' P 44 (ints .u64 (dealTo d1 2048 A (nx0, L0) n).2)) →
      Kept [N, P] w w' → Q (.exit 12) ⟨List.toArray (.pointer (some ⟨C, 0, none⟩) :: .slice ap n cp :: c2 :: c3 :: c4 :: .pointer (some ⟨N, 0, none⟩) :: c6 :: c7 :: c8 :: c9 :: c10 :: c11 :: c12 :: c13 :: c14 :: c15 :: c16 :: c17 :: u18 :: u19 :: u20 :: c21 :: c22 :: c23 :: c24 :: c25 :: c26 :: c27 :: c28 :: c29 :: c30 :: c31 :: c32 :: c33 :: c34 :: c35 :: c36 :: c37 :: c38 :: c39 :: c40 :: c41 :: c42 :: c43 :: c44 :: c45 :: c46 :: c47 :: c48 :: c49 :: c50 :: c51 :: c52 :: c53 :: c54 :: c55 :: c56 :: c57 :: c58 :: c59 :: c60 :: c61 :: c62 :: c63 :: c64 :: c65 :: c66 :: c67 :: c68 :: c69 :: c70 :: c71 :: c72 :: c73 :: c74 :: c75 :: c76 :: c77 :: c78 :: c79 :: c80 :: c81 :: c82 :: c83 :: c84 :: c85 :: c86 :: c87 :: c88 :: c89 :: c90 :: c91 :: c92 :: c93 :: c94 :: c95 :: c96 :: c97 :: c98 :: c99 :: c100 :: c101 :: c102 :: c103 :: c104 :: c105 :: c106 :: c107 :: c108 :: c109 :: c110 :: c111 :: c112 :: c113 :: c114 :: c115 :: c116 :: c117 :: c118 :: c119 :: c120 :: c121 :: c122 :: c123 :: c124 :: c125 :: c126 :: c127 :: c128 :: c129 :: c130 :: c131 :: c132 :: c133 :: c134 :: c135 :: c136 :: c137 :: c138 :: c139 :: c140 :: c141 :: c142 :: c143 :: c144 :: c145 :: c146 :: c147 :: c148 :: c149 :: c150 :: c151 :: c152 :: c153 :: c154 :: .slice (some ⟨W, 0, none⟩) n n :: .int .i64 n :: u157 :: u158 :: u159 :: u160 :: u161 :: u162 :: u163 :: u164 :: u165 :: u166 :: u167 :: u168 :: u169 :: u170 :: u171 :: u172 :: u173 :: u174 :: u175 :: u176 :: u177 :: u178 :: u179 :: u180 :: u181 :: u182 :: u183 :: u184 :: u185 :: u186 :: u187 :: c188 :: c189 :: c190 :: c191 :: c192 :: c193 :: c194 :: c195 :: c196 :: c197 :: c198 :: c199 :: c200 :: c201 :: c202 :: c203 :: c204 :: c205 :: c206 :: c207 :: c208 :: c209 :: c210 :: c211 :: c212 :: c213 :: c214 :: c215 :: c216 :: c217 :: c218 :: c219 :: c220 :: c221 :: c222 :: c223 :: c224 :: c225 :: c226 :: c227 :: c228 :: c229 :: c230 :: c231 :: c232 :: c233 :: c234 :: c235 :: c236 :: c237 :: c238 :: c239 :: c240 :: c241 :: c242 :: c243 :: c244 :: c245 :: c246 :: c247 :: c248 :: c249 :: c250 :: c251 :: c252 :: c253 :: c254 :: c255 :: c256 :: c257 :: c258 :: c259 :: c260 :: c261 :: c262 :: c263 :: c264 :: c265 :: c266 :: c267 :: c268 :: c269 :: c270 :: c271 :: c272 :: c273 :: []), []⟩ w') :
    Code.wp Trym.prog (Code.loop (((Trym.f31.body.map loops).getD []).getD 6 .skip)) Q ⟨List.toArray (.pointer (some ⟨C, 0, none⟩) :: .slice ap n cp :: c2 :: c3 :: c4 :: .pointer (some ⟨N, 0, none⟩) :: c6 :: c7 :: c8 :: c9 :: c10 :: c11 :: c12 :: c13 :: c14 :: c15 :: c16 :: c17 :: c18 :: c19 :: c20 :: c21 :: c22 :: c23 :: c24 :: c25 :: c26 :: c27 :: c28 :: c29 :: c30 :: c31 :: c32 :: c33 :: c34 :: c35 :: c36 :: c37 :: c38 :: c39 :: c40 :: c41 :: c42 :: c43 :: c44 :: c45 :: c46 :: c47 :: c48 :: c49 :: c50 :: c51 :: c52 :: c53 :: c54 :: c55 :: c56 :: c57 :: c58 :: c59 :: c60 :: c61 :: c62 :: c63 :: c64 :: c65 :: c66 :: c67 :: c68 :: c69 :: c70 :: c71 :: c72 :: c73 :: c74 :: c75 :: c76 :: c77 :: c78 :: c79 :: c80 :: c81 :: c82 :: c83 :: c84 :: c85 :: c86 :: c87 :: c88 :: c89 :: c90 :: c91 :: c92 :: c93 :: c94 :: c95 :: c96 :: c97 :: c98 :: c99 :: c100 :: c101 :: c102 :: c103 :: c104 :: c105 :: c106 :: c107 :: c108 :: c109 :: c110 :: c111 :: c112 :: c113 :: c114 :: c115 :: c116 :: c117 :: c118 :: c119 :: c120 :: c121 :: c122 :: c123 :: c124 :: c125 :: c126 :: c127 :: c128 :: c129 :: c130 :: c131 :: c132 :: c133 :: c134 :: c135 :: c136 :: c137 :: c138 :: c139 :: c140 :: c141 :: c142 :: c143 :: c144 :: c145 :: c146 :: c147 :: c148 :: c149 :: c150 :: c151 :: c152 :: c153 :: c154 :: .slice (some ⟨W, 0, none⟩) n n :: .int .i64 n :: .int .i64 0 :: c158 :: c159 :: c160 :: c161 :: c162 :: c163 :: c164 :: c165 :: c166 :: c167 :: c168 :: c169 :: c170 :: c171 :: c172 :: c173 :: c174 :: c175 :: c176 :: c177 :: c178 :: c179 :: c180 :: c181 :: c182 :: c183 :: c184 :: c185 :: c186 :: c187 :: c188 :: c189 :: c190 :: c191 :: c192 :: c193 :: c194 :: c195 :: c196 :: c197 :: c198 :: c199 :: c200 :: c201 :: c202 :: c203 :: c204 :: c205 :: c206 :: c207 :: c208 :: c209 :: c210 :: c211 :: c212 :: c213 :: c214 :: c215 :: c216 :: c217 :: c218 :: c219 :: c220 :: c221 :: c222 :: c223 :: c224 :: c225 :: c226 :: c227 :: c228 :: c229 :: c230 :: c231 :: c232 :: c233 :: c234 :: c235 :: c236 :: c237 :: c238 :: c239 :: c240 :: c241 :: c242 :: c243 :: c244 :: c245 :: c246 :: c247 :: c248 :: c249 :: c250 :: c251 :: c252 :: c253 :: c254 :: c255 :: c256 :: c257 :: c258 :: c259 :: c260 :: c261 :: c262 :: c263 :: c264 :: c265 :: c266 :: c267 :: c268 :: c269 :: c270 :: c271 :: c272 :: c273 :: []), []⟩ w := by
  conv => arg 2; arg 1; whnf
  have HX := (show Hid _ from hexit)
  clear hexit
  go_loopw [157] (fun i wr => ∃ k : Nat, k ≤ n ∧ i = .int .i64 k ∧ Row wr N 58 (ints .i64 (dealTo d1 2048 A (nx0, L0) k).1) ∧ (0 < n → Row wr P 44 (ints .u64 (dealTo d1 2048 A (nx0, L0) k).2)) ∧
      Kept [N, P] w wr) (fun i _ => n - (intOf i).toNat)
  case atStart => exact ⟨0, Nat.zero_le _, rfl, rN, rP, Kept.refl _ _⟩
  case round =>
    obtain ⟨k, hk, rfl, qN, qP', hK⟩ := hrel
    by_cases hlt : k < n
    · have hn0 : 0 < n := by omega
      obtain rfl := hap hn0
      have qP := qP' hn0
      have nWP := nPW.symm
      have nWN := nNW.symm
      have nON := nNO.symm
      have nOP := nPO.symm
      have nPC := nCP.symm
      have nNC := nCN.symm
      have nNP := nPN.symm
      have qC := hK.row rC (by simp [nCN, nCP])
      have qW := hK.row rW (by simp [nWN, nWP])
      have qO := hK.row rO (by simp [nON, nOP])
      have e1 := dealTo_len1 d1 2048 A (nx0, L0) k
      have e2 := dealTo_len2 d1 2048 A (nx0, L0) k
      have hi := hidx k hlt
      have hm : A.getD k 0 ∈ A := by rw [List.getD, List.getElem?_eq_getElem (by omega)]; simp
      have hp64 : A.getD k 0 < 18446744073709551616 := h64 _ hm
      have hpo : A.getD k 0 % 4294967296 < 65536 := how _ hm
      have hs := dealTo_succ d1 2048 A (nx0, L0) k (by omega)
      have gW := qW.int k (by simp; omega)
      have gO := qO.int k (by simp; omega)
      have ew : (A.map pos).getD k 0 = pos (A.getD k 0) := by simp [List.getD, show k < A.length by omega]
      have eo : (A.map own).getD k 0 = own (A.getD k 0) := by simp [List.getD, show k < A.length by omega]
      rw [ew] at gW
      rw [eo] at gO
      clear ew eo hm qP'
      generalize dealTo d1 2048 A (nx0, L0) k = st at *
      generalize hp : A.getD k 0 = p at *
      obtain ⟨nx, L⟩ := st
      simp only at e1 e2 hi qN qP
      have hv := d1_lt p
      have gN := qN.int (2048 + d1 p) (by omega)
      have gNf := qN.free (2048 + d1 p)
      generalize hii : nx.getD (2048 + d1 p) 0 = i at *
      have gP := qP.int i (by omega)
      have gPf := qP.free i
      have gC : wr.cell? ⟨C, 3, none⟩ = some (.slice (some ⟨O, 0, none⟩) n n) := by rw [qC.cell]; rfl
      have hb := and_d1 p hp64
      have hq4 := pos_lt p hp64
      have ho4 := own_lt p
      have hw64 := wrap_own64 p
      generalize hvv : d1 p = v at *
      have HP : Hid (A.getD k 0 = p) := hp
      have HI : Hid (nx.getD (2048 + v) 0 = i) := hii
      have HV : Hid (d1 p = v) := hvv
      have HS : Hid (dealTo d1 2048 A (nx0, L0) (k + 1) = dealStep d1 2048 (nx, L) p) := hs
      clear hp hii hvv hs e1 e2 hidx h64 how hap rP rC rN rW rO hA hN0 hL0
      clear hn0
      go_wp2_with fail
      go_region_held3 (fun w' => w'.cell? ⟨N, 2048 + v, none⟩ = some (.int .i64 (i : Int)) ∧ w'.cell? ⟨C, 3, none⟩ = some (.slice (some ⟨O, 0, none⟩) n n) ∧ w'.cell? ⟨O, k, none⟩ = some (.int .u16 ((own p : Nat) : Int))) (go_keep)
        (first | (go_at_call 32; refine (point_back_any p _ hp64 hpo).mono ?_; rintro e w' ⟨rfl, rfl⟩))
      go_wp2_with fail
      go_roundw
      case rel =>
        have hs := HS.out
        have hv := HV.out
        have hi := HI.out
        refine ⟨k + 1, by omega, by go_num, ?_, ?_, ?_⟩
        · rw [hs]; simp only [dealStep, hv, hi]
          exact ((qN.other _ nNP _).drew).setInt (2048 + v) (i + 1)
        · intro _
          rw [hs]; simp only [dealStep, hv, hi]
          exact (((qP.setInt i p).drew).other _ nPN _)
        · exact ((hK.setCell (.inr (by simp)) _).drew).setCell (.inr (by simp)) _
      case measure => simp [intOf]; omega
    · have hkn : k = n := by omega
      subst hkn
      go_wp2_with fail
      exact HX.out _ _ _ _ _ _ _ _ _ _ _ _ _ _ _ _ _ _ _ _ _ _ _ _ _ _ _ _ _ _ _ _ _ _ _ qN qP' hK

end Go.Proofs.Qxb6000070aMods
