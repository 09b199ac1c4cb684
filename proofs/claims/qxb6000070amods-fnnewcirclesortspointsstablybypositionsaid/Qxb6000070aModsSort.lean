/-
  sortPoints, whole.
-/
import Derived.Test.Qxb6000070aModsRadix
import Derived.Test.Qxb6000070aModsCount
import Derived.Test.Qxb6000070aModsPrefixes
import Derived.Test.Qxb6000070aModsDeal1
import Derived.Test.Qxb6000070aModsDeal2
import Derived.Test.Qxb6000070aModsDeal3
namespace Go.Proofs.Qxb6000070aMods
open Go.RowKit


set_option maxHeartbeats 4000000 in
set_option maxRecDepth 1000000 in
theorem sort_any (C P O n cp : Nat) (ap : Option Addr) (A : List Nat) (x4 x5 : Value) (w : World)
    (hA : A.length = n) (hn : n < 131074) (hap : 0 < n → ap = some ⟨P, 0, none⟩) (h64 : ∀ p ∈ A, p < 18446744073709551616) (how : ∀ p ∈ A, p % 4294967296 < 65536)
    (rC : Row w C 48 [.slice none 0 0, .slice none 0 0, .slice none 0 0, .slice (some ⟨O, 0, none⟩) n n, x4, x5]) (rP : 0 < n → Row w P 44 (ints .u64 A))
    (rO : Row w O 34 (ints .u16 (List.replicate n 0))) (nPs : 0 < n → P < w.heap.size) (nCP : 0 < n → C ≠ P) (nCO : C ≠ O) (nPO : 0 < n → P ≠ O) :
    Calls Trym.prog 31 #[.pointer (some ⟨C, 0, none⟩), .slice ap n cp] w fun e w' => e = .returned (.tuple #[]) ∧ Kept [C, P, O] w w' ∧
      ∃ W, w.heap.size ≤ W ∧ Row w' C 48 [.slice (some ⟨W, 0, none⟩) n n, .slice none 0 0, .slice none 0 0, .slice (some ⟨O, 0, none⟩) n n, x4, x5] ∧
        Row w' W 24 (ints .u32 ((radix A).map pos)) ∧ Row w' O 34 (ints .u16 ((radix A).map own)) := by
  have nCN : C ≠ w.heap.size := by have := rC.lt; omega
  have nON : O ≠ w.heap.size := by have := rO.lt; omega
  obtain ⟨P1, hP1, hP2⟩ : ∃ P1, (0 < n → P1 = P) ∧ P1 ≠ w.heap.size := by
    by_cases h : 0 < n
    · exact ⟨P, fun _ => rfl, by have := nPs h; omega⟩
    · exact ⟨w.heap.size + 1, fun h' => absurd h' h, by omega⟩
  have hap1 : 0 < n → ap = some ⟨P1, 0, none⟩ := fun h => by rw [hP1 h]; exact hap h
  have rP1 : 0 < n → Row w P1 44 (ints .u64 A) := fun h => by rw [hP1 h]; exact rP h
  have hdn : decide (131074 ≤ (n : Int)) = false := decide_eq_false (by omega)
  have hmk := fun w => run_make1 (P := Trym.prog) w 22 24 (.int .u32 0) 4 Trym.underlying22 Trym.infoU32 rfl n (by omega) (by omega)
  go_enter Trym.func31, Trym.ntmps31
  go_wp2_with (refine wpList_alloc_next rfl rfl ?_)
  have rN0 := Row.new w 58 (ints .i64 nextZero)
  refine count P1 w.heap.size n cp ap A nextZero _ _ _ _ _ _ _ _ _ _ _ _ _ _ _ _ _ _ _ _ _ _ _ _ _ _ _ _ _ _ _ _ _ _ _ _ _ _ _ _ _ _ _ _ _ _ _ _ _ _ _ _ _ _ _ _ _ _ _ _ _ _ _ _ _ _ _ _ _ _ _ _ _ _ _ _ _ _ _ _ _ _ _ _ _ _ _ _ _ _ _ _ _ _ _ _ _ _ _ _ _ _ _ _ _ _ _ _ _ _ _ _ _ _ _ _ _ _ _ _ _ _ _ _ _ _ _ _ _ _ _ _ _ _ _ _ _ _ _ _ _ _ _ _ _ _ _ _ _ _ _ _ _ _ _ _ _ _ _ _ _ _ _ _ _ _ _ _ _ _ _ _ _ _ _ _ _ _ _ _ _ _ _ _ _ _ _ _ _ _ _ _ _ _ _ _ _ _ _ _ _ _ _ _ _ _ _ _ _ _ _ _ _ _ _ _ _ _ _ _ _ _ _ _ _ _ _ _ _ _ _ _ _ _ _ _ _ _ _ _ _ _ _ _ _ _ _ _ _ _ _ _ _ _ _ _ _ _ _ _ _ _ _ _ _ _ _ _ _ _ _ hA hn next_len hap1 h64 (fun h => (rP1 h).alloc _) rN0 hP2 (fun k j _ => count_le A k j) ?_
  intro a7 a8 a37 a38 a39 a40 a41 a42 a43 a44 a45 a46 a47 a48 a49 a50 a51 a52 a53 a54 a55 a56 a57 a58 a59 a60 a61 a62 a63 a64 a65 a66 a67 a68 a69 a70 wa rNa hKa
  have rCa := hKa.row (rC.alloc _) (by simpa using nCN)
  have rOa := hKa.row (rO.alloc _) (by simpa using nON)
  have rPa : 0 < n → Row wa P 44 (ints .u64 A) := fun h => hKa.row ((rP h).alloc _) (by have := nPs h; simp; omega)
  have hKa2 : Kept [C, P, O] w wa := ((Kept.refl [C, P, O] w).alloc _).then hKa (fun i hi hy => by simp at hy; omega)
  have sza : w.heap.size < wa.heap.size := rNa.lt
  clear hKa rN0 hP1 hP2 hap1 rP1 P1
  go_wp2_with fail
  refine prefAll w.heap.size _ _ _ _ _ _ _ _ _ _ _ _ _ _ _ _ _ _ _ _ _ _ _ _ _ _ _ _ _ _ _ _ _ _ _ _ _ _ _ _ _ _ _ _ _ _ _ _ _ _ _ _ _ _ _ _ _ _ _ _ _ _ _ _ _ _ _ _ _ _ _ _ _ _ _ _ _ _ _ _ _ _ _ _ _ _ _ _ _ _ _ _ _ _ _ _ _ _ _ _ _ _ _ _ _ _ _ _ _ _ _ _ _ _ _ _ _ _ _ _ _ _ _ _ _ _ _ _ _ _ _ _ _ _ _ _ _ _ _ _ _ _ _ _ _ _ _ _ _ _ _ _ _ _ _ _ _ _ _ _ _ _ _ _ _ _ _ _ _ _ _ _ _ _ _ _ _ _ _ _ _ _ _ _ _ _ _ _ _ _ _ _ _ _ _ _ _ _ _ _ _ _ _ _ _ _ _ _ _ _ _ _ _ _ _ _ _ _ _ _ _ _ _ _ _ _ _ _ _ _ _ _ _ _ _ _ _ _ _ _ _ _ _ _ _ _ _ _ _ _ _ _ _ _ _ _ _ _ _ _ _ _ _ _ _ _ _ _ _ _ _ _ _ _ _ (by rw [countTo_len]; exact next_len) rNa (fun d k hd hk => by rw [← hA]; exact sums_lt A (by omega) d k hd hk) ?_
  intro b9 b10 b11 b12 b71 b72 b73 b74 b75 b76 b77 b78 b79 b80 b81 b82 b83 b84 b85 b86 b87 b88 b89 b90 wb rNb hKb
  have rCb := hKb.row rCa (by simpa using nCN)
  have rOb := hKb.row rOa (by simpa using nON)
  have rPb : 0 < n → Row wb P 44 (ints .u64 A) := fun h => hKb.row (rPa h) (by have := nPs h; simp; omega)
  have hKb2 : Kept [C, P, O] w wb := hKa2.then hKb (fun i hi hy => by simp at hy; omega)
  have szb : w.heap.size < wb.heap.size := rNb.lt
  clear hKb rNa rCa rOa rPa hKa2 sza
  have gC2 : wb.cell? ⟨C, 2, none⟩ = some (.slice none 0 0) := by rw [rCb.cell]; rfl
  go_wp2_with fail
  refine wp_loop_rounds 1 ?_
  rw [rounds_succ]
  go_wp2_with fail
  clear gC2
  have eNb : prefs (countTo A nextZero n) 3 = (st0 A).1 := by rw [st0_fst, hA]
  have eLb : List.replicate n 0 = (st0 A).2 := by rw [st0_snd, hA]
  rw [eNb] at rNb
  rw [eLb] at rOb
  have rWc : Row (wb.alloc (.cells (List.replicate n (Value.int .u32 0)).toArray 24)) wb.heap.size 24 (ints .u32 ((st0 A).2.map pos)) := by
    have := Row.new wb 24 (List.replicate n (Value.int .u32 0))
    rw [← eLb, List.map_replicate, ints, List.map_replicate]
    exact this
  have rOc : Row (wb.alloc (.cells (List.replicate n (Value.int .u32 0)).toArray 24)) O 34 (ints .u16 ((st0 A).2.map own)) := by
    have := rOb.alloc (.cells (List.replicate n (Value.int .u32 0)).toArray 24)
    rw [← eLb, List.map_replicate, ints, List.map_replicate]
    rw [← eLb, ints, List.map_replicate] at this
    exact this
  have nCW : C ≠ wb.heap.size := by have := rCb.lt; omega
  have nOW : O ≠ wb.heap.size := by have := rOb.lt; omega
  obtain ⟨Pz, hPz, hPy⟩ : ∃ Pz, (0 < n → Pz = P) ∧ (¬ 0 < n → Pz = C + O + w.heap.size + wb.heap.size + 1) := by
    by_cases h : 0 < n
    · exact ⟨P, fun _ => rfl, fun h' => absurd h h'⟩
    · exact ⟨_, fun h' => absurd h' h, fun _ => rfl⟩
  have hPc : (0 < n ∧ Pz = P) ∨ (¬ 0 < n ∧ Pz = C + O + w.heap.size + wb.heap.size + 1) := by
    by_cases h : 0 < n
    · exact .inl ⟨h, hPz h⟩
    · exact .inr ⟨h, hPy h⟩
  have hapz : 0 < n → ap = some ⟨Pz, 0, none⟩ := fun h => by rw [hPz h]; exact hap h
  have rPz : 0 < n → Row wb Pz 44 (ints .u64 A) := fun h => by rw [hPz h]; exact rPb h
  have nPN : Pz ≠ w.heap.size := by
    rcases hPc with ⟨h, e⟩ | ⟨h, e⟩
    · have := nPs h; omega
    · omega
  have nCPz : C ≠ Pz := by
    rcases hPc with ⟨h, e⟩ | ⟨h, e⟩
    · have := nCP h; omega
    · omega
  have nPOz : Pz ≠ O := by
    rcases hPc with ⟨h, e⟩ | ⟨h, e⟩
    · have := nPO h; omega
    · omega
  have nPW : Pz ≠ wb.heap.size := by
    rcases hPc with ⟨h, e⟩ | ⟨h, e⟩
    · have := nPs h; omega
    · omega
  have hPi : ∀ i, i < w.heap.size → i = Pz → i = P := by
    rcases hPc with ⟨h, e⟩ | ⟨h, e⟩
    · intro i _ hi; omega
    · intro i hi hi2; omega
  clear hPc hPy hPz hap rP rPb nPs nCP nPO
  have nNW : w.heap.size ≠ wb.heap.size := by omega
  have sWw : w.heap.size ≤ wb.heap.size := by omega
  refine deal1 C Pz w.heap.size wb.heap.size O n cp ap A (st0 A).2 (st0 A).1 _ _ _ x4 x5 _ _ _ _ _ _ _ _ _ _ _ _ _ _ _ _ _ _ _ _ _ _ _ _ _ _ _ _ _ _ _ _ _ _ _ _ _ _ _ _ _ _ _ _ _ _ _ _ _ _ _ _ _ _ _ _ _ _ _ _ _ _ _ _ _ _ _ _ _ _ _ _ _ _ _ _ _ _ _ _ _ _ _ _ _ _ _ _ _ _ _ _ _ _ _ _ _ _ _ _ _ _ _ _ _ _ _ _ _ _ _ _ _ _ _ _ _ _ _ _ _ _ _ _ _ _ _ _ _ _ _ _ _ _ _ _ _ _ _ _ _ _ _ _ _ _ _ _ _ _ _ _ _ _ _ _ _ _ _ _ _ _ _ _ _ _ _ _ _ _ _ _ _ _ _ _ _ _ _ _ _ _ _ _ _ _ _ _ _ _ _ _ _ _ _ _ _ _ _ _ _ _ _ _ _ _ _ _ _ _ _ _ _ _ _ _ _ _ _ _ _ _ _ _ _ _ _ _ _ _ _ _ _ _ _ _ _ _ _ _ _ _ _ _ _ _ _ _ _ _ _ _ _ _ _ _ _ _ _ _ _ _ _ _ _ _ _ _ _ _ hA hn (st0_len1 A) (by rw [st0_len2]; exact hA) hapz h64 (rCb.alloc _) (fun h => (rPz h).alloc _) (rNb.alloc _) rWc rOc
    nCN nCW nCO nPN nPW nPOz nNW nON.symm nOW.symm (fun k hk => by rw [← hA]; exact idx1 A k (by omega)) ?_
  intro c16 c17 c122 c123 c124 c125 c126 c127 c128 c129 c130 c131 c132 c133 c134 c135 c136 c137 c138 c139 c140 c141 c142 c143 c144 c145 c146 c147 c148 c149 c150 c151 c152 c153 c154 wc rNc rWc rOc hKc
  have e1 : dealTo d0 0 A ((st0 A).1, (st0 A).2) n = st1 A := by rw [← hA]; exact st1_eq A
  rw [e1] at rNc rWc rOc
  have rCc := hKc.row (rCb.alloc _) (by simp; exact ⟨nCN, nCW, nCO⟩)
  have rPc : 0 < n → Row wc Pz 44 (ints .u64 A) := fun h => hKc.row ((rPz h).alloc _) (by simp; exact ⟨nPN, nPW, nPOz⟩)
  have hKc2 : Kept [C, P, O] w wc := (hKb2.alloc _).then hKc (fun i hi hy => by
    simp at hy
    rcases hy with hy | hy | hy
    · omega
    · omega
    · simp [hy])
  clear hKc rNb rCb rOb rPz hKb2 e1 eNb eLb
  generalize wb.heap.size = W at *
  clear szb
  have h64c : ∀ p ∈ (st1 A).2, p < 18446744073709551616 := fun p hp => h64 p (st1_mem A p hp)
  have howc : ∀ p ∈ (st1 A).2, p % 4294967296 < 65536 := fun p hp => how p (st1_mem A p hp)
  go_wp2_with fail
  refine deal2 C Pz w.heap.size W O n cp ap (st1 A).2 A (st1 A).1 _ _ _ x4 x5 _ _ _ _ _ _ _ _ _ _ _ _ _ _ _ _ _ _ _ _ _ _ _ _ _ _ _ _ _ _ _ _ _ _ _ _ _ _ _ _ _ _ _ _ _ _ _ _ _ _ _ _ _ _ _ _ _ _ _ _ _ _ _ _ _ _ _ _ _ _ _ _ _ _ _ _ _ _ _ _ _ _ _ _ _ _ _ _ _ _ _ _ _ _ _ _ _ _ _ _ _ _ _ _ _ _ _ _ _ _ _ _ _ _ _ _ _ _ _ _ _ _ _ _ _ _ _ _ _ _ _ _ _ _ _ _ _ _ _ _ _ _ _ _ _ _ _ _ _ _ _ _ _ _ _ _ _ _ _ _ _ _ _ _ _ _ _ _ _ _ _ _ _ _ _ _ _ _ _ _ _ _ _ _ _ _ _ _ _ _ _ _ _ _ _ _ _ _ _ _ _ _ _ _ _ _ _ _ _ _ _ _ _ _ _ _ _ _ _ _ _ _ _ _ _ _ _ _ _ _ _ _ _ _ _ _ _ _ _ _ _ _ _ _ _ _ _ _ _ _ _ _ _ _ _ _ _ _ _ _ _ _ _ _ _ _ _ _ _ _ (by rw [st1_len2]; exact hA) hn (st1_len1 A) hA hapz h64c howc rCc rPc rNc rWc rOc
    nCN nCPz nPN nPW nPOz nNW nON.symm (fun k hk => by rw [← hA]; exact idx2 A k (by omega)) ?_
  intro d18 d19 d20 d157 d158 d159 d160 d161 d162 d163 d164 d165 d166 d167 d168 d169 d170 d171 d172 d173 d174 d175 d176 d177 d178 d179 d180 d181 d182 d183 d184 d185 d186 d187 wd rNd rPd hKd
  have e2 : dealTo d1 2048 (st1 A).2 ((st1 A).1, A) n = st2 A := by rw [← hA]; exact st2_eq A
  rw [e2] at rNd rPd
  have rCd := hKd.row rCc (by simp; exact ⟨nCN, nCPz⟩)
  have rWd := hKd.row rWc (by simp; exact ⟨nNW.symm, nPW.symm⟩)
  have rOd := hKd.row rOc (by simp; exact ⟨nON, nPOz.symm⟩)
  have hKd2 : Kept [C, P, O] w wd := hKc2.then hKd (fun i hi hy => by
    simp at hy
    rcases hy with hy | hy
    · omega
    · simp [hPi i hi hy])
  clear hKd rNc rCc rOc rPc rWc hKc2 e2 h64c howc
  have h64d : ∀ p ∈ (st2 A).2, p < 18446744073709551616 := fun p hp => h64 p (st2_mem A p hp)
  have gC0 : wd.cell? ⟨C, 0, none⟩ = some (.slice none 0 0) := by rw [rCd.cell]; rfl
  have gC0f := rCd.free 0
  go_wp2_with fail
  clear gC0 gC0f
  have rCe := rCd.set 0 (.slice (some ⟨W, 0, none⟩) n n)
  simp only [List.set_cons_zero] at rCe
  have rNe := rNd.other ⟨C, 0, none⟩ nCN.symm (.slice (some ⟨W, 0, none⟩) n n)
  have rWe := rWd.other ⟨C, 0, none⟩ nCW.symm (.slice (some ⟨W, 0, none⟩) n n)
  have rOe := rOd.other ⟨C, 0, none⟩ nCO.symm (.slice (some ⟨W, 0, none⟩) n n)
  have rPe : 0 < n → Row (wd.setCell ⟨C, 0, none⟩ (.slice (some ⟨W, 0, none⟩) n n)) Pz 44 (ints .u64 (st2 A).2) := fun h => (rPd h).other _ nCPz.symm _
  have hKe : Kept [C, P, O] w (wd.setCell ⟨C, 0, none⟩ (.slice (some ⟨W, 0, none⟩) n n)) := hKd2.setCell (.inr (by simp)) _
  clear rCd rNd rWd rOd rPd hKd2
  generalize wd.setCell ⟨C, 0, none⟩ (.slice (some ⟨W, 0, none⟩) n n) = we at *
  refine deal3 C Pz w.heap.size W O n cp ap (st2 A).2 (st1 A).2 (st2 A).1 _ _ x4 x5 _ _ _ _ _ _ _ _ _ _ _ _ _ _ _ _ _ _ _ _ _ _ _ _ _ _ _ _ _ _ _ _ _ _ _ _ _ _ _ _ _ _ _ _ _ _ _ _ _ _ _ _ _ _ _ _ _ _ _ _ _ _ _ _ _ _ _ _ _ _ _ _ _ _ _ _ _ _ _ _ _ _ _ _ _ _ _ _ _ _ _ _ _ _ _ _ _ _ _ _ _ _ _ _ _ _ _ _ _ _ _ _ _ _ _ _ _ _ _ _ _ _ _ _ _ _ _ _ _ _ _ _ _ _ _ _ _ _ _ _ _ _ _ _ _ _ _ _ _ _ _ _ _ _ _ _ _ _ _ _ _ _ _ _ _ _ _ _ _ _ _ _ _ _ _ _ _ _ _ _ _ _ _ _ _ _ _ _ _ _ _ _ _ _ _ _ _ _ _ _ _ _ _ _ _ _ _ _ _ _ _ _ _ _ _ _ _ _ _ _ _ _ _ _ _ _ _ _ _ _ _ _ _ _ _ _ _ _ _ _ _ _ _ _ _ _ _ _ _ _ _ _ _ _ _ _ _ _ _ _ _ _ _ _ _ _ _ _ _ _ _ (by rw [st2_len2]; exact hA) hn (st2_len1 A) (by rw [st1_len2]; exact hA) hapz h64d rCe rPe rNe rWe rOe
    nCN nCW nCO nPN nPW nPOz nNW nON.symm nOW.symm (fun k hk => by rw [← hA]; exact idx3 A h64 k (by omega)) ?_
  intro e22 e23 e196 e197 e198 e199 e200 e201 e202 e203 e204 e205 e206 e207 e208 e209 e210 e211 e212 e213 e214 e215 e216 e217 e218 e219 e220 e221 e222 e223 e224 e225 e226 e227 e228 e229 e230 wf rNf rWf rOf hKf
  have e3 : (dealTo d2 4096 (st2 A).2 ((st2 A).1, (st1 A).2) n).2 = radix A := by rw [← hA]; exact st3_eq A
  rw [e3] at rWf rOf
  have rCf := hKf.row rCe (by simp; exact ⟨nCN, nCW, nCO⟩)
  have hKf2 : Kept [C, P, O] w wf := hKe.then hKf (fun i hi hy => by
    simp at hy
    rcases hy with hy | hy | hy
    · omega
    · omega
    · simp [hy])
  clear hKf e3 rNf rCe rNe rWe rOe rPe hKe
  go_wp2_with fail
  refine bodyPost_ret (results_none rfl _ _ _) rfl ?_
  exact ⟨rfl, hKf2, W, sWw, rCf, rWf, rOf⟩

end Go.Proofs.Qxb6000070aMods
