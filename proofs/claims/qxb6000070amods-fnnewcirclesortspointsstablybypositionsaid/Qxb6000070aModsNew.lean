/-
  newCircle.
-/
import Derived.Test.Qxb6000070aModsSort
import Derived.Test.Qxb6000070aModsPlaced
namespace Go.Proofs.Qxb6000070aMods
open Go.RowKit

set_option maxHeartbeats 2000000 in
set_option maxRecDepth 100000 in
theorem new_any (P n cp m cm : Nat) (ap an : Option Addr) (A : List Nat) (w : World)
    (hA : A.length = n) (hn : n < 131074) (hm : m ≤ 65536) (hap : 0 < n → ap = some ⟨P, 0, none⟩) (h64 : ∀ p ∈ A, p < 18446744073709551616) (how : ∀ p ∈ A, p % 4294967296 < m)
    (rP : 0 < n → Row w P 44 (ints .u64 A)) (nPs : 0 < n → P < w.heap.size) :
    Calls Trym.prog 27 #[.slice an m cm, .slice ap n cp] w fun e w' => ∃ W O, w.heap.size ≤ W ∧ w.heap.size ≤ O ∧ W ≠ O ∧
      e = .returned (.agg #[.slice (some ⟨W, 0, none⟩) n n, .slice none 0 0, .slice none 0 0, .slice (some ⟨O, 0, none⟩) n n, .slice an m cm, .int .i64 ((distinctN (A.map own) m : Nat) : Int)]) ∧
        Kept [P] w w' ∧ Row w' W 24 (ints .u32 ((radix A).map pos)) ∧ Row w' O 34 (ints .u16 ((radix A).map own)) := by
  have hmk := fun w => run_make1 (P := Trym.prog) w 23 34 (.int .u16 0) 2 Trym.underlying23 Trym.infoU16 rfl n (by omega) (by omega)
  have hmb := fun w => run_make1 (P := Trym.prog) w 51 4 (.bool false) 1 Trym.underlying51 Trym.infoBool rfl m (by omega) (by omega)
  go_enter Trym.func27, Trym.ntmps27
  go_wp2_with fail
  obtain ⟨w3, hw3⟩ : ∃ w3, w3 = (((w.alloc (Obj.cells #[Value.slice none 0 0, Value.slice none 0 0, Value.slice none 0 0, Value.slice none 0 0, Value.slice none 0 0, Value.int IntKind.i64 0] 48)).alloc
    (Obj.cells (Array.replicate n (Value.int IntKind.u16 0)) 34)).alloc (Obj.cells #[Value.slice none 0 0, Value.slice none 0 0, Value.slice none 0 0, Value.slice (some ⟨w.heap.size + 1, 0, none⟩) n n, Value.slice an m cm, Value.int IntKind.i64 0] 48)) := ⟨_, rfl⟩
  rw [← hw3]
  have rR : Row w3 w.heap.size 48 [.slice none 0 0, .slice none 0 0, .slice none 0 0, .slice none 0 0, .slice none 0 0, .int .i64 0] := by
    rw [hw3]; exact ((Row.newAt w _ _ _ rfl).alloc _).alloc _
  have rO : Row w3 (w.heap.size + 1) 34 (ints .u16 (List.replicate n 0)) := by
    rw [hw3, ints, List.map_replicate]; exact (Row.newRep _ _ _ n _ (by simp)).alloc _
  have rC : Row w3 (w.heap.size + 1 + 1) 48 [.slice none 0 0, .slice none 0 0, .slice none 0 0, .slice (some ⟨w.heap.size + 1, 0, none⟩) n n, .slice an m cm, .int .i64 0] := by
    rw [hw3]; exact Row.newAt _ _ _ _ (by simp)
  have hK3 : Kept [] w w3 := by rw [hw3]; exact (((Kept.refl _ w).alloc _).alloc _).alloc _
  have hs3 : w3.heap.size = w.heap.size + 3 := by rw [hw3]; simp
  clear hw3
  obtain ⟨Pz, hPz, hPy⟩ : ∃ Pz, (0 < n → Pz = P) ∧ (¬ 0 < n → Pz = w3.heap.size) := by
    by_cases h : 0 < n
    · exact ⟨P, fun _ => rfl, fun h' => absurd h h'⟩
    · exact ⟨_, fun h' => absurd h' h, fun _ => rfl⟩
  have hPc : (0 < n ∧ Pz = P ∧ P < w.heap.size) ∨ (¬ 0 < n ∧ Pz = w3.heap.size) := by
    by_cases h : 0 < n
    · exact .inl ⟨h, hPz h, nPs h⟩
    · exact .inr ⟨h, hPy h⟩
  have hapz : 0 < n → ap = some ⟨Pz, 0, none⟩ := fun h => by rw [hPz h]; exact hap h
  have rP3 : 0 < n → Row w3 Pz 44 (ints .u64 A) := fun h => by rw [hPz h]; exact hK3.row (rP h) (by simp)
  generalize hCe : w.heap.size + 1 + 1 = C at *
  generalize hOe : w.heap.size + 1 = O at *
  have nCO : C ≠ O := by omega
  have nCP : 0 < n → C ≠ Pz := fun h => by omega
  have nPO : 0 < n → Pz ≠ O := fun h => by omega
  have nCs : w.heap.size ≤ C := by omega
  have nOs : w.heap.size ≤ O := by omega
  have nRC : w.heap.size ≠ C := by omega
  have nRO : w.heap.size ≠ O := by omega
  clear hCe hOe
  have how2 : ∀ p ∈ A, p % 4294967296 < 65536 := fun p hp => by have := how p hp; omega
  refine (sort_any C Pz O n cp ap A _ _ w3 hA hn hapz h64 how2 rC rP3 rO (fun h => by omega) nCP nCO nPO).mono ?_
  rintro e w4 ⟨rfl, hK4, W, hW, qC, qW, qO⟩
  have qR := hK4.row rR (by simp; exact ⟨nRC, by omega, nRO⟩)
  have hKP : Kept [P] w w4 := (hK3.mono (by simp)).then hK4 (fun i hi hy => by
    simp at hy ⊢
    rcases hy with hy | hy | hy <;> omega)
  have hs4 := hK4.size
  have nWC : W ≠ C := by have := rC.lt; omega
  have nWO : W ≠ O := by have := rO.lt; omega
  have nWs : w.heap.size ≤ W := by omega
  have nWs2 : w.heap.size < W := by omega
  have lW := qW.lt
  have lC := qC.lt
  have lO := qO.lt
  clear rC rO rP3 rR hK4 hK3 rP hap hs3 hs4 hW hapz hPz hPy hPc nCP nPO nPs Pz
  have gC3 : w4.cell? ⟨C, 3, none⟩ = some (.slice (some ⟨O, 0, none⟩) n n) := by rw [qC.cell]; rfl
  go_wp2_with fail
  clear gC3
  -- the loop over the owners
  have hl : ((radix A).map own).length = n := by rw [List.length_map, radix_len, hA]
  have hlm : ∀ k, k < n → ((radix A).map own).getD k 0 < m := by
    intro k hk
    have hmem : ((radix A).map own).getD k 0 ∈ (radix A).map own := getD_mem _ k (by omega)
    rw [List.mem_map] at hmem
    obtain ⟨p, hp, e⟩ := hmem
    have h1 := how p (radix_mem A h64 p hp)
    have h2 := how2 p (radix_mem A h64 p hp)
    rw [← e]
    unfold own
    omega
  have hde : distinctN ((radix A).map own) m = distinctN (A.map own) m := distinct_congr m (radix_own A h64)
  have HDE := (show Hid _ from hde)
  clear hde how how2 h64
  generalize hle : (radix A).map own = l at *
  have HLE := (show Hid _ from hle)
  clear hle
  have qC5 := qC.alloc (Obj.cells (Array.replicate m (Value.bool false)) 4)
  have qW5 := qW.alloc (Obj.cells (Array.replicate m (Value.bool false)) 4)
  have qO5 := qO.alloc (Obj.cells (Array.replicate m (Value.bool false)) 4)
  have qR5 := qR.alloc (Obj.cells (Array.replicate m (Value.bool false)) 4)
  have qB5 : Row (w4.alloc (Obj.cells (Array.replicate m (Value.bool false)) 4)) w4.heap.size 4 (bools (seen (l.take 0) m)) := by
    have e : bools (seen (l.take 0) m) = List.replicate m (.bool false) := by rw [List.take_zero, seen_nil, bools, List.map_replicate]
    rw [e]; exact Row.newRep _ _ _ _ _ rfl
  have hKP5 := hKP.alloc (Obj.cells (Array.replicate m (Value.bool false)) 4)
  have nBC : w4.heap.size ≠ C := by omega
  have nBO : w4.heap.size ≠ O := by omega
  have nBW : w4.heap.size ≠ W := by omega
  have nBR : w4.heap.size ≠ w.heap.size := by omega
  have nBs : w.heap.size ≤ w4.heap.size := by omega
  clear qC qW qO qR hKP lW lC lO hmk hmb
  generalize w4.alloc (Obj.cells (Array.replicate m (Value.bool false)) 4) = w5 at *
  generalize w4.heap.size = B at *
  go_loopw [22] (fun i wr => ∃ k : Nat, k ≤ n ∧ i = .int .i64 k ∧ Row wr C 48 [.slice (some ⟨W, 0, none⟩) n n, .slice none 0 0, .slice none 0 0, .slice (some ⟨O, 0, none⟩) n n, .slice an m cm, .int .i64 ((distinctN (l.take k) m : Nat) : Int)] ∧
      Row wr B 4 (bools (seen (l.take k) m)) ∧ Kept [C, B] w5 wr) (fun i _ => n - (intOf i).toNat)
  case atStart => exact ⟨0, Nat.zero_le _, rfl, by rw [List.take_zero, distinct_nil]; exact qC5, qB5, Kept.refl _ _⟩
  case round =>
    obtain ⟨k, hk, rfl, rC, rB, hKr⟩ := hrel
    by_cases hlt : k < n
    · have rO := hKr.row qO5 (by simp; exact ⟨nCO.symm, nBO.symm⟩)
      have gO := rO.int k (by omega)
      have hv := hlm k hlt
      have gB := rB.cell (l.getD k 0)
      rw [bools_get _ _ (by rw [seen_len]; exact hv), seen_get _ _ _ hv] at gB
      have gBf := rB.free (l.getD k 0)
      have gC : wr.cell? ⟨C, 5, none⟩ = some (.int .i64 ((distinctN (l.take k) m : Nat) : Int)) := by rw [rC.cell]; rfl
      have gCf := rC.free 5
      have hdl := distinct_le (l.take k) m
      have HRC := (show Hid (Row wr C 48 [.slice (some ⟨W, 0, none⟩) n n, .slice none 0 0, .slice none 0 0, .slice (some ⟨O, 0, none⟩) n n, .slice an m cm, .int .i64 ((distinctN (l.take k) m : Nat) : Int)]) from rC)
      have HRB := (show Hid (Row wr B 4 (bools (seen (l.take k) m))) from rB)
      clear rC rB rO
      by_cases hmem : l.getD k 0 ∈ l.take k
      · have h1 := distinct_old l m k (by omega) hmem
        have h2 := seen_old l m k (by omega) hmem
        have H1 := (show Hid _ from h1)
        have H2 := (show Hid _ from h2)
        rw [decide_eq_true hmem] at gB
        clear h1 h2 hmem
        generalize l.getD k 0 = v at *
        generalize distinctN (l.take k) m = c at *
        go_wp2_with fail
        go_roundw
        case rel => exact ⟨k + 1, by omega, by go_num, by rw [H1.out]; exact HRC.out, by rw [H2.out]; exact HRB.out, hKr⟩
        case measure => simp [intOf]; omega
      · have h1 := distinct_new l m k (by omega) hv hmem
        have h2 := seen_new l m k (by omega)
        have H1 := (show Hid _ from h1)
        have H2 := (show Hid _ from h2)
        rw [decide_eq_false hmem] at gB
        clear h1 h2 hmem
        generalize l.getD k 0 = v at *
        generalize distinctN (l.take k) m = c at *
        go_wp2_with fail
        go_roundw
        case rel =>
          refine ⟨k + 1, by omega, by go_num, ?_, ?_, (hKr.setCell (.inr (by simp)) _).setCell (.inr (by simp)) _⟩
          · rw [H1.out]
            exact (HRC.out.other _ nBC.symm _).set 5 _
          · rw [H2.out, ← bools_set]
            exact (HRB.out.set v _).other _ nBC _
        case measure => simp [intOf]; omega
    · have hkn : k = n := by omega
      subst hkn
      rw [List.take_of_length_le (by omega)] at rC
      have rW := hKr.row qW5 (by simp; exact ⟨nWC, nBW.symm⟩)
      have rO := hKr.row qO5 (by simp; exact ⟨nCO.symm, nBO.symm⟩)
      have rR := hKr.row qR5 (by simp; exact ⟨nRC, nBR.symm⟩)
      have hKf : Kept [P] w wr := hKP5.then hKr (fun i hi hy => by
        simp at hy ⊢
        rcases hy with hy | hy <;> omega)
      rw [HDE.out] at rC
      generalize hce : distinctN (A.map own) m = c at *
      have HC : Hid (distinctN (A.map own) m = c) := hce
      clear hce
      have nWR : W ≠ w.heap.size := by omega
      have g0 : wr.cell? ⟨C, 0, none⟩ = some (.slice (some ⟨W, 0, none⟩) k k) := by rw [rC.cell]; rfl
      have g1 : wr.cell? ⟨C, 1, none⟩ = some (.slice none 0 0) := by rw [rC.cell]; rfl
      have g2 : wr.cell? ⟨C, 2, none⟩ = some (.slice none 0 0) := by rw [rC.cell]; rfl
      have g3 : wr.cell? ⟨C, 3, none⟩ = some (.slice (some ⟨O, 0, none⟩) k k) := by rw [rC.cell]; rfl
      have g4 : wr.cell? ⟨C, 4, none⟩ = some (.slice an m cm) := by rw [rC.cell]; rfl
      have g5 : wr.cell? ⟨C, 5, none⟩ = some (.int .i64 (c : Int)) := by rw [rC.cell]; rfl
      have r0 : wr.cell? ⟨w.heap.size, 0, none⟩ = some (.slice none 0 0) := by rw [rR.cell]; rfl
      have r1 : wr.cell? ⟨w.heap.size, 1, none⟩ = some (.slice none 0 0) := by rw [rR.cell]; rfl
      have r2 : wr.cell? ⟨w.heap.size, 2, none⟩ = some (.slice none 0 0) := by rw [rR.cell]; rfl
      have r3 : wr.cell? ⟨w.heap.size, 3, none⟩ = some (.slice none 0 0) := by rw [rR.cell]; rfl
      have r4 : wr.cell? ⟨w.heap.size, 4, none⟩ = some (.slice none 0 0) := by rw [rR.cell]; rfl
      have r5 : wr.cell? ⟨w.heap.size, 5, none⟩ = some (.int .i64 0) := by rw [rR.cell]; rfl
      have f0 := rR.free 0
      have f1 := rR.free 1
      have f2 := rR.free 2
      have f3 := rR.free 3
      have f4 := rR.free 4
      have f5 := rR.free 5
      go_wp2_with fail
      have rRf := (((((rR.set 0 (.slice (some ⟨W, 0, none⟩) k k)).set 1 (.slice none 0 0)).set 2 (.slice none 0 0)).set 3 (.slice (some ⟨O, 0, none⟩) k k)).set 4 (.slice an m cm)).set 5 (.int .i64 (c : Int))
      simp only [List.set_cons_zero, List.set_cons_succ] at rRf
      have rWf := (((((rW.other ⟨w.heap.size, 0, none⟩ nWR (.slice (some ⟨W, 0, none⟩) k k)).other ⟨w.heap.size, 1, none⟩ nWR (.slice none 0 0)).other ⟨w.heap.size, 2, none⟩ nWR (.slice none 0 0)).other ⟨w.heap.size, 3, none⟩ nWR (.slice (some ⟨O, 0, none⟩) k k)).other ⟨w.heap.size, 4, none⟩ nWR (.slice an m cm)).other ⟨w.heap.size, 5, none⟩ nWR (.int .i64 (c : Int))
      have rOf := (((((rO.other ⟨w.heap.size, 0, none⟩ nRO.symm (.slice (some ⟨W, 0, none⟩) k k)).other ⟨w.heap.size, 1, none⟩ nRO.symm (.slice none 0 0)).other ⟨w.heap.size, 2, none⟩ nRO.symm (.slice none 0 0)).other ⟨w.heap.size, 3, none⟩ nRO.symm (.slice (some ⟨O, 0, none⟩) k k)).other ⟨w.heap.size, 4, none⟩ nRO.symm (.slice an m cm)).other ⟨w.heap.size, 5, none⟩ nRO.symm (.int .i64 (c : Int))
      have hKg := (((((hKf.setCell (p := ⟨w.heap.size, 0, none⟩) (.inl (Nat.le_refl _)) (.slice (some ⟨W, 0, none⟩) k k)).setCell (p := ⟨w.heap.size, 1, none⟩) (.inl (Nat.le_refl _)) (.slice none 0 0)).setCell (p := ⟨w.heap.size, 2, none⟩) (.inl (Nat.le_refl _)) (.slice none 0 0)).setCell (p := ⟨w.heap.size, 3, none⟩) (.inl (Nat.le_refl _)) (.slice (some ⟨O, 0, none⟩) k k)).setCell (p := ⟨w.heap.size, 4, none⟩) (.inl (Nat.le_refl _)) (.slice an m cm)).setCell (p := ⟨w.heap.size, 5, none⟩) (.inl (Nat.le_refl _)) (.int .i64 (c : Int))
      generalize (((((wr.setCell ⟨w.heap.size, 0, none⟩ (.slice (some ⟨W, 0, none⟩) k k)).setCell ⟨w.heap.size, 1, none⟩ (.slice none 0 0)).setCell ⟨w.heap.size, 2, none⟩ (.slice none 0 0)).setCell ⟨w.heap.size, 3, none⟩ (.slice (some ⟨O, 0, none⟩) k k)).setCell ⟨w.heap.size, 4, none⟩ (.slice an m cm)).setCell ⟨w.heap.size, 5, none⟩ (.int .i64 (c : Int)) = wf at *
      refine bodyPost_ret (results_cell_row (P := Trym.prog) rfl _ wf w.heap.size _ _ _ _ rfl rRf Trym.underlying48 rfl Trym.infoCirc) rfl ?_
      exact ⟨W, O, nWs, nOs, nWO, by rw [HC.out], hKg, rWf, by rw [HLE.out]; exact rOf⟩
end Go.Proofs.Qxb6000070aMods
