/-
  The thin shims of the seat's laws, and decodePositions of a circle that holds its positions whole.
-/
import Derived.Test.Qxb6000051aModsNew
import Derived.Test.Qxb6000051aModsClone
namespace Go.Proofs.Qxb6000051aMods
open Go.RowKit

/-- A circle as the walk leaves it in memory: six cells at the head of block C. -/
def Circ (w : World) (C W O n m cm : Nat) (an : Option Addr) (d : Nat) : Prop :=
  Row w C 31 [.slice (some ⟨W, 0, none⟩) n n, .slice none 0 0, .slice none 0 0, .slice (some ⟨O, 0, none⟩) n n, .slice an m cm, .int .i64 (d : Int)]

/-- What ZZNewCircle leaves. -/
def NewPost (P n m cm : Nat) (an : Option Addr) (A : List Nat) (w : World) (e : Ending) (w' : World) : Prop :=
  ∃ W O, w.heap.size ≤ W ∧ w.heap.size ≤ O ∧ W ≠ O ∧
    e = .returned (.agg #[.slice (some ⟨W, 0, none⟩) n n, .slice none 0 0, .slice none 0 0, .slice (some ⟨O, 0, none⟩) n n, .slice an m cm, .int .i64 ((distinctN (A.map own) m : Nat) : Int)]) ∧
      Kept [P] w w' ∧ Row w' W 41 (ints .u32 ((radix A).map pos)) ∧ Row w' O 42 (ints .u16 ((radix A).map own))

set_option maxHeartbeats 1000000 in
theorem zznew_any (P n cp m cm : Nat) (ap an : Option Addr) (A : List Nat) (w : World)
    (hA : A.length = n) (hn : n < 131074) (hm : m ≤ 65536) (hap : 0 < n → ap = some ⟨P, 0, none⟩) (h64 : ∀ p ∈ A, p < 18446744073709551616) (how : ∀ p ∈ A, p % 4294967296 < m)
    (rP : 0 < n → Row w P 36 (ints .u64 A)) (nPs : 0 < n → P < w.heap.size) :
    Calls Trym.prog 13 #[.slice an m cm, .slice ap n cp] w fun e w' => NewPost P n m cm an A w e w' := by
  go_enter Trym.func13, Trym.ntmps13
  go_wp2_with fail
  have rR := Row.newAt w 31 [.slice none 0 0, .slice none 0 0, .slice none 0 0, .slice none 0 0, .slice none 0 0, .int .i64 0] _ rfl
  have hK1 : Kept [] w (w.alloc (.cells #[.slice none 0 0, .slice none 0 0, .slice none 0 0, .slice none 0 0, .slice none 0 0, .int .i64 0] 31)) := (Kept.refl _ w).alloc _
  have hs1 : (w.alloc (.cells #[.slice none 0 0, .slice none 0 0, .slice none 0 0, .slice none 0 0, .slice none 0 0, .int .i64 0] 31)).heap.size = w.heap.size + 1 := by simp
  generalize w.alloc (.cells #[.slice none 0 0, .slice none 0 0, .slice none 0 0, .slice none 0 0, .slice none 0 0, .int .i64 0] 31) = w1 at *
  obtain ⟨Pz, hPz, hPy⟩ : ∃ Pz, (0 < n → Pz = P) ∧ (¬ 0 < n → Pz = w1.heap.size) := by
    by_cases h : 0 < n
    · exact ⟨P, fun _ => rfl, fun h' => absurd h h'⟩
    · exact ⟨_, fun h' => absurd h' h, fun _ => rfl⟩
  have hPc : (0 < n ∧ Pz = P ∧ P < w.heap.size) ∨ (¬ 0 < n ∧ Pz = w1.heap.size) := by
    by_cases h : 0 < n
    · exact .inl ⟨h, hPz h, nPs h⟩
    · exact .inr ⟨h, hPy h⟩
  refine (new_any Pz n cp m cm ap an A w1 hA hn hm (fun h => by rw [hPz h]; exact hap h) h64 how (fun h => by rw [hPz h]; exact hK1.row (rP h) (by simp)) (fun h => by omega)).mono ?_
  rintro e w2 ⟨W, O, hW, hO, hWO, rfl, hK2, rW, rO⟩
  have rR2 := hK2.row rR (by simp; omega)
  have hK3 : Kept [P] w w2 := (hK1.mono (by simp)).then hK2 (fun i hi hy => by
    simp at hy ⊢
    omega)
  have nWR : W ≠ w.heap.size := by omega
  have nOR : O ≠ w.heap.size := by omega
  clear rR hK1 hK2 hPc hPz hPy
  generalize hc : distinctN (A.map own) m = c at *
  have HC : Hid (distinctN (A.map own) m = c) := hc
  clear hc
  obtain ⟨⟨r0, r1, r2, r3, r4, r5⟩, ⟨f0, f1, f2, f3, f4, f5⟩⟩ := rR2.six
  go_wp2_with fail
  obtain ⟨wf, hwf, qR, qo, qk, qs⟩ := six_facts w2 w.heap.size 31 _ _ _ _ _ _ (.slice (some ⟨W, 0, none⟩) n n) (.slice none 0 0) (.slice none 0 0) (.slice (some ⟨O, 0, none⟩) n n) (.slice an m cm) (.int .i64 (c : Int)) rR2
  rw [← hwf]
  refine bodyPost_ret (results_cell_row (P := Trym.prog) rfl _ wf w.heap.size _ _ _ _ rfl qR Trym.underlying31 rfl Trym.infoCirc) rfl ?_
  exact ⟨W, O, by omega, by omega, hWO, by rw [HC.out], qk _ _ hK3 (.inl (Nat.le_refl _)), qo _ _ _ nWR rW, qo _ _ _ nOR rO⟩

/-! ### the shims that read one field -/
set_option maxHeartbeats 400000 in
theorem zzwide_any (C : Nat) (a : Option Addr) (n c : Nat) (w : World) (h : w.cell? ⟨C, 0, none⟩ = some (.slice a n c)) :
    Calls Trym.prog 19 #[.pointer (some ⟨C, 0, none⟩)] w fun e w' => e = .returned (.slice a n c) ∧ w' = w := by
  go_enter Trym.func19, Trym.ntmps19
  go_wp2
  go_ret
  exact ⟨rfl, rfl⟩

set_option maxHeartbeats 400000 in
theorem zznarrow_any (C : Nat) (a : Option Addr) (n c : Nat) (w : World) (h : w.cell? ⟨C, 1, none⟩ = some (.slice a n c)) :
    Calls Trym.prog 20 #[.pointer (some ⟨C, 0, none⟩)] w fun e w' => e = .returned (.slice a n c) ∧ w' = w := by
  go_enter Trym.func20, Trym.ntmps20
  go_wp2
  go_ret
  exact ⟨rfl, rfl⟩

set_option maxHeartbeats 400000 in
theorem zzstarts_any (C : Nat) (a : Option Addr) (n c : Nat) (w : World) (h : w.cell? ⟨C, 2, none⟩ = some (.slice a n c)) :
    Calls Trym.prog 21 #[.pointer (some ⟨C, 0, none⟩)] w fun e w' => e = .returned (.slice a n c) ∧ w' = w := by
  go_enter Trym.func21, Trym.ntmps21
  go_wp2
  go_ret
  exact ⟨rfl, rfl⟩

set_option maxHeartbeats 400000 in
theorem zzowners_any (C : Nat) (a : Option Addr) (n c : Nat) (w : World) (h : w.cell? ⟨C, 3, none⟩ = some (.slice a n c)) :
    Calls Trym.prog 22 #[.pointer (some ⟨C, 0, none⟩)] w fun e w' => e = .returned (.slice a n c) ∧ w' = w := by
  go_enter Trym.func22, Trym.ntmps22
  go_wp2
  go_ret
  exact ⟨rfl, rfl⟩

set_option maxHeartbeats 400000 in
theorem zzplaced_any (C : Nat) (d : Int) (w : World) (h : w.cell? ⟨C, 5, none⟩ = some (.int .i64 d)) :
    Calls Trym.prog 15 #[.pointer (some ⟨C, 0, none⟩)] w fun e w' => e = .returned (.int .i64 d) ∧ w' = w := by
  go_enter Trym.func15, Trym.ntmps15
  go_wp2
  go_ret
  exact ⟨rfl, rfl⟩

set_option maxHeartbeats 400000 in
theorem zzsize_any (C : Nat) (a : Option Addr) (n c : Nat) (w : World) (h : w.cell? ⟨C, 3, none⟩ = some (.slice a n c)) :
    Calls Trym.prog 17 #[.pointer (some ⟨C, 0, none⟩)] w fun e w' => e = .returned (.int .i64 n) ∧ w' = w := by
  go_enter Trym.func17, Trym.ntmps17
  go_wp2
  go_ret
  exact ⟨rfl, rfl⟩

/-- What decodePositions leaves of a circle that holds its positions whole. -/
def Decoded (n : Nat) (q : List Nat) (w : World) (e : Ending) (w' : World) : Prop :=
  e = .returned (.tuple #[.slice (some ⟨w.heap.size, 0, none⟩) n n, .bool true]) ∧ Kept [] w w' ∧ w.heap.size < w'.heap.size ∧ Row w' w.heap.size 41 (ints .u32 q)

set_option maxHeartbeats 1000000 in
theorem decode_any (W n : Nat) (q : List Nat) (w : World) (hq : q.length = n) (hn : n ≤ 1048576) (rW : Row w W 41 (ints .u32 q)) :
    Calls Trym.prog 18 #[.slice (some ⟨W, 0, none⟩) n n, .slice none 0 0, .slice none 0 0] w fun e w' => Decoded n q w e w' := by
  have hnl := fun (w : World) (a : Option Addr) (n c n' c' : Nat) => Lib.run_eql_slice_nil (P := Trym.prog) w _ _ a n c n' c' Trym.underlying28
  have hmk := fun w => run_make1 (P := Trym.prog) w 28 41 (.int .u32 0) 4 Trym.underlying28 Trym.infoU32 rfl n (by omega) (by omega)
  have hvl : (ints .u32 q).length = n := by simp [ints, hq]
  go_enter Trym.func18, Trym.ntmps18
  go_wp2_with fail
  have r0 : Row (w.alloc (.cells (Array.replicate n (.int .u32 0)) 41)) w.heap.size 41 (upTo (ints .u32 q) (.int .u32 0) 0) := by
    rw [upTo_zero, hvl]; exact Row.newRep _ _ _ _ _ rfl
  have k0 := (Kept.refl [] w).alloc (.cells (Array.replicate n (.int .u32 0)) 41)
  generalize w.alloc (.cells (Array.replicate n (.int .u32 0)) 41) = w1 at *
  go_loopw [9] (fun i wr => ∃ k : Nat, k ≤ n ∧ i = .int .i64 k ∧ Kept [] w wr ∧ Row wr w.heap.size 41 (upTo (ints .u32 q) (.int .u32 0) k)) (fun i _ => n - (intOf i).toNat)
  case atStart => exact ⟨0, Nat.zero_le _, rfl, k0, r0⟩
  case round =>
    obtain ⟨k, hk, rfl, hK, hR⟩ := hrel
    clear k0 r0
    by_cases hlt : k < n
    · have h1 := (hK.row rW (by simp)).int k (by omega)
      have h2 := hR.cell k
      rw [upTo_get _ _ _ (by omega)] at h2
      have h3 := hR.free k
      have hv := ints_get .u32 q k (by omega)
      have HR := (show Hid (Row wr w.heap.size 41 (upTo (ints .u32 q) (.int .u32 0) k)) from hR)
      have HV := (show Hid _ from hv)
      have HVL := (show Hid _ from hvl)
      clear hv hR hmk hnl hvl
      generalize q.getD k 0 = v at *
      go_wp2_with fail
      go_roundw
      case rel => exact ⟨k + 1, by omega, by go_num, hK.setCell (.inl (Nat.le_refl _)) _, HR.out.upToNext (by have := HVL.out; omega) HV.out⟩
      case measure => simp [intOf]; omega
    · have hkn : k = n := by omega
      subst hkn
      have hR2 : Row wr w.heap.size 41 (ints .u32 q) := by
        have := hR
        rw [← hvl, upTo_all] at this
        exact this
      go_wp2_with fail
      go_ret2
      exact ⟨rfl, hK, hR2.lt, hR2⟩


end Go.Proofs.Qxb6000051aMods
