/-
  atOrAfter over whole positions, and (*circle).first.
-/
import Derived.Test.Qxb6000070aModsReverse
import Derived.Test.Qxb6000070aModsGuards
namespace Go.Proofs.Qxb6000070aMods
open Go.RowKit

/-- i is the least place whose number is at or after x (n: none is). -/
def LeastAt (q : List Nat) (n x i : Nat) : Prop := i ≤ n ∧ (∀ j, j < i → q.getD j 0 < x) ∧ ∀ j, i ≤ j → j < n → x ≤ q.getD j 0
/-- r is the least place whose number is at or after x, or 0 where none is. -/
def FirstIs (q : List Nat) (n x r : Nat) : Prop := (r < n ∧ (∀ j, j < r → q.getD j 0 < x) ∧ x ≤ q.getD r 0) ∨ (r = 0 ∧ ∀ j, j < n → q.getD j 0 < x)
theorem FirstIs.unique {q : List Nat} {n x r s : Nat} (h : FirstIs q n x r) (k : FirstIs q n x s) : r = s := by
  rcases h with ⟨h1, h2, h3⟩ | ⟨h1, h2⟩
  · rcases k with ⟨k1, k2, k3⟩ | ⟨k1, k2⟩
    · rcases Nat.lt_trichotomy r s with e | e | e
      · have := k2 r e; omega
      · exact e
      · have := h2 s e; omega
    · have := k2 r h1; omega
  · rcases k with ⟨k1, k2, k3⟩ | ⟨k1, k2⟩
    · have := h2 s k1; omega
    · omega
theorem LeastAt.first {q : List Nat} {n x i : Nat} (h : LeastAt q n x i) : FirstIs q n x (if i = n then 0 else i) := by
  obtain ⟨h1, h2, h3⟩ := h
  by_cases e : i = n
  · rw [if_pos e]
    exact .inr ⟨rfl, fun j hj => h2 j (by omega)⟩
  · rw [if_neg e]
    exact .inl ⟨by omega, h2, h3 i (Nat.le_refl _) (by omega)⟩
/-- What such a call answers. -/
def Answers (C : Nat → Prop) (w : World) (e : Ending) (w' : World) : Prop := ∃ i : Nat, e = .returned (.int .i64 (i : Int)) ∧ w' = w ∧ C i

theorem sign_neg (a b : Nat) (h : a < b) (hb : b < 4294967296) : ((a : Int) - (b : Int)) / 9223372036854775808 = -1 := by omega
theorem sign_pos (a b : Nat) (h : b ≤ a) (ha : a < 4294967296) : ((a : Int) - (b : Int)) / 9223372036854775808 = 0 := by omega

theorem and_ones (h : Nat) (hh : h ≤ 1048576) : bits .and .i64 (h : Int) (-1) = (h : Int) := by
  have h1 : BitVec.ofInt IntKind.i64.bits (-1) = BitVec.allOnes IntKind.i64.bits := by decide
  unfold bits
  simp only [h1, BitVec.and_allOnes]
  have : (BitVec.ofInt IntKind.i64.bits (h : Int)).toNat = h := ofInt_u64 h (by omega)
  rw [this, IntKind.wrap_i64]
  omega
theorem and_none (h : Nat) : bits .and .i64 (h : Int) 0 = 0 := by
  have h1 : BitVec.ofInt IntKind.i64.bits 0 = 0#(IntKind.i64.bits) := by decide
  unfold bits
  simp only [h1, BitVec.and_zero]
  decide

set_option maxHeartbeats 1000000 in
theorem at_any (n cp : Nat) (ap : Option Addr) (q : List Nat) (x : Nat) (w : World) (hap : Nums .u32 w ap n q) (hq : q.length = n) (hn : n ≤ 1048576) (hx : x < 4294967296) (h32 : ∀ p ∈ q, p < 4294967296)
    (hs : ∀ i j, i ≤ j → j < n → q.getD i 0 ≤ q.getD j 0) :
    Calls Trym.prog 28 #[.slice ap n cp, .int .u32 x] w fun e w' => Answers (LeastAt q n x) w e w' := by
  go_enter Trym.func28, Trym.ntmps28
  go_wp2_with fail
  go_loop [5, 6] (fun b l => ∃ base m : Nat, base + m ≤ n ∧ b = .int .i64 base ∧ l = .int .i64 m ∧ (0 < n → 0 < m) ∧ (∀ j, j < base → q.getD j 0 < x) ∧ ∀ j, base + m ≤ j → j < n → x ≤ q.getD j 0) (fun _ l => (intOf l).toNat)
  case atStart => exact ⟨0, n, by omega, rfl, rfl, fun h => h, fun j h => by omega, fun j h1 h2 => by omega⟩
  case round =>
    obtain ⟨base, m, hbm, rfl, rfl, hm0, hlo, hhi⟩ := hrel
    have HLO := (show Hid _ from hlo)
    have HHI := (show Hid _ from hhi)
    have HS := (show Hid _ from hs)
    clear hlo hhi hs
    by_cases hm : 1 < m
    · obtain ⟨h, hh⟩ : ∃ h, h = m / 2 := ⟨_, rfl⟩
      have hd : (m : Int) / 2 = (h : Int) := by omega
      have h1 : 0 < h := by omega
      have h2 : 2 * h ≤ m := by omega
      have h3 : h < m := by omega
      clear hh
      obtain ⟨b, off, rfl, hc⟩ := hap (by omega)
      have g := hc (base + h - 1) (by omega)
      have h6 := h32 _ (getD_mem q (base + h - 1) (by omega))
      clear hc hap h32
      by_cases hlt : q.getD (base + h - 1) 0 < x
      · have HN : Hid (∀ j, j < base + h → q.getD j 0 < x) := fun j hj => by
          have := HS.out j (base + h - 1) (by omega) (by omega)
          omega
        generalize q.getD (base + h - 1) 0 = v at *
        have hsg := sign_neg v x hlt hx
        have han := and_ones h (by omega)
        go_wp2_with fail
        go_round
        case rel => exact ⟨base + h, m - h, by omega, by go_num, by go_num, fun _ => by omega, HN.out, fun j h1 h2 => HHI.out j (by omega) h2⟩
        case measure => simp [intOf]; omega
      · have HN : Hid (∀ j, base + (m - h) ≤ j → j < n → x ≤ q.getD j 0) := fun j hj hj2 => by
          have := HS.out (base + h - 1) j (by omega) hj2
          omega
        generalize q.getD (base + h - 1) 0 = v at *
        have hsg := sign_pos v x (by omega) h6
        have han := and_none h
        go_wp2_with fail
        go_round
        case rel => exact ⟨base, m - h, by omega, by go_num, by go_num, fun _ => by omega, HLO.out, HN.out⟩
        case measure => simp [intOf]; omega
    · by_cases hm1 : m = 1
      · subst hm1
        obtain ⟨b, off, rfl, hc⟩ := hap (by omega)
        have g := hc base (by omega)
        clear hc hap h32
        have hdt : ((1 : Int) == 1) = true := by decide
        by_cases hlt : q.getD base 0 < x
        · have HL : Hid (LeastAt q n x (base + 1)) := ⟨by omega, fun j hj => by
            by_cases e : j = base
            · subst e; exact hlt
            · exact HLO.out j (by omega), fun j h1 h2 => HHI.out j (by omega) h2⟩
          generalize q.getD base 0 = v at *
          go_wp2_with fail
          go_ret
          exact ⟨base + 1, by rfl, rfl, HL.out⟩
        · have HL : Hid (LeastAt q n x base) := ⟨by omega, HLO.out, fun j h1 h2 => by
            by_cases e : j = base
            · subst e; omega
            · exact HHI.out j (by omega) h2⟩
          generalize q.getD base 0 = v at *
          go_wp2_with fail
          go_ret
          exact ⟨base, rfl, rfl, HL.out⟩
      · have hm2 : m = 0 := by omega
        subst hm2
        have hn0 : n = 0 := by omega
        subst hn0
        have HL : Hid (LeastAt q 0 x base) := ⟨by omega, HLO.out, fun j h1 h2 => by omega⟩
        go_wp2_with fail
        go_ret
        exact ⟨base, rfl, rfl, HL.out⟩

set_option maxHeartbeats 1000000 in
theorem first_any (C n cp co : Nat) (ap ao : Option Addr) (q : List Nat) (x : Nat) (w : World) (h0 : w.cell? ⟨C, 0, none⟩ = some (.slice ap n cp)) (h2 : w.cell? ⟨C, 2, none⟩ = some (.slice none 0 0)) (h3 : w.cell? ⟨C, 3, none⟩ = some (.slice ao n co))
    (hap : Nums .u32 w ap n q) (hq : q.length = n) (hn : n ≤ 1048576) (hx : x < 4294967296) (h32 : ∀ p ∈ q, p < 4294967296) (hs : ∀ i j, i ≤ j → j < n → q.getD i 0 ≤ q.getD j 0) :
    Calls Trym.prog 26 #[.pointer (some ⟨C, 0, none⟩), .int .u32 x] w fun e w' => Answers (FirstIs q n x) w e w' := by
  have hnl := fun (w : World) (a : Option Addr) (n c n' c' : Nat) => Lib.run_eql_slice_nil (P := Trym.prog) w _ _ a n c n' c' Trym.underlying22
  go_enter Trym.func26, Trym.ntmps26
  go_wp2_with fail
  refine (at_any n cp ap q x w hap hq hn hx h32 hs).mono ?_
  rintro e w' ⟨i, rfl, rfl, hi⟩
  have hf := hi.first
  have hin := hi.1
  clear hi hs h32 hap
  by_cases e : i = n
  · rw [if_pos e] at hf
    have HF : Hid (FirstIs q n x 0) := hf
    clear hf
    have he : ((i : Int) == (n : Int)) = true := beq_iff_eq.2 (by omega)
    clear e
    go_wp2
    go_ret
    exact ⟨0, rfl, rfl, HF.out⟩
  · rw [if_neg e] at hf
    have HF : Hid (FirstIs q n x i) := hf
    clear hf
    have he : ((i : Int) == (n : Int)) = false := beq_eq_false_iff_ne.2 (by omega)
    clear e
    go_wp2
    go_ret
    exact ⟨i, rfl, rfl, HF.out⟩

theorem pos_lt32 (A : List Nat) (h64 : ∀ p ∈ A, p < 18446744073709551616) : ∀ p ∈ (radix A).map pos, p < 4294967296 := fun p hp => by
  rw [List.mem_map] at hp
  obtain ⟨r, hr, rfl⟩ := hp
  exact pos_lt r (h64 r (radix_mem A h64 r hr))
theorem nums_row {k : IntKind} {w : World} {b n : Nat} {t : TypeId} {l : List Nat} (hl : l.length = n) (h : Row w b t (ints k l)) : Nums k w (some ⟨b, 0, none⟩) n l := fun _ =>
  ⟨b, 0, rfl, fun i hi => by rw [Nat.zero_add]; exact h.int i (by omega)⟩
end Go.Proofs.Qxb6000070aMods
