/-
  The laws' guards: zzBytes_.., inputBytesOK, ownersFit.
-/
import Derived.Test.Qxb6000070aModsPlaced
namespace Go.Proofs.Qxb6000070aMods
open Go.RowKit

/-- What is told of a slice of strings that came in: where it has elements it has an address, and they lie there. -/
def Strs (w : World) (an : Option Addr) (m : Nat) (ss : List ByteArray) : Prop :=
  0 < m → ∃ b off, an = some ⟨b, off, none⟩ ∧ ∀ i, i < m → w.cell? ⟨b, off + i, none⟩ = some (.string (ss.getD i ByteArray.empty))
/-- The same of a slice of numbers. -/
def Nums (k : IntKind) (w : World) (an : Option Addr) (m : Nat) (l : List Nat) : Prop :=
  0 < m → ∃ b off, an = some ⟨b, off, none⟩ ∧ ∀ i, i < m → w.cell? ⟨b, off + i, none⟩ = some (.int k ((l.getD i 0 : Nat) : Int))

theorem and_low (p : Nat) (h : p < 18446744073709551616) : bits .and .u64 (p : Int) 4294967295 = ((p % 4294967296 : Nat) : Int) := by
  have := u64_and_nat p 4294967295 h (by omega)
  rw [show (4294967295 : Nat) = 2 ^ 32 - 1 by decide, Nat.and_two_pow_sub_one_eq_mod] at this
  exact this
/-- What the guards say. -/
def BytesFit (m n : Nat) (ss : List ByteArray) : Prop := m ≤ 1048576 ∧ n ≤ 1048576 ∧ ∀ i, i < m → (ss.getD i ByteArray.empty).size ≤ 1048576
def BytesOK (m n : Nat) : Prop := m * 16 + n * 8 ≤ 1048576
def OwnersFit (m : Nat) (A : List Nat) : Prop := m ≤ 65536 ∧ ∀ p ∈ A, p % 4294967296 < m
/-- The call leaves the world alone and answers a bool; true only if C. -/
def Verdict (w : World) (C : Prop) (e : Ending) (w' : World) : Prop := w' = w ∧ ∃ b, e = .returned (.bool b) ∧ (b = true → C)
theorem Verdict.no (w : World) (C : Prop) : Verdict w C (.returned (.bool false)) w := ⟨rfl, false, rfl, fun h => by cases h⟩
theorem Verdict.yes (w : World) {C : Prop} (h : C) : Verdict w C (.returned (.bool true)) w := ⟨rfl, true, rfl, fun _ => h⟩

set_option maxHeartbeats 400000 in
theorem zzBytes16 (m cm n cp : Nat) (an ap : Option Addr) (ss : List ByteArray) (w : World) (han : Strs w an m ss) :
    Calls Trym.prog 16 #[.slice an m cm, .slice ap n cp] w fun e w' => Verdict w (BytesFit m n ss) e w' := by
  by_cases hm : m ≤ 1048576
  · go_enter Trym.func16, Trym.ntmps16
    go_wp2_with fail
    go_loop [5, 6] (fun z i => ∃ k t : Nat, k ≤ m ∧ i = .int .i64 k ∧ t ≤ 1048576 ∧ z = .int .i64 t ∧ ∀ j, j < k → (ss.getD j ByteArray.empty).size ≤ 1048576) (fun _ i => m - (intOf i).toNat)
    case atStart => exact ⟨0, m, by omega, rfl, hm, rfl, fun j hj => by omega⟩
    case round =>
      obtain ⟨k, t, hk, rfl, ht, rfl, hall⟩ := hrel
      have HA := (show Hid _ from hall)
      clear hall
      by_cases hlt : k < m
      · obtain ⟨b, off, rfl, hc⟩ := han (by omega)
        have g := hc k hlt
        clear hc han
        by_cases hs : (ss.getD k ByteArray.empty).size ≤ 1048576
        · have HS : Hid (∀ j, j < k + 1 → (ss.getD j ByteArray.empty).size ≤ 1048576) := fun j hj => by
            by_cases e : j = k
            · subst e; exact hs
            · exact HA.out j (by omega)
          generalize ss.getD k ByteArray.empty = s at *
          by_cases ht2 : t + s.size ≤ 1048576
          · go_wp2_with fail
            go_round
            case rel => exact ⟨k + 1, t + s.size, by omega, by go_num, ht2, by go_num, HS.out⟩
            case measure => simp [intOf]; omega
          · go_wp2_with fail
            go_ret
            exact Verdict.no w _
        · generalize ss.getD k ByteArray.empty = s at *
          go_wp2_with fail
          go_ret
          exact Verdict.no w _
      · have hkm : k = m := by omega
        subst hkm
        by_cases hn : n ≤ 1048576
        · by_cases ht2 : t + n ≤ 1048576
          · go_wp2_with fail
            go_ret
            exact Verdict.yes w ⟨hm, hn, HA.out⟩
          · go_wp2_with fail
            go_ret
            exact Verdict.no w _
        · go_wp2_with fail
          go_ret
          exact Verdict.no w _
  · go_enter Trym.func16, Trym.ntmps16
    go_wp2_with fail
    go_ret
    exact Verdict.no w _

set_option maxHeartbeats 400000 in
theorem zzBytes24 (m cm n cp : Nat) (an ap : Option Addr) (ss : List ByteArray) (w : World) (han : Strs w an m ss) :
    Calls Trym.prog 24 #[.slice an m cm, .slice ap n cp] w fun e w' => Verdict w (BytesFit m n ss) e w' := by
  by_cases hm : m ≤ 1048576
  · go_enter Trym.func24, Trym.ntmps24
    go_wp2_with fail
    go_loop [5, 6] (fun z i => ∃ k t : Nat, k ≤ m ∧ i = .int .i64 k ∧ t ≤ 1048576 ∧ z = .int .i64 t ∧ ∀ j, j < k → (ss.getD j ByteArray.empty).size ≤ 1048576) (fun _ i => m - (intOf i).toNat)
    case atStart => exact ⟨0, m, by omega, rfl, hm, rfl, fun j hj => by omega⟩
    case round =>
      obtain ⟨k, t, hk, rfl, ht, rfl, hall⟩ := hrel
      have HA := (show Hid _ from hall)
      clear hall
      by_cases hlt : k < m
      · obtain ⟨b, off, rfl, hc⟩ := han (by omega)
        have g := hc k hlt
        clear hc han
        by_cases hs : (ss.getD k ByteArray.empty).size ≤ 1048576
        · have HS : Hid (∀ j, j < k + 1 → (ss.getD j ByteArray.empty).size ≤ 1048576) := fun j hj => by
            by_cases e : j = k
            · subst e; exact hs
            · exact HA.out j (by omega)
          generalize ss.getD k ByteArray.empty = s at *
          by_cases ht2 : t + s.size ≤ 1048576
          · go_wp2_with fail
            go_round
            case rel => exact ⟨k + 1, t + s.size, by omega, by go_num, ht2, by go_num, HS.out⟩
            case measure => simp [intOf]; omega
          · go_wp2_with fail
            go_ret
            exact Verdict.no w _
        · generalize ss.getD k ByteArray.empty = s at *
          go_wp2_with fail
          go_ret
          exact Verdict.no w _
      · have hkm : k = m := by omega
        subst hkm
        by_cases hn : n ≤ 1048576
        · by_cases ht2 : t + n ≤ 1048576
          · go_wp2_with fail
            go_ret
            exact Verdict.yes w ⟨hm, hn, HA.out⟩
          · go_wp2_with fail
            go_ret
            exact Verdict.no w _
        · go_wp2_with fail
          go_ret
          exact Verdict.no w _
  · go_enter Trym.func24, Trym.ntmps24
    go_wp2_with fail
    go_ret
    exact Verdict.no w _

set_option maxHeartbeats 400000 in
theorem zzBytes25 (m cm n cp : Nat) (an ap : Option Addr) (ss : List ByteArray) (w : World) (han : Strs w an m ss) :
    Calls Trym.prog 25 #[.slice an m cm, .slice ap n cp] w fun e w' => Verdict w (BytesFit m n ss) e w' := by
  by_cases hm : m ≤ 1048576
  · go_enter Trym.func25, Trym.ntmps25
    go_wp2_with fail
    go_loop [5, 6] (fun z i => ∃ k t : Nat, k ≤ m ∧ i = .int .i64 k ∧ t ≤ 1048576 ∧ z = .int .i64 t ∧ ∀ j, j < k → (ss.getD j ByteArray.empty).size ≤ 1048576) (fun _ i => m - (intOf i).toNat)
    case atStart => exact ⟨0, m, by omega, rfl, hm, rfl, fun j hj => by omega⟩
    case round =>
      obtain ⟨k, t, hk, rfl, ht, rfl, hall⟩ := hrel
      have HA := (show Hid _ from hall)
      clear hall
      by_cases hlt : k < m
      · obtain ⟨b, off, rfl, hc⟩ := han (by omega)
        have g := hc k hlt
        clear hc han
        by_cases hs : (ss.getD k ByteArray.empty).size ≤ 1048576
        · have HS : Hid (∀ j, j < k + 1 → (ss.getD j ByteArray.empty).size ≤ 1048576) := fun j hj => by
            by_cases e : j = k
            · subst e; exact hs
            · exact HA.out j (by omega)
          generalize ss.getD k ByteArray.empty = s at *
          by_cases ht2 : t + s.size ≤ 1048576
          · go_wp2_with fail
            go_round
            case rel => exact ⟨k + 1, t + s.size, by omega, by go_num, ht2, by go_num, HS.out⟩
            case measure => simp [intOf]; omega
          · go_wp2_with fail
            go_ret
            exact Verdict.no w _
        · generalize ss.getD k ByteArray.empty = s at *
          go_wp2_with fail
          go_ret
          exact Verdict.no w _
      · have hkm : k = m := by omega
        subst hkm
        by_cases hn : n ≤ 1048576
        · by_cases ht2 : t + n ≤ 1048576
          · go_wp2_with fail
            go_ret
            exact Verdict.yes w ⟨hm, hn, HA.out⟩
          · go_wp2_with fail
            go_ret
            exact Verdict.no w _
        · go_wp2_with fail
          go_ret
          exact Verdict.no w _
  · go_enter Trym.func25, Trym.ntmps25
    go_wp2_with fail
    go_ret
    exact Verdict.no w _




end Go.Proofs.Qxb6000070aMods
