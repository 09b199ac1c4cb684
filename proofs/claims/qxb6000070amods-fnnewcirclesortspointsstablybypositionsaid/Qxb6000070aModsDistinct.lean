/-
  distinctOwners: the walk.
-/
import Derived.Test.Qxb6000070aModsClone
namespace Go.Proofs.Qxb6000070aMods
open Go.RowKit

/-- What distinctOwners leaves. -/
def Counted (m : Nat) (A : List Nat) (w : World) (e : Ending) (w' : World) : Prop := e = .returned (.int .i64 ((distinctN (A.map own) m : Nat) : Int)) ∧ Kept [] w w'

theorem wrap_low (q : Nat) (h : q < 65536) : IntKind.i64.wrap (q : Int) = (q : Int) := by rw [IntKind.wrap_i64]; omega

set_option maxHeartbeats 1000000 in
theorem distinct_any (n cp m : Nat) (ap : Option Addr) (A : List Nat) (w : World) (hap : Nums .u64 w ap n A) (hA : A.length = n) (hn : n < 131074) (hm : m ≤ 65536) (h64 : ∀ p ∈ A, p < 18446744073709551616) (how : ∀ p ∈ A, p % 4294967296 < m) :
    Calls Trym.prog 23 #[.slice ap n cp, .int .i64 m] w fun e w' => Counted m A w e w' := by
  have hmb := fun w => run_make1 (P := Trym.prog) w 51 4 (.bool false) 1 Trym.underlying51 Trym.infoBool rfl m (by omega) (by omega)
  have hl : (A.map own).length = n := by rw [List.length_map, hA]
  have hlo : ∀ k, k < n → (A.map own).getD k 0 = A.getD k 0 % 4294967296 := by
    intro k hk
    have h1 := how _ (getD_mem A k (by omega))
    have e : (A.map own).getD k 0 = own (A.getD k 0) := by simp [List.getD, show k < A.length by omega]
    rw [e]; unfold own; omega
  go_enter Trym.func23, Trym.ntmps23
  go_wp2_with fail
  have rB : Row (w.alloc (.cells (Array.replicate m (.bool false)) 4)) w.heap.size 4 (bools (seen ((A.map own).take 0) m)) := by
    have e : bools (seen ((A.map own).take 0) m) = List.replicate m (.bool false) := by rw [List.take_zero, seen_nil, bools, List.map_replicate]
    rw [e]; exact Row.newRep _ _ _ _ _ rfl
  have k0 := (Kept.refl [] w).alloc (.cells (Array.replicate m (.bool false)) 4)
  clear hmb
  generalize w.alloc (.cells (Array.replicate m (.bool false)) 4) = w1 at *
  go_loopw [6, 7] (fun c i wr => ∃ k : Nat, k ≤ n ∧ i = .int .i64 k ∧ c = .int .i64 ((distinctN ((A.map own).take k) m : Nat) : Int) ∧ Row wr w.heap.size 4 (bools (seen ((A.map own).take k) m)) ∧ Kept [] w wr) (fun _ i _ => n - (intOf i).toNat)
  case atStart => exact ⟨0, Nat.zero_le _, rfl, by rw [List.take_zero, distinct_nil]; rfl, rB, k0⟩
  case round =>
    clear k0 rB
    obtain ⟨k, hk, rfl, rfl, rB, hK⟩ := hrel
    by_cases hlt : k < n
    · obtain ⟨b, off, rfl, hc⟩ := hap (by omega)
      have g := hK.cell (hc k hlt) (by simp)
      have hp6 := h64 _ (getD_mem A k (by omega))
      have hv := how _ (getD_mem A k (by omega))
      have hb := and_low (A.getD k 0) hp6
      have e1 := hlo k hlt
      have gB := rB.cell ((A.map own).getD k 0)
      rw [bools_get _ _ (by rw [seen_len, e1]; exact hv), seen_get _ _ _ (by rw [e1]; exact hv)] at gB
      have gBf := rB.free ((A.map own).getD k 0)
      have hdl := distinct_le ((A.map own).take k) m
      have HRB := (show Hid (Row wr w.heap.size 4 (bools (seen ((A.map own).take k) m))) from rB)
      have hv2 : (A.map own).getD k 0 < m := by rw [e1]; exact hv
      rw [← e1] at hb
      clear rB hc hap h64 how hlo e1 hv
      by_cases hmem : (A.map own).getD k 0 ∈ (A.map own).take k
      · have h1 := distinct_old (A.map own) m k (by omega) hmem
        have h2 := seen_old (A.map own) m k (by omega) hmem
        have H1 := (show Hid _ from h1)
        have H2 := (show Hid _ from h2)
        rw [decide_eq_true hmem] at gB
        clear h1 h2 hmem
        generalize (A.map own).getD k 0 = v at *
        generalize distinctN ((A.map own).take k) m = c at *
        generalize A.getD k 0 = p at *
        go_wp2_with fail
        go_roundw
        case rel => exact ⟨k + 1, by omega, by go_num, by rw [H1.out], by rw [H2.out]; exact HRB.out, hK⟩
        case measure => simp [intOf]; omega
      · have h1 := distinct_new (A.map own) m k (by omega) hv2 hmem
        have h2 := seen_new (A.map own) m k (by omega)
        have H1 := (show Hid _ from h1)
        have H2 := (show Hid _ from h2)
        rw [decide_eq_false hmem] at gB
        clear h1 h2 hmem
        generalize (A.map own).getD k 0 = v at *
        generalize distinctN ((A.map own).take k) m = c at *
        generalize A.getD k 0 = p at *
        go_wp2_with fail
        go_roundw
        case rel =>
          refine ⟨k + 1, by omega, by go_num, by rw [H1.out]; go_num, ?_, hK.setCell (.inl (Nat.le_refl _)) _⟩
          rw [H2.out, ← bools_set]
          exact HRB.out.set v _
        case measure => simp [intOf]; omega
    · have hkn : k = n := by omega
      subst hkn
      rw [List.take_of_length_le (by omega)]
      generalize hce : distinctN (A.map own) m = c at *
      have HC : Hid (distinctN (A.map own) m = c) := hce
      clear hce
      go_wp2_with fail
      go_ret
      exact ⟨by rw [HC.out]; rfl, hK⟩

end Go.Proofs.Qxb6000070aMods
