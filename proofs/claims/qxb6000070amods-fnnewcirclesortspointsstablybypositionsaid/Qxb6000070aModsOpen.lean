/-
  From what the row reads to what the walks ask.
-/
import Derived.Test.Qxb6000070aModsClone
import Derived.ProofKit
import Derived.OpenShut
import Derived.ShutString
import Derived.ChangeOld
import Derived.Below
import Derived.SliceStrings
namespace Go.Proofs.Qxb6000070aMods
open Go.ChangeShapes Go.WideShapes Go.ChangeAt Go.RowKit

theorem own_knob : ownKnob Trym.prog.godebug = none := by kernel_rfl
theorem laid_out : laidOutB Trym.prog = true := by kernel_rfl

theorem strs_open {W : World} {a : Addr} {len : Nat} {ss : List ByteArray} (hl : len ≤ ss.length) (hcell : ∀ i, i < ss.length → W.cell? (a.add i) = some (.string (ss.getD i ByteArray.empty))) : Strs W (some a) len (ss.take len) := by
  intro h
  obtain ⟨b, off, spot⟩ := a
  have hs : spot = none := by simpa [Addr.add] using World.cell?_spot (hcell 0 (by omega))
  subst hs
  refine ⟨b, off, rfl, fun i hi => ?_⟩
  have := hcell i (by omega)
  rw [add_plain] at this
  rw [this, List.getD, List.getD, List.getElem?_take, if_pos hi]

/-- The numbers of a slice, as natural numbers. -/
def nats (zs : List Int) : List Nat := zs.map Int.toNat
theorem nums_open {k : IntKind} {W : World} {a : Addr} {len : Nat} {zs : List Int} (hl : len ≤ zs.length) (hcell : ∀ i, i < zs.length → W.cell? (a.add i) = some (.int k (zs.getD i 0))) (hz : ∀ n ∈ zs, 0 ≤ n) :
    Nums k W (some a) len (nats (zs.take len)) := by
  intro h
  obtain ⟨b, off, spot⟩ := a
  have hs : spot = none := by simpa [Addr.add] using World.cell?_spot (hcell 0 (by omega))
  subst hs
  refine ⟨b, off, rfl, fun i hi => ?_⟩
  have := hcell i (by omega)
  rw [add_plain] at this
  rw [this]
  have hi2 : i < zs.length := by omega
  have e : (nats (zs.take len)).getD i 0 = (zs.getD i 0).toNat := by
    simp [nats, List.getD, hi, hi2]
  rw [e]
  have h0 : 0 ≤ zs.getD i 0 := by
    have : zs.getD i 0 = zs[i] := by simp [List.getD, hi2]
    rw [this]; exact hz _ (List.getElem_mem hi2)
  rw [Int.toNat_of_nonneg h0]
theorem nats_len {zs : List Int} {len : Nat} (h : len ≤ zs.length) : (nats (zs.take len)).length = len := by simp [nats]; omega
theorem wf_u64 {n : Int} (h : (Lit.int .u64 n).wf = true) : 0 ≤ n ∧ n < 18446744073709551616 := by
  have := bounds_u64 h; omega
theorem nats_lt {zs : List Int} {len : Nat} (h : ∀ n ∈ zs, (Lit.int .u64 n).wf = true) : ∀ p ∈ nats (zs.take len), p < 18446744073709551616 := by
  intro p hp
  rw [nats, List.mem_map] at hp
  obtain ⟨z, hz, rfl⟩ := hp
  have := wf_u64 (h z (List.mem_of_mem_take hz))
  omega
end Go.Proofs.Qxb6000070aMods
