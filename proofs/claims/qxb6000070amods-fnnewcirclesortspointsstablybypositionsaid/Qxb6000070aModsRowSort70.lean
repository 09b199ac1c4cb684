/-
  'Rows.FnNewCircleSortsPointsStablyByPositionSaid', proved.
-/
import Derived.Test.Qxb6000070aModsLawSort70
import Derived.Test.Qxb6000070aModsOpen
namespace Go.Proofs.Qxb6000070aMods
open Go.ChangeShapes Go.WideShapes Go.ChangeAt Go.RowKit
set_option linter.unusedVariables false

set_option maxRecDepth 100000 in
theorem fnNewCircleSortsPointsStablyByPosition_lifted (os : Os) (started : os.Started) (H : Type) (enc : TypeId × Value → H) :
    ReturnsInHanded {} Trym.checked os 5 .any (Rows.fnNewCircleSortsPointsStablyByPositionSpec.pre6 enc Trym.prog Trym.f5 Rows.fnNewCircleSortsPointsStablyByPositionRow.domain false) (Rows.fnNewCircleSortsPointsStablyByPositionSpec.post enc Trym.prog Trym.f5 false true false false) := by
  refine returnsInHanded_of_change (C := Trym.checked) own_knob started (by kernel_rfl) Trym.func5
    (ChangeSpec.witness6 (enc := enc) (C := Trym.checked) false ⟨#[], #[.slice none 0 0, .slice none 0 0], []⟩ 8 (by kernel_rfl) (by kernel_rfl) (by kernel_rfl) (by kernel_rfl)) ?_
  intro W base args ds gs before hval0 hW hcnd _
  have hval : ∀ (j : Nat) t v, Trym.f5.params[j]? = some t → args[j]? = some v → Value.okWide Trym.prog W .any base t v := hval0
  have hW' := hW
  obtain ⟨p, q, hA0, hV, rfl, hfz, hnd⟩ := hW
  have hA : DataW.TrodAll enc Trym.prog W 0 (fun _ => true) true Trym.f5.params.toList args.toList ds p := hA0
  rw [Trym.params5] at hA hval
  obtain ⟨v0, vs0, d0, ds0, p0, q0, hargs, rfl, rfl, h0, r0⟩ := trodAll_cons hA
  obtain ⟨v1, vs1, d1, ds1, p1, q1, rfl, rfl, rfl, h1, r1⟩ := trodAll_cons r0
  obtain ⟨rfl, rfl, rfl⟩ := trodAll_nil r1
  obtain rfl : args = #[v0, v1] := by cases args; simp_all
  obtain ⟨rfl, rfl⟩ := trodVars_none hV
  obtain ⟨a0, len0, cap0, rfl⟩ := okWide_slice Trym.underlying35 (hval 0 35 v0 rfl rfl)
  have k0 := h0
  have lt0 : ∀ x ∈ p0, x.block < W.heap.size := by obtain ⟨m, hm⟩ := k0; exact DataW.trod_lt m _ _ _ hm
  obtain ⟨ss, hS, hSn, hSl⟩ : ∃ ss, Strs W a0 len0 ss ∧ (a0 = none → len0 = 0 ∧ cap0 = 0) ∧ ss.length = len0 := by
    obtain ⟨fuel, hf⟩ := h0
    rcases open_strings Trym.underlying35 Trym.underlying9 (by kernel_rfl) hf with ⟨hcs, _⟩ | ⟨x, l, c, ss, hcs, _, hl, hm, hz, _, hcell, _⟩
    · simp [Value.cells] at hcs
      obtain ⟨rfl, rfl, rfl⟩ := hcs
      exact ⟨[], fun h => by omega, fun _ => ⟨rfl, rfl⟩, rfl⟩
    · simp [Value.cells] at hcs
      obtain ⟨rfl, rfl, rfl⟩ := hcs
      have hz' : ss.length = cap0 := by simpa using hz
      exact ⟨ss.take len0, strs_open (by omega) hcell, (fun h => by cases h), by simp; omega⟩
  obtain ⟨a1, len1, cap1, rfl⟩ := okWide_slice Trym.underlying36 (hval 1 36 v1 rfl rfl)
  have k1 := h1
  have lt1 : ∀ x ∈ p1, x.block < W.heap.size := by obtain ⟨m, hm⟩ := k1; exact DataW.trod_lt m _ _ _ hm
  obtain ⟨A, hP, hPn, hPl, hP6⟩ : ∃ A, Nums .u64 W a1 len1 A ∧ (a1 = none → len1 = 0 ∧ cap1 = 0) ∧ A.length = len1 ∧ ∀ p ∈ A, p < 18446744073709551616 := by
    obtain ⟨fuel, hf⟩ := h1
    rcases open_ints Trym.underlying36 Trym.underlying44 (by kernel_rfl) hf with ⟨hcs, _⟩ | ⟨x, l, c, zs, hcs, _, hl, hm, hz, _, hcell, hwz⟩
    · simp [Value.cells] at hcs
      obtain ⟨rfl, rfl, rfl⟩ := hcs
      exact ⟨[], fun h => by omega, fun _ => ⟨rfl, rfl⟩, rfl, by simp⟩
    · simp [Value.cells] at hcs
      obtain ⟨rfl, rfl, rfl⟩ := hcs
      have hz' : zs.length = cap1 := by simpa using hz
      exact ⟨nats (zs.take len1), nums_open (by omega) hcell (fun n hn => (wf_u64 (hwz n hn)).1), (fun h => by cases h), nats_len (by omega), nats_lt hwz⟩
  clear hA0 hval0
  refine (sort_walk len0 cap0 len1 cap1 a0 a1 ss A W hS hSn hSl hP hPn hPl hP6).mono fun e W' ⟨he, bel⟩ => ?_
  subst he
  exact ⟨_, rfl, _, _, _, [], _, [], hW', trodAll_mk1 (shut_bool Trym.underlying4 _), (trodAll_cons_mk (Below.trod laid_out (by kernel_rfl) (of_decide_eq_true (by kernel_rfl)) k0 bel lt0) (trodAll_cons_mk (Below.trod laid_out (by kernel_rfl) (of_decide_eq_true (by kernel_rfl)) k1 bel lt1) trodAll_mk0)), rfl, bel.frame _, fun h => by cases h⟩

/-- THE STATEMENT. -/
theorem fnNewCircleSortsPointsStablyByPosition_holds : Rows.FnNewCircleSortsPointsStablyByPositionSaid :=
  OpenClaim.holds_of_wide 5 Trym.f5 rfl rfl rfl rfl rfl rfl rfl ⟨rfl, rfl, rfl, rfl, rfl⟩ rfl rfl rfl rfl rfl (by kernel_rfl) Trym.func5 (by kernel_rfl)
    (of_decide_eq_true (by kernel_rfl)) (by unfold Func.isWrapper; first | (rw [if_pos (by decide +kernel)]; kernel_rfl) | (rw [if_neg (by decide +kernel)]; exact ⟨rfl, rfl⟩))
    (fun os started H enc _ => fnNewCircleSortsPointsStablyByPosition_lifted os started H enc)

end Go.Proofs.Qxb6000070aMods
