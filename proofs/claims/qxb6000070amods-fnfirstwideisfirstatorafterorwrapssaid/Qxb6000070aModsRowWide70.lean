/-
  'Rows.FnFirstWideIsFirstAtOrAfterOrWrapsSaid', proved.
-/
import Derived.Test.Qxb6000070aModsLawWide70
import Derived.Test.Qxb6000070aModsOpen
namespace Go.Proofs.Qxb6000070aMods
open Go.ChangeShapes Go.WideShapes Go.ChangeAt Go.RowKit
set_option linter.unusedVariables false

theorem nats_lt32 {zs : List Int} {len : Nat} (h : ∀ n ∈ zs, (Lit.int .u32 n).wf = true) : ∀ p ∈ nats (zs.take len), p < 4294967296 := by
  intro p hp
  rw [nats, List.mem_map] at hp
  obtain ⟨z, hz, rfl⟩ := hp
  have := bounds_u32 (h z (List.mem_of_mem_take hz))
  omega

set_option maxRecDepth 100000 in
theorem fnFirstWideIsFirstAtOrAfterOrWraps_lifted (os : Os) (started : os.Started) (H : Type) (enc : TypeId × Value → H) :
    ReturnsInHanded {} Trym.checked os 3 .any (Rows.fnFirstWideIsFirstAtOrAfterOrWrapsSpec.pre6 enc Trym.prog Trym.f3 Rows.fnFirstWideIsFirstAtOrAfterOrWrapsRow.domain false) (Rows.fnFirstWideIsFirstAtOrAfterOrWrapsSpec.post enc Trym.prog Trym.f3 false true false false) := by
  refine returnsInHanded_of_change (C := Trym.checked) own_knob started (by kernel_rfl) Trym.func3
    (ChangeSpec.witness6 (enc := enc) (C := Trym.checked) false ⟨#[], #[.slice none 0 0, .slice none 0 0, .int .u32 0], []⟩ 8 (by kernel_rfl) (by kernel_rfl) (by kernel_rfl) (by kernel_rfl)) ?_
  intro W base args ds gs before hval0 hW hcnd _
  have hval : ∀ (j : Nat) t v, Trym.f3.params[j]? = some t → args[j]? = some v → Value.okWide Trym.prog W .any base t v := hval0
  have hW' := hW
  obtain ⟨p, q, hA0, hV, rfl, hfz, hnd⟩ := hW
  have hA : DataW.TrodAll enc Trym.prog W 0 (fun _ => true) true Trym.f3.params.toList args.toList ds p := hA0
  rw [Trym.params3] at hA hval
  obtain ⟨v0, vs0, d0, ds0, p0, q0, hargs, rfl, rfl, h0, r0⟩ := trodAll_cons hA
  obtain ⟨v1, vs1, d1, ds1, p1, q1, rfl, rfl, rfl, h1, r1⟩ := trodAll_cons r0
  obtain ⟨v2, vs2, d2, ds2, p2, q2, rfl, rfl, rfl, h2, r2⟩ := trodAll_cons r1
  obtain ⟨rfl, rfl, rfl⟩ := trodAll_nil r2
  obtain rfl : args = #[v0, v1, v2] := by cases args; simp_all
  obtain ⟨rfl, rfl⟩ := trodVars_none hV
  obtain ⟨a0, len0, cap0, rfl⟩ := okWide_slice Trym.underlying22 (hval 0 22 v0 rfl rfl)
  have k0 := h0
  have lt0 : ∀ x ∈ p0, x.block < W.heap.size := by obtain ⟨m, hm⟩ := k0; exact DataW.trod_lt m _ _ _ hm
  obtain ⟨A, hP, hPn, hPl, hP6⟩ : ∃ A, Nums .u32 W a0 len0 A ∧ (a0 = none → len0 = 0 ∧ cap0 = 0) ∧ A.length = len0 ∧ ∀ p ∈ A, p < 4294967296 := by
    obtain ⟨fuel, hf⟩ := h0
    rcases open_ints Trym.underlying22 Trym.underlying24 (by kernel_rfl) hf with ⟨hcs, _⟩ | ⟨x, l, c, zs, hcs, _, hl, hm, hz, _, hcell, hwz⟩
    · simp [Value.cells] at hcs
      obtain ⟨rfl, rfl, rfl⟩ := hcs
      exact ⟨[], fun h => by omega, fun _ => ⟨rfl, rfl⟩, rfl, by simp⟩
    · simp [Value.cells] at hcs
      obtain ⟨rfl, rfl, rfl⟩ := hcs
      have hz' : zs.length = cap0 := by simpa using hz
      exact ⟨nats (zs.take len0), nums_open (by omega) hcell (fun n hn => (bounds_u32 (hwz n hn)).1), (fun h => by cases h), nats_len (by omega), nats_lt32 hwz⟩
  obtain ⟨a1, len1, cap1, rfl⟩ := okWide_slice Trym.underlying23 (hval 1 23 v1 rfl rfl)
  have k1 := h1
  have lt1 : ∀ x ∈ p1, x.block < W.heap.size := by obtain ⟨m, hm⟩ := k1; exact DataW.trod_lt m _ _ _ hm
  obtain ⟨O, hO, hOn, hOl⟩ : ∃ O, Nums .u16 W a1 len1 O ∧ (a1 = none → len1 = 0 ∧ cap1 = 0) ∧ O.length = len1 := by
    obtain ⟨fuel, hf⟩ := h1
    rcases open_ints Trym.underlying23 Trym.underlying34 (by kernel_rfl) hf with ⟨hcs, _⟩ | ⟨x, l, c, zs, hcs, _, hl, hm, hz, _, hcell, hwz⟩
    · simp [Value.cells] at hcs
      obtain ⟨rfl, rfl, rfl⟩ := hcs
      exact ⟨[], fun h => by omega, fun _ => ⟨rfl, rfl⟩, rfl⟩
    · simp [Value.cells] at hcs
      obtain ⟨rfl, rfl, rfl⟩ := hcs
      have hz' : zs.length = cap1 := by simpa using hz
      exact ⟨nats (zs.take len1), nums_open (by omega) hcell (fun n hn => (bounds_u16 (hwz n hn)).1), (fun h => by cases h), nats_len (by omega)⟩
  obtain ⟨a2, rfl, rfl, rfl, w2⟩ := open_int Trym.underlying24 (hval 2 24 v2 rfl rfl) h2
  clear hA0 hval0
  refine (wide_walk len0 cap0 len1 cap1 a0 a1 A O a2 W hP hPn hPl hP6 hO hOn hOl (by have := bounds_u32 w2; omega)).mono fun e W' ⟨he, bel⟩ => ?_
  subst he
  exact ⟨_, rfl, _, _, _, [], _, [], hW', trodAll_mk1 (shut_bool Trym.underlying4 _), (trodAll_cons_mk (Below.trod laid_out (by kernel_rfl) (of_decide_eq_true (by kernel_rfl)) k0 bel lt0) (trodAll_cons_mk (Below.trod laid_out (by kernel_rfl) (of_decide_eq_true (by kernel_rfl)) k1 bel lt1) (trodAll_cons_mk (shut_int Trym.underlying24 w2) trodAll_mk0))), rfl, bel.frame _, fun h => by cases h⟩

/-- THE STATEMENT. -/
theorem fnFirstWideIsFirstAtOrAfterOrWraps_holds : Rows.FnFirstWideIsFirstAtOrAfterOrWrapsSaid :=
  OpenClaim.holds_of_wide 3 Trym.f3 rfl rfl rfl rfl rfl rfl rfl ⟨rfl, rfl, rfl, rfl, rfl⟩ rfl rfl rfl rfl rfl (by kernel_rfl) Trym.func3 (by kernel_rfl)
    (of_decide_eq_true (by kernel_rfl)) (by unfold Func.isWrapper; first | (rw [if_pos (by decide +kernel)]; kernel_rfl) | (rw [if_neg (by decide +kernel)]; exact ⟨rfl, rfl⟩))
    (fun os started H enc _ => fnFirstWideIsFirstAtOrAfterOrWraps_lifted os started H enc)
end Go.Proofs.Qxb6000070aMods
