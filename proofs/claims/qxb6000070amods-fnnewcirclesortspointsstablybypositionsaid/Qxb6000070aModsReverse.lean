/-
  Plain: a listing and its reverse: the same positions; within each run of equal positions the owners in reversed order.
-/
import Derived.Test.Qxb6000070aModsPlaced
namespace Go.Proofs.Qxb6000070aMods
open Go.RowKit

theorem sorted_unique (B C : List Nat) (hB : B.Pairwise (fun a b => a ≤ b)) (hC : C.Pairwise (fun a b => a ≤ b))
    (h : ∀ x, B.countP (fun p => p == x) = C.countP (fun p => p == x)) : B = C := by
  induction B generalizing C with
  | nil =>
    cases C with
    | nil => rfl
    | cons c r => have := h c; simp at this
  | cons b B ih =>
    cases C with
    | nil => have := h b; simp at this
    | cons c C =>
      rw [List.pairwise_cons] at hB hC
      have e : b = c := by
        have m1 : b ∈ c :: C := by
          have : 0 < (c :: C).countP (fun p => p == b) := by rw [← h b]; simp
          rw [List.countP_pos_iff] at this
          obtain ⟨p, hp, e⟩ := this
          rw [beq_iff_eq] at e
          rw [← e]; exact hp
        have m2 : c ∈ b :: B := by
          have : 0 < (b :: B).countP (fun p => p == c) := by rw [h c]; simp
          rw [List.countP_pos_iff] at this
          obtain ⟨p, hp, e⟩ := this
          rw [beq_iff_eq] at e
          rw [← e]; exact hp
        have l1 : c ≤ b := by
          rcases List.mem_cons.1 m1 with rfl | m
          · exact Nat.le_refl _
          · exact hC.1 b m
        have l2 : b ≤ c := by
          rcases List.mem_cons.1 m2 with rfl | m
          · exact Nat.le_refl _
          · exact hB.1 c m
        omega
      subst e
      rw [ih C hB.2 hC.2]
      intro x
      have := h x
      rw [List.countP_cons, List.countP_cons] at this
      omega

theorem count_map_pos (A : List Nat) (x : Nat) : (A.map pos).countP (fun p => p == x) = A.countP (fun p => pos p == x) := by
  rw [List.countP_map]; rfl
theorem h64_rev {A : List Nat} (h64 : ∀ p ∈ A, p < 18446744073709551616) : ∀ p ∈ A.reverse, p < 18446744073709551616 := fun p hp => h64 p (List.mem_reverse.1 hp)
theorem sorted_pos (A : List Nat) (h64 : ∀ p ∈ A, p < 18446744073709551616) : ((radix A).map pos).Pairwise (fun a b => a ≤ b) := by
  rw [List.pairwise_map]
  exact (radix_stable A h64).1
/-- The same positions. -/
theorem rev_pos (A : List Nat) (h64 : ∀ p ∈ A, p < 18446744073709551616) : (radix A.reverse).map pos = (radix A).map pos := by
  apply sorted_unique _ _ (sorted_pos _ (h64_rev h64)) (sorted_pos _ h64)
  intro x
  rw [count_map_pos, count_map_pos, radix_count _ (h64_rev h64), radix_count _ h64, List.countP_reverse]

/-- A run of equal positions in a sorted list is what the filter gives. -/
theorem run_filter (S : List Nat) (a b x : Nat) (hab : a ≤ b) (hb : b ≤ S.length) (h1 : ∀ i, i < a → pos (S.getD i 0) ≠ x) (h2 : ∀ i, a ≤ i → i < b → pos (S.getD i 0) = x)
    (h3 : ∀ i, b ≤ i → i < S.length → pos (S.getD i 0) ≠ x) : S.filter (fun p => pos p == x) = (S.drop a).take (b - a) := by
  have e : S = S.take a ++ ((S.drop a).take (b - a) ++ S.drop b) := by
    have : (S.drop a).drop (b - a) = S.drop b := by rw [List.drop_drop]; congr 1; omega
    rw [← this, List.take_append_drop, List.take_append_drop]
  have f1 : (S.take a).filter (fun p => pos p == x) = [] := by
    rw [List.filter_eq_nil_iff]
    intro p hp hx
    rw [beq_iff_eq] at hx
    obtain ⟨i, hi, rfl⟩ := List.getElem_of_mem hp
    rw [List.getElem_take] at hx
    have hi2 : i < a := by simp at hi; omega
    refine h1 i hi2 ?_
    rw [List.getD, List.getElem?_eq_getElem (by simp at hi; omega)]
    exact hx
  have f2 : ((S.drop a).take (b - a)).filter (fun p => pos p == x) = (S.drop a).take (b - a) := by
    rw [List.filter_eq_self]
    intro p hp
    rw [beq_iff_eq]
    obtain ⟨i, hi, rfl⟩ := List.getElem_of_mem hp
    rw [List.getElem_take, List.getElem_drop]
    have hi2 : i < b - a := by simp at hi; omega
    have := h2 (a + i) (by omega) (by omega)
    rw [List.getD, List.getElem?_eq_getElem (by omega)] at this
    exact this
  have f3 : (S.drop b).filter (fun p => pos p == x) = [] := by
    rw [List.filter_eq_nil_iff]
    intro p hp hx
    rw [beq_iff_eq] at hx
    obtain ⟨i, hi, rfl⟩ := List.getElem_of_mem hp
    rw [List.getElem_drop] at hx
    have hi2 : b + i < S.length := by simp at hi; omega
    refine h3 (b + i) (by omega) hi2 ?_
    rw [List.getD, List.getElem?_eq_getElem hi2]
    exact hx
  have : S.filter (fun p => pos p == x) = (S.take a ++ ((S.drop a).take (b - a) ++ S.drop b)).filter (fun p => pos p == x) := by rw [← e]
  rw [this, List.filter_append, List.filter_append, f1, f2, f3, List.nil_append, List.append_nil]

theorem map_getD_pos (S : List Nat) (i : Nat) (h : i < S.length) : (S.map pos).getD i 0 = pos (S.getD i 0) := by
  simp [List.getD, h]
theorem map_getD_own (S : List Nat) (i : Nat) (h : i < S.length) : (S.map own).getD i 0 = own (S.getD i 0) := by
  simp [List.getD, h]

/-- Within a run the owners of the reversed listing are those of the listing, reversed. -/
theorem rev_runs (A : List Nat) (h64 : ∀ p ∈ A, p < 18446744073709551616) (a b : Nat) (hab : a < b) (hb : b ≤ A.length)
    (h1 : ∀ i, i < a → ((radix A).map pos).getD i 0 ≠ ((radix A).map pos).getD a 0) (h2 : ∀ i, a ≤ i → i < b → ((radix A).map pos).getD i 0 = ((radix A).map pos).getD a 0)
    (h3 : ∀ i, b ≤ i → i < A.length → ((radix A).map pos).getD i 0 ≠ ((radix A).map pos).getD a 0) (j : Nat) (hj : j < b - a) :
    ((radix A.reverse).map own).getD (a + j) 0 = ((radix A).map own).getD (b - 1 - j) 0 := by
  have hl1 := radix_len A
  have hl2 := radix_len A.reverse
  rw [List.length_reverse] at hl2
  have hp := rev_pos A h64
  generalize hx : ((radix A).map pos).getD a 0 = x at *
  have r1 : (radix A).filter (fun p => pos p == x) = ((radix A).drop a).take (b - a) := by
    refine run_filter _ a b x (by omega) (by omega) (fun i hi => ?_) (fun i hi hi2 => ?_) (fun i hi hi2 => ?_)
    · rw [← map_getD_pos _ i (by omega)]; exact h1 i hi
    · rw [← map_getD_pos _ i (by omega)]; exact h2 i hi hi2
    · rw [← map_getD_pos _ i (by omega)]; exact h3 i hi (by omega)
  have r2 : (radix A.reverse).filter (fun p => pos p == x) = ((radix A.reverse).drop a).take (b - a) := by
    refine run_filter _ a b x (by omega) (by omega) (fun i hi => ?_) (fun i hi hi2 => ?_) (fun i hi hi2 => ?_)
    · rw [← map_getD_pos _ i (by omega), hp]; exact h1 i hi
    · rw [← map_getD_pos _ i (by omega), hp]; exact h2 i hi hi2
    · rw [← map_getD_pos _ i (by omega), hp]; exact h3 i hi (by omega)
  have e : ((radix A.reverse).drop a).take (b - a) = (((radix A).drop a).take (b - a)).reverse := by
    rw [← r1, ← r2, (radix_stable A h64).2, (radix_stable A.reverse (h64_rev h64)).2, List.filter_reverse]
  have hlen : (((radix A).drop a).take (b - a)).length = b - a := by simp; omega
  have e1 : (((radix A.reverse).drop a).take (b - a))[j]? = some ((radix A.reverse).getD (a + j) 0) := by
    rw [List.getElem?_take, if_pos hj, List.getElem?_drop, List.getElem?_eq_getElem (by omega), List.getD, List.getElem?_eq_getElem (by omega)]; rfl
  have e2 : ((((radix A).drop a).take (b - a)).reverse)[j]? = some ((radix A).getD (b - 1 - j) 0) := by
    rw [List.getElem?_reverse (by omega), hlen, List.getElem?_take, if_pos (by omega), List.getElem?_drop, show a + (b - a - 1 - j) = b - 1 - j by omega,
      List.getElem?_eq_getElem (by omega), List.getD, List.getElem?_eq_getElem (by omega)]; rfl
  rw [map_getD_own _ _ (by omega), map_getD_own _ _ (by omega)]
  rw [e, e2] at e1
  rw [Option.some.inj e1]

theorem rev_distinct (A : List Nat) (m : Nat) : distinctN (A.reverse.map own) m = distinctN (A.map own) m := by
  apply distinct_congr
  intro v
  simp
theorem sorted_le (q : List Nat) (hq : q.Pairwise (fun a b => a ≤ b)) (i j : Nat) (hij : i ≤ j) (hj : j < q.length) : q.getD i 0 ≤ q.getD j 0 := by
  by_cases e : i = j
  · subst e; exact Nat.le_refl _
  · have := (List.pairwise_iff_getElem.1 hq) i j (by omega) hj (by omega)
    simpa [List.getD, hj, show i < q.length by omega] using this

end Go.Proofs.Qxb6000070aMods
