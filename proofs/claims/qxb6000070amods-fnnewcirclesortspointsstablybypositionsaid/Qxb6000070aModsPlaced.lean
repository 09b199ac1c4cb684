/-
  Plain: how many different owners a list has, as the loops count them.
-/
import Derived.Test.Qxb6000070aModsRadix
namespace Go.Proofs.Qxb6000070aMods
open Go.RowKit

theorem getD_mem (l : List Nat) (k : Nat) (h : k < l.length) : l.getD k 0 ∈ l := by
  rw [List.getD, List.getElem?_eq_getElem h, Option.getD_some]
  exact List.getElem_mem h
def bools (l : List Bool) : List Value := l.map Value.bool
/-- Which of the numbers below m are in l. -/
def seen (l : List Nat) (m : Nat) : List Bool := (List.range m).map (fun v => decide (v ∈ l))
/-- How many. -/
def distinctN (l : List Nat) (m : Nat) : Nat := (seen l m).countP id

theorem seen_len (l : List Nat) (m : Nat) : (seen l m).length = m := by simp [seen]
theorem bools_len (l : List Bool) : (bools l).length = l.length := by simp [bools]
theorem bools_get (l : List Bool) (i : Nat) (h : i < l.length) : (bools l)[i]? = some (.bool (l.getD i false)) := by simp [bools, List.getD, h]
theorem bools_set (l : List Bool) (i : Nat) (b : Bool) : (bools l).set i (.bool b) = bools (l.set i b) := by simp [bools, List.map_set]
theorem seen_get (l : List Nat) (m v : Nat) (h : v < m) : (seen l m).getD v false = decide (v ∈ l) := by simp [seen, List.getD, h]
theorem seen_nil (m : Nat) : seen [] m = List.replicate m false := by
  apply List.ext_getElem
  · simp [seen]
  · intro i h1 h2; simp [seen]
theorem distinct_nil (m : Nat) : distinctN [] m = 0 := by simp [distinctN, seen_nil]
theorem seen_congr {l l' : List Nat} (m : Nat) (h : ∀ v, v ∈ l ↔ v ∈ l') : seen l m = seen l' m := by
  unfold seen
  apply List.map_congr_left
  intro v _
  simp [h v]
theorem distinct_congr {l l' : List Nat} (m : Nat) (h : ∀ v, v ∈ l ↔ v ∈ l') : distinctN l m = distinctN l' m := by
  unfold distinctN; rw [seen_congr m h]
theorem take_snoc (l : List Nat) (k : Nat) (h : k < l.length) : l.take (k + 1) = l.take k ++ [l.getD k 0] := by
  rw [List.take_succ_eq_append_getElem h]; simp [List.getD, h]
theorem seen_old (l : List Nat) (m k : Nat) (h : k < l.length) (hm : l.getD k 0 ∈ l.take k) : seen (l.take (k + 1)) m = seen (l.take k) m := by
  apply seen_congr
  intro v
  rw [take_snoc l k h, List.mem_append, List.mem_singleton]
  constructor
  · rintro (h | rfl)
    · exact h
    · exact hm
  · exact .inl
theorem seen_new (l : List Nat) (m k : Nat) (h : k < l.length) : seen (l.take (k + 1)) m = (seen (l.take k) m).set (l.getD k 0) true := by
  apply List.ext_getElem
  · simp [seen]
  · intro i h1 h2
    rw [List.getElem_set]
    simp only [seen, List.getElem_map, List.getElem_range]
    rw [take_snoc l k h]
    by_cases e : l.getD k 0 = i
    · rw [if_pos e, ← e]
      exact decide_eq_true (List.mem_append.2 (.inr (List.mem_singleton.2 rfl)))
    · have e2 : ¬ i = l.getD k 0 := fun x => e x.symm
      simp only [List.mem_append, List.mem_singleton, e, e2, or_false, if_false]
theorem count_set (l : List Bool) (i : Nat) (h : i < l.length) (hf : l.getD i false = false) : (l.set i true).countP id = l.countP id + 1 := by
  induction l generalizing i with
  | nil => simp at h
  | cons b r ih =>
    cases i with
    | zero =>
      have hb : b = false := by simpa [List.getD] using hf
      subst hb
      simp
    | succ i =>
      have := ih i (by simpa using h) (by simpa [List.getD] using hf)
      rw [List.set_cons_succ, List.countP_cons, List.countP_cons, this]
      omega
theorem distinct_old (l : List Nat) (m k : Nat) (h : k < l.length) (hm : l.getD k 0 ∈ l.take k) : distinctN (l.take (k + 1)) m = distinctN (l.take k) m := by
  unfold distinctN; rw [seen_old l m k h hm]
theorem distinct_new (l : List Nat) (m k : Nat) (h : k < l.length) (hl : l.getD k 0 < m) (hm : ¬ l.getD k 0 ∈ l.take k) : distinctN (l.take (k + 1)) m = distinctN (l.take k) m + 1 := by
  unfold distinctN
  rw [seen_new l m k h, count_set _ _ (by rw [seen_len]; exact hl)]
  rw [seen_get _ _ _ hl]
  simpa using hm
theorem distinct_le (l : List Nat) (m : Nat) : distinctN l m ≤ m := by
  unfold distinctN
  have := List.countP_le_length (p := id) (l := seen l m)
  rw [seen_len] at this
  exact this

theorem radix_own (A : List Nat) (h64 : ∀ p ∈ A, p < 18446744073709551616) (v : Nat) : v ∈ (radix A).map own ↔ v ∈ A.map own := by
  rw [List.mem_map, List.mem_map]
  have hmem : ∀ p, p ∈ radix A ↔ p ∈ A := by
    intro p
    have := radix_count A h64 (fun q => q == p)
    have h1 : p ∈ radix A ↔ 0 < (radix A).countP (fun q => q == p) := by rw [List.countP_pos_iff]; simp
    have h2 : p ∈ A ↔ 0 < A.countP (fun q => q == p) := by rw [List.countP_pos_iff]; simp
    rw [h1, h2, this]
  constructor
  · rintro ⟨p, hp, e⟩; exact ⟨p, (hmem p).1 hp, e⟩
  · rintro ⟨p, hp, e⟩; exact ⟨p, (hmem p).2 hp, e⟩

end Go.Proofs.Qxb6000070aMods
