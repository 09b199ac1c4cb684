/-
  Plain: the laws' bottom-up merge sort, over a key.
-/
import Derived.Test.Qxb6000070aModsReverse
namespace Go.Proofs.Qxb6000070aMods
open Go.RowKit

/-- B is A in ascending order of key, and on one key in A's order. -/
def KStable (key : Nat → Nat) (A B : List Nat) : Prop := B.Pairwise (fun a b => key a ≤ key b) ∧ ∀ x, B.filter (fun p => key p == x) = A.filter (fun p => key p == x)

/-- Two runs merged, the left one first on ties. -/
def mrg (key : Nat → Nat) (X Y : List Nat) : List Nat := List.merge X Y (fun a b => decide (key a ≤ key b))
theorem mrg_nil_left (key : Nat → Nat) (Y : List Nat) : mrg key [] Y = Y := by simp [mrg]
theorem mrg_nil_right (key : Nat → Nat) (X : List Nat) : mrg key X [] = X := by simp [mrg]
theorem mrg_left (key : Nat → Nat) (x y : Nat) (X Y : List Nat) (h : key x ≤ key y) : mrg key (x :: X) (y :: Y) = x :: mrg key X (y :: Y) := by
  unfold mrg
  rw [List.cons_merge_cons, if_pos (by simpa using h)]
theorem mrg_right (key : Nat → Nat) (x y : Nat) (X Y : List Nat) (h : key y < key x) : mrg key (x :: X) (y :: Y) = y :: mrg key (x :: X) Y := by
  unfold mrg
  rw [List.cons_merge_cons, if_neg (by simp; omega)]
theorem mrg_mem (key : Nat → Nat) (X Y : List Nat) (p : Nat) : p ∈ mrg key X Y ↔ p ∈ X ∨ p ∈ Y := by
  unfold mrg; exact List.mem_merge
theorem mrg_len (key : Nat → Nat) (X Y : List Nat) : (mrg key X Y).length = X.length + Y.length := by
  unfold mrg; exact List.length_merge ..

theorem mrg_stable (key : Nat → Nat) : ∀ (n : Nat) (X Y : List Nat), X.length + Y.length = n → X.Pairwise (fun a b => key a ≤ key b) → Y.Pairwise (fun a b => key a ≤ key b) →
    (mrg key X Y).Pairwise (fun a b => key a ≤ key b) ∧ ∀ x, (mrg key X Y).filter (fun p => key p == x) = X.filter (fun p => key p == x) ++ Y.filter (fun p => key p == x) := by
  intro n
  induction n with
  | zero =>
    intro X Y h _ _
    have hX : X = [] := List.eq_nil_of_length_eq_zero (by omega)
    have hY : Y = [] := List.eq_nil_of_length_eq_zero (by omega)
    subst hX; subst hY
    rw [mrg_nil_left]
    exact ⟨List.Pairwise.nil, fun x => rfl⟩
  | succ n ih =>
    intro X Y h hX hY
    cases X with
    | nil => rw [mrg_nil_left]; exact ⟨hY, fun x => rfl⟩
    | cons a X =>
      cases Y with
      | nil => rw [mrg_nil_right]; exact ⟨hX, fun x => by simp⟩
      | cons b Y =>
        have hX2 := hX
        have hY2 := hY
        rw [List.pairwise_cons] at hX2 hY2
        simp only [List.length_cons] at h
        by_cases hk : key a ≤ key b
        · rw [mrg_left key a b X Y hk]
          obtain ⟨i1, i2⟩ := ih X (b :: Y) (by simp only [List.length_cons]; omega) hX2.2 hY
          refine ⟨List.pairwise_cons.2 ⟨fun c hc => ?_, i1⟩, fun x => ?_⟩
          · rcases (mrg_mem key X (b :: Y) c).1 hc with hc | hc
            · exact hX2.1 c hc
            · rcases List.mem_cons.1 hc with rfl | hc
              · exact hk
              · have := hY2.1 c hc; omega
          · by_cases hx : key a = x
            · rw [List.filter_cons_of_pos (by simp [hx]), List.filter_cons_of_pos (by simp [hx]), i2]; rfl
            · rw [List.filter_cons_of_neg (by simp [hx]), List.filter_cons_of_neg (by simp [hx]), i2]
        · rw [mrg_right key a b X Y (by omega)]
          obtain ⟨i1, i2⟩ := ih (a :: X) Y (by simp only [List.length_cons]; omega) hX hY2.2
          refine ⟨List.pairwise_cons.2 ⟨fun c hc => ?_, i1⟩, fun x => ?_⟩
          · rcases (mrg_mem key (a :: X) Y c).1 hc with hc | hc
            · rcases List.mem_cons.1 hc with rfl | hc
              · omega
              · have := hX2.1 c hc; omega
            · exact hY2.1 c hc
          · by_cases hx : key b = x
            · have e : (a :: X).filter (fun p => key p == x) = [] := by
                rw [List.filter_eq_nil_iff]
                intro c hc hcx
                rw [beq_iff_eq] at hcx
                rcases List.mem_cons.1 hc with rfl | hc
                · omega
                · have := hX2.1 c hc; omega
              rw [List.filter_cons_of_pos (by simp [hx]), i2, e, List.nil_append, List.nil_append, List.filter_cons_of_pos (by simp [hx])]
            · have e : (b :: Y).filter (fun p => key p == x) = Y.filter (fun p => key p == x) := List.filter_cons_of_neg (by simp [hx])
              rw [List.filter_cons_of_neg (by simp [hx]), i2, e]
theorem KStable.merge {key : Nat → Nat} {A1 A2 X Y : List Nat} (h : KStable key A1 X) (k : KStable key A2 Y) : KStable key (A1 ++ A2) (mrg key X Y) := by
  obtain ⟨m1, m2⟩ := mrg_stable key _ X Y rfl h.1 k.1
  exact ⟨m1, fun x => by rw [m2, h.2, k.2, List.filter_append]⟩

/-! ### a part of a list -/
def seg (l : List Nat) (a b : Nat) : List Nat := (l.drop a).take (b - a)
theorem seg_len (l : List Nat) (a b : Nat) (h : b ≤ l.length) : (seg l a b).length = b - a := by simp [seg]; omega
theorem seg_nil (l : List Nat) (a b : Nat) (h : b ≤ a) : seg l a b = [] := by simp [seg, show b - a = 0 by omega]
theorem seg_cons (l : List Nat) (a b : Nat) (h : a < b) (hb : b ≤ l.length) : seg l a b = l.getD a 0 :: seg l (a + 1) b := by
  unfold seg
  rw [List.drop_eq_getElem_cons (by omega), show b - a = (b - (a + 1)) + 1 by omega, List.take_succ_cons]
  simp [List.getD, show a < l.length by omega]
theorem seg_append (l : List Nat) (a b c : Nat) (h1 : a ≤ b) (h2 : b ≤ c) : seg l a c = seg l a b ++ seg l b c := by
  unfold seg
  rw [show c - a = (b - a) + (c - b) by omega, List.take_add, List.drop_drop, show a + (b - a) = b by omega]
theorem seg_get (l : List Nat) (a b j : Nat) (h : j < b - a) : (seg l a b).getD j 0 = l.getD (a + j) 0 := by
  unfold seg
  rw [List.getD, List.getD, List.getElem?_take, if_pos h, List.getElem?_drop]
theorem seg_all (l : List Nat) (n : Nat) (h : l.length = n) : seg l 0 n = l := by
  unfold seg; rw [List.drop_zero, List.take_of_length_le (by omega)]
theorem seg_ext (l m : List Nat) (a b : Nat) (hl : b ≤ l.length) (hm : b ≤ m.length) (h : ∀ j, a ≤ j → j < b → l.getD j 0 = m.getD j 0) : seg l a b = seg m a b := by
  apply List.ext_getElem
  · rw [seg_len _ _ _ hl, seg_len _ _ _ hm]
  · intro j h1 h2
    rw [seg_len _ _ _ hl] at h1
    have e1 := seg_get l a b j h1
    have e2 := seg_get m a b j h1
    have e3 := h (a + j) (by omega) (by omega)
    rw [List.getD, List.getElem?_eq_getElem (by rw [seg_len _ _ _ hl]; exact h1), Option.getD_some] at e1
    rw [List.getD, List.getElem?_eq_getElem (by rw [seg_len _ _ _ hm]; exact h1), Option.getD_some] at e2
    rw [e1, e2, e3]

/-! ### laying a list into another -/
/-- The first t numbers of ms laid into D from place lo on. -/
def lay (D : List Nat) (lo : Nat) (ms : List Nat) : Nat → List Nat
  | 0 => D
  | t + 1 => (lay D lo ms t).set (lo + t) (ms.getD t 0)
theorem lay_len (D : List Nat) (lo : Nat) (ms : List Nat) (t : Nat) : (lay D lo ms t).length = D.length := by
  induction t with
  | zero => rfl
  | succ t ih => rw [lay, List.length_set, ih]
theorem lay_out (D : List Nat) (lo : Nat) (ms : List Nat) (t j : Nat) (h : j < lo ∨ lo + t ≤ j) : (lay D lo ms t).getD j 0 = D.getD j 0 := by
  induction t with
  | zero => rfl
  | succ t ih => rw [lay, getD_set_ne' _ _ _ _ (by omega), ih (by omega)]
theorem lay_in (D : List Nat) (lo : Nat) (ms : List Nat) (t j : Nat) (h : j < t) (hl : lo + t ≤ D.length) : (lay D lo ms t).getD (lo + j) 0 = ms.getD j 0 := by
  induction t with
  | zero => omega
  | succ t ih =>
    rw [lay]
    by_cases e : j = t
    · subst e; rw [getD_set_eq' _ _ _ (by rw [lay_len]; omega)]
    · rw [getD_set_ne' _ _ _ _ (by omega), ih (by omega) (by omega)]
theorem lay_seg (D : List Nat) (lo hi : Nat) (ms : List Nat) (hm : ms.length = hi - lo) (h : lo ≤ hi) (hl : hi ≤ D.length) : seg (lay D lo ms (hi - lo)) lo hi = ms := by
  apply List.ext_getElem
  · rw [seg_len _ _ _ (by rw [lay_len]; exact hl), hm]
  · intro j h1 h2
    rw [seg_len _ _ _ (by rw [lay_len]; exact hl)] at h1
    have e1 := seg_get (lay D lo ms (hi - lo)) lo hi j h1
    have e2 := lay_in D lo ms (hi - lo) j h1 (by omega)
    rw [List.getD, List.getElem?_eq_getElem (by rw [seg_len _ _ _ (by rw [lay_len]; exact hl)]; exact h1), Option.getD_some, e2] at e1
    rw [e1]
    simp [List.getD, h2]

/-! ### one pass -/
def midOf (w n t : Nat) : Nat := min (t * (2 * w) + w) n
def hiOf (w n t : Nat) : Nat := min (t * (2 * w) + 2 * w) n
/-- The t-th pair of runs merged. -/
def pairOf (key : Nat → Nat) (src : List Nat) (w n t : Nat) : List Nat := mrg key (seg src (t * (2 * w)) (midOf w n t)) (seg src (midOf w n t) (hiOf w n t))
/-- The first t pairs merged into D. -/
def passTo (key : Nat → Nat) (src : List Nat) (w n : Nat) (D : List Nat) : Nat → List Nat
  | 0 => D
  | t + 1 => lay (passTo key src w n D t) (t * (2 * w)) (pairOf key src w n t) (hiOf w n t - t * (2 * w))
theorem passTo_len (key : Nat → Nat) (src : List Nat) (w n : Nat) (D : List Nat) (t : Nat) : (passTo key src w n D t).length = D.length := by
  induction t with
  | zero => rfl
  | succ t ih => rw [passTo, lay_len, ih]
theorem pair_len (key : Nat → Nat) (src : List Nat) (w n t : Nat) (h : src.length = n) (ht : t * (2 * w) ≤ n) : (pairOf key src w n t).length = hiOf w n t - t * (2 * w) := by
  unfold pairOf
  have h1 : midOf w n t ≤ n := Nat.min_le_right _ _
  have h2 : hiOf w n t ≤ n := Nat.min_le_right _ _
  have h3 : t * (2 * w) ≤ midOf w n t := by unfold midOf; omega
  have h4 : midOf w n t ≤ hiOf w n t := by unfold midOf hiOf; omega
  rw [mrg_len, seg_len _ _ _ (by omega), seg_len _ _ _ (by omega)]
  omega
/-- Behind t pairs each of them lies merged in its place. -/
theorem passTo_seg (key : Nat → Nat) (src : List Nat) (w n : Nat) (D : List Nat) (hs : src.length = n) (hD : D.length = n) (t s : Nat) (hst : s < t) (ht : s * (2 * w) ≤ n) :
    seg (passTo key src w n D t) (s * (2 * w)) (hiOf w n s) = pairOf key src w n s := by
  have hhi : hiOf w n s ≤ n := Nat.min_le_right _ _
  have hlo : s * (2 * w) ≤ hiOf w n s := by unfold hiOf; omega
  induction t with
  | zero => omega
  | succ t ih =>
    rw [passTo]
    by_cases e : s = t
    · subst e
      exact lay_seg _ _ _ _ (pair_len key src w n s hs ht) hlo (by rw [passTo_len]; omega)
    · rw [← ih (by omega)]
      apply seg_ext
      · rw [lay_len, passTo_len]; omega
      · rw [passTo_len]; omega
      · intro j h1 h2
        apply lay_out
        left
        have h3 : (s + 1) * (2 * w) ≤ t * (2 * w) := Nat.mul_le_mul_right _ (by omega)
        rw [Nat.succ_mul] at h3
        have h4 : hiOf w n s ≤ s * (2 * w) + 2 * w := Nat.min_le_left _ _
        omega

/-- Each run of width w of src is the stable order of that part of A. -/
def Runs (key : Nat → Nat) (A src : List Nat) (w n : Nat) : Prop := src.length = n ∧ ∀ t, KStable key (seg A (t * w) (min (t * w + w) n)) (seg src (t * w) (min (t * w + w) n))

theorem kstable_refl_short (key : Nat → Nat) (l : List Nat) (h : l.length ≤ 1) : KStable key l l := by
  refine ⟨?_, fun x => rfl⟩
  match l, h with
  | [], _ => exact List.Pairwise.nil
  | [a], _ => exact List.pairwise_singleton _ _
theorem Runs.start (key : Nat → Nat) (A : List Nat) (n : Nat) (h : A.length = n) : Runs key A A 1 n := by
  refine ⟨h, fun t => kstable_refl_short key _ ?_⟩
  rw [seg_len _ _ _ (by omega)]
  omega
theorem Runs.pass {key : Nat → Nat} {A src : List Nat} {w n : Nat} (h : Runs key A src w n) (D : List Nat) (hD : D.length = n) (T : Nat) (hT : n ≤ T * (2 * w)) :
    Runs key A (passTo key src w n D T) (2 * w) n := by
  refine ⟨by rw [passTo_len]; exact hD, fun t => ?_⟩
  by_cases ht : t < T
  · by_cases hn : t * (2 * w) ≤ n
    · have e := passTo_seg key src w n D h.1 hD T t ht hn
      unfold hiOf at e
      rw [e]
      have a1 : t * (2 * w) = (2 * t) * w := by rw [Nat.mul_comm 2 t, Nat.mul_assoc]
      have a2 : (2 * t + 1) * w = t * (2 * w) + w := by rw [Nat.succ_mul, ← a1]
      have k1 := h.2 (2 * t)
      have k2 := h.2 (2 * t + 1)
      rw [← a1] at k1
      rw [a2] at k2
      unfold pairOf midOf hiOf
      have b1 : t * (2 * w) ≤ min (t * (2 * w) + w) n := by omega
      have b2 : min (t * (2 * w) + w) n ≤ min (t * (2 * w) + 2 * w) n := by omega
      rw [seg_append A _ _ _ b1 b2]
      refine KStable.merge k1 ?_
      by_cases hm : t * (2 * w) + w ≤ n
      · rw [Nat.min_eq_left hm, show t * (2 * w) + 2 * w = t * (2 * w) + w + w by omega]
        exact k2
      · rw [Nat.min_eq_right (show n ≤ t * (2 * w) + w by omega), Nat.min_eq_right (show n ≤ t * (2 * w) + 2 * w by omega), seg_nil _ _ _ (Nat.le_refl _), seg_nil _ _ _ (Nat.le_refl _)]
        exact kstable_refl_short key [] (by simp)
    · rw [seg_nil _ _ _ (by omega), seg_nil _ _ _ (by omega)]
      exact kstable_refl_short key [] (by simp)
  · have : T * (2 * w) ≤ t * (2 * w) := Nat.mul_le_mul_right _ (by omega)
    rw [seg_nil _ _ _ (by omega), seg_nil _ _ _ (by omega)]
    exact kstable_refl_short key [] (by simp)
theorem Runs.done {key : Nat → Nat} {A src : List Nat} {w n : Nat} (h : Runs key A src w n) (hA : A.length = n) (hw : n ≤ w) : KStable key A src := by
  have := h.2 0
  rw [Nat.zero_mul, Nat.zero_add, Nat.min_eq_right hw, seg_all A n hA, seg_all src n h.1] at this
  exact this

/-! ### one step of a merge, as the loops take it -/
/-- What is left of the t-th pair when i and j are reached: its first number goes to place lo + k. -/
theorem drop_step {ms R : List Nat} {k v : Nat} (h : ms.drop k = v :: R) : ms.getD k 0 = v ∧ ms.drop (k + 1) = R := by
  constructor
  · have : ms[k]? = some v := by
      have := congrArg (fun l => l[0]?) h
      simpa using this
    rw [List.getD, this]; rfl
  · rw [← List.drop_drop, h]; rfl

end Go.Proofs.Qxb6000070aMods
