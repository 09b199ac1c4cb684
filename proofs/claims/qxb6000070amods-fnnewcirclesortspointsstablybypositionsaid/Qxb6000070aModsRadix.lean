/-
  The three deals as one plain function; that every index of them lies within bounds; that it is the stable order by position.
-/
import Derived.Test.Qxb6000070aModsPlain
namespace Go.Proofs.Qxb6000070aMods

/-! ### counts -/
theorem bump1_get (nx : List Nat) (i j : Nat) : (bump1 nx i).getD j 0 = if i = j ∧ i < nx.length then nx.getD j 0 + 1 else nx.getD j 0 := by
  by_cases e : i = j
  · subst e
    by_cases hl : i < nx.length
    · rw [if_pos ⟨rfl, hl⟩]
      simp only [bump1, List.getD, List.getElem?_set_self hl, Option.getD_some]
    · rw [if_neg (fun h => hl h.2)]
      simp only [bump1, List.set_eq_of_length_le (show nx.length ≤ i by omega)]
  · rw [if_neg (fun h => e h.1)]
    simp only [bump1, List.getD, List.getElem?_set_ne e]

theorem bump1_ne (nx : List Nat) (i j : Nat) (h : i ≠ j) : (bump1 nx i).getD j 0 = nx.getD j 0 := by rw [bump1_get, if_neg (fun x => h x.1)]
theorem bump1_same (nx : List Nat) (i : Nat) (h : i < nx.length) : (bump1 nx i).getD i 0 = nx.getD i 0 + 1 := by rw [bump1_get, if_pos ⟨rfl, h⟩]

theorem bump_get0 (nx : List Nat) (p v : Nat) (h : nx.length = 6144) (hv : v < 2048) : (bump nx p).getD v 0 = nx.getD v 0 + if d0 p = v then 1 else 0 := by
  have h0 := d0_lt p
  unfold bump
  rw [bump1_ne _ _ _ (by omega), bump1_ne _ _ _ (by omega)]
  by_cases e : d0 p = v
  · rw [if_pos e, ← e, bump1_same _ _ (by omega)]
  · rw [if_neg e, bump1_ne _ _ _ e]; rfl
theorem bump_get1 (nx : List Nat) (p v : Nat) (h : nx.length = 6144) (hv : v < 2048) : (bump nx p).getD (2048 + v) 0 = nx.getD (2048 + v) 0 + if d1 p = v then 1 else 0 := by
  have h0 := d0_lt p
  have h1 := d1_lt p
  unfold bump
  rw [bump1_ne _ _ _ (by omega)]
  by_cases e : d1 p = v
  · rw [if_pos e, ← e, bump1_same _ _ (by rw [bump1_len]; omega), bump1_ne _ _ _ (by omega)]
  · rw [if_neg e, bump1_ne _ _ _ (by omega), bump1_ne _ _ _ (by omega)]; rfl
theorem bump_get2 (nx : List Nat) (p v : Nat) (h : nx.length = 6144) (hv : v < 2048) : (bump nx p).getD (4096 + v) 0 = nx.getD (4096 + v) 0 + if d2 p = v then 1 else 0 := by
  have h0 := d0_lt p
  have h1 := d1_lt p
  unfold bump
  by_cases e : d2 p = v
  · rw [if_pos e, ← e, bump1_same _ _ (by rw [bump1_len, bump1_len]; omega), bump1_ne _ _ _ (by omega), bump1_ne _ _ _ (by omega)]
  · rw [if_neg e, bump1_ne _ _ _ (by omega), bump1_ne _ _ _ (by omega), bump1_ne _ _ _ (by omega)]; rfl

theorem bump_le (nx : List Nat) (p j : Nat) : (bump nx p).getD j 0 ≤ nx.getD j 0 + 1 := by
  have h0 := d0_lt p
  have h1 := d1_lt p
  unfold bump
  rw [bump1_get, bump1_get, bump1_get]
  by_cases a : 4096 + d2 p = j
  · have b : ¬ 2048 + d1 p = j := by omega
    have c : ¬ d0 p = j := by omega
    simp only [b, c, false_and, if_false]
    split <;> omega
  · by_cases b : 2048 + d1 p = j
    · have c : ¬ d0 p = j := by omega
      simp only [a, c, false_and, if_false]
      split <;> omega
    · simp only [a, b, false_and, if_false]
      split <;> omega

theorem next_len : nextZero.length = 6144 := by unfold nextZero; exact List.length_replicate
theorem next_get (j : Nat) : nextZero.getD j 0 = 0 := by
  unfold nextZero
  generalize 6144 = m
  simp only [List.getD, List.getElem?_replicate]
  split <;> rfl

theorem count_le_gen (A nx : List Nat) (k j : Nat) : (countTo A nx k).getD j 0 ≤ nx.getD j 0 + k := by
  have key : ∀ (l nx : List Nat), (l.foldl bump nx).getD j 0 ≤ nx.getD j 0 + l.length := by
    intro l
    induction l with
    | nil => intro nx; simp
    | cons p r ih =>
      intro nx
      have h1 := ih (bump nx p)
      have h2 := bump_le nx p j
      simp only [List.foldl_cons, List.length_cons]
      omega
  have := key (A.take k) nx
  have h3 := List.length_take_le k A
  unfold countTo
  omega
theorem count_le (A : List Nat) (k j : Nat) : (countTo A nextZero k).getD j 0 ≤ k := by
  have := count_le_gen A nextZero k j
  rw [next_get] at this
  omega

/-- What the counts come to at one digit's places. -/
theorem count_get (dg : Nat → Nat) (o v : Nat) (hb : ∀ nx p, nx.length = 6144 → (bump nx p).getD (o + v) 0 = nx.getD (o + v) 0 + if dg p = v then 1 else 0)
    (l : List Nat) : ∀ nx : List Nat, nx.length = 6144 → (l.foldl bump nx).getD (o + v) 0 = nx.getD (o + v) 0 + l.countP (fun p => dg p == v) := by
  induction l with
  | nil => intro nx _; simp
  | cons p r ih =>
    intro nx h
    rw [List.foldl_cons, ih _ (by rw [bump_len]; exact h), hb nx p h, List.countP_cons]
    by_cases e : dg p = v
    · simp [e]; omega
    · simp [e]
theorem count_all (dg : Nat → Nat) (o v : Nat) (hb : ∀ nx p, nx.length = 6144 → (bump nx p).getD (o + v) 0 = nx.getD (o + v) 0 + if dg p = v then 1 else 0)
    (A : List Nat) : (countTo A nextZero A.length).getD (o + v) 0 = A.countP (fun p => dg p == v) := by
  unfold countTo
  rw [List.take_length, count_get dg o v hb A nextZero next_len, next_get]
  omega

/-! ### sums -/
theorem sumTo_congr {nx ny : List Nat} {o : Nat} (k : Nat) (h : ∀ i, i < k → nx.getD (o + i) 0 = ny.getD (o + i) 0) : sumTo nx o k = sumTo ny o k := by
  induction k with
  | zero => rfl
  | succ k ih => rw [sumTo, sumTo, ih (fun i hi => h i (by omega)), h k (by omega)]
theorem getD_set_ne' (l : List Nat) (i j v : Nat) (h : i ≠ j) : (l.set i v).getD j 0 = l.getD j 0 := by
  simp only [List.getD, List.getElem?_set_ne h]
theorem getD_set_eq' (l : List Nat) (i v : Nat) (h : i < l.length) : (l.set i v).getD i 0 = v := by
  simp only [List.getD, List.getElem?_set_self h, Option.getD_some]
theorem prefTo_out (nx : List Nat) (o k j : Nat) (h : j < o ∨ o + k ≤ j) : (prefTo nx o k).getD j 0 = nx.getD j 0 := by
  induction k with
  | zero => rfl
  | succ k ih => rw [prefTo, getD_set_ne' _ _ _ _ (by omega), ih (by omega)]
theorem prefTo_in (nx : List Nat) (o k i : Nat) (h : i < k) (hl : o + k ≤ nx.length) : (prefTo nx o k).getD (o + i) 0 = sumTo nx o i := by
  induction k with
  | zero => omega
  | succ k ih =>
    rw [prefTo]
    by_cases e : i = k
    · subst e
      rw [getD_set_eq' _ _ _ (by rw [prefTo_len]; omega)]
    · rw [getD_set_ne' _ _ _ _ (by omega), ih (by omega) (by omega)]
/-- 'prefs' at a width that is a letter (a numeral would be unrolled). -/
def prefsW (V : Nat) (nx : List Nat) : Nat → List Nat
  | 0 => nx
  | d + 1 => prefTo (prefsW V nx d) (d * V) V
theorem prefs_W (nx : List Nat) (d : Nat) : prefs nx d = prefsW 2048 nx d := by
  induction d with
  | zero => rfl
  | succ d ih => rw [prefs, prefsW, ih]
theorem prefsW_len (V : Nat) (nx : List Nat) (d : Nat) : (prefsW V nx d).length = nx.length := by
  induction d with
  | zero => rfl
  | succ d ih => rw [prefsW, prefTo_len, ih]
theorem prefsW_out (V : Nat) (nx : List Nat) (d j : Nat) (h : d * V ≤ j) : (prefsW V nx d).getD j 0 = nx.getD j 0 := by
  induction d with
  | zero => rfl
  | succ d ih =>
    rw [Nat.succ_mul] at h
    rw [prefsW, prefTo_out _ _ _ _ (by omega), ih (by omega)]
theorem prefsW_in (V : Nat) (nx : List Nat) (d e v : Nat) (he : e < d) (hv : v < V) (hl : d * V ≤ nx.length) : (prefsW V nx d).getD (e * V + v) 0 = sumTo nx (e * V) v := by
  induction d with
  | zero => omega
  | succ d ih =>
    rw [Nat.succ_mul] at hl
    rw [prefsW]
    by_cases h : e = d
    · subst h
      rw [prefTo_in _ _ _ _ hv (by rw [prefsW_len]; omega)]
      exact sumTo_congr v (fun i hi => prefsW_out V nx e _ (by omega))
    · have h2 : (e + 1) * V ≤ d * V := Nat.mul_le_mul_right V (by omega)
      rw [Nat.succ_mul] at h2
      rw [prefTo_out _ _ _ _ (by omega), ih (by omega) (by omega)]
theorem prefs_out (nx : List Nat) (d j : Nat) (h : d * 2048 ≤ j) : (prefs nx d).getD j 0 = nx.getD j 0 := by
  rw [prefs_W]; exact prefsW_out 2048 nx d j h
theorem prefs_in (nx : List Nat) (e v : Nat) (he : e < 3) (hv : v < 2048) (hl : nx.length = 6144) : (prefs nx 3).getD (e * 2048 + v) 0 = sumTo nx (e * 2048) v := by
  rw [prefs_W]; exact prefsW_in 2048 nx 3 e v he hv (by omega)
/-- How many points have a lower digit; how many have this digit. -/
def lowN (dg : Nat → Nat) (A : List Nat) (v : Nat) : Nat := A.countP (fun p => decide (dg p < v))
def atN (dg : Nat → Nat) (A : List Nat) (v : Nat) : Nat := A.countP (fun p => dg p == v)
theorem lowN_succ (dg : Nat → Nat) (A : List Nat) (k : Nat) : lowN dg A (k + 1) = lowN dg A k + atN dg A k := by
  unfold lowN atN
  induction A with
  | nil => rfl
  | cons p r ihr =>
    simp only [List.countP_cons]
    by_cases h1 : dg p < k
    · have h2 : ¬ dg p = k := by omega
      have h3 : dg p < k + 1 := by omega
      simp only [h1, h3, decide_true, if_true, beq_eq_false_iff_ne.2 h2, Bool.false_eq_true, if_false]
      omega
    · by_cases h2 : dg p = k
      · have h3 : dg p < k + 1 := by omega
        simp only [h1, h3, decide_true, decide_false, if_true, beq_iff_eq.2 h2, Bool.false_eq_true, if_false]
        omega
      · have h3 : ¬ dg p < k + 1 := by omega
        simp only [h1, h3, decide_false, beq_eq_false_iff_ne.2 h2, Bool.false_eq_true, if_false]
        omega
theorem lowN_zero (dg : Nat → Nat) (A : List Nat) : lowN dg A 0 = 0 := by simp [lowN]
theorem lowN_le (dg : Nat → Nat) (A : List Nat) (v : Nat) : lowN dg A v ≤ A.length := List.countP_le_length
theorem lowN_mono (dg : Nat → Nat) (A : List Nat) (u v : Nat) (h : u ≤ v) : lowN dg A u ≤ lowN dg A v := by
  induction v with
  | zero => have : u = 0 := by omega
            subst this; exact Nat.le_refl _
  | succ v ih =>
    by_cases e : u = v + 1
    · subst e; exact Nat.le_refl _
    · have := ih (by omega)
      have := lowN_succ dg A v
      omega
theorem lowN_all (dg : Nat → Nat) (A : List Nat) (V : Nat) (h : ∀ p ∈ A, dg p < V) : lowN dg A V = A.length := by
  unfold lowN
  rw [List.countP_eq_length]
  intro p hp
  simpa using h p hp
/-- Sums of counts count what lies below. -/
theorem sum_counts (dg : Nat → Nat) (A nx : List Nat) (o : Nat) (k : Nat) (h : ∀ v, v < k → nx.getD (o + v) 0 = atN dg A v) : sumTo nx o k = lowN dg A k := by
  induction k with
  | zero => simp [sumTo, lowN]
  | succ k ih => rw [sumTo, ih (fun v hv => h v (by omega)), h k (by omega), lowN_succ]

/-! ### one deal -/
theorem split_at (A : List Nat) (k : Nat) (h : k < A.length) : A = A.take k ++ A.getD k 0 :: A.drop (k + 1) := by
  have e : A.getD k 0 = A[k] := by simp [List.getD, h]
  rw [e, ← List.drop_eq_getElem_cons h, List.take_append_drop]
theorem take_count (f : Nat → Bool) (A : List Nat) (k : Nat) (h : k < A.length) : (A.take (k + 1)).countP f = (A.take k).countP f + if f (A.getD k 0) then 1 else 0 := by
  have e : A.getD k 0 = A[k] := by simp [List.getD, h]
  rw [List.take_succ_eq_append_getElem h, List.countP_append, e]
  simp [List.countP_cons]
theorem take_count_lt (f : Nat → Bool) (A : List Nat) (k : Nat) (h : k < A.length) (hf : f (A.getD k 0) = true) : (A.take k).countP f < A.countP f := by
  have e := split_at A k h
  have : A.countP f = (A.take k ++ A.getD k 0 :: A.drop (k + 1)).countP f := by rw [← e]
  rw [this, List.countP_append, List.countP_cons, hf]
  simp only [if_true]
  omega
theorem filter_at (f : Nat → Bool) (A : List Nat) (k : Nat) (h : k < A.length) (hf : f (A.getD k 0) = true) : (A.filter f).getD ((A.take k).countP f) 0 = A.getD k 0 := by
  have e := split_at A k h
  have : A.filter f = (A.take k).filter f ++ A.getD k 0 :: (A.drop (k + 1)).filter f := by
    have e2 : A.filter f = (A.take k ++ A.getD k 0 :: A.drop (k + 1)).filter f := by rw [← e]
    rw [e2, List.filter_append, List.filter_cons_of_pos hf]
  rw [this, List.countP_eq_length_filter]
  simp [List.getD]

theorem deal_inv (dg : Nat → Nat) (o V : Nat) (A nx L : List Nat) (hV : ∀ p ∈ A, dg p < V) (hnx : ∀ v, v < V → nx.getD (o + v) 0 = lowN dg A v) (hl : o + V ≤ nx.length) (hL : L.length = A.length) :
    ∀ k, k ≤ A.length → (∀ v, v < V → (dealTo dg o A (nx, L) k).1.getD (o + v) 0 = lowN dg A v + (A.take k).countP (fun p => dg p == v)) ∧
      (∀ v, v < V → ∀ j, j < (A.take k).countP (fun p => dg p == v) → (dealTo dg o A (nx, L) k).2.getD (lowN dg A v + j) 0 = (A.filter (fun p => dg p == v)).getD j 0) := by
  intro k
  induction k with
  | zero =>
    intro _
    refine ⟨fun v hv => ?_, fun v hv j hj => ?_⟩
    · rw [dealTo_zero, hnx v hv]; simp
    · simp at hj
  | succ k ih =>
    intro hk
    obtain ⟨i1, i2⟩ := ih (by omega)
    have hs := dealTo_succ dg o A (nx, L) k (by omega)
    have hm : A.getD k 0 ∈ A := by rw [List.getD, List.getElem?_eq_getElem (by omega)]; simp
    have hp := hV _ hm
    have e1 := dealTo_len1 dg o A (nx, L) k
    have e2 := dealTo_len2 dg o A (nx, L) k
    simp only at e1 e2
    have hi := i1 _ hp
    have hlt := take_count_lt (fun p => dg p == dg (A.getD k 0)) A k (by omega) (by simp)
    have hfa := filter_at (fun p => dg p == dg (A.getD k 0)) A k (by omega) (by simp)
    have hls := lowN_succ dg A (dg (A.getD k 0))
    have hle := lowN_le dg A (dg (A.getD k 0) + 1)
    unfold atN at hls
    rw [hs]
    generalize dealTo dg o A (nx, L) k = st at *
    obtain ⟨n1, l1⟩ := st
    simp only [dealStep] at *
    refine ⟨fun v hv => ?_, fun v hv j hj => ?_⟩
    · rw [take_count _ A k (by omega)]
      by_cases e : dg (A.getD k 0) = v
      · subst e
        rw [getD_set_eq' _ _ _ (by omega), hi]
        simp only [beq_self_eq_true, if_true]
        omega
      · rw [getD_set_ne' _ _ _ _ (by omega), i1 v hv]
        simp only [beq_eq_false_iff_ne.2 e, Bool.false_eq_true, if_false]
        omega
    · rw [take_count _ A k (by omega)] at hj
      rw [hi]
      by_cases e : dg (A.getD k 0) = v
      · subst e
        simp only [beq_self_eq_true, if_true] at hj
        by_cases ej : j = (A.take k).countP (fun p => dg p == dg (A.getD k 0))
        · subst ej
          rw [getD_set_eq' _ _ _ (by omega), hfa]
        · rw [getD_set_ne' _ _ _ _ (by omega), i2 _ hp j (by omega)]
      · simp only [beq_eq_false_iff_ne.2 e, Bool.false_eq_true, if_false] at hj
        have hlt2 : (A.take k).countP (fun p => dg p == v) ≤ A.countP (fun p => dg p == v) := (List.take_sublist k A).countP_le
        have hls2 := lowN_succ dg A v
        unfold atN at hls2
        rw [getD_set_ne' _ _ _ _ ?_, i2 v hv j (by omega)]
        rcases Nat.lt_or_ge (dg (A.getD k 0)) v with h | h
        · have := lowN_mono dg A (dg (A.getD k 0) + 1) v (by omega)
          omega
        · have := lowN_mono dg A (v + 1) (dg (A.getD k 0)) (by omega)
          omega

/-- The points of A by their digit, and on one digit in A's order. -/
def bucket (dg : Nat → Nat) (A : List Nat) : Nat → List Nat
  | 0 => []
  | v + 1 => bucket dg A v ++ A.filter (fun p => dg p == v)
theorem bucket_len (dg : Nat → Nat) (A : List Nat) (v : Nat) : (bucket dg A v).length = lowN dg A v := by
  induction v with
  | zero => simp [bucket, lowN_zero]
  | succ v ih => rw [bucket, List.length_append, ih, lowN_succ, atN, List.countP_eq_length_filter]

theorem deal_bucket (dg : Nat → Nat) (o V : Nat) (A nx L : List Nat) (hV : ∀ p ∈ A, dg p < V) (hnx : ∀ v, v < V → nx.getD (o + v) 0 = lowN dg A v) (hl : o + V ≤ nx.length) (hL : L.length = A.length) :
    (dealTo dg o A (nx, L) A.length).2 = bucket dg A V := by
  have hinv := (deal_inv dg o V A nx L hV hnx hl hL A.length (Nat.le_refl _)).2
  have hlen := dealTo_len2 dg o A (nx, L) A.length
  simp only at hlen
  rw [List.take_length] at hinv
  generalize (dealTo dg o A (nx, L) A.length).2 = M at *
  have key : ∀ v, v ≤ V → M.take (lowN dg A v) = bucket dg A v := by
    intro v
    induction v with
    | zero => intro _; simp [lowN_zero, bucket]
    | succ v ih =>
      intro hv
      have hs := lowN_succ dg A v
      have hle := lowN_le dg A (v + 1)
      rw [bucket, ← ih (by omega), hs, List.take_add]
      congr 1
      apply List.ext_getElem
      · simp only [List.length_take, List.length_drop]
        rw [← List.countP_eq_length_filter]
        unfold atN at *
        omega
      · intro j h1 h2
        have hj : j < A.countP (fun p => dg p == v) := by rw [List.countP_eq_length_filter]; exact h2
        have := hinv v (by omega) j hj
        have hb : lowN dg A v + j < M.length := by unfold atN at hs; omega
        simp only [List.getElem_take, List.getElem_drop]
        simpa [List.getD, hb, h2] using this
  have := key V (Nat.le_refl _)
  rw [lowN_all dg A V hV, List.take_of_length_le (by omega)] at this
  exact this

/-- A deal leaves other digits' places alone. -/
theorem deal_out (dg : Nat → Nat) (o : Nat) (A : List Nat) (st : List Nat × List Nat) (k j : Nat) (h : ∀ p ∈ A, o + dg p ≠ j) : (dealTo dg o A st k).1.getD j 0 = st.1.getD j 0 := by
  unfold dealTo
  have h' : ∀ p ∈ A.take k, o + dg p ≠ j := fun p hp => h p (List.mem_of_mem_take hp)
  generalize A.take k = l at *
  induction l generalizing st with
  | nil => rfl
  | cons p r ih =>
    rw [List.foldl_cons, ih _ (fun q hq => h' q (List.mem_cons_of_mem _ hq))]
    exact getD_set_ne' _ _ _ _ (h' p List.mem_cons_self)

/-! ### what a deal keeps, and what it orders -/
theorem bucket_mem (dg : Nat → Nat) (A : List Nat) (V p : Nat) : p ∈ bucket dg A V ↔ p ∈ A ∧ dg p < V := by
  induction V with
  | zero => simp [bucket]
  | succ v ih =>
    rw [bucket, List.mem_append, ih, List.mem_filter, beq_iff_eq]
    constructor
    · rintro (⟨h, h2⟩ | ⟨h, h2⟩)
      · exact ⟨h, by omega⟩
      · exact ⟨h, by omega⟩
    · rintro ⟨h, h2⟩
      by_cases e : dg p = v
      · exact .inr ⟨h, e⟩
      · exact .inl ⟨h, by omega⟩
theorem bucket_countP (dg : Nat → Nat) (f : Nat → Bool) (A : List Nat) (V : Nat) : (bucket dg A V).countP f = A.countP (fun p => f p && decide (dg p < V)) := by
  induction V with
  | zero => simp [bucket]
  | succ v ih =>
    rw [bucket, List.countP_append, ih, List.countP_filter]
    clear ih
    induction A with
    | nil => rfl
    | cons p r ihr =>
      simp only [List.countP_cons]
      cases f p
      · simp only [Bool.false_and, Bool.false_eq_true, if_false]
        omega
      · by_cases h1 : dg p < v
        · have h2 : ¬ dg p = v := by omega
          have h3 : dg p < v + 1 := by omega
          simp only [h1, h3, decide_true, Bool.and_self, if_true, beq_eq_false_iff_ne.2 h2, Bool.and_false, Bool.false_eq_true, if_false]
          omega
        · by_cases h2 : dg p = v
          · have h3 : dg p < v + 1 := by omega
            simp only [h1, h3, decide_true, decide_false, Bool.and_self, Bool.and_false, if_true, beq_iff_eq.2 h2, Bool.false_eq_true, if_false]
            omega
          · have h3 : ¬ dg p < v + 1 := by omega
            simp only [h1, h3, decide_false, beq_eq_false_iff_ne.2 h2, Bool.and_false, Bool.false_eq_true, if_false]
            omega
theorem bucket_count (dg : Nat → Nat) (f : Nat → Bool) (A : List Nat) (V : Nat) (h : ∀ p ∈ A, dg p < V) : (bucket dg A V).countP f = A.countP f := by
  rw [bucket_countP]
  apply List.countP_congr
  intro p hp
  simp [h p hp]
theorem bucket_filter (dg key : Nat → Nat) (hk : ∀ p q, key p = key q → dg p = dg q) (x : Nat) (A : List Nat) (V : Nat) :
    (bucket dg A V).filter (fun p => key p == x) = A.filter (fun p => key p == x && decide (dg p < V)) := by
  induction V with
  | zero => simp [bucket]
  | succ v ih =>
    rw [bucket, List.filter_append, ih, List.filter_filter]
    by_cases h : ∃ p, key p = x ∧ dg p = v
    · obtain ⟨p, hp, hd⟩ := h
      have e1 : A.filter (fun p => key p == x && decide (dg p < v)) = [] := by
        rw [List.filter_eq_nil_iff]
        intro q _ hq
        simp only [Bool.and_eq_true, beq_iff_eq, decide_eq_true_eq] at hq
        have := hk p q (by omega)
        omega
      rw [e1, List.nil_append]
      apply List.filter_congr
      intro q _
      rw [Bool.eq_iff_iff]
      simp only [Bool.and_eq_true, beq_iff_eq, decide_eq_true_eq]
      constructor
      · rintro ⟨a, b⟩; exact ⟨a, by omega⟩
      · rintro ⟨a, b⟩; exact ⟨a, by have := hk p q (by omega); omega⟩
    · have e1 : A.filter (fun p => key p == x && dg p == v) = [] := by
        rw [List.filter_eq_nil_iff]
        intro q _ hq
        simp only [Bool.and_eq_true, beq_iff_eq] at hq
        exact h ⟨q, hq⟩
      rw [e1, List.append_nil]
      apply List.filter_congr
      intro q _
      rw [Bool.eq_iff_iff]
      simp only [Bool.and_eq_true, beq_iff_eq, decide_eq_true_eq]
      constructor
      · rintro ⟨a, b⟩; exact ⟨a, by omega⟩
      · rintro ⟨a, b⟩; exact ⟨a, by
          by_cases e : dg q = v
          · exact absurd ⟨q, a, e⟩ h
          · omega⟩
theorem bucket_filter_all (dg key : Nat → Nat) (hk : ∀ p q, key p = key q → dg p = dg q) (x : Nat) (A : List Nat) (V : Nat) (h : ∀ p ∈ A, dg p < V) :
    (bucket dg A V).filter (fun p => key p == x) = A.filter (fun p => key p == x) := by
  rw [bucket_filter dg key hk]
  apply List.filter_congr
  intro p hp
  simp [h p hp]
theorem bucket_sorted (dg : Nat → Nat) (R : Nat → Nat → Prop) (A : List Nat) (hA : A.Pairwise R) (V : Nat) :
    (bucket dg A V).Pairwise (fun a b => dg a < dg b ∨ (dg a = dg b ∧ R a b)) := by
  induction V with
  | zero => simp [bucket]
  | succ v ih =>
    rw [bucket, List.pairwise_append]
    refine ⟨ih, ?_, ?_⟩
    · refine List.Pairwise.imp_of_mem ?_ (hA.filter _)
      intro a b ha hb hR
      rw [List.mem_filter, beq_iff_eq] at ha hb
      exact .inr ⟨by rw [ha.2, hb.2], hR⟩
    · intro a ha b hb
      rw [bucket_mem] at ha
      rw [List.mem_filter, beq_iff_eq] at hb
      exact .inl (by omega)

/-! ### the three deals -/
def st0 (A : List Nat) : List Nat × List Nat := (prefs (countTo A nextZero A.length) 3, List.replicate A.length 0)
def st1 (A : List Nat) : List Nat × List Nat := dealTo d0 0 A ((st0 A).1, (st0 A).2) A.length
def st2 (A : List Nat) : List Nat × List Nat := dealTo d1 2048 (st1 A).2 ((st1 A).1, A) A.length
def st3 (A : List Nat) : List Nat × List Nat := dealTo d2 4096 (st2 A).2 ((st2 A).1, (st1 A).2) A.length
def radix (A : List Nat) : List Nat := (st3 A).2
theorem st1_eq (A : List Nat) : dealTo d0 0 A ((st0 A).1, (st0 A).2) A.length = st1 A := by unfold st1; rfl
theorem st2_eq (A : List Nat) : dealTo d1 2048 (st1 A).2 ((st1 A).1, A) A.length = st2 A := by unfold st2; rfl
theorem st3_eq (A : List Nat) : (dealTo d2 4096 (st2 A).2 ((st2 A).1, (st1 A).2) A.length).2 = radix A := by unfold radix st3; rfl
theorem st0_fst (A : List Nat) : (st0 A).1 = prefs (countTo A nextZero A.length) 3 := by unfold st0; dsimp only
theorem st0_snd (A : List Nat) : (st0 A).2 = List.replicate A.length 0 := by unfold st0; dsimp only
theorem st0_len1 (A : List Nat) : (st0 A).1.length = 6144 := by rw [st0_fst, prefs_len, countTo_len, next_len]
theorem st0_len2 (A : List Nat) : (st0 A).2.length = A.length := by rw [st0_snd, List.length_replicate]
theorem st1_len1 (A : List Nat) : (st1 A).1.length = 6144 := by rw [← st1_eq, dealTo_len1, st0_len1]
theorem st1_len2 (A : List Nat) : (st1 A).2.length = A.length := by rw [← st1_eq, dealTo_len2, st0_len2]
theorem st2_len1 (A : List Nat) : (st2 A).1.length = 6144 := by rw [← st2_eq, dealTo_len1, st1_len1]
theorem st2_len2 (A : List Nat) : (st2 A).2.length = A.length := by rw [← st2_eq, dealTo_len2]
theorem radix_len (A : List Nat) : (radix A).length = A.length := by rw [← st3_eq, dealTo_len2, st1_len2]

theorem count_d0 (A : List Nat) (v : Nat) (hv : v < 2048) : (countTo A nextZero A.length).getD (0 * 2048 + v) 0 = atN d0 A v := by
  have := count_all d0 0 v (fun nx p h => by rw [Nat.zero_add]; exact bump_get0 nx p v h hv) A
  rw [Nat.zero_mul]; exact this
theorem count_d1 (A : List Nat) (v : Nat) (hv : v < 2048) : (countTo A nextZero A.length).getD (1 * 2048 + v) 0 = atN d1 A v := by
  have := count_all d1 2048 v (fun nx p h => bump_get1 nx p v h hv) A
  rw [Nat.one_mul]; exact this
theorem count_d2 (A : List Nat) (v : Nat) (hv : v < 2048) : (countTo A nextZero A.length).getD (2 * 2048 + v) 0 = atN d2 A v := by
  have := count_all d2 4096 v (fun nx p h => bump_get2 nx p v h hv) A
  rw [show 2 * 2048 = 4096 by rfl]; exact this

theorem sums_lt (A : List Nat) (h : A.length < 131074) (d k : Nat) (hd : d < 3) (hk : k ≤ 2048) : sumTo (prefs (countTo A nextZero A.length) d) (d * 2048) k < 1000000 := by
  have e : sumTo (prefs (countTo A nextZero A.length) d) (d * 2048) k = sumTo (countTo A nextZero A.length) (d * 2048) k :=
    sumTo_congr k (fun i _ => prefs_out _ _ _ (by omega))
  rw [e]
  have h3 : d = 0 ∨ d = 1 ∨ d = 2 := by omega
  rcases h3 with rfl | rfl | rfl
  · rw [sum_counts d0 A _ _ k (fun v hv => count_d0 A v (by omega))]
    have := lowN_le d0 A k
    omega
  · rw [sum_counts d1 A _ _ k (fun v hv => count_d1 A v (by omega))]
    have := lowN_le d1 A k
    omega
  · rw [sum_counts d2 A _ _ k (fun v hv => count_d2 A v (by omega))]
    have := lowN_le d2 A k
    omega
theorem st0_get0 (A : List Nat) (v : Nat) (hv : v < 2048) : (st0 A).1.getD (0 + v) 0 = lowN d0 A v := by
  rw [st0_fst]
  have := prefs_in (countTo A nextZero A.length) 0 v (by omega) hv (by rw [countTo_len, next_len])
  rw [sum_counts d0 A _ _ v (fun u hu => count_d0 A u (by omega)), Nat.zero_mul] at this
  exact this
theorem st0_get1 (A : List Nat) (v : Nat) (hv : v < 2048) : (st0 A).1.getD (2048 + v) 0 = lowN d1 A v := by
  rw [st0_fst]
  have := prefs_in (countTo A nextZero A.length) 1 v (by omega) hv (by rw [countTo_len, next_len])
  rw [sum_counts d1 A _ _ v (fun u hu => count_d1 A u (by omega)), Nat.one_mul] at this
  exact this
theorem st0_get2 (A : List Nat) (v : Nat) (hv : v < 2048) : (st0 A).1.getD (4096 + v) 0 = lowN d2 A v := by
  rw [st0_fst]
  have := prefs_in (countTo A nextZero A.length) 2 v (by omega) hv (by rw [countTo_len, next_len])
  rw [sum_counts d2 A _ _ v (fun u hu => count_d2 A u (by omega)), show 2 * 2048 = 4096 by rfl] at this
  exact this

/-- An index of a deal lies within bounds. -/
theorem deal_idx (dg : Nat → Nat) (o V : Nat) (A nx L : List Nat) (hV : ∀ p ∈ A, dg p < V) (hnx : ∀ v, v < V → nx.getD (o + v) 0 = lowN dg A v) (hl : o + V ≤ nx.length) (hL : L.length = A.length)
    (k : Nat) (hk : k < A.length) : (dealTo dg o A (nx, L) k).1.getD (o + dg (A.getD k 0)) 0 < A.length := by
  have hm : A.getD k 0 ∈ A := by rw [List.getD, List.getElem?_eq_getElem hk]; simp
  rw [(deal_inv dg o V A nx L hV hnx hl hL k (by omega)).1 _ (hV _ hm)]
  have h1 := take_count_lt (fun p => dg p == dg (A.getD k 0)) A k hk (by simp)
  have h2 := lowN_succ dg A (dg (A.getD k 0))
  have h3 := lowN_le dg A (dg (A.getD k 0) + 1)
  unfold atN at h2
  omega

theorem idx1 (A : List Nat) (k : Nat) (hk : k < A.length) : (dealTo d0 0 A ((st0 A).1, (st0 A).2) k).1.getD (d0 (A.getD k 0)) 0 < A.length := by
  have := deal_idx d0 0 2048 A (st0 A).1 (st0 A).2 (fun p _ => d0_lt p) (fun v hv => st0_get0 A v hv) (by rw [st0_len1]; omega) (st0_len2 A) k hk
  rwa [Nat.zero_add] at this
theorem st1_bucket (A : List Nat) : (st1 A).2 = bucket d0 A 2048 := by
  rw [← st1_eq]
  exact deal_bucket d0 0 2048 A (st0 A).1 (st0 A).2 (fun p _ => d0_lt p) (fun v hv => st0_get0 A v hv) (by rw [st0_len1]; omega) (st0_len2 A)
theorem st1_mem (A : List Nat) (p : Nat) (h : p ∈ (st1 A).2) : p ∈ A := by
  rw [st1_bucket, bucket_mem] at h
  exact h.1
theorem st1_get1 (A : List Nat) (v : Nat) (hv : v < 2048) : (st1 A).1.getD (2048 + v) 0 = lowN d1 (st1 A).2 v := by
  have e : lowN d1 (st1 A).2 v = lowN d1 A v := by
    unfold lowN
    rw [st1_bucket, bucket_count d0 _ A 2048 (fun p _ => d0_lt p)]
  rw [e, ← st0_get1 A v hv, ← st1_eq, deal_out]
  intro p _
  have := d0_lt p
  omega
theorem st1_get2 (A : List Nat) (v : Nat) (hv : v < 2048) : (st1 A).1.getD (4096 + v) 0 = lowN d2 A v := by
  rw [← st0_get2 A v hv, ← st1_eq, deal_out]
  intro p _
  have := d0_lt p
  omega
theorem idx2 (A : List Nat) (k : Nat) (hk : k < A.length) : (dealTo d1 2048 (st1 A).2 ((st1 A).1, A) k).1.getD (2048 + d1 ((st1 A).2.getD k 0)) 0 < A.length := by
  have := deal_idx d1 2048 2048 (st1 A).2 (st1 A).1 A (fun p _ => d1_lt p) (fun v hv => st1_get1 A v hv) (by rw [st1_len1]; omega) (st1_len2 A).symm k (by rw [st1_len2]; exact hk)
  rwa [st1_len2] at this
theorem st2_bucket (A : List Nat) : (st2 A).2 = bucket d1 (bucket d0 A 2048) 2048 := by
  rw [← st2_eq, ← st1_bucket]
  have := deal_bucket d1 2048 2048 (st1 A).2 (st1 A).1 A (fun p _ => d1_lt p) (fun v hv => st1_get1 A v hv) (by rw [st1_len1]; omega) (st1_len2 A).symm
  rwa [st1_len2] at this
theorem st2_mem (A : List Nat) (p : Nat) (h : p ∈ (st2 A).2) : p ∈ A := by
  rw [st2_bucket, bucket_mem, bucket_mem] at h
  exact h.1.1
theorem st2_get2 (A : List Nat) (v : Nat) (hv : v < 2048) : (st2 A).1.getD (4096 + v) 0 = lowN d2 (st2 A).2 v := by
  have e : lowN d2 (st2 A).2 v = lowN d2 A v := by
    unfold lowN
    rw [st2_bucket, bucket_count d1 _ _ 2048 (fun p _ => d1_lt p), bucket_count d0 _ A 2048 (fun p _ => d0_lt p)]
  rw [e, ← st1_get2 A v hv, ← st2_eq, deal_out]
  intro p _
  have := d1_lt p
  omega
theorem d2_small (A : List Nat) (h64 : ∀ p ∈ A, p < 18446744073709551616) : ∀ p ∈ (st2 A).2, d2 p < 2048 := fun p hp => by
  have := d2_lt p (h64 p (st2_mem A p hp))
  omega
theorem idx3 (A : List Nat) (h64 : ∀ p ∈ A, p < 18446744073709551616) (k : Nat) (hk : k < A.length) :
    (dealTo d2 4096 (st2 A).2 ((st2 A).1, (st1 A).2) k).1.getD (4096 + d2 ((st2 A).2.getD k 0)) 0 < A.length := by
  have := deal_idx d2 4096 2048 (st2 A).2 (st2 A).1 (st1 A).2 (d2_small A h64) (fun v hv => st2_get2 A v hv) (by rw [st2_len1]; omega) (by rw [st1_len2, st2_len2]) k (by rw [st2_len2]; exact hk)
  rwa [st2_len2] at this
theorem radix_bucket (A : List Nat) (h64 : ∀ p ∈ A, p < 18446744073709551616) : radix A = bucket d2 (bucket d1 (bucket d0 A 2048) 2048) 2048 := by
  rw [← st3_eq, ← st2_bucket]
  have := deal_bucket d2 4096 2048 (st2 A).2 (st2 A).1 (st1 A).2 (d2_small A h64) (fun v hv => st2_get2 A v hv) (by rw [st2_len1]; omega) (by rw [st1_len2, st2_len2])
  rwa [st2_len2] at this

/-! ### the stable order by position -/
/-- B is A in ascending order of position, and on one position in A's order. -/
def Stable (A B : List Nat) : Prop := B.Pairwise (fun a b => pos a ≤ pos b) ∧ ∀ x, B.filter (fun p => pos p == x) = A.filter (fun p => pos p == x)

theorem radix_mem (A : List Nat) (h64 : ∀ p ∈ A, p < 18446744073709551616) (p : Nat) (h : p ∈ radix A) : p ∈ A := by
  rw [radix_bucket A h64, bucket_mem, bucket_mem, bucket_mem] at h
  exact h.1.1.1
theorem radix_stable (A : List Nat) (h64 : ∀ p ∈ A, p < 18446744073709551616) : Stable A (radix A) := by
  constructor
  · have s0 : A.Pairwise (fun _ _ => True) := List.pairwise_of_forall (fun _ _ => trivial)
    have s3 := bucket_sorted d2 _ _ (bucket_sorted d1 _ _ (bucket_sorted d0 _ _ s0 2048) 2048) 2048
    rw [← radix_bucket A h64] at s3
    refine List.Pairwise.imp_of_mem ?_ s3
    intro a b ha hb h
    have ha6 := h64 a (radix_mem A h64 a ha)
    have hb6 := h64 b (radix_mem A h64 b hb)
    unfold d2 d1 d0 at h
    unfold pos
    omega
  · intro x
    have h2 : ∀ p ∈ bucket d1 (bucket d0 A 2048) 2048, d2 p < 2048 := by
      rw [← st2_bucket]; exact d2_small A h64
    rw [radix_bucket A h64]
    have k0 : ∀ p q, pos p = pos q → d0 p = d0 q := fun p q h => by unfold pos at h; unfold d0; rw [h]
    have k1 : ∀ p q, pos p = pos q → d1 p = d1 q := fun p q h => by unfold pos at h; unfold d1; rw [h]
    have k2 : ∀ p q, pos p = pos q → d2 p = d2 q := fun p q h => by unfold pos at h; unfold d2; omega
    rw [bucket_filter_all d2 pos k2 x _ 2048 h2, bucket_filter_all d1 pos k1 x _ 2048 (fun p _ => d1_lt p), bucket_filter_all d0 pos k0 x _ 2048 (fun p _ => d0_lt p)]
theorem radix_count (A : List Nat) (h64 : ∀ p ∈ A, p < 18446744073709551616) (f : Nat → Bool) : (radix A).countP f = A.countP f := by
  have h2 : ∀ p ∈ bucket d1 (bucket d0 A 2048) 2048, d2 p < 2048 := by
    rw [← st2_bucket]; exact d2_small A h64
  rw [radix_bucket A h64, bucket_count d2 _ _ 2048 h2, bucket_count d1 _ _ 2048 (fun p _ => d1_lt p), bucket_count d0 _ _ 2048 (fun p _ => d0_lt p)]

/-- There is but one such list. -/
theorem stable_unique (B C : List Nat) (hB : B.Pairwise (fun a b => pos a ≤ pos b)) (hC : C.Pairwise (fun a b => pos a ≤ pos b))
    (h : ∀ x, B.filter (fun p => pos p == x) = C.filter (fun p => pos p == x)) : B = C := by
  induction B generalizing C with
  | nil =>
    cases C with
    | nil => rfl
    | cons c r => have := h (pos c); simp at this
  | cons b B ih =>
    cases C with
    | nil => have := h (pos b); simp at this
    | cons c C =>
      rw [List.pairwise_cons] at hB hC
      have e : pos b = pos c := by
        have m1 : b ∈ (c :: C).filter (fun p => pos p == pos b) := by rw [← h (pos b)]; simp
        have m2 : c ∈ (b :: B).filter (fun p => pos p == pos c) := by rw [h (pos c)]; simp
        rw [List.mem_filter] at m1 m2
        have l1 : pos c ≤ pos b := by
          rcases List.mem_cons.1 m1.1 with rfl | m
          · exact Nat.le_refl _
          · exact hC.1 b m
        have l2 : pos b ≤ pos c := by
          rcases List.mem_cons.1 m2.1 with rfl | m
          · exact Nat.le_refl _
          · exact hB.1 c m
        omega
      have hb : b = c := by
        have := h (pos b)
        rw [List.filter_cons_of_pos (by simp), List.filter_cons_of_pos (by simp [e])] at this
        exact (List.cons.inj this).1
      subst hb
      rw [ih C hB.2 hC.2]
      intro x
      have := h x
      by_cases hx : pos b = x
      · rw [List.filter_cons_of_pos (by simp [hx]), List.filter_cons_of_pos (by simp [hx])] at this
        exact (List.cons.inj this).2
      · rw [List.filter_cons_of_neg (by simp [hx]), List.filter_cons_of_neg (by simp [hx])] at this
        exact this
theorem Stable.unique {A B C : List Nat} (h : Stable A B) (k : Stable A C) : B = C :=
  stable_unique B C h.1 k.1 (fun x => by rw [h.2, k.2])

end Go.Proofs.Qxb6000070aMods
