/-
  Plain lists and numbers: no Go in sight.
-/
import Derived.Test.Qxb6000070aModsBase
namespace Go.Proofs.Qxb6000070aMods

/-- A point's position and its owner. -/
def pos (p : Nat) : Nat := p / 4294967296
def own (p : Nat) : Nat := p % 65536
/-- The three digits of a point's position. -/
def d0 (p : Nat) : Nat := p / 4294967296 % 2048
def d1 (p : Nat) : Nat := p / 4294967296 / 2048 % 2048
def d2 (p : Nat) : Nat := p / 18014398509481984

theorem d0_lt (p : Nat) : d0 p < 2048 := by unfold d0; omega
theorem d1_lt (p : Nat) : d1 p < 2048 := by unfold d1; omega
theorem d2_lt (p : Nat) (h : p < 18446744073709551616) : d2 p < 1024 := by unfold d2; omega
theorem pos_lt (p : Nat) (h : p < 18446744073709551616) : pos p < 4294967296 := by unfold pos; omega
theorem own_lt (p : Nat) : own p < 65536 := by unfold own; omega
theorem and_d0 (p : Nat) (h : p < 18446744073709551616) : bits .and .u64 (pos p : Int) 2047 = ((d0 p : Nat) : Int) := by
  have := u64_and_nat (p / 4294967296) 2047 (by omega) (by omega)
  rw [nat_mask11] at this
  unfold d0 pos
  simpa using this
theorem and_d1 (p : Nat) (h : p < 18446744073709551616) : bits .and .u32 ((pos p : Int) / 2048) 2047 = ((d1 p : Nat) : Int) := by
  have := u32_and_nat (p / 4294967296 / 2048) 2047 (by omega) (by omega)
  rw [nat_mask11] at this
  unfold d1 pos
  simpa using this
theorem and_d1' (p : Nat) (h : p < 18446744073709551616) : bits .and .u64 ((p : Int) / 8796093022208) 2047 = ((d1 p : Nat) : Int) := by
  have := u64_and_nat (p / 8796093022208) 2047 (by omega) (by omega)
  rw [nat_mask11] at this
  have e : d1 p = p / 8796093022208 % 2048 := by unfold d1; omega
  rw [e]
  simpa using this
theorem and_d2 (p : Nat) (h : p < 18446744073709551616) : bits .and .u64 (d2 p : Int) 2047 = ((d2 p : Nat) : Int) := by
  have h2 := d2_lt p h
  have := u64_and_nat (d2 p) 2047 (by omega) (by omega)
  rw [nat_mask11, Nat.mod_eq_of_lt (by omega)] at this
  simpa using this
theorem div_d2 (p : Nat) : (p : Int) / 18014398509481984 = ((d2 p : Nat) : Int) := by unfold d2; simp
theorem div_pos (p : Nat) : (p : Int) / 4294967296 = ((pos p : Nat) : Int) := by unfold pos; simp

theorem wrap_pos (p : Nat) (h : p < 18446744073709551616) : IntKind.u32.wrap (pos p : Int) = ((pos p : Nat) : Int) := by
  have := pos_lt p h
  rw [IntKind.wrap_u32]; omega
theorem wrap_own (p : Nat) : IntKind.u16.wrap (p : Int) = ((own p : Nat) : Int) := by
  rw [IntKind.wrap_u16]; unfold own; omega

theorem wrap_own64 (p : Nat) : IntKind.i64.wrap (own p : Int) = ((own p : Nat) : Int) := by
  have := own_lt p
  rw [IntKind.wrap_i64]; omega

/-- What circlePoint makes of a point's position and owner is the point. -/
theorem or_point (p o : Nat) (hp : p < 4294967296) (ho : o < 65536) : bits .or .u64 ((p : Int) * 4294967296) (o : Int) = ((p * 4294967296 + o : Nat) : Int) := by
  have := u64_or_nat (p * 4294967296) o (by omega) (by omega)
  rw [nat_join 32 _ _ (by omega) (by omega)] at this
  simpa using this
theorem point_back (p : Nat) (h : p % 4294967296 < 65536) : pos p * 4294967296 + own p = p := by unfold pos own; omega

/-- One point dealt: it goes where the count of its digit says; the count goes up. -/
def dealStep (dg : Nat → Nat) (base : Nat) (st : List Nat × List Nat) (p : Nat) : List Nat × List Nat :=
  (st.1.set (base + dg p) (st.1.getD (base + dg p) 0 + 1), st.2.set (st.1.getD (base + dg p) 0) p)
/-- The first k points of A dealt. -/
def dealTo (dg : Nat → Nat) (base : Nat) (A : List Nat) (st : List Nat × List Nat) (k : Nat) : List Nat × List Nat :=
  (A.take k).foldl (dealStep dg base) st

theorem dealTo_zero (dg : Nat → Nat) (base : Nat) (A : List Nat) (st : List Nat × List Nat) : dealTo dg base A st 0 = st := rfl
theorem dealTo_succ (dg : Nat → Nat) (base : Nat) (A : List Nat) (st : List Nat × List Nat) (k : Nat) (h : k < A.length) :
    dealTo dg base A st (k + 1) = dealStep dg base (dealTo dg base A st k) (A.getD k 0) := by
  unfold dealTo
  rw [List.take_succ_eq_append_getElem h, List.foldl_append]
  simp [List.getD, h]
theorem dealTo_len1 (dg : Nat → Nat) (base : Nat) (A : List Nat) (st : List Nat × List Nat) (k : Nat) : (dealTo dg base A st k).1.length = st.1.length := by
  unfold dealTo
  induction A.take k generalizing st with
  | nil => rfl
  | cons p r ih => rw [List.foldl_cons, ih]; simp [dealStep]
theorem dealTo_len2 (dg : Nat → Nat) (base : Nat) (A : List Nat) (st : List Nat × List Nat) (k : Nat) : (dealTo dg base A st k).2.length = st.2.length := by
  unfold dealTo
  induction A.take k generalizing st with
  | nil => rfl
  | cons p r ih => rw [List.foldl_cons, ih]; simp [dealStep]

theorem pos_set (L : List Nat) (i p : Nat) : (L.map pos).set i (pos p) = (L.set i p).map pos := by rw [List.map_set]
theorem own_set (L : List Nat) (i p : Nat) : (L.map own).set i (own p) = (L.set i p).map own := by rw [List.map_set]

/-! ### the counts -/
/-- One point counted, by each of its three digits. -/
def bump1 (nx : List Nat) (j : Nat) : List Nat := nx.set j (nx.getD j 0 + 1)
def bump (nx : List Nat) (p : Nat) : List Nat := bump1 (bump1 (bump1 nx (d0 p)) (2048 + d1 p)) (4096 + d2 p)
/-- The first k points counted. -/
def countTo (A : List Nat) (nx : List Nat) (k : Nat) : List Nat := (A.take k).foldl bump nx
theorem bump1_eq {nx : List Nat} {j i : Nat} (h : nx.getD j 0 = i) : bump1 nx j = nx.set j (i + 1) := by unfold bump1; rw [h]
theorem bump1_len (nx : List Nat) (j : Nat) : (bump1 nx j).length = nx.length := by simp [bump1]
theorem bump_len (nx : List Nat) (p : Nat) : (bump nx p).length = nx.length := by simp [bump, bump1_len]
theorem bump1_le (nx : List Nat) (j b : Nat) (h : ∀ i, nx.getD i 0 ≤ b) : ∀ i, (bump1 nx j).getD i 0 ≤ b + 1 := by
  intro i
  have hi := h i
  have hj := h j
  by_cases e : j = i
  · subst e
    by_cases hl : j < nx.length
    · simp only [bump1, List.getD, List.getElem?_set_self hl, Option.getD_some]
      simp only [List.getD] at hj
      omega
    · simp only [bump1, List.getD, List.set_eq_of_length_le (show nx.length ≤ j by omega)]
      simp only [List.getD] at hi
      omega
  · simp only [bump1, List.getD, List.getElem?_set_ne e]
    simp only [List.getD] at hi
    omega
theorem countTo_succ (A nx : List Nat) (k : Nat) (h : k < A.length) : countTo A nx (k + 1) = bump (countTo A nx k) (A.getD k 0) := by
  unfold countTo
  rw [List.take_succ_eq_append_getElem h, List.foldl_append]
  simp [List.getD, h]
theorem countTo_len (A nx : List Nat) (k : Nat) : (countTo A nx k).length = nx.length := by
  unfold countTo
  induction A.take k generalizing nx with
  | nil => rfl
  | cons p r ih => rw [List.foldl_cons, ih, bump_len]

/-! ### the sums -/
/-- The sum of the first k counts from place o on; the list with those counts turned into sums. -/
def sumTo (nx : List Nat) (o : Nat) : Nat → Nat
  | 0 => 0
  | k + 1 => sumTo nx o k + nx.getD (o + k) 0
def prefTo (nx : List Nat) (o : Nat) : Nat → List Nat
  | 0 => nx
  | k + 1 => (prefTo nx o k).set (o + k) (sumTo nx o k)
theorem prefTo_len (nx : List Nat) (o k : Nat) : (prefTo nx o k).length = nx.length := by
  induction k with
  | zero => rfl
  | succ k ih => simp [prefTo, ih]

/-- All three digits' counts turned into sums. -/
def prefs (nx : List Nat) : Nat → List Nat
  | 0 => nx
  | d + 1 => prefTo (prefs nx d) (d * 2048) 2048
theorem prefs_len (nx : List Nat) (d : Nat) : (prefs nx d).length = nx.length := by
  induction d with
  | zero => rfl
  | succ d ih => simp [prefs, prefTo_len, ih]

end Go.Proofs.Qxb6000070aMods
