/-
  FnNewCircleSortsPointsStablyByPosition: the walk of the law.
-/
import Derived.Test.Qxb6000070aModsZz70
import Derived.Test.Qxb6000070aModsMergeWalk70
import Derived.Test.Qxb6000070aModsDistinct
namespace Go.Proofs.Qxb6000070aMods
open Go.RowKit

theorem map_pos_get (B : List Nat) (i : Nat) (h : i < B.length) : (B.map pos).getD i 0 = pos (B.getD i 0) := by simp [List.getD, h]
theorem map_own_get (B : List Nat) (i : Nat) (h : i < B.length) : (B.map own).getD i 0 = own (B.getD i 0) := by simp [List.getD, h]
theorem and_own (p : Nat) (h : p < 18446744073709551616) : bits .and .u64 (p : Int) 65535 = ((own p : Nat) : Int) := by
  have := u64_and_nat p 65535 h (by omega)
  rw [show (65535 : Nat) = 2 ^ 16 - 1 by decide, Nat.and_two_pow_sub_one_eq_mod] at this
  exact this
theorem wrap_u16_own (p : Nat) : IntKind.u16.wrap (own p : Int) = ((own p : Nat) : Int) := by
  have := own_lt p
  rw [IntKind.wrap_u16]; omega

theorem range_map_get (A : List Nat) : (List.range A.length).map (fun i => A.getD i 0) = A := by
  apply List.ext_getElem
  · simp
  · intro i h1 h2
    simp [List.getD, h2]
/-- The points in the order of the places are the points in stable order. -/
theorem KStable.points {A B : List Nat} (h : KStable (kpos A) (List.range A.length) B) : KStable pos A (B.map fun i => A.getD i 0) := by
  refine ⟨List.pairwise_map.2 h.1, fun x => ?_⟩
  have e := h.2 x
  have e2 := congrArg (List.map fun i => A.getD i 0) e
  have e3 : ∀ l : List Nat, (l.map fun i => A.getD i 0).filter (fun p => pos p == x) = (l.filter (fun p => kpos A p == x)).map fun i => A.getD i 0 := by
    intro l
    rw [List.filter_map]; rfl
  rw [e3, e2, ← e3, range_map_get]

set_option maxHeartbeats 1000000 in
theorem same_any (m cm : Nat) (an : Option Addr) (ss : List ByteArray) (w : World) (han : Strs w an m ss) (hm : m ≤ 65536) :
    Calls Trym.prog 22 #[.slice an m cm, .slice an m cm] w fun e w' => e = .returned (.bool true) ∧ Kept [] w w' := by
  go_enter Trym.func22, Trym.ntmps22
  go_wp2_with fail
  go_loopw [5] (fun i wr => ∃ k : Nat, k ≤ m ∧ i = .int .i64 k ∧ Kept [] w wr) (fun i _ => m - (intOf i).toNat)
  case atStart => exact ⟨0, Nat.zero_le _, rfl, Kept.refl _ _⟩
  case round =>
  obtain ⟨k, hk, rfl, hK⟩ := hrel
  by_cases hlt : k < m
  · obtain ⟨b, off, rfl, hc⟩ := han (by omega)
    have g := hK.cell (hc k hlt) (by simp)
    clear hc han
    generalize ss.getD k ByteArray.empty = s at *
    have c1 : (0 : Int) ≤ (k : Int) := by omega
    have c2 : (k : Int) < (m : Int) := by omega
    go_wp2_with fail
    go_quiet (fail)
    go_wp2_with fail
    go_roundw
    case rel => exact ⟨k + 1, by omega, by go_num, hK.drewN _⟩
    case measure => simp [intOf]; omega
  · go_wp2_with fail
    go_ret
    exact ⟨rfl, hK⟩

set_option maxHeartbeats 4000000 in
set_option maxRecDepth 100000 in
theorem sort_walk (m cm n cp : Nat) (an ap : Option Addr) (ss : List ByteArray) (A : List Nat) (w : World)
    (han : Strs w an m ss) (hanil : an = none → m = 0 ∧ cm = 0) (hss : ss.length = m)
    (hap : Nums .u64 w ap n A) (hapnil : ap = none → n = 0 ∧ cp = 0) (hA : A.length = n) (h64 : ∀ p ∈ A, p < 18446744073709551616) :
    Calls Trym.prog 5 #[.slice an m cm, .slice ap n cp] w fun e w' => Yes w e w' := by
  go_enter Trym.func5, Trym.ntmps5
  go_wp2_with fail
  refine (zzBytes16 m cm n cp an ap ss w han).mono ?_
  rintro e w1 ⟨rfl, b, rfl, hb⟩
  cases b with
  | false =>
    go_wp2_with fail
    go_ret
    exact Yes.same _
  | true =>
  obtain ⟨hm1, hn1, hs1⟩ := hb rfl
  clear hb
  by_cases hm6 : m ≤ 65536
  case neg =>
    have hd1 : (65536 : Int) < (m : Int) := by omega
    clear hs1
    go_wp2_with fail
    go_ret
    exact Yes.same _
  by_cases hn2 : n ≤ 131072
  case neg =>
    have hd1 : decide ((65536 : Int) < (m : Int)) = false := decide_eq_false (by omega)
    have hd2 : (131072 : Int) < (n : Int) := by omega
    clear hs1
    go_wp2_with fail
    go_ret
    exact Yes.same _
  have hd1 : decide ((65536 : Int) < (m : Int)) = false := decide_eq_false (by omega)
  have hd2 : decide ((131072 : Int) < (n : Int)) = false := decide_eq_false (by omega)
  go_wp2_with fail
  refine (fits_any m cm n cp an ap ss A w1 han hap hA hm6 hn2 hs1 h64).mono ?_
  rintro e w3 ⟨rfl, b, rfl, hb⟩
  cases b with
  | false =>
    go_wp2_with fail
    go_ret
    exact Yes.same _
  | true =>
  obtain ⟨_, _, how⟩ := hb rfl
  have hn13 : n < 131074 := by omega
  clear hb hd1 hd2
  go_wp2_with fail
  refine (clone18 m cm an ss w3 han hanil hss hm1).mono ?_
  rintro e wn ⟨an1, cm1, rfl, hKn, hnil1, hrn⟩
  have HRN := (show Hid _ from hrn)
  clear hrn hnil1
  go_wp2_with fail
  have hap2 : Nums .u64 wn ap n A := fun h => by
    obtain ⟨b, off, e, hc⟩ := hap h
    exact ⟨b, off, e, fun i hi => hKn.cell (hc i hi) (by simp)⟩
  refine (clone19 n cp ap A wn hap2 hapnil hA hn1).mono ?_
  rintro e wp ⟨ap1, cp1, rfl, hKp, hnil2, hrp⟩
  have HRP := (show Hid _ from hrp)
  have HN2 := (show Hid _ from hnil2)
  have hap3 : Nums .u64 wp ap1 n A := fun h => by
    obtain ⟨e, r⟩ := hrp h
    exact ⟨wn.heap.size, 0, e, fun i hi => by rw [Nat.zero_add]; exact r.int i (by omega)⟩
  have hKwp := hKn.trans hKp
  have sn := hKn.size
  have sp := hKp.size
  have HKP := (show Hid _ from hKp)
  clear hrp hnil2 hKn hKp hap hap2 han hs1 hanil hapnil
  go_wp2_with fail
  refine (clone19 n cp1 ap1 A wp hap3 HN2.out hA hn1).mono ?_
  rintro e wq ⟨ap2, cp2, rfl, hKq, hnil3, hrq⟩
  have HRQ := (show Hid _ from hrq)
  clear hrq hnil3 hap3
  go_wp2_with fail
  refine (zznew_any wp.heap.size n cp2 m cm1 ap2 an1 A wq hA hn13 hm6 (fun h => (HRQ.out h).1) h64 how (fun h => (HRQ.out h).2) (fun h => (HRQ.out h).2.lt)).mono ?_
  rintro e wc ⟨W1, O1, hW1, hO1, hWO1, rfl, hKc, rW1, rO1⟩
  have hKwc : Kept [] w3 wc := (hKwp.trans hKq).then hKc (fun i hi hy => by simp at hy; omega)
  have HSN : Hid (Strs wc an1 m ss) := fun h => by
    obtain ⟨e, r⟩ := HRN.out h
    have l := r.lt
    have r2 := hKc.row (hKq.row (HKP.out.row r (by simp)) (by simp)) (by simp; omega)
    exact ⟨w3.heap.size, 0, e, fun i hi => by rw [Nat.zero_add, r2.cell, strs_get _ _ (by omega)]⟩
  have HPN : Hid (Nums .u64 wc ap1 n A) := fun h => by
    obtain ⟨e, r⟩ := HRP.out h
    have l := r.lt
    have r2 := hKc.row (hKq.row r (by simp)) (by simp; omega)
    exact ⟨wn.heap.size, 0, e, fun i hi => by rw [Nat.zero_add]; exact r2.int i (by omega)⟩
  clear hKwp hKc hKq HRN HRP HRQ HN2 HKP
  have hl1 : (radix A).length = n := by rw [radix_len, hA]
  have h6r : ∀ p ∈ radix A, p < 18446744073709551616 := fun p hp => h64 p (radix_mem A h64 p hp)
  have hnl2 := fun (w : World) (a : Option Addr) (n c n' c' : Nat) => run_neq_slice_nil_any (P := Trym.prog) w _ _ a n c n' c' Trym.underlying22
  have hnl3 := fun (w : World) (a : Option Addr) (n c n' c' : Nat) => run_neq_slice_nil_any (P := Trym.prog) w _ _ a n c n' c' Trym.underlying23
  go_wp2_with fail
  clear hnl2 hnl3
  refine (order_any n cp1 ap1 A wc HPN.out hA hn13).mono ?_
  rintro e ws ⟨S, B, rfl, hKs, hS, hBl, rS, hst⟩
  rw [← hA] at hst
  have hBe : (B.map fun i => A.getD i 0) = radix A := Stable.unique (A := A) hst.points (radix_stable A h64)
  have hmem : ∀ i, i < n → B.getD i 0 < n := fun i hi => by
    have h1 := hst.mem (getD_mem B i (by omega))
    have h2 := List.mem_range.1 h1
    omega
  have hget : ∀ i, i < n → A.getD (B.getD i 0) 0 = (radix A).getD i 0 := fun i hi => by
    rw [← hBe]
    simp [List.getD, show i < B.length by omega]
  have HMEM := (show Hid _ from hmem)
  have HGET := (show Hid _ from hget)
  have rW := hKs.row rW1 (by simp)
  have rO := hKs.row rO1 (by simp)
  have HSN2 : Hid (Strs ws an1 m ss) := fun h => by
    obtain ⟨b, off, e, hc⟩ := HSN.out h
    exact ⟨b, off, e, fun i hi => hKs.cell (hc i hi) (by simp)⟩
  have HPN2 : Hid (Nums .u64 ws ap1 n A) := fun h => by
    obtain ⟨b, off, e, hc⟩ := HPN.out h
    exact ⟨b, off, e, fun i hi => hKs.cell (hc i hi) (by simp)⟩
  have hKws := hKwc.trans hKs
  clear hmem hget hst hBe rW1 rO1 HSN HPN hKwc hKs
  generalize hde : distinctN (A.map own) m = d at *
  have HDE := (show Hid _ from hde)
  have HB := (show Hid _ from h6r)
  have HA6 := (show Hid _ from h64)
  have HOW := (show Hid _ from how)
  clear hde h6r h64 how
  go_wp2_with fail
  go_loopw [14, 15] (fun i x wr => ∃ k : Nat, k ≤ n ∧ i = .int .i64 k ∧ Kept [] ws wr) (fun i _ _ => n - (intOf i).toNat)
  case atStart => exact ⟨0, Nat.zero_le _, rfl, Kept.refl _ _⟩
  case round =>
  obtain ⟨k, hk, rfl, hK⟩ := hrel
  by_cases hlt : k < n
  · obtain ⟨b, off, rfl, hc⟩ := HPN2.out (by omega)
    have gW := (hK.row rW (by simp)).int k (by simp; omega)
    have gO := (hK.row rO (by simp)).int k (by simp; omega)
    have gS := (hK.row rS (by simp)).int k (by omega)
    rw [map_pos_get _ k (by omega)] at gW
    rw [map_own_get _ k (by omega)] at gO
    have hx := HMEM.out k hlt
    have gP := hK.cell (hc _ hx) (by simp)
    rw [HGET.out k hlt] at gP
    have hp6 := HB.out _ (getD_mem (radix A) k (by omega))
    clear hc
    generalize (radix A).getD k 0 = p at *
    generalize B.getD k 0 = x at *
    have q1 := div_pos p
    have q2 := wrap_pos p hp6
    have q3 := and_own p hp6
    have q4 := wrap_u16_own p
    have c1 : (0 : Int) ≤ (k : Int) := by omega
    have c2 : (k : Int) < (n : Int) := by omega
    have c3 : (((pos p : Nat) : Int) != ((pos p : Nat) : Int)) = false := by simp
    have c4 : (((own p : Nat) : Int) != ((own p : Nat) : Int)) = false := by simp
    have c5 : (0 : Int) ≤ (x : Int) := by omega
    have c6 : (x : Int) < (n : Int) := by omega
    go_wp2_with fail
    go_roundw
    case rel => exact ⟨k + 1, by omega, by go_num, hK⟩
    case measure => simp [intOf]; omega
  have hSN : Strs wr an1 m ss := fun h => by
    obtain ⟨b, off, e, hc⟩ := HSN2.out h
    exact ⟨b, off, e, fun i hi => hK.cell (hc i hi) (by simp)⟩
  have HPN3 : Hid (Nums .u64 wr ap1 n A) := fun h => by
    obtain ⟨b, off, e, hc⟩ := HPN2.out h
    exact ⟨b, off, e, fun i hi => hK.cell (hc i hi) (by simp)⟩
  have HSN3 := (show Hid _ from hSN)
  have hKwr := hKws.trans hK
  clear hSN HSN2 HPN2 hK hKws rW rO rS
  go_wp2_with fail
  refine (same_any m cm1 an1 ss wr HSN3.out hm6).mono ?_
  rintro e wt ⟨rfl, hKt⟩
  have HPN4 : Hid (Nums .u64 wt ap1 n A) := fun h => by
    obtain ⟨b, off, e, hc⟩ := HPN3.out h
    exact ⟨b, off, e, fun i hi => hKt.cell (hc i hi) (by simp)⟩
  have hKwt := hKwr.trans hKt
  clear HPN3 hKwr hKt HSN3
  go_wp2_with fail
  refine (distinct_any n cp1 m ap1 A wt HPN4.out hA hn13 hm6 HA6.out HOW.out).mono ?_
  rintro e wd ⟨rfl, hKd⟩
  rw [HDE.out]
  go_wp2_with fail
  go_ret
  exact Yes.kept (hKwt.trans hKd)

end Go.Proofs.Qxb6000070aMods
