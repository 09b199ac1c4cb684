/-
  FnNewCircleIsIdempotent: the walk of the law.
-/
import Derived.Test.Qxb6000070aModsZz70
import Derived.Deep.DrawnRows
import Derived.Deep.RegionHeld3
namespace Go.Proofs.Qxb6000070aMods
open Go.RowKit
attribute [local go_sem ↓] Go.wp_at_zero Go.wp_at_succ

theorem radix_idem (A : List Nat) (h64 : ∀ p ∈ A, p < 18446744073709551616) : radix (radix A) = radix A :=
  Stable.unique (radix_stable (radix A) (fun p hp => h64 p (radix_mem A h64 p hp))) ⟨(radix_stable A h64).1, fun _ => rfl⟩
theorem map_pos_get (B : List Nat) (i : Nat) (h : i < B.length) : (B.map pos).getD i 0 = pos (B.getD i 0) := by simp [List.getD, h]
theorem map_own_get (B : List Nat) (i : Nat) (h : i < B.length) : (B.map own).getD i 0 = own (B.getD i 0) := by simp [List.getD, h]
theorem wrap_u64_pos (p : Nat) (h : p < 18446744073709551616) : IntKind.u64.wrap (pos p : Int) = ((pos p : Nat) : Int) := by
  have := pos_lt p h
  rw [IntKind.wrap_u64]; omega
theorem wrap_u64_shl (p : Nat) (h : p < 18446744073709551616) : IntKind.u64.wrap ((pos p : Int) * 4294967296) = (pos p : Int) * 4294967296 := by
  have := pos_lt p h
  rw [IntKind.wrap_u64]; omega
theorem wrap_u64_own (p : Nat) : IntKind.u64.wrap (own p : Int) = ((own p : Nat) : Int) := by
  have := own_lt p
  rw [IntKind.wrap_u64]; omega
theorem or_back (p : Nat) (h : p < 18446744073709551616) (ho : p % 4294967296 < 65536) : bits .or .u64 ((pos p : Int) * 4294967296) (own p : Int) = (p : Int) := by
  rw [or_point (pos p) (own p) (pos_lt p h) (own_lt p), point_back p ho]

set_option maxHeartbeats 4000000 in
set_option maxRecDepth 100000 in
theorem idem_walk (m cm n cp : Nat) (an ap : Option Addr) (ss : List ByteArray) (A : List Nat) (w : World)
    (han : Strs w an m ss) (hanil : an = none → m = 0 ∧ cm = 0) (hss : ss.length = m)
    (hap : Nums .u64 w ap n A) (hapnil : ap = none → n = 0 ∧ cp = 0) (hA : A.length = n) (h64 : ∀ p ∈ A, p < 18446744073709551616) :
    Calls Trym.prog 6 #[.slice an m cm, .slice ap n cp] w fun e w' => Yes w e w' := by
  go_enter Trym.func6, Trym.ntmps6
  go_wp2_with fail
  refine (zzBytes24 m cm n cp an ap ss w han).mono ?_
  rintro e w1 ⟨rfl, b, rfl, hb⟩
  cases b with
  | false =>
    go_wp2_with fail
    go_ret
    exact Yes.same _
  | true =>
  obtain ⟨hm1, hn1, hs1⟩ := hb rfl
  clear hb
  by_cases hm6 : m ≤ 65536
  case neg =>
    have hd1 : (65536 : Int) < (m : Int) := by omega
    clear hs1
    go_wp2_with fail
    go_ret
    exact Yes.same _
  by_cases hn2 : n ≤ 131072
  case neg =>
    have hd1 : decide ((65536 : Int) < (m : Int)) = false := decide_eq_false (by omega)
    have hd2 : (131072 : Int) < (n : Int) := by omega
    clear hs1
    go_wp2_with fail
    go_ret
    exact Yes.same _
  have hd1 : decide ((65536 : Int) < (m : Int)) = false := decide_eq_false (by omega)
  have hd2 : decide ((131072 : Int) < (n : Int)) = false := decide_eq_false (by omega)
  go_wp2_with fail
  refine (fits_any m cm n cp an ap ss A w1 han hap hA hm6 hn2 hs1 h64).mono ?_
  rintro e w3 ⟨rfl, b, rfl, hb⟩
  cases b with
  | false =>
    go_wp2_with fail
    go_ret
    exact Yes.same _
  | true =>
  obtain ⟨_, _, how⟩ := hb rfl
  have hn13 : n < 131074 := by omega
  clear hb hd1 hd2
  go_wp2_with fail
  refine (clone18 m cm an ss w3 han hanil hss hm1).mono ?_
  rintro e wn ⟨an1, cm1, rfl, hKn, hnil1, hrn⟩
  go_wp2_with fail
  have hap2 : Nums .u64 wn ap n A := fun h => by
    obtain ⟨b, off, e, hc⟩ := hap h
    exact ⟨b, off, e, fun i hi => hKn.cell (hc i hi) (by simp)⟩
  refine (clone19 n cp ap A wn hap2 hapnil hA hn1).mono ?_
  rintro e wp ⟨ap1, cp1, rfl, hKp, hnil2, hrp⟩
  have hKwp := hKn.trans hKp
  have sn := hKn.size
  clear hrn hKn hKp hnil1 hnil2 hap hap2 han hs1
  go_wp2_with fail
  refine (zznew_any wn.heap.size n cp1 m cm1 ap1 an1 A wp hA hn13 hm6 (fun h => (hrp h).1) h64 how (fun h => (hrp h).2) (fun h => (hrp h).2.lt)).mono ?_
  rintro e wc ⟨W1, O1, hW1, hO1, hWO1, rfl, hKc, rW1, rO1⟩
  have hKwc : Kept [] w3 wc := hKwp.then hKc (fun i hi hy => by simp at hy; omega)
  have sp := hKwp.size
  clear hKwp hKc hrp
  have hl1 : (radix A).length = n := by rw [radix_len, hA]
  have h6r : ∀ p ∈ radix A, p < 18446744073709551616 := fun p hp => h64 p (radix_mem A h64 p hp)
  have howr : ∀ p ∈ radix A, p % 4294967296 < m := fun p hp => how p (radix_mem A h64 p hp)
  have hid := radix_idem A h64
  have hdd : distinctN ((radix A).map own) m = distinctN (A.map own) m := distinct_congr m (radix_own A h64)
  rw [← hdd]
  clear how h64 hdd
  generalize radix A = B at *
  have hmk := fun w => run_make1 (P := Trym.prog) w 36 44 (.int .u64 0) 8 Trym.underlying36 Trym.infoU64 rfl n (by omega) (by omega)
  have lW1 := rW1.lt
  have lO1 := rO1.lt
  go_wp2_with fail
  have hvl : (ints .u64 B).length = n := by simp [ints, hl1]
  have r0 : Row (wc.alloc (.cells (Array.replicate n (.int .u64 0)) 44)) wc.heap.size 44 (upTo (ints .u64 B) (.int .u64 0) 0) := by
    rw [upTo_zero, hvl]; exact Row.newRep _ _ _ _ _ rfl
  have k0 := (Kept.refl [] wc).alloc (.cells (Array.replicate n (.int .u64 0)) 44)
  generalize wc.alloc (.cells (Array.replicate n (.int .u64 0)) 44) = wq at *
  clear hmk
  have nWV : W1 ≠ wc.heap.size := by omega
  have nOV : O1 ≠ wc.heap.size := by omega
  have nVW := nWV.symm
  have nVO := nOV.symm
  go_loopw [12] (fun i wr => ∃ k : Nat, k ≤ n ∧ i = .int .i64 k ∧ Kept [] wc wr ∧ Row wr wc.heap.size 44 (upTo (ints .u64 B) (.int .u64 0) k)) (fun i _ => n - (intOf i).toNat)
  case atStart => exact ⟨0, Nat.zero_le _, rfl, k0, r0⟩
  case round =>
  obtain ⟨k, hk, rfl, hK, hR⟩ := hrel
  clear k0 r0
  by_cases hlt : k < n
  · have gW := (hK.row rW1 (by simp)).int k (by simp; omega)
    have gO := (hK.row rO1 (by simp)).int k (by simp; omega)
    rw [map_pos_get B k (by omega)] at gW
    rw [map_own_get B k (by omega)] at gO
    have hp6 := h6r _ (getD_mem B k (by omega))
    have hpo := howr _ (getD_mem B k (by omega))
    have h2 := hR.cell k
    rw [upTo_get _ _ _ (by omega)] at h2
    have h3 := hR.free k
    have hv := ints_get .u64 B k (by omega)
    have HR := (show Hid (Row wr wc.heap.size 44 (upTo (ints .u64 B) (.int .u64 0) k)) from hR)
    have HV := (show Hid _ from hv)
    have HVL := (show Hid _ from hvl)
    clear hv hR hvl rW1 rO1 h6r howr hid
    generalize B.getD k 0 = p at *
    have q1 := wrap_u64_pos p hp6
    have q2 := wrap_u64_shl p hp6
    have q3 := wrap_u64_own p
    have q4 := or_back p hp6 (by omega)
    have q5 := pos_lt p hp6
    have q6 := own_lt p
    have c1 : (0 : Int) ≤ (k : Int) := by omega
    have c2 : (k : Int) < (n : Int) := by omega
    go_wp2_with fail
    go_region_held3 (fun w' => w'.cell? ⟨W1, k, none⟩ = some (.int .u32 ((pos p : Nat) : Int)) ∧ w'.cell? ⟨O1, k, none⟩ = some (.int .u16 ((own p : Nat) : Int))) (go_keep) (fail)
    go_wp2_with fail
    go_roundw
    case rel => exact ⟨k + 1, by omega, by go_num, (hK.setCell (.inl (Nat.le_refl _)) _).drew, (HR.out.upToNext (by have := HVL.out; omega) HV.out).drew⟩
    case measure => simp [intOf]; omega
  have hkn : n = k := by omega
  subst hkn
  have rV : Row wr wc.heap.size 44 (ints .u64 B) := by
    have := hR
    rw [← hvl, upTo_all] at this
    exact this
  clear hR hlt hk hvl
  have rW2 := hK.row rW1 (by simp)
  have rO2 := hK.row rO1 (by simp)
  have hKw := hKwc.trans hK
  have s3 := hKwc.size
  clear rW1 rO1 hK hKwc
  go_wp2_with fail
  refine (zznew_any wc.heap.size n n m cm1 (some ⟨wc.heap.size, 0, none⟩) an1 B wr hl1 hn13 hm6 (fun h => rfl) h6r howr (fun h => rV) (fun h => rV.lt)).mono ?_
  rintro e wf ⟨W2, O2, hW2, hO2, hWO2, rfl, hKf, rW3, rO3⟩
  rw [hid] at rW3 rO3
  have rWf := hKf.row rW2 (by simpa using nWV)
  have rOf := hKf.row rO2 (by simpa using nOV)
  have hKwf : Kept [] w3 wf := hKw.then hKf (fun i hi hy => by simp at hy; omega)
  clear hKf hKw rW2 rO2 rV hid howr h6r
  generalize distinctN (B.map own) m = d at *
  have hnl2 := fun (w : World) (a : Option Addr) (n c n' c' : Nat) => Lib.run_eql_slice_nil (P := Trym.prog) w _ _ a n c n' c' Trym.underlying22
  have hnl3 := fun (w : World) (a : Option Addr) (n c n' c' : Nat) => Lib.run_eql_slice_nil (P := Trym.prog) w _ _ a n c n' c' Trym.underlying23
  go_wp2_with fail
  clear hnl2 hnl3
  go_loopw [19] (fun i wr => ∃ k : Nat, k ≤ n ∧ i = .int .i64 k ∧ Kept [] wf wr) (fun i _ => n - (intOf i).toNat)
  case atStart => exact ⟨0, Nat.zero_le _, rfl, Kept.refl _ _⟩
  case round =>
  obtain ⟨k, hk, rfl, hK⟩ := hrel
  by_cases hlt : k < n
  · have g1 := (hK.row rWf (by simp)).int k (by simp; omega)
    have g2 := (hK.row rW3 (by simp)).int k (by simp; omega)
    have g3 := (hK.row rOf (by simp)).int k (by simp; omega)
    have g4 := (hK.row rO3 (by simp)).int k (by simp; omega)
    generalize (B.map pos).getD k 0 = x at *
    generalize (B.map own).getD k 0 = y at *
    have c1 : (0 : Int) ≤ (k : Int) := by omega
    have c2 : (k : Int) < (n : Int) := by omega
    have c3 : ((x : Int) != (x : Int)) = false := by simp
    have c4 : ((y : Int) != (y : Int)) = false := by simp
    go_wp2_with fail
    go_quiet (fail)
    go_wp2_with fail
    go_roundw
    case rel => exact ⟨k + 1, by omega, by go_num, hK.drewN _⟩
    case measure => simp [intOf]; omega
  · go_wp2_with fail
    go_ret
    exact Yes.kept (hKwf.trans hK)

end Go.Proofs.Qxb6000070aMods
