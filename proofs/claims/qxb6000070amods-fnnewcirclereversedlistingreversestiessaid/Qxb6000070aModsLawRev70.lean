/-
  FnNewCircleReversedListingReversesTies: the walk of the law.
-/
import Derived.Test.Qxb6000070aModsZz70
import Derived.Test.Qxb6000070aModsReverse
namespace Go.Proofs.Qxb6000070aMods
open Go.RowKit

set_option maxHeartbeats 4000000 in
set_option maxRecDepth 100000 in
theorem rev_walk (m cm n cp : Nat) (an ap : Option Addr) (ss : List ByteArray) (A : List Nat) (w : World)
    (han : Strs w an m ss) (hanil : an = none → m = 0 ∧ cm = 0) (hss : ss.length = m)
    (hap : Nums .u64 w ap n A) (hapnil : ap = none → n = 0 ∧ cp = 0) (hA : A.length = n) (h64 : ∀ p ∈ A, p < 18446744073709551616) :
    Calls Trym.prog 7 #[.slice an m cm, .slice ap n cp] w fun e w' => Yes w e w' := by
  go_enter Trym.func7, Trym.ntmps7
  go_wp2_with fail
  refine (zzBytes25 m cm n cp an ap ss w han).mono ?_
  rintro e w1 ⟨rfl, b, rfl, hb⟩
  cases b with
  | false =>
    go_wp2_with fail
    go_ret
    exact Yes.same _
  | true =>
  obtain ⟨hm1, hn1, hs1⟩ := hb rfl
  clear hb
  by_cases hm6 : m ≤ 65536
  case neg =>
    have hd1 : (65536 : Int) < (m : Int) := by omega
    clear hs1
    go_wp2_with fail
    go_ret
    exact Yes.same _
  by_cases hn2 : n ≤ 131072
  case neg =>
    have hd1 : decide ((65536 : Int) < (m : Int)) = false := decide_eq_false (by omega)
    have hd2 : (131072 : Int) < (n : Int) := by omega
    clear hs1
    go_wp2_with fail
    go_ret
    exact Yes.same _
  have hd1 : decide ((65536 : Int) < (m : Int)) = false := decide_eq_false (by omega)
  have hd2 : decide ((131072 : Int) < (n : Int)) = false := decide_eq_false (by omega)
  go_wp2_with fail
  refine (fits_any m cm n cp an ap ss A w1 han hap hA hm6 hn2 hs1 h64).mono ?_
  rintro e w3 ⟨rfl, b, rfl, hb⟩
  cases b with
  | false =>
    go_wp2_with fail
    go_ret
    exact Yes.same _
  | true =>
  obtain ⟨_, _, how⟩ := hb rfl
  have hn13 : n < 131074 := by omega
  clear hb hd1 hd2
  go_wp2_with fail
  refine (clone18 m cm an ss w3 han hanil hss hm1).mono ?_
  rintro e wn ⟨an1, cm1, rfl, hKn, hnil1, hrn⟩
  go_wp2_with fail
  have hap2 : Nums .u64 wn ap n A := fun h => by
    obtain ⟨b, off, e, hc⟩ := hap h
    exact ⟨b, off, e, fun i hi => hKn.cell (hc i hi) (by simp)⟩
  refine (clone19 n cp ap A wn hap2 hapnil hA hn1).mono ?_
  rintro e wp ⟨ap1, cp1, rfl, hKp, hnil2, hrp⟩
  have hKwp := hKn.trans hKp
  have sn := hKn.size
  have spn := hKp.size
  clear hrn hKn hKp hnil1 hnil2 hap hap2 han hs1
  have hmk := fun w => run_make1 (P := Trym.prog) w 36 44 (.int .u64 0) 8 Trym.underlying36 Trym.infoU64 rfl n (by omega) (by omega)
  go_wp2_with fail
  have hvl : (ints .u64 A.reverse).length = n := by simp [ints, hA]
  have r0 : Row (wp.alloc (.cells (Array.replicate n (.int .u64 0)) 44)) wp.heap.size 44 (upTo (ints .u64 A.reverse) (.int .u64 0) 0) := by
    rw [upTo_zero, hvl]; exact Row.newRep _ _ _ _ _ rfl
  have k0 := (Kept.refl [] wp).alloc (.cells (Array.replicate n (.int .u64 0)) 44)
  generalize wp.alloc (.cells (Array.replicate n (.int .u64 0)) 44) = wq at *
  clear hmk
  go_loopw [7] (fun i wr => ∃ k : Nat, k ≤ n ∧ i = .int .i64 k ∧ Kept [] wp wr ∧ Row wr wp.heap.size 44 (upTo (ints .u64 A.reverse) (.int .u64 0) k)) (fun i _ => n - (intOf i).toNat)
  case atStart => exact ⟨0, Nat.zero_le _, rfl, k0, r0⟩
  case round =>
  obtain ⟨k, hk, rfl, hK, hR⟩ := hrel
  clear k0 r0
  by_cases hlt : k < n
  · obtain ⟨hx, hrow⟩ := hrp (by omega)
    have h1 := (hK.row hrow (by simp)).int (n - 1 - k) (by omega)
    have h2 := hR.cell k
    rw [upTo_get _ _ _ (by omega)] at h2
    have h3 := hR.free k
    have hv := ints_get .u64 A.reverse k (by simp; omega)
    have ev : A.reverse.getD k 0 = A.getD (n - 1 - k) 0 := by
      rw [List.getD, List.getD, List.getElem?_reverse (by omega), hA]
    rw [ev] at hv
    have HR := (show Hid (Row wr wp.heap.size 44 (upTo (ints .u64 A.reverse) (.int .u64 0) k)) from hR)
    have HV := (show Hid _ from hv)
    have HVL := (show Hid _ from hvl)
    clear hv hR hvl ev hrow hrp
    generalize A.getD (n - 1 - k) 0 = v at *
    subst hx
    go_wp2_with fail
    go_roundw
    case rel => exact ⟨k + 1, by omega, by go_num, hK.setCell (.inl (Nat.le_refl _)) _, HR.out.upToNext (by have := HVL.out; omega) HV.out⟩
    case measure => simp [intOf]; omega
  have hkn : k = n := by omega
  subst hkn
  have rV : Row wr wp.heap.size 44 (ints .u64 A.reverse) := by
    have := hR
    rw [← hvl, upTo_all] at this
    exact this
  clear hR hvl hlt hk
  have hKw := hKwp.trans hK
  have rPm : 0 < k → ap1 = some ⟨wn.heap.size, 0, none⟩ ∧ Row wr wn.heap.size 44 (ints .u64 A) := fun h => ⟨(hrp h).1, hK.row (hrp h).2 (by simp)⟩
  have nVP : 0 < k → wn.heap.size < wp.heap.size := fun h => (hrp h).2.lt
  have lV := rV.lt
  clear hrp hK hKwp
  go_wp2_with fail
  refine (zznew_any wn.heap.size k cp1 m cm1 ap1 an1 A wr hA hn13 hm6 (fun h => (rPm h).1) h64 how (fun h => (rPm h).2) (fun h => (rPm h).2.lt)).mono ?_
  rintro e wc ⟨W1, O1, hW1, hO1, hWO1, rfl, hKc, rW1, rO1⟩
  have sc := hKc.size
  have rVd : 0 < k → Row wc wp.heap.size 44 (ints .u64 A.reverse) := fun h => hKc.row rV (by have := nVP h; simp; omega)
  have hKwc : Kept [] w3 wc := hKw.then hKc (fun i hi hy => by simp at hy; omega)
  have lW1 := rW1.lt
  have lO1 := rO1.lt
  clear hKc rV hKw rPm
  go_wp2_with fail
  refine (zznew_any wp.heap.size k k m cm1 (some ⟨wp.heap.size, 0, none⟩) an1 A.reverse wc (by rw [List.length_reverse]; exact hA) hn13 hm6 (fun h => rfl) (h64_rev h64) (fun p hp => how p (List.mem_reverse.1 hp)) rVd (fun h => by omega)).mono ?_
  rintro e wf ⟨W2, O2, hW2, hO2, hWO2, rfl, hKf, rW2, rO2⟩
  rw [rev_distinct, rev_pos A h64] at *
  have rW1g := hKf.row rW1 (by simp; omega)
  have rO1g := hKf.row rO1 (by simp; omega)
  have hKwi : Kept [] w3 wf := hKwc.then hKf (fun i hi hy => by simp at hy; omega)
  clear rW1 rO1 rVd hKwc hKf
  have hl1 : ((radix A).map pos).length = k := by rw [List.length_map, radix_len, hA]
  have hlo1 : ((radix A).map own).length = k := by rw [List.length_map, radix_len, hA]
  have hlo2 : ((radix A.reverse).map own).length = k := by rw [List.length_map, radix_len, List.length_reverse, hA]
  have hsort := sorted_pos A h64
  have hruns := rev_runs A h64
  rw [hA] at hruns
  generalize distinctN (A.map own) m = d at *
  generalize (radix A).map pos = q at *
  generalize (radix A).map own = o1 at *
  generalize (radix A.reverse).map own = o2 at *
  clear how h64
  have HRS := (show Hid _ from hruns)
  clear hruns
  go_wp2_with fail
  have HSQ := (show Hid _ from fun i j hij hj => sorted_le q hsort i j hij hj)
  clear hsort
  go_loopw [20] (fun i wr => ∃ j : Nat, j ≤ k ∧ i = .int .i64 j ∧ Kept [] wf wr) (fun i _ => k - (intOf i).toNat)
  case atStart => exact ⟨0, Nat.zero_le _, rfl, Kept.refl _ _⟩
  case round =>
  obtain ⟨j, hj, rfl, hKj⟩ := hrel
  by_cases hjl : j < k
  · have g1 := (hKj.row rW1g (by simp)).int j (by omega)
    have g2 := (hKj.row rW2 (by simp)).int j (by omega)
    generalize q.getD j 0 = v at *
    have ha : (0 : Int) ≤ (j : Int) := by omega
    have hb : (j : Int) < (k : Int) := by omega
    go_wp2_with fail
    go_quiet (fail)
    go_wp2_with fail
    go_roundw
    case rel => exact ⟨j + 1, by omega, by go_num, hKj.drewN _⟩
    case measure => simp [intOf]; omega
  have hjk : k = j := by omega
  subst hjk
  clear hjl hj
  go_wp2_with fail
  have hKw2 := hKwi.trans hKj
  have rD1j := hKj.row rW1g (by simp)
  have rO1j := hKj.row rO1g (by simp)
  have rO2j := hKj.row rO2 (by simp)
  clear hKj hKwi rW1g rO1g rO2 rW2
  obtain ⟨wo, hwo⟩ : ∃ wo : World, wo = wr := ⟨_, rfl⟩
  rw [← hwo] at hKw2 rD1j rO1j rO2j
  rw [← hwo]
  clear hwo
  go_loopw [21] (fun i wr => ∃ a : Nat, a ≤ k ∧ i = .int .i64 a ∧ Kept [] wo wr ∧ ∀ i j, i < a → a ≤ j → j < k → q.getD i 0 < q.getD j 0) (fun i _ => k - (intOf i).toNat)
  case atStart => exact ⟨0, Nat.zero_le _, rfl, Kept.refl _ _, fun i j h => by omega⟩
  case round =>
  obtain ⟨a, ha, rfl, hKa, hbnd⟩ := hrel
  have HBN := (show Hid _ from hbnd)
  clear hbnd
  by_cases hal : a < k
  · obtain ⟨wz, hwz⟩ : ∃ wz : World, wz = wr := ⟨_, rfl⟩
    rw [← hwz] at hKa
    rw [← hwz]
    clear hwz
    go_wp2_with fail
    go_loopw [22] (fun i wr => ∃ b : Nat, a < b ∧ b ≤ k ∧ i = .int .i64 b ∧ Kept [] wo wr ∧ ∀ i, a ≤ i → i < b → q.getD i 0 = q.getD a 0) (fun i _ => k - (intOf i).toNat)
    case atStart => exact ⟨a + 1, by omega, by omega, by go_num, hKa, fun i h1 h2 => by rw [show i = a by omega]⟩
    case round =>
    obtain ⟨b, hab, hbk, rfl, hKb, heq⟩ := hrel
    have HEQ := (show Hid _ from heq)
    clear heq
    have ga := (hKb.row rD1j (by simp)).int a (by omega)
    have hb0 : (0 : Int) ≤ (b : Int) := by omega
    have ha0 : (0 : Int) ≤ (a : Int) := by omega
    have hak : (a : Int) < (k : Int) := by omega
    by_cases hbl : b < k
    · have gb := (hKb.row rD1j (by simp)).int b (by omega)
      have hbk2 : (b : Int) < (k : Int) := by omega
      by_cases hev : q.getD b 0 = q.getD a 0
      · have HE2 : Hid (∀ i, a ≤ i → i < b + 1 → q.getD i 0 = q.getD a 0) := fun i h1 h2 => by
          by_cases e : i = b
          · subst e; exact hev
          · exact HEQ.out i h1 (by omega)
        rw [hev] at gb
        clear hev
        generalize q.getD a 0 = v at *
        go_wp2_with fail
        go_quiet (fail)
        go_wp2_with fail
        go_roundw
        case rel => exact ⟨b + 1, by omega, by omega, by go_num, hKb.drewN _, HE2.out⟩
        case measure => simp [intOf]; omega
      · have HND : Hid (∀ i, b ≤ i → i < k → q.getD i 0 ≠ q.getD a 0) := fun i h1 h2 => by
          have e1 := HSQ.out a b (by omega) (by omega)
          have e2 := HSQ.out b i h1 (by omega)
          omega
        have HN2 : Hid (∀ i j, i < b → b ≤ j → j < k → q.getD i 0 < q.getD j 0) := fun i j h1 h2 h3 => by
          by_cases hia : i < a
          · exact HBN.out i j hia (by omega) h3
          · have e1 := HEQ.out i (by omega) h1
            have e2 := HND.out j h2 h3
            have e3 := HSQ.out a j (by omega) (by omega)
            omega
        have HRJ : Hid (∀ j, j < b - a → o2.getD (a + j) 0 = o1.getD (b - 1 - j) 0) := fun j hj => by
          refine HRS.out a b hab hbk (fun i hi => ?_) (fun i h1 h2 => HEQ.out i h1 h2) HND.out j hj
          have := HBN.out i a hi (Nat.le_refl _) hal
          omega
        have hne : (((q.getD b 0 : Nat) : Int) == ((q.getD a 0 : Nat) : Int)) = false := beq_eq_false_iff_ne.2 (by omega)
        generalize q.getD a 0 = v at ga hne
        generalize q.getD b 0 = u at gb hne
        go_wp2_with fail
        go_quiet (fail)
        go_wp2_with fail
        have hKc := hKb.drewN nq
        generalize wr.drewN nq = wy at *
        clear hKb ga gb hne hev hbk2
        go_loopw [23] (fun i wr => ∃ j : Nat, a ≤ j ∧ j ≤ b ∧ i = .int .i64 j ∧ Kept [] wo wr) (fun i _ => b - (intOf i).toNat)
        case atStart => exact ⟨a, Nat.le_refl _, by omega, rfl, hKc⟩
        case round =>
        clear hKc
        obtain ⟨j, HAJ, hj, rfl, hKj⟩ := hrel
        by_cases hjl : j < b
        · have g2 := (hKj.row rO2j (by simp)).int j (by omega)
          have g1 := (hKj.row rO1j (by simp)).int (a + b - 1 - j) (by omega)
          have hrj : o2.getD j 0 = o1.getD (a + b - 1 - j) 0 := by
            have := HRJ.out (j - a) (by omega)
            rw [show a + (j - a) = j by omega, show b - 1 - (j - a) = a + b - 1 - j by omega] at this
            exact this
          rw [hrj] at g2
          clear hrj
          generalize o1.getD (a + b - 1 - j) 0 = v at *
          have n1 : (0 : Int) ≤ (j : Int) := by omega
          have n2 : (j : Int) < (k : Int) := by omega
          have n3 : (0 : Int) ≤ (a : Int) + (b : Int) - 1 - (j : Int) := by omega
          have n4 : (a : Int) + (b : Int) - 1 - (j : Int) < (k : Int) := by omega
          have n5 : IntKind.i64.wrap ((a : Int) + (b : Int)) = (a : Int) + (b : Int) := by rw [IntKind.wrap_i64]; omega
          have n6 : IntKind.i64.wrap ((a : Int) + (b : Int) - 1) = (a : Int) + (b : Int) - 1 := by rw [IntKind.wrap_i64]; omega
          have n7 : IntKind.i64.wrap ((a : Int) + (b : Int) - 1 - (j : Int)) = (a : Int) + (b : Int) - 1 - (j : Int) := by rw [IntKind.wrap_i64]; omega
          have n9 : ((a : Int) + (b : Int) - 1 - (j : Int)).toNat = a + b - 1 - j := by omega
          go_wp2_with fail
          go_quiet (fail)
          go_wp2_with fail
          go_roundw
          case rel => exact ⟨j + 1, by omega, by omega, by go_num, hKj.drewN _⟩
          case measure => simp [intOf]; omega
        · go_wp2_with fail
          go_roundw
          case rel => exact ⟨b, hbk, rfl, hKj, HN2.out⟩
          case measure => simp [intOf]; omega
    · have HND : Hid (∀ i, b ≤ i → i < k → q.getD i 0 ≠ q.getD a 0) := fun i h1 h2 => by omega
      have HN2 : Hid (∀ i j, i < b → b ≤ j → j < k → q.getD i 0 < q.getD j 0) := fun i j h1 h2 h3 => by
        by_cases hia : i < a
        · exact HBN.out i j hia (by omega) h3
        · have e1 := HEQ.out i (by omega) h1
          have e2 := HND.out j h2 h3
          have e3 := HSQ.out a j (by omega) (by omega)
          omega
      have HRJ : Hid (∀ j, j < b - a → o2.getD (a + j) 0 = o1.getD (b - 1 - j) 0) := fun j hj => by
        refine HRS.out a b hab hbk (fun i hi => ?_) (fun i h1 h2 => HEQ.out i h1 h2) HND.out j hj
        have := HBN.out i a hi (Nat.le_refl _) hal
        omega
      have hdb : decide ((b : Int) < (k : Int)) = false := decide_eq_false (by omega)
      go_wp2_with fail
      go_quiet (fail)
      go_wp2_with fail
      have hKc := hKb.drewN nq
      generalize wr.drewN nq = wy at *
      clear hKb ga hdb
      go_loopw [23] (fun i wr => ∃ j : Nat, a ≤ j ∧ j ≤ b ∧ i = .int .i64 j ∧ Kept [] wo wr) (fun i _ => b - (intOf i).toNat)
      case atStart => exact ⟨a, Nat.le_refl _, by omega, rfl, hKc⟩
      case round =>
      clear hKc
      obtain ⟨j, HAJ, hj, rfl, hKj⟩ := hrel
      by_cases hjl : j < b
      · have g2 := (hKj.row rO2j (by simp)).int j (by omega)
        have g1 := (hKj.row rO1j (by simp)).int (a + b - 1 - j) (by omega)
        have hrj : o2.getD j 0 = o1.getD (a + b - 1 - j) 0 := by
          have := HRJ.out (j - a) (by omega)
          rw [show a + (j - a) = j by omega, show b - 1 - (j - a) = a + b - 1 - j by omega] at this
          exact this
        rw [hrj] at g2
        clear hrj
        generalize o1.getD (a + b - 1 - j) 0 = v at *
        have n1 : (0 : Int) ≤ (j : Int) := by omega
        have n2 : (j : Int) < (k : Int) := by omega
        have n3 : (0 : Int) ≤ (a : Int) + (b : Int) - 1 - (j : Int) := by omega
        have n4 : (a : Int) + (b : Int) - 1 - (j : Int) < (k : Int) := by omega
        have n5 : IntKind.i64.wrap ((a : Int) + (b : Int)) = (a : Int) + (b : Int) := by rw [IntKind.wrap_i64]; omega
        have n6 : IntKind.i64.wrap ((a : Int) + (b : Int) - 1) = (a : Int) + (b : Int) - 1 := by rw [IntKind.wrap_i64]; omega
        have n7 : IntKind.i64.wrap ((a : Int) + (b : Int) - 1 - (j : Int)) = (a : Int) + (b : Int) - 1 - (j : Int) := by rw [IntKind.wrap_i64]; omega
        have n9 : ((a : Int) + (b : Int) - 1 - (j : Int)).toNat = a + b - 1 - j := by omega
        go_wp2_with fail
        go_quiet (fail)
        go_wp2_with fail
        go_roundw
        case rel => exact ⟨j + 1, by omega, by omega, by go_num, hKj.drewN _⟩
        case measure => simp [intOf]; omega
      · go_wp2_with fail
        go_roundw
        case rel => exact ⟨b, hbk, rfl, hKj, HN2.out⟩
        case measure => simp [intOf]; omega
  · have hak : a = k := by omega
    subst hak
    go_wp2_with fail
    go_ret
    exact Yes.kept (hKw2.trans hKa)

end Go.Proofs.Qxb6000070aMods
