/-
  FnCircleReversedListingReversesTies: the walk of the law.
-/
import Derived.Test.Qxb6000051aModsZz
import Derived.Test.Qxb6000051aModsReverse
import Derived.Deep.QuietTactic
import Derived.BigQuiet
namespace Go.Proofs.Qxb6000051aMods
open Go.RowKit

/-- The law's end: true, and nothing that was there has turned. -/
def Yes (w : World) (e : Ending) (w' : World) : Prop := e = .returned (.bool true) ∧ Below w.heap.size w w'
theorem Yes.same (w : World) : Yes w (.returned (.bool true)) w := ⟨rfl, Below.refl _ _⟩
theorem Yes.kept {w w' : World} (h : Kept [] w w') : Yes w (.returned (.bool true)) w' := ⟨rfl, h.below (Nat.le_refl _) (by simp)⟩

theorem strs_of {w : World} {a : Option Addr} {b m : Nat} {ss : List ByteArray} (hs : ss.length = m) (h : 0 < m → a = some ⟨b, 0, none⟩ ∧ Row w b 9 (strs ss)) : Strs w a m ss := by
  intro hm
  obtain ⟨ha, hr⟩ := h hm
  refine ⟨b, 0, ha, fun i hi => ?_⟩
  rw [Nat.zero_add, hr.cell, strs_get ss i (by omega)]

set_option maxHeartbeats 4000000 in
set_option maxRecDepth 100000 in
theorem rev_walk (m cm n cp : Nat) (an ap : Option Addr) (ss : List ByteArray) (A : List Nat) (w : World)
    (han : Strs w an m ss) (hanil : an = none → m = 0 ∧ cm = 0) (hss : ss.length = m)
    (hap : Nums .u64 w ap n A) (hapnil : ap = none → n = 0 ∧ cp = 0) (hA : A.length = n) (h64 : ∀ p ∈ A, p < 18446744073709551616) :
    Calls Trym.prog 4 #[.slice an m cm, .slice ap n cp] w fun e w' => Yes w e w' := by
  go_enter Trym.func4, Trym.ntmps4
  go_wp2_with fail
  refine (zzBytes16 m cm n cp an ap ss w han).mono ?_
  rintro e w1 ⟨rfl, b, rfl, hb⟩
  cases b with
  | false =>
    go_wp2_with fail
    go_ret
    exact Yes.same _
  | true =>
  obtain ⟨hm1, hn1, hs1⟩ := hb rfl
  clear hb
  go_wp2_with fail
  refine (bytesOK_any m cm n cp an ap ss w1 han hm1 hn1 hs1).mono ?_
  rintro e w2 ⟨rfl, b, rfl, hb⟩
  cases b with
  | false =>
    go_wp2_with fail
    go_ret
    exact Yes.same _
  | true =>
  have hT := hb rfl
  unfold BytesOK at hT
  clear hb
  go_wp2_with fail
  refine (ownersFit_any m cm n cp an ap A w2 hap hA hm1 hn1 h64).mono ?_
  rintro e w3 ⟨rfl, b, rfl, hb⟩
  cases b with
  | false =>
    go_wp2_with fail
    go_ret
    exact Yes.same _
  | true =>
  obtain ⟨hm6, how⟩ := hb rfl
  have hn13 : n < 131074 := by omega
  clear hb
  go_wp2_with fail
  refine (clone9 m cm an ss w3 han hanil hss hm1).mono ?_
  rintro e wn ⟨an1, cm1, rfl, hKn, hnil1, hrn⟩
  go_wp2_with fail
  have hap2 : Nums .u64 wn ap n A := fun h => by
    obtain ⟨b, off, e, hc⟩ := hap h
    exact ⟨b, off, e, fun i hi => hKn.cell (hc i hi) (by simp)⟩
  refine (clone10 n cp ap A wn hap2 hapnil hA hn1).mono ?_
  rintro e wp ⟨ap1, cp1, rfl, hKp, hnil2, hrp⟩
  have hKwp := hKn.trans hKp
  have hmk := fun w => run_make1 (P := Trym.prog) w 23 36 (.int .u64 0) 8 Trym.underlying23 Trym.infoU64 rfl n (by omega) (by omega)
  go_wp2_with fail
  have hvl : (ints .u64 A.reverse).length = n := by simp [ints, hA]
  have r0 : Row (wp.alloc (.cells (Array.replicate n (.int .u64 0)) 36)) wp.heap.size 36 (upTo (ints .u64 A.reverse) (.int .u64 0) 0) := by
    rw [upTo_zero, hvl]; exact Row.newRep _ _ _ _ _ rfl
  have k0 := (Kept.refl [] wp).alloc (.cells (Array.replicate n (.int .u64 0)) 36)
  generalize wp.alloc (.cells (Array.replicate n (.int .u64 0)) 36) = wq at *
  clear hmk
  go_loopw [7] (fun i wr => ∃ k : Nat, k ≤ n ∧ i = .int .i64 k ∧ Kept [] wp wr ∧ Row wr wp.heap.size 36 (upTo (ints .u64 A.reverse) (.int .u64 0) k)) (fun i _ => n - (intOf i).toNat)
  case atStart => exact ⟨0, Nat.zero_le _, rfl, k0, r0⟩
  case round =>
  obtain ⟨k, hk, rfl, hK, hR⟩ := hrel
  clear k0 r0
  by_cases hlt : k < n
  · obtain ⟨hx, hrow⟩ := hrp (by omega)
    have h1 := (hK.row hrow (by simp)).int (n - 1 - k) (by omega)
    have h2 := hR.cell k
    rw [upTo_get _ _ _ (by omega)] at h2
    have h3 := hR.free k
    have hv := ints_get .u64 A.reverse k (by simp; omega)
    have ev : A.reverse.getD k 0 = A.getD (n - 1 - k) 0 := by
      rw [List.getD, List.getD, List.getElem?_reverse (by omega), hA]
    rw [ev] at hv
    have HR := (show Hid (Row wr wp.heap.size 36 (upTo (ints .u64 A.reverse) (.int .u64 0) k)) from hR)
    have HV := (show Hid _ from hv)
    have HVL := (show Hid _ from hvl)
    clear hv hR hvl ev hrow hrp
    generalize A.getD (n - 1 - k) 0 = v at *
    subst hx
    go_wp2_with fail
    go_roundw
    case rel => exact ⟨k + 1, by omega, by go_num, hK.setCell (.inl (Nat.le_refl _)) _, HR.out.upToNext (by have := HVL.out; omega) HV.out⟩
    case measure => simp [intOf]; omega
  have hkn : k = n := by omega
  subst hkn
  have rV : Row wr wp.heap.size 36 (ints .u64 A.reverse) := by
    have := hR
    rw [← hvl, upTo_all] at this
    exact this
  clear hR hvl hlt hk hap hap2 han hT hs1
  have hKw := hKwp.trans hK
  go_wp2_with fail
  have hKn2 := hKp.trans hK
  refine (clone9 m cm1 an1 ss wr (strs_of hss (fun h => ⟨(hrn h).1, hKn2.row (hrn h).2 (by simp)⟩)) hnil1 hss hm1).mono ?_
  rintro e wm ⟨an2, cm2, rfl, hKm, _, _⟩
  have rVm := hKm.row rV (by simp)
  have hKwm := hKw.trans hKm
  have rPm : 0 < k → ap1 = some ⟨wn.heap.size, 0, none⟩ ∧ Row wm wn.heap.size 36 (ints .u64 A) := fun h => ⟨(hrp h).1, (hK.trans hKm).row (hrp h).2 (by simp)⟩
  have sn := hKn.size
  have sp := hKp.size
  have nVP : 0 < k → wn.heap.size < wp.heap.size := fun h => (hrp h).2.lt
  clear hKm hKw rV hKn2 hrn hrp hK hKwp hKp hKn hnil1 hnil2
  go_wp2_with fail
  refine (zznew_any wn.heap.size k cp1 m cm1 ap1 an1 A wm hA hn13 hm6 (fun h => (rPm h).1) h64 how (fun h => (rPm h).2) (fun h => (rPm h).2.lt)).mono ?_
  rintro e wc ⟨W1, O1, hW1, hO1, hWO1, rfl, hKc, rW1, rO1⟩
  go_wp2_with fail
  have lV := rVm.lt
  have sc := hKc.size
  have rC1 := Row.newAt wc 31 [.slice (some ⟨W1, 0, none⟩) k k, .slice none 0 0, .slice none 0 0, .slice (some ⟨O1, 0, none⟩) k k, .slice an1 m cm1, .int .i64 ((distinctN (A.map own) m : Nat) : Int)] _ rfl
  have rW1d := rW1.alloc (.cells [.slice (some ⟨W1, 0, none⟩) k k, .slice none 0 0, .slice none 0 0, .slice (some ⟨O1, 0, none⟩) k k, .slice an1 m cm1, .int .i64 ((distinctN (A.map own) m : Nat) : Int)].toArray 31)
  have rO1d := rO1.alloc (.cells [.slice (some ⟨W1, 0, none⟩) k k, .slice none 0 0, .slice none 0 0, .slice (some ⟨O1, 0, none⟩) k k, .slice an1 m cm1, .int .i64 ((distinctN (A.map own) m : Nat) : Int)].toArray 31)
  have rVd : 0 < k → Row (wc.alloc (.cells [.slice (some ⟨W1, 0, none⟩) k k, .slice none 0 0, .slice none 0 0, .slice (some ⟨O1, 0, none⟩) k k, .slice an1 m cm1, .int .i64 ((distinctN (A.map own) m : Nat) : Int)].toArray 31)) wp.heap.size 36 (ints .u64 A.reverse) := fun h =>
    (hKc.row rVm (by have := nVP h; simp; omega)).alloc _
  have hKwd : Kept [] w3 (wc.alloc (.cells [.slice (some ⟨W1, 0, none⟩) k k, .slice none 0 0, .slice none 0 0, .slice (some ⟨O1, 0, none⟩) k k, .slice an1 m cm1, .int .i64 ((distinctN (A.map own) m : Nat) : Int)].toArray 31)) :=
    (hKwm.then hKc (fun i hi hy => by simp at hy; omega)).alloc _
  have sd : (wc.alloc (.cells [.slice (some ⟨W1, 0, none⟩) k k, .slice none 0 0, .slice none 0 0, .slice (some ⟨O1, 0, none⟩) k k, .slice an1 m cm1, .int .i64 ((distinctN (A.map own) m : Nat) : Int)].toArray 31)).heap.size = wc.heap.size + 1 := by simp
  have lW1 := rW1.lt
  have lO1 := rO1.lt
  clear rW1 rO1 hKc rVm hKwm rPm
  generalize wc.alloc (.cells [.slice (some ⟨W1, 0, none⟩) k k, .slice none 0 0, .slice none 0 0, .slice (some ⟨O1, 0, none⟩) k k, .slice an1 m cm1, .int .i64 ((distinctN (A.map own) m : Nat) : Int)].toArray 31) = wd at *
  refine (zznew_any wp.heap.size k k m cm2 (some ⟨wp.heap.size, 0, none⟩) an2 A.reverse wd (by rw [List.length_reverse]; exact hA) hn13 hm6 (fun h => rfl) (h64_rev h64) (fun p hp => how p (List.mem_reverse.1 hp)) rVd (fun h => by omega)).mono ?_
  rintro e wf ⟨W2, O2, hW2, hO2, hWO2, rfl, hKf, rW2, rO2⟩
  rw [rev_distinct, rev_pos A h64] at *
  go_wp2_with fail
  have sf := hKf.size
  have rC2 := Row.newAt wf 31 [.slice (some ⟨W2, 0, none⟩) k k, .slice none 0 0, .slice none 0 0, .slice (some ⟨O2, 0, none⟩) k k, .slice an2 m cm2, .int .i64 ((distinctN (A.map own) m : Nat) : Int)] _ rfl
  have rC1g := (hKf.row rC1 (by simp; omega)).alloc (.cells [.slice (some ⟨W2, 0, none⟩) k k, .slice none 0 0, .slice none 0 0, .slice (some ⟨O2, 0, none⟩) k k, .slice an2 m cm2, .int .i64 ((distinctN (A.map own) m : Nat) : Int)].toArray 31)
  have rW1g := (hKf.row rW1d (by simp; omega)).alloc (.cells [.slice (some ⟨W2, 0, none⟩) k k, .slice none 0 0, .slice none 0 0, .slice (some ⟨O2, 0, none⟩) k k, .slice an2 m cm2, .int .i64 ((distinctN (A.map own) m : Nat) : Int)].toArray 31)
  have rO1g := (hKf.row rO1d (by simp; omega)).alloc (.cells [.slice (some ⟨W2, 0, none⟩) k k, .slice none 0 0, .slice none 0 0, .slice (some ⟨O2, 0, none⟩) k k, .slice an2 m cm2, .int .i64 ((distinctN (A.map own) m : Nat) : Int)].toArray 31)
  have rW2g := rW2.alloc (.cells [.slice (some ⟨W2, 0, none⟩) k k, .slice none 0 0, .slice none 0 0, .slice (some ⟨O2, 0, none⟩) k k, .slice an2 m cm2, .int .i64 ((distinctN (A.map own) m : Nat) : Int)].toArray 31)
  have rO2g := rO2.alloc (.cells [.slice (some ⟨W2, 0, none⟩) k k, .slice none 0 0, .slice none 0 0, .slice (some ⟨O2, 0, none⟩) k k, .slice an2 m cm2, .int .i64 ((distinctN (A.map own) m : Nat) : Int)].toArray 31)
  have hKwg : Kept [] w3 (wf.alloc (.cells [.slice (some ⟨W2, 0, none⟩) k k, .slice none 0 0, .slice none 0 0, .slice (some ⟨O2, 0, none⟩) k k, .slice an2 m cm2, .int .i64 ((distinctN (A.map own) m : Nat) : Int)].toArray 31)) := (hKwd.then hKf (fun i hi hy => by simp at hy; omega)).alloc _
  clear rW1d rO1d rC1 rVd hKwd rW2 rO2 hKf
  have hl1 : ((radix A).map pos).length = k := by rw [List.length_map, radix_len, hA]
  have hlo1 : ((radix A).map own).length = k := by rw [List.length_map, radix_len, hA]
  have hlo2 : ((radix A.reverse).map own).length = k := by rw [List.length_map, radix_len, List.length_reverse, hA]
  have hsort := sorted_pos A h64
  have hruns := rev_runs A h64
  rw [hA] at hruns
  generalize wf.alloc (.cells [.slice (some ⟨W2, 0, none⟩) k k, .slice none 0 0, .slice none 0 0, .slice (some ⟨O2, 0, none⟩) k k, .slice an2 m cm2, .int .i64 ((distinctN (A.map own) m : Nat) : Int)].toArray 31) = wg at *
  generalize distinctN (A.map own) m = d at *
  generalize (radix A).map pos = q at *
  generalize (radix A).map own = o1 at *
  generalize (radix A.reverse).map own = o2 at *
  generalize wc.heap.size = C1 at *
  generalize wf.heap.size = C2 at *
  clear how h64
  obtain ⟨⟨x0, x1, x2, x3, x4, x5⟩, -⟩ := rC1g.six
  obtain ⟨⟨y0, y1, y2, y3, y4, y5⟩, -⟩ := rC2.six
  have HRS := (show Hid _ from hruns)
  clear hruns
  refine (zzsize_any C1 _ _ _ wg x3).mono ?_
  rintro e w' ⟨rfl, rfl⟩
  go_wp2_with fail
  refine (zzsize_any C2 _ _ _ w' y3).mono ?_
  rintro e w' ⟨rfl, rfl⟩
  go_wp2_with fail
  refine (zzplaced_any C1 _ w' x5).mono ?_
  rintro e w' ⟨rfl, rfl⟩
  go_wp2_with fail
  refine (zzplaced_any C2 _ w' y5).mono ?_
  rintro e w' ⟨rfl, rfl⟩
  go_wp2_with fail
  refine (zzwide_any C1 _ _ _ w' x0).mono ?_
  rintro e w' ⟨rfl, rfl⟩
  go_wp2_with fail
  refine (zznarrow_any C1 _ _ _ w' x1).mono ?_
  rintro e w' ⟨rfl, rfl⟩
  go_wp2_with fail
  refine (zzstarts_any C1 _ _ _ w' x2).mono ?_
  rintro e w' ⟨rfl, rfl⟩
  go_wp2_with fail
  refine (decode_any W1 k q w' hl1 hn1 rW1g).mono ?_
  rintro e wh ⟨rfl, hKh, sh, rD1⟩
  have rC2h := hKh.row rC2 (by simp)
  have rC1h := hKh.row rC1g (by simp)
  have rW2h := hKh.row rW2g (by simp)
  have rO1h := hKh.row rO1g (by simp)
  have rO2h := hKh.row rO2g (by simp)
  have hKwh := hKwg.trans hKh
  clear x0 x1 x2 x3 x4 x5 y0 y1 y2 y3 y4 y5 rC2 rC1g rW1g rW2g rO1g rO2g hKwg hKh
  generalize w'.heap.size = D1 at *
  obtain ⟨⟨x0, x1, x2, x3, x4, x5⟩, -⟩ := rC1h.six
  obtain ⟨⟨y0, y1, y2, y3, y4, y5⟩, -⟩ := rC2h.six
  go_wp2_with fail
  refine (zzwide_any C2 _ _ _ wh y0).mono ?_
  rintro e w' ⟨rfl, rfl⟩
  go_wp2_with fail
  refine (zznarrow_any C2 _ _ _ w' y1).mono ?_
  rintro e w' ⟨rfl, rfl⟩
  go_wp2_with fail
  refine (zzstarts_any C2 _ _ _ w' y2).mono ?_
  rintro e w' ⟨rfl, rfl⟩
  go_wp2_with fail
  refine (decode_any W2 k q w' hl1 hn1 rW2h).mono ?_
  rintro e wi ⟨rfl, hKi, si, rD2⟩
  have rC2i := hKi.row rC2h (by simp)
  have rC1i := hKi.row rC1h (by simp)
  have rO1i := hKi.row rO1h (by simp)
  have rO2i := hKi.row rO2h (by simp)
  have rD1i := hKi.row rD1 (by simp)
  have hKwi := hKwh.trans hKi
  clear x0 x1 x2 x3 x4 x5 y0 y1 y2 y3 y4 y5 rC2h rC1h rW2h rO1h rO2h rD1 hKwh hKi
  generalize w'.heap.size = D2 at *
  obtain ⟨⟨x0, x1, x2, x3, x4, x5⟩, -⟩ := rC1i.six
  obtain ⟨⟨y0, y1, y2, y3, y4, y5⟩, -⟩ := rC2i.six
  go_wp2_with fail
  refine (zzowners_any C1 _ _ _ wi x3).mono ?_
  rintro e w' ⟨rfl, rfl⟩
  go_wp2_with fail
  refine (zzowners_any C2 _ _ _ w' y3).mono ?_
  rintro e w' ⟨rfl, rfl⟩
  go_wp2_with fail
  clear x0 x1 x2 x3 x4 x5 y0 y1 y2 y3 y4 y5 rC1i rC2i
  have HSQ := (show Hid _ from fun i j hij hj => sorted_le q hsort i j hij hj)
  clear hsort
  go_loopw [17] (fun i wr => ∃ j : Nat, j ≤ k ∧ i = .int .i64 j ∧ Kept [] w' wr) (fun i _ => k - (intOf i).toNat)
  case atStart => exact ⟨0, Nat.zero_le _, rfl, Kept.refl _ _⟩
  case round =>
  obtain ⟨j, hj, rfl, hKj⟩ := hrel
  by_cases hjl : j < k
  · have g1 := (hKj.row rD1i (by simp)).int j (by omega)
    have g2 := (hKj.row rD2 (by simp)).int j (by omega)
    generalize q.getD j 0 = v at *
    have ha : (0 : Int) ≤ (j : Int) := by omega
    have hb : (j : Int) < (k : Int) := by omega
    go_wp2_with fail
    go_quiet (fail)
    go_wp2_with fail
    go_roundw
    case rel => exact ⟨j + 1, by omega, by go_num, hKj.drewN _⟩
    case measure => simp [intOf]; omega
  have hjk : k = j := by omega
  subst hjk
  clear hjl hj
  go_wp2_with fail
  have hKw2 := hKwi.trans hKj
  have rD1j := hKj.row rD1i (by simp)
  have rO1j := hKj.row rO1i (by simp)
  have rO2j := hKj.row rO2i (by simp)
  clear hKj hKwi rD1i rO1i rO2i rD2
  obtain ⟨wo, hwo⟩ : ∃ wo : World, wo = wr := ⟨_, rfl⟩
  rw [← hwo] at hKw2 rD1j rO1j rO2j
  rw [← hwo]
  clear hwo
  go_loopw [18] (fun i wr => ∃ a : Nat, a ≤ k ∧ i = .int .i64 a ∧ Kept [] wo wr ∧ ∀ i j, i < a → a ≤ j → j < k → q.getD i 0 < q.getD j 0) (fun i _ => k - (intOf i).toNat)
  case atStart => exact ⟨0, Nat.zero_le _, rfl, Kept.refl _ _, fun i j h => by omega⟩
  case round =>
  obtain ⟨a, ha, rfl, hKa, hbnd⟩ := hrel
  have HBN := (show Hid _ from hbnd)
  clear hbnd
  by_cases hal : a < k
  · obtain ⟨wz, hwz⟩ : ∃ wz : World, wz = wr := ⟨_, rfl⟩
    rw [← hwz] at hKa
    rw [← hwz]
    clear hwz
    go_wp2_with fail
    go_loopw [19] (fun i wr => ∃ b : Nat, a < b ∧ b ≤ k ∧ i = .int .i64 b ∧ Kept [] wo wr ∧ ∀ i, a ≤ i → i < b → q.getD i 0 = q.getD a 0) (fun i _ => k - (intOf i).toNat)
    case atStart => exact ⟨a + 1, by omega, by omega, by go_num, hKa, fun i h1 h2 => by rw [show i = a by omega]⟩
    case round =>
    obtain ⟨b, hab, hbk, rfl, hKb, heq⟩ := hrel
    have HEQ := (show Hid _ from heq)
    clear heq
    have ga := (hKb.row rD1j (by simp)).int a (by omega)
    have hb0 : (0 : Int) ≤ (b : Int) := by omega
    have ha0 : (0 : Int) ≤ (a : Int) := by omega
    have hak : (a : Int) < (k : Int) := by omega
    by_cases hbl : b < k
    · have gb := (hKb.row rD1j (by simp)).int b (by omega)
      have hbk2 : (b : Int) < (k : Int) := by omega
      by_cases hev : q.getD b 0 = q.getD a 0
      · have HE2 : Hid (∀ i, a ≤ i → i < b + 1 → q.getD i 0 = q.getD a 0) := fun i h1 h2 => by
          by_cases e : i = b
          · subst e; exact hev
          · exact HEQ.out i h1 (by omega)
        rw [hev] at gb
        clear hev
        generalize q.getD a 0 = v at *
        go_wp2_with fail
        go_quiet (fail)
        go_wp2_with fail
        go_roundw
        case rel => exact ⟨b + 1, by omega, by omega, by go_num, hKb.drewN _, HE2.out⟩
        case measure => simp [intOf]; omega
      · have HND : Hid (∀ i, b ≤ i → i < k → q.getD i 0 ≠ q.getD a 0) := fun i h1 h2 => by
          have e1 := HSQ.out a b (by omega) (by omega)
          have e2 := HSQ.out b i h1 (by omega)
          omega
        have HN2 : Hid (∀ i j, i < b → b ≤ j → j < k → q.getD i 0 < q.getD j 0) := fun i j h1 h2 h3 => by
          by_cases hia : i < a
          · exact HBN.out i j hia (by omega) h3
          · have e1 := HEQ.out i (by omega) h1
            have e2 := HND.out j h2 h3
            have e3 := HSQ.out a j (by omega) (by omega)
            omega
        have HRJ : Hid (∀ j, j < b - a → o2.getD (a + j) 0 = o1.getD (b - 1 - j) 0) := fun j hj => by
          refine HRS.out a b hab hbk (fun i hi => ?_) (fun i h1 h2 => HEQ.out i h1 h2) HND.out j hj
          have := HBN.out i a hi (Nat.le_refl _) hal
          omega
        have hne : (((q.getD b 0 : Nat) : Int) == ((q.getD a 0 : Nat) : Int)) = false := beq_eq_false_iff_ne.2 (by omega)
        generalize q.getD a 0 = v at ga hne
        generalize q.getD b 0 = u at gb hne
        go_wp2_with fail
        go_quiet (fail)
        go_wp2_with fail
        have hKc := hKb.drewN nq
        generalize wr.drewN nq = wy at *
        clear hKb ga gb hne hev hbk2
        go_loopw [20] (fun i wr => ∃ j : Nat, j ≤ b - a ∧ i = .int .i64 j ∧ Kept [] wo wr) (fun i _ => (b - a) - (intOf i).toNat)
        case atStart => exact ⟨0, Nat.zero_le _, rfl, hKc⟩
        case round =>
        clear hKc
        obtain ⟨j, hj, rfl, hKj⟩ := hrel
        by_cases hjl : j < b - a
        · have g2 := (hKj.row rO2j (by simp)).int (a + j) (by omega)
          have g1 := (hKj.row rO1j (by simp)).int (b - 1 - j) (by omega)
          rw [HRJ.out j hjl] at g2
          generalize o1.getD (b - 1 - j) 0 = v at *
          have n1 : (0 : Int) ≤ (a : Int) + (j : Int) := by omega
          have n2 : (a : Int) + (j : Int) < (k : Int) := by omega
          have n3 : (0 : Int) ≤ (b : Int) - 1 - (j : Int) := by omega
          have n4 : (b : Int) - 1 - (j : Int) < (k : Int) := by omega
          have n5 : IntKind.i64.wrap ((a : Int) + (j : Int)) = (a : Int) + (j : Int) := by rw [IntKind.wrap_i64]; omega
          have n6 : IntKind.i64.wrap ((b : Int) - 1) = (b : Int) - 1 := by rw [IntKind.wrap_i64]; omega
          have n7 : IntKind.i64.wrap ((b : Int) - 1 - (j : Int)) = (b : Int) - 1 - (j : Int) := by rw [IntKind.wrap_i64]; omega
          have n8 : ((a : Int) + (j : Int)).toNat = a + j := by omega
          have n9 : ((b : Int) - 1 - (j : Int)).toNat = b - 1 - j := by omega
          go_wp2_with fail
          go_quiet (fail)
          go_wp2_with fail
          go_roundw
          case rel => exact ⟨j + 1, by omega, by go_num, hKj.drewN _⟩
          case measure => simp [intOf]; omega
        · go_wp2_with fail
          go_roundw
          case rel => exact ⟨b, hbk, rfl, hKj, HN2.out⟩
          case measure => simp [intOf]; omega
    · have HND : Hid (∀ i, b ≤ i → i < k → q.getD i 0 ≠ q.getD a 0) := fun i h1 h2 => by omega
      have HN2 : Hid (∀ i j, i < b → b ≤ j → j < k → q.getD i 0 < q.getD j 0) := fun i j h1 h2 h3 => by
        by_cases hia : i < a
        · exact HBN.out i j hia (by omega) h3
        · have e1 := HEQ.out i (by omega) h1
          have e2 := HND.out j h2 h3
          have e3 := HSQ.out a j (by omega) (by omega)
          omega
      have HRJ : Hid (∀ j, j < b - a → o2.getD (a + j) 0 = o1.getD (b - 1 - j) 0) := fun j hj => by
        refine HRS.out a b hab hbk (fun i hi => ?_) (fun i h1 h2 => HEQ.out i h1 h2) HND.out j hj
        have := HBN.out i a hi (Nat.le_refl _) hal
        omega
      have hdb : decide ((b : Int) < (k : Int)) = false := decide_eq_false (by omega)
      go_wp2_with fail
      go_quiet (fail)
      go_wp2_with fail
      have hKc := hKb.drewN nq
      generalize wr.drewN nq = wy at *
      clear hKb ga hdb
      go_loopw [20] (fun i wr => ∃ j : Nat, j ≤ b - a ∧ i = .int .i64 j ∧ Kept [] wo wr) (fun i _ => (b - a) - (intOf i).toNat)
      case atStart => exact ⟨0, Nat.zero_le _, rfl, hKc⟩
      case round =>
      clear hKc
      obtain ⟨j, hj, rfl, hKj⟩ := hrel
      by_cases hjl : j < b - a
      · have g2 := (hKj.row rO2j (by simp)).int (a + j) (by omega)
        have g1 := (hKj.row rO1j (by simp)).int (b - 1 - j) (by omega)
        rw [HRJ.out j hjl] at g2
        generalize o1.getD (b - 1 - j) 0 = v at *
        have n1 : (0 : Int) ≤ (a : Int) + (j : Int) := by omega
        have n2 : (a : Int) + (j : Int) < (k : Int) := by omega
        have n3 : (0 : Int) ≤ (b : Int) - 1 - (j : Int) := by omega
        have n4 : (b : Int) - 1 - (j : Int) < (k : Int) := by omega
        have n5 : IntKind.i64.wrap ((a : Int) + (j : Int)) = (a : Int) + (j : Int) := by rw [IntKind.wrap_i64]; omega
        have n6 : IntKind.i64.wrap ((b : Int) - 1) = (b : Int) - 1 := by rw [IntKind.wrap_i64]; omega
        have n7 : IntKind.i64.wrap ((b : Int) - 1 - (j : Int)) = (b : Int) - 1 - (j : Int) := by rw [IntKind.wrap_i64]; omega
        have n8 : ((a : Int) + (j : Int)).toNat = a + j := by omega
        have n9 : ((b : Int) - 1 - (j : Int)).toNat = b - 1 - j := by omega
        go_wp2_with fail
        go_quiet (fail)
        go_wp2_with fail
        go_roundw
        case rel => exact ⟨j + 1, by omega, by go_num, hKj.drewN _⟩
        case measure => simp [intOf]; omega
      · go_wp2_with fail
        go_roundw
        case rel => exact ⟨b, hbk, rfl, hKj, HN2.out⟩
        case measure => simp [intOf]; omega
  · have hak : a = k := by omega
    subst hak
    go_wp2_with fail
    go_ret
    exact Yes.kept (hKw2.trans hKa)

end Go.Proofs.Qxb6000051aMods
