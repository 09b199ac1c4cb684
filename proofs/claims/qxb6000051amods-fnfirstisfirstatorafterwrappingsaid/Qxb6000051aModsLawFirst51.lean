/-
  FnFirstIsFirstAtOrAfterWrapping: the walk of the law.
-/
import Derived.Test.Qxb6000051aModsZz
import Derived.Test.Qxb6000051aModsFirst
namespace Go.Proofs.Qxb6000051aMods
open Go.RowKit

/-- The law's end: true, and nothing that was there has turned. -/
def Yes (w : World) (e : Ending) (w' : World) : Prop := e = .returned (.bool true) ∧ Below w.heap.size w w'
theorem Yes.same (w : World) : Yes w (.returned (.bool true)) w := ⟨rfl, Below.refl _ _⟩
theorem Yes.kept {w w' : World} (h : Kept [] w w') : Yes w (.returned (.bool true)) w' := ⟨rfl, h.below (Nat.le_refl _) (by simp)⟩

set_option maxHeartbeats 1000000 in
theorem zzfirst_any (C n cp co : Nat) (ap ao : Option Addr) (q : List Nat) (x : Nat) (w : World) (h0 : w.cell? ⟨C, 0, none⟩ = some (.slice ap n cp)) (h2 : w.cell? ⟨C, 2, none⟩ = some (.slice none 0 0)) (h3 : w.cell? ⟨C, 3, none⟩ = some (.slice ao n co))
    (hap : Nums .u32 w ap n q) (hq : q.length = n) (hn : n ≤ 1048576) (hx : x < 4294967296) (h32 : ∀ p ∈ q, p < 4294967296) (hs : ∀ i j, i ≤ j → j < n → q.getD i 0 ≤ q.getD j 0) :
    Calls Trym.prog 24 #[.pointer (some ⟨C, 0, none⟩), .int .u32 x] w fun e w' => Answers (FirstIs q n x) w e w' := by
  go_enter Trym.func24, Trym.ntmps24
  go_wp2_with fail
  refine (first_any C n cp co ap ao q x w h0 h2 h3 hap hq hn hx h32 hs).mono ?_
  rintro e w' ⟨i, rfl, rfl, hi⟩
  have HF : Hid (FirstIs q n x i) := hi
  clear hi hs h32 hap
  go_wp2_with fail
  go_ret
  exact ⟨i, rfl, rfl, HF.out⟩

set_option maxHeartbeats 1000000 in
theorem firstModel_any (n cp : Nat) (ap : Option Addr) (q : List Nat) (x : Nat) (w : World) (hap : Nums .u32 w ap n q) (hq : q.length = n) (hn : n ≤ 1048576) :
    Calls Trym.prog 25 #[.slice ap n cp, .int .u32 x] w fun e w' => Answers (FirstIs q n x) w e w' := by
  go_enter Trym.func25, Trym.ntmps25
  go_wp2_with fail
  go_loop [5] (fun i => ∃ k : Nat, k ≤ n ∧ i = .int .i64 k ∧ ∀ j, j < k → q.getD j 0 < x) (fun i => n - (intOf i).toNat)
  case atStart => exact ⟨0, by omega, rfl, fun j hj => by omega⟩
  case round =>
    obtain ⟨k, hk, rfl, hall⟩ := hrel
    have HA := (show Hid _ from hall)
    clear hall
    by_cases hlt : k < n
    · obtain ⟨b, off, rfl, hc⟩ := hap (by omega)
      have g := hc k hlt
      clear hc hap
      by_cases hv : x ≤ q.getD k 0
      · have HF : Hid (FirstIs q n x k) := .inl ⟨hlt, HA.out, hv⟩
        generalize q.getD k 0 = v at *
        go_wp2_with fail
        go_ret
        exact ⟨k, rfl, rfl, HF.out⟩
      · have HN : Hid (∀ j, j < k + 1 → q.getD j 0 < x) := fun j hj => by
          by_cases e : j = k
          · subst e; omega
          · exact HA.out j (by omega)
        generalize q.getD k 0 = v at *
        go_wp2_with fail
        go_round
        case rel => exact ⟨k + 1, by omega, by go_num, HN.out⟩
        case measure => simp [intOf]; omega
    · have HF : Hid (FirstIs q n x 0) := .inr ⟨rfl, fun j hj => HA.out j (by omega)⟩
      go_wp2_with fail
      go_ret
      exact ⟨0, rfl, rfl, HF.out⟩

set_option maxHeartbeats 4000000 in
set_option maxRecDepth 100000 in
theorem first_walk (m cm n cp : Nat) (an ap : Option Addr) (ss : List ByteArray) (A : List Nat) (z : Int) (w : World)
    (han : Strs w an m ss) (hanil : an = none → m = 0 ∧ cm = 0) (hss : ss.length = m)
    (hap : Nums .u64 w ap n A) (hapnil : ap = none → n = 0 ∧ cp = 0) (hA : A.length = n) (h64 : ∀ p ∈ A, p < 18446744073709551616) (hzb : 0 ≤ z ∧ z < 4294967296) :
    Calls Trym.prog 5 #[.slice an m cm, .slice ap n cp, .int .u32 z] w fun e w' => Yes w e w' := by
  obtain ⟨x, rfl⟩ : ∃ x : Nat, z = (x : Int) := ⟨z.toNat, by omega⟩
  have hx : x < 4294967296 := by omega
  clear hzb
  go_enter Trym.func5, Trym.ntmps5
  go_wp2_with fail
  refine (zzBytes23 m cm n cp an ap x ss w han).mono ?_
  rintro e w1 ⟨rfl, b, rfl, hb⟩
  cases b with
  | false =>
    go_wp2_with fail
    go_ret
    exact Yes.same _
  | true =>
  obtain ⟨hm1, hn1, hs1⟩ := hb rfl
  clear hb
  go_wp2_with fail
  refine (bytesOK_any m cm n cp an ap ss w1 han hm1 hn1 hs1).mono ?_
  rintro e w2 ⟨rfl, b, rfl, hb⟩
  cases b with
  | false =>
    go_wp2_with fail
    go_ret
    exact Yes.same _
  | true =>
  have hT := hb rfl
  unfold BytesOK at hT
  clear hb
  go_wp2_with fail
  refine (ownersFit_any m cm n cp an ap A w2 hap hA hm1 hn1 h64).mono ?_
  rintro e w3 ⟨rfl, b, rfl, hb⟩
  cases b with
  | false =>
    go_wp2_with fail
    go_ret
    exact Yes.same _
  | true =>
  obtain ⟨hm6, how⟩ := hb rfl
  have hn13 : n < 131074 := by omega
  clear hb
  by_cases hn0 : n = 0
  · subst hn0
    go_wp2_with fail
    go_ret
    exact Yes.same _
  have hnz : ((n : Int) == 0) = false := beq_eq_false_iff_ne.2 (by omega)
  have hnp : 0 < n := by omega
  clear hn0
  go_wp2_with fail
  refine (clone9 m cm an ss w3 han hanil hss hm1).mono ?_
  rintro e wn ⟨an1, cm1, rfl, hKn, hnil1, hrn⟩
  go_wp2_with fail
  have hap2 : Nums .u64 wn ap n A := fun h => by
    obtain ⟨b, off, e, hc⟩ := hap h
    exact ⟨b, off, e, fun i hi => hKn.cell (hc i hi) (by simp)⟩
  refine (clone10 n cp ap A wn hap2 hapnil hA hn1).mono ?_
  rintro e wp ⟨ap1, cp1, rfl, hKp, hnil2, hrp⟩
  obtain ⟨rfl, rP⟩ := hrp hnp
  have hKwp := hKn.trans hKp
  have sn := hKn.size
  clear hrn hKn hKp hnil1 hnil2 hap hap2 han hT hs1 hrp
  go_wp2_with fail
  refine (zznew_any wn.heap.size n cp1 m cm1 (some ⟨wn.heap.size, 0, none⟩) an1 A wp hA hn13 hm6 (fun h => rfl) h64 how (fun h => rP) (fun h => rP.lt)).mono ?_
  rintro e wc ⟨W1, O1, hW1, hO1, hWO1, rfl, hKc, rW1, rO1⟩
  go_wp2_with fail
  have rC := Row.newAt wc 31 [.slice (some ⟨W1, 0, none⟩) n n, .slice none 0 0, .slice none 0 0, .slice (some ⟨O1, 0, none⟩) n n, .slice an1 m cm1, .int .i64 ((distinctN (A.map own) m : Nat) : Int)] _ rfl
  have rW := rW1.alloc (.cells [.slice (some ⟨W1, 0, none⟩) n n, .slice none 0 0, .slice none 0 0, .slice (some ⟨O1, 0, none⟩) n n, .slice an1 m cm1, .int .i64 ((distinctN (A.map own) m : Nat) : Int)].toArray 31)
  have hKg : Kept [] w3 (wc.alloc (.cells [.slice (some ⟨W1, 0, none⟩) n n, .slice none 0 0, .slice none 0 0, .slice (some ⟨O1, 0, none⟩) n n, .slice an1 m cm1, .int .i64 ((distinctN (A.map own) m : Nat) : Int)].toArray 31)) := (hKwp.then hKc (fun i hi hy => by simp at hy; omega)).alloc _
  clear rW1 rO1 hKc rP hKwp
  have hl1 : ((radix A).map pos).length = n := by rw [List.length_map, radix_len, hA]
  have hsort := sorted_pos A h64
  have h32 := pos_lt32 A h64
  generalize wc.alloc (.cells [.slice (some ⟨W1, 0, none⟩) n n, .slice none 0 0, .slice none 0 0, .slice (some ⟨O1, 0, none⟩) n n, .slice an1 m cm1, .int .i64 ((distinctN (A.map own) m : Nat) : Int)].toArray 31) = wg at *
  generalize distinctN (A.map own) m = d at *
  generalize (radix A).map pos = q at *
  generalize wc.heap.size = C1 at *
  clear how h64
  obtain ⟨⟨x0, x1, x2, x3, x4, x5⟩, -⟩ := rC.six
  have HSQ := (show Hid _ from fun i j hij (hj : j < n) => sorted_le q hsort i j hij (by omega))
  have H32 := (show Hid _ from h32)
  clear hsort h32
  refine (zzwide_any C1 _ _ _ wg x0).mono ?_
  rintro e w' ⟨rfl, rfl⟩
  go_wp2_with fail
  refine (zznarrow_any C1 _ _ _ w' x1).mono ?_
  rintro e w' ⟨rfl, rfl⟩
  go_wp2_with fail
  refine (zzstarts_any C1 _ _ _ w' x2).mono ?_
  rintro e w' ⟨rfl, rfl⟩
  go_wp2_with fail
  refine (decode_any W1 n q w' hl1 hn1 rW).mono ?_
  rintro e wh ⟨rfl, hKh, sh, rD⟩
  have rCh := hKh.row rC (by simp)
  have rWh := hKh.row rW (by simp)
  have hKwh := hKg.trans hKh
  clear x0 x1 x2 x3 x4 x5 rC rW hKg hKh
  generalize w'.heap.size = D at *
  obtain ⟨⟨x0, x1, x2, x3, x4, x5⟩, -⟩ := rCh.six
  go_wp2_with fail
  refine (zzfirst_any C1 n n n _ _ q x wh x0 x2 x3 (nums_row hl1 rWh) hl1 hn1 hx H32.out HSQ.out).mono ?_
  rintro e w' ⟨r1, rfl, rfl, hr1⟩
  go_wp2_with fail
  refine (firstModel_any n n _ q x w' (nums_row hl1 rD) hl1 hn1).mono ?_
  rintro e w' ⟨r2, rfl, rfl, hr2⟩
  have er := hr1.unique hr2
  subst er
  clear hr1 hr2
  have g := rD.int (n / 2) (by omega)
  have hmid := H32.out _ (getD_mem q (n / 2) (by omega))
  generalize q.getD (n / 2) 0 = y at *
  have hdv : (n : Int) / 2 = ((n / 2 : Nat) : Int) := by omega
  have hdl : n / 2 < n := by omega
  generalize n / 2 = h at *
  go_wp2_with fail
  refine (zzfirst_any C1 n n n _ _ q y w' x0 x2 x3 (nums_row hl1 rWh) hl1 hn1 hmid H32.out HSQ.out).mono ?_
  rintro e w' ⟨r3, rfl, rfl, hr3⟩
  go_wp2_with fail
  refine (firstModel_any n n _ q y w' (nums_row hl1 rD) hl1 hn1).mono ?_
  rintro e w' ⟨r4, rfl, rfl, hr4⟩
  have er := hr3.unique hr4
  subst er
  clear hr3 hr4
  go_wp2_with fail
  go_ret
  exact Yes.kept hKwh
end Go.Proofs.Qxb6000051aMods
