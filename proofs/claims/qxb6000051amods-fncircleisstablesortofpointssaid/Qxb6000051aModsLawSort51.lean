/-
  FnCircleIsStableSortOfPoints: the walk of the law.
-/
import Derived.Test.Qxb6000051aModsZz
import Derived.Test.Qxb6000051aModsMergeWalk51
import Derived.Test.Qxb6000051aModsDistinct
namespace Go.Proofs.Qxb6000051aMods
open Go.RowKit

/-- The law's end: true, and nothing that was there has turned. -/
def Yes (w : World) (e : Ending) (w' : World) : Prop := e = .returned (.bool true) ∧ Below w.heap.size w w'
theorem Yes.same (w : World) : Yes w (.returned (.bool true)) w := ⟨rfl, Below.refl _ _⟩
theorem Yes.kept {w w' : World} (h : Kept [] w w') : Yes w (.returned (.bool true)) w' := ⟨rfl, h.below (Nat.le_refl _) (by simp)⟩

theorem map_pos_get (B : List Nat) (i : Nat) (h : i < B.length) : (B.map pos).getD i 0 = pos (B.getD i 0) := by simp [List.getD, h]
theorem map_own_get (B : List Nat) (i : Nat) (h : i < B.length) : (B.map own).getD i 0 = own (B.getD i 0) := by simp [List.getD, h]

set_option maxHeartbeats 4000000 in
set_option maxRecDepth 100000 in
theorem matches_any (C W O S n m cm d : Nat) (an : Option Addr) (B : List Nat) (w : World) (hB : B.length = n) (hn : n < 131074) (h64 : ∀ p ∈ B, p < 18446744073709551616) (rC : Circ w C W O n m cm an d)
    (rW : Row w W 41 (ints .u32 (B.map pos))) (rO : Row w O 42 (ints .u16 (B.map own))) (rS : Row w S 36 (ints .u64 B)) :
    Calls Trym.prog 14 #[.pointer (some ⟨C, 0, none⟩), .slice (some ⟨S, 0, none⟩) n n] w fun e w' => Yes w e w' ∧ Kept [] w w' := by
  have hnl := fun (w : World) (a : Option Addr) (n c n' c' : Nat) => Lib.run_eql_slice_nil (P := Trym.prog) w _ _ a n c n' c' Trym.underlying28
  have hd1 : decide ((n : Int) < 131074) = true := decide_eq_true (by omega)
  have hlp : (B.map pos).length = n := by rw [List.length_map, hB]
  have hlo : (B.map own).length = n := by rw [List.length_map, hB]
  unfold Circ at rC
  obtain ⟨⟨x0, x1, x2, x3, x4, x5⟩, -⟩ := rC.six
  go_enter Trym.func14, Trym.ntmps14
  go_wp2_with fail
  refine (zzsize_any C _ _ _ w x3).mono ?_
  rintro e w' ⟨rfl, rfl⟩
  go_wp2_with fail
  refine (zzstarts_any C _ _ _ w' x2).mono ?_
  rintro e w' ⟨rfl, rfl⟩
  go_wp2_with fail
  refine (zzwide_any C _ _ _ w' x0).mono ?_
  rintro e w' ⟨rfl, rfl⟩
  go_wp2_with fail
  refine (zznarrow_any C _ _ _ w' x1).mono ?_
  rintro e w' ⟨rfl, rfl⟩
  go_wp2_with fail
  refine (zzstarts_any C _ _ _ w' x2).mono ?_
  rintro e w' ⟨rfl, rfl⟩
  go_wp2_with fail
  refine (decode_any W n (B.map pos) w' hlp (by omega) rW).mono ?_
  rintro e wh ⟨rfl, hKh, sh, rD⟩
  have rCh := hKh.row rC (by simp)
  have rOh := hKh.row rO (by simp)
  have rSh := hKh.row rS (by simp)
  generalize hDe : w'.heap.size = D at *
  obtain ⟨⟨y0, y1, y2, y3, y4, y5⟩, -⟩ := rCh.six
  clear x0 x1 x2 x3 x4 x5 rC rO rS rW hDe
  go_wp2_with fail
  refine (zzowners_any C _ _ _ wh y3).mono ?_
  rintro e w'' ⟨rfl, rfl⟩
  clear y0 y1 y2 y3 y4 y5 rCh
  go_wp2_with fail
  go_loopw [8] (fun i wr => ∃ k : Nat, k ≤ n ∧ i = .int .i64 k ∧ Kept [] w'' wr) (fun i _ => n - (intOf i).toNat)
  case atStart => exact ⟨0, Nat.zero_le _, rfl, Kept.refl _ _⟩
  case round =>
  obtain ⟨k, hk, rfl, hK⟩ := hrel
  by_cases hlt : k < n
  · have gD := (hK.row rD (by simp)).int k (by omega)
    have gO := (hK.row rOh (by simp)).int k (by omega)
    have gS := (hK.row rSh (by simp)).int k (by omega)
    rw [map_pos_get B k (by omega)] at gD
    rw [map_own_get B k (by omega)] at gO
    have hp6 := h64 _ (getD_mem B k (by omega))
    generalize B.getD k 0 = p at *
    have q1 := div_pos p
    have q2 := wrap_pos p hp6
    have q3 := wrap_own p
    have c1 : (0 : Int) ≤ (k : Int) := by omega
    have c2 : (k : Int) < (n : Int) := by omega
    have c3 : (((pos p : Nat) : Int) != ((pos p : Nat) : Int)) = false := by simp
    have c4 : (((own p : Nat) : Int) != ((own p : Nat) : Int)) = false := by simp
    clear hd1 hnl
    go_wp2_with fail
    go_quiet (fail)
    go_wp2_with fail
    go_roundw
    case rel => exact ⟨k + 1, by omega, by go_num, hK.drewN _⟩
    case measure => simp [intOf]; omega
  · go_wp2_with fail
    go_ret
    exact ⟨Yes.kept (hKh.trans hK), hKh.trans hK⟩

set_option maxHeartbeats 4000000 in
set_option maxRecDepth 100000 in
theorem sort_walk (m cm n cp : Nat) (an ap : Option Addr) (ss : List ByteArray) (A : List Nat) (w : World)
    (han : Strs w an m ss) (hanil : an = none → m = 0 ∧ cm = 0) (hss : ss.length = m)
    (hap : Nums .u64 w ap n A) (hapnil : ap = none → n = 0 ∧ cp = 0) (hA : A.length = n) (h64 : ∀ p ∈ A, p < 18446744073709551616) :
    Calls Trym.prog 3 #[.slice an m cm, .slice ap n cp] w fun e w' => Yes w e w' := by
  go_enter Trym.func3, Trym.ntmps3
  go_wp2_with fail
  refine (zzBytes6 m cm n cp an ap ss w han).mono ?_
  rintro e w1 ⟨rfl, b, rfl, hb⟩
  cases b with
  | false =>
    go_wp2_with fail
    go_ret
    exact Yes.same _
  | true =>
  obtain ⟨hm1, hn1, hs1⟩ := hb rfl
  clear hb
  go_wp2_with fail
  refine (bytesOK_any m cm n cp an ap ss w1 han hm1 hn1 hs1).mono ?_
  rintro e w2 ⟨rfl, b, rfl, hb⟩
  cases b with
  | false =>
    go_wp2_with fail
    go_ret
    exact Yes.same _
  | true =>
  have hT := hb rfl
  unfold BytesOK at hT
  clear hb
  go_wp2_with fail
  refine (ownersFit_any m cm n cp an ap A w2 hap hA hm1 hn1 h64).mono ?_
  rintro e w3 ⟨rfl, b, rfl, hb⟩
  cases b with
  | false =>
    go_wp2_with fail
    go_ret
    exact Yes.same _
  | true =>
  obtain ⟨hm6, how⟩ := hb rfl
  have hn13 : n < 131074 := by omega
  clear hb
  go_wp2_with fail
  refine (clone9 m cm an ss w3 han hanil hss hm1).mono ?_
  rintro e wn ⟨an1, cm1, rfl, hKn, hnil1, hrn⟩
  go_wp2_with fail
  have hap2 : Nums .u64 wn ap n A := fun h => by
    obtain ⟨b, off, e, hc⟩ := hap h
    exact ⟨b, off, e, fun i hi => hKn.cell (hc i hi) (by simp)⟩
  refine (clone10 n cp ap A wn hap2 hapnil hA hn1).mono ?_
  rintro e wp ⟨ap1, cp1, rfl, hKp, hnil2, hrp⟩
  have hKwp := hKn.trans hKp
  have sn := hKn.size
  have hap3 : Nums .u64 wp ap1 n A := fun h => by
    obtain ⟨e, r⟩ := hrp h
    exact ⟨wn.heap.size, 0, e, fun i hi => by rw [Nat.zero_add]; exact r.int i (by omega)⟩
  clear hrn hKn hKp hnil1 hnil2 hap hap2 han hT hs1
  go_wp2_with fail
  refine (stable_any n cp1 ap1 A wp hap3 hA hn13).mono ?_
  rintro e ws ⟨S, B, rfl, hKs, hS, hBl, rS, hst⟩
  have hBe : B = radix A := Stable.unique (A := A) hst (radix_stable A h64)
  subst hBe
  have hrp2 : 0 < n → ap1 = some ⟨wn.heap.size, 0, none⟩ ∧ Row ws wn.heap.size 36 (ints .u64 A) := fun h => ⟨(hrp h).1, hKs.row (hrp h).2 (by simp)⟩
  have hap4 : Nums .u64 ws ap1 n A := fun h => by
    obtain ⟨e, r⟩ := hrp2 h
    exact ⟨wn.heap.size, 0, e, fun i hi => by rw [Nat.zero_add]; exact r.int i (by omega)⟩
  have hKws := hKwp.trans hKs
  have nPS : 0 < n → wn.heap.size < wp.heap.size := fun h => (hrp h).2.lt
  have lS := rS.lt
  clear hst hKs hKwp hap3 hrp
  go_wp2_with fail
  refine (distinct_any n cp1 m ap1 A ws hap4 hA hn13 hm6 h64 how).mono ?_
  rintro e wd ⟨rfl, hKd⟩
  have rSd := hKd.row rS (by simp)
  have hrp3 : 0 < n → ap1 = some ⟨wn.heap.size, 0, none⟩ ∧ Row wd wn.heap.size 36 (ints .u64 A) := fun h => ⟨(hrp2 h).1, hKd.row (hrp2 h).2 (by simp)⟩
  have hKwd := hKws.trans hKd
  have sd := hKd.size
  clear hrp2 rS hKd hKws hap4
  go_wp2_with fail
  obtain ⟨Pz, hPz, hPy⟩ : ∃ Pz, (0 < n → Pz = wn.heap.size) ∧ (¬ 0 < n → Pz = wd.heap.size) := by
    by_cases h : 0 < n
    · exact ⟨_, fun _ => rfl, fun h' => absurd h h'⟩
    · exact ⟨_, fun h' => absurd h' h, fun _ => rfl⟩
  have hPs : Pz ≠ S ∧ w3.heap.size ≤ Pz := by
    by_cases h : 0 < n
    · have := hPz h; have := nPS h; omega
    · have := hPy h; have := hKwd.size; omega
  refine (zznew_any Pz n cp1 m cm1 ap1 an1 A wd hA hn13 hm6 (fun h => by rw [hPz h]; exact (hrp3 h).1) h64 how (fun h => by rw [hPz h]; exact (hrp3 h).2) (fun h => by rw [hPz h]; exact (hrp3 h).2.lt)).mono ?_
  rintro e wc ⟨W1, O1, hW1, hO1, hWO1, rfl, hKc, rW1, rO1⟩
  go_wp2_with fail
  have rC := Row.newAt wc 31 [.slice (some ⟨W1, 0, none⟩) n n, .slice none 0 0, .slice none 0 0, .slice (some ⟨O1, 0, none⟩) n n, .slice an1 m cm1, .int .i64 ((distinctN (A.map own) m : Nat) : Int)] _ rfl
  have rW := rW1.alloc (.cells [.slice (some ⟨W1, 0, none⟩) n n, .slice none 0 0, .slice none 0 0, .slice (some ⟨O1, 0, none⟩) n n, .slice an1 m cm1, .int .i64 ((distinctN (A.map own) m : Nat) : Int)].toArray 31)
  have rO := rO1.alloc (.cells [.slice (some ⟨W1, 0, none⟩) n n, .slice none 0 0, .slice none 0 0, .slice (some ⟨O1, 0, none⟩) n n, .slice an1 m cm1, .int .i64 ((distinctN (A.map own) m : Nat) : Int)].toArray 31)
  have rSg := (hKc.row rSd (by simp; omega)).alloc (.cells [.slice (some ⟨W1, 0, none⟩) n n, .slice none 0 0, .slice none 0 0, .slice (some ⟨O1, 0, none⟩) n n, .slice an1 m cm1, .int .i64 ((distinctN (A.map own) m : Nat) : Int)].toArray 31)
  have hKg : Kept [] w3 (wc.alloc (.cells [.slice (some ⟨W1, 0, none⟩) n n, .slice none 0 0, .slice none 0 0, .slice (some ⟨O1, 0, none⟩) n n, .slice an1 m cm1, .int .i64 ((distinctN (A.map own) m : Nat) : Int)].toArray 31)) := (hKwd.then hKc (fun i hi hy => by simp at hy; omega)).alloc _
  clear rW1 rO1 hKc rSd hKwd hrp3
  have hl1 : (radix A).length = n := by rw [radix_len, hA]
  have h6r : ∀ p ∈ radix A, p < 18446744073709551616 := fun p hp => h64 p (radix_mem A h64 p hp)
  generalize wc.alloc (.cells [.slice (some ⟨W1, 0, none⟩) n n, .slice none 0 0, .slice none 0 0, .slice (some ⟨O1, 0, none⟩) n n, .slice an1 m cm1, .int .i64 ((distinctN (A.map own) m : Nat) : Int)].toArray 31) = wg at *
  generalize distinctN (A.map own) m = d at *
  generalize radix A = B at *
  generalize wc.heap.size = C1 at *
  clear how h64
  have HRC : Hid (Circ wg C1 W1 O1 n m cm1 an1 d) := rC
  obtain ⟨⟨x0, x1, x2, x3, x4, x5⟩, -⟩ := rC.six
  clear rC
  refine (matches_any C1 W1 O1 S n m cm1 d an1 B wg hl1 hn13 h6r HRC.out rW rO rSg).mono ?_
  rintro e wh ⟨⟨rfl, _⟩, hKh⟩
  have y5 := hKh.cell x5 (by simp)
  have hKf := hKg.trans hKh
  clear x0 x1 x2 x3 x4 x5 hKh hKg rW rO rSg
  go_wp2_with fail
  refine (zzplaced_any C1 _ wh y5).mono ?_
  rintro e w' ⟨rfl, rfl⟩
  go_wp2_with fail
  go_ret
  exact Yes.kept hKf

end Go.Proofs.Qxb6000051aMods
