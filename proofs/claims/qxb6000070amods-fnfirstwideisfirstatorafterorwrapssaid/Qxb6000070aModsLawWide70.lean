/-
  FnFirstWideIsFirstAtOrAfterOrWraps: the walk of the law.
-/
import Derived.Test.Qxb6000070aModsFirst
import Derived.Test.Qxb6000070aModsClone
import Derived.Deep.QuietTactic
import Derived.BigQuiet
namespace Go.Proofs.Qxb6000070aMods
open Go.RowKit

/-- The law's end: true, and nothing that was there has turned. -/
def Yes (w : World) (e : Ending) (w' : World) : Prop := e = .returned (.bool true) ∧ Below w.heap.size w w'
theorem Yes.same (w : World) : Yes w (.returned (.bool true)) w := ⟨rfl, Below.refl _ _⟩
theorem Yes.kept {w w' : World} (h : Kept [] w w') : Yes w (.returned (.bool true)) w' := ⟨rfl, h.below (Nat.le_refl _) (by simp)⟩

/-- A bool, true only if C; nothing that was there has turned. -/
def VerdictK (w : World) (C : Prop) (e : Ending) (w' : World) : Prop := Kept [] w w' ∧ ∃ b, e = .returned (.bool b) ∧ (b = true → C)
theorem VerdictK.no {w w' : World} (h : Kept [] w w') (C : Prop) : VerdictK w C (.returned (.bool false)) w' := ⟨h, false, rfl, fun h => by cases h⟩
theorem VerdictK.yes {w w' : World} (h : Kept [] w w') {C : Prop} (c : C) : VerdictK w C (.returned (.bool true)) w' := ⟨h, true, rfl, fun _ => c⟩

def Both (n m : Nat) : Prop := n ≤ 1048576 ∧ m ≤ 1048576
set_option maxHeartbeats 400000 in
theorem zzBytes8 (n cn m cm : Nat) (an am : Option Addr) (x : Int) (w : World) :
    Calls Trym.prog 8 #[.slice an n cn, .slice am m cm, .int .u32 x] w fun e w' => Verdict w (Both n m) e w' := by
  by_cases hn : n ≤ 1048576
  · by_cases hm : m ≤ 1048576
    · by_cases ht : n + m ≤ 1048576
      · go_enter Trym.func8, Trym.ntmps8
        go_wp2_with fail
        go_ret
        exact Verdict.yes w ⟨hn, hm⟩
      · go_enter Trym.func8, Trym.ntmps8
        go_wp2_with fail
        go_ret
        exact Verdict.no w _
    · go_enter Trym.func8, Trym.ntmps8
      go_wp2_with fail
      go_ret
      exact Verdict.no w _
  · go_enter Trym.func8, Trym.ntmps8
    go_wp2_with fail
    go_ret
    exact Verdict.no w _

def WideOK (n m : Nat) (q : List Nat) : Prop := 0 < n ∧ m = n ∧ ∀ i, 0 < i → i < n → q.getD (i - 1) 0 ≤ q.getD i 0

set_option maxHeartbeats 1000000 in
theorem wideFits_any (n cn m cm : Nat) (an am : Option Addr) (q : List Nat) (w : World) (han : Nums .u32 w an n q) (hq : q.length = n) (hn : n ≤ 262144) (hm : m ≤ 262144) :
    Calls Trym.prog 9 #[.slice an n cn, .slice am m cm] w fun e w' => VerdictK w (WideOK n m q) e w' := by
  have hd1 : decide ((262144 : Int) < (n : Int)) = false := decide_eq_false (by omega)
  have hd2 : decide ((262144 : Int) < (m : Int)) = false := decide_eq_false (by omega)
  by_cases ht : 4 * n + 2 * m ≤ 1048576
  case neg =>
    go_enter Trym.func9, Trym.ntmps9
    go_wp2_with fail
    go_ret
    exact VerdictK.no (Kept.refl _ _) _
  by_cases hn0 : n = 0
  · subst hn0
    go_enter Trym.func9, Trym.ntmps9
    go_wp2_with fail
    go_ret
    exact VerdictK.no (Kept.refl _ _) _
  have hz : ((n : Int) == 0) = false := beq_eq_false_iff_ne.2 (by omega)
  by_cases hmn : m = n
  case neg =>
    have hne : ((m : Int) != (n : Int)) = true := by rw [bne_iff_ne]; omega
    go_enter Trym.func9, Trym.ntmps9
    go_wp2_with fail
    go_ret
    exact VerdictK.no (Kept.refl _ _) _
  subst hmn
  go_enter Trym.func9, Trym.ntmps9
  go_wp2_with fail
  clear hd1 hd2 hz
  go_loopw [5] (fun i wr => ∃ k : Nat, 1 ≤ k ∧ k ≤ m ∧ i = .int .i64 k ∧ Kept [] w wr ∧ ∀ i, 0 < i → i < k → q.getD (i - 1) 0 ≤ q.getD i 0) (fun i _ => m - (intOf i).toNat)
  case atStart => exact ⟨1, Nat.le_refl _, by omega, rfl, Kept.refl _ _, fun i h1 h2 => by omega⟩
  case round =>
  obtain ⟨k, hk1, hk, rfl, hK, hall⟩ := hrel
  have HA := (show Hid _ from hall)
  clear hall
  by_cases hlt : k < m
  · obtain ⟨b, off, rfl, hc⟩ := han (by omega)
    have g1 := hK.cell (hc (k - 1) (by omega)) (by simp)
    have g2 := hK.cell (hc k hlt) (by simp)
    clear hc han
    have c1 : (0 : Int) ≤ (k : Int) := by omega
    have c2 : (k : Int) < (m : Int) := by omega
    have c3 : (0 : Int) ≤ (k : Int) - 1 := by omega
    have c4 : (k : Int) - 1 < (m : Int) := by omega
    have c5 : IntKind.i64.wrap ((k : Int) - 1) = (k : Int) - 1 := by rw [IntKind.wrap_i64]; omega
    have c6 : ((k : Int) - 1).toNat = k - 1 := by omega
    by_cases hv : q.getD (k - 1) 0 ≤ q.getD k 0
    · have HN : Hid (∀ i, 0 < i → i < k + 1 → q.getD (i - 1) 0 ≤ q.getD i 0) := fun i h1 h2 => by
        by_cases e : i = k
        · subst e; exact hv
        · exact HA.out i h1 (by omega)
      generalize q.getD (k - 1) 0 = x at *
      generalize q.getD k 0 = y at *
      have c7 : decide ((y : Int) < (x : Int)) = false := decide_eq_false (by omega)
      go_wp2_with fail
      go_quiet (fail)
      go_wp2_with fail
      go_roundw
      case rel => exact ⟨k + 1, by omega, by omega, by go_num, hK.drewN _, HN.out⟩
      case measure => simp [intOf]; omega
    · generalize q.getD (k - 1) 0 = x at *
      generalize q.getD k 0 = y at *
      have c7 : (y : Int) < (x : Int) := by omega
      go_wp2_with fail
      go_quiet (fail)
      go_wp2_with fail
      go_ret
      exact VerdictK.no (hK.drewN _) _
  · have hkm : k = m := by omega
    subst hkm
    go_wp2_with fail
    go_ret
    exact VerdictK.yes hK ⟨by omega, rfl, HA.out⟩

theorem sorted_of (n m : Nat) (q : List Nat) (h : WideOK n m q) : ∀ i j, i ≤ j → j < n → q.getD i 0 ≤ q.getD j 0 := by
  intro i j hij hj
  induction j with
  | zero => have : i = 0 := by omega
            subst this; exact Nat.le_refl _
  | succ j ih =>
    by_cases e : i = j + 1
    · subst e; exact Nat.le_refl _
    · have h1 := ih (by omega) (by omega)
      have h2 := h.2.2 (j + 1) (by omega) hj
      rw [Nat.add_sub_cancel] at h2
      omega

/-- A number, of which C; nothing that was there has turned. -/
def AnswersK (C : Nat → Prop) (w : World) (e : Ending) (w' : World) : Prop := ∃ i : Nat, e = .returned (.int .i64 (i : Int)) ∧ Kept [] w w' ∧ C i
set_option maxHeartbeats 1000000 in
theorem zzfirst_any (n cp co : Nat) (ap ao : Option Addr) (q : List Nat) (x : Nat) (w : World)
    (hap : Nums .u32 w ap n q) (hq : q.length = n) (hn : n ≤ 1048576) (hx : x < 4294967296) (h32 : ∀ p ∈ q, p < 4294967296) (hs : ∀ i j, i ≤ j → j < n → q.getD i 0 ≤ q.getD j 0) :
    Calls Trym.prog 12 #[.slice ap n cp, .slice ao n co, .int .u32 x] w fun e w' => AnswersK (FirstIs q n x) w e w' := by
  go_enter Trym.func12, Trym.ntmps12
  go_wp2_with fail
  have rC := Row.newAt w 48 [.slice ap n cp, .slice none 0 0, .slice none 0 0, .slice ao n co, .slice none 0 0, .int .i64 0] _ rfl
  have hK1 : Kept [] w (w.alloc (.cells [.slice ap n cp, .slice none 0 0, .slice none 0 0, .slice ao n co, .slice none 0 0, .int .i64 0].toArray 48)) := (Kept.refl _ _).alloc _
  generalize w.alloc (.cells [.slice ap n cp, .slice none 0 0, .slice none 0 0, .slice ao n co, .slice none 0 0, .int .i64 0].toArray 48) = w1 at *
  obtain ⟨⟨x0, x1, x2, x3, x4, x5⟩, -⟩ := rC.six
  have hap2 : Nums .u32 w1 ap n q := fun h => by
    obtain ⟨b, off, e, hc⟩ := hap h
    exact ⟨b, off, e, fun i hi => hK1.cell (hc i hi) (by simp)⟩
  refine (first_any w.heap.size n cp co ap ao q x w1 x0 x2 x3 hap2 hq hn hx h32 hs).mono ?_
  rintro e w' ⟨i, rfl, rfl, hi⟩
  have HF : Hid (FirstIs q n x i) := hi
  clear hi hs h32 hap hap2 x0 x1 x2 x3 x4 x5 rC
  go_wp2_with fail
  go_ret
  exact ⟨i, rfl, hK1, HF.out⟩

set_option maxHeartbeats 4000000 in
set_option maxRecDepth 100000 in
theorem wide_walk (n cn m cm : Nat) (an am : Option Addr) (q O : List Nat) (z : Int) (w : World) (han : Nums .u32 w an n q) (hanil : an = none → n = 0 ∧ cn = 0) (hq : q.length = n) (h32 : ∀ p ∈ q, p < 4294967296)
    (ham : Nums .u16 w am m O) (hamnil : am = none → m = 0 ∧ cm = 0) (hO : O.length = m) (hzb : 0 ≤ z ∧ z < 4294967296) :
    Calls Trym.prog 3 #[.slice an n cn, .slice am m cm, .int .u32 z] w fun e w' => Yes w e w' := by
  obtain ⟨x, rfl⟩ : ∃ x : Nat, z = (x : Int) := ⟨z.toNat, by omega⟩
  have hx : x < 4294967296 := by omega
  clear hzb
  go_enter Trym.func3, Trym.ntmps3
  go_wp2_with fail
  refine (zzBytes8 n cn m cm an am x w).mono ?_
  rintro e w1 ⟨rfl, b, rfl, hb⟩
  cases b with
  | false =>
    go_wp2_with fail
    go_ret
    exact Yes.same _
  | true =>
  obtain ⟨hn1, hm1⟩ := hb rfl
  clear hb
  by_cases hn2 : n ≤ 262144
  case neg =>
    have hd1 : (262144 : Int) < (n : Int) := by omega
    go_wp2_with fail
    go_ret
    exact Yes.same _
  by_cases hm2 : m ≤ 262144
  case neg =>
    have hd1 : decide ((262144 : Int) < (n : Int)) = false := decide_eq_false (by omega)
    have hd2 : (262144 : Int) < (m : Int) := by omega
    go_wp2_with fail
    go_ret
    exact Yes.same _
  have hd1 : decide ((262144 : Int) < (n : Int)) = false := decide_eq_false (by omega)
  have hd2 : decide ((262144 : Int) < (m : Int)) = false := decide_eq_false (by omega)
  go_wp2_with fail
  refine (wideFits_any n cn m cm an am q w1 han hq hn2 hm2).mono ?_
  rintro e w2 ⟨hK2, b, rfl, hb⟩
  cases b with
  | false =>
    go_wp2_with fail
    go_ret
    exact Yes.kept hK2
  | true =>
  have hok := hb rfl
  have hsort := sorted_of n m q hok
  obtain ⟨hn0, hmn, hz0⟩ := hok
  clear hz0
  subst hmn
  clear hb hd1 hd2 hm1 hm2
  have han2 : Nums .u32 w2 an m q := fun h => by
    obtain ⟨b, off, e, hc⟩ := han h
    exact ⟨b, off, e, fun i hi => hK2.cell (hc i hi) (by simp)⟩
  have HSQ := (show Hid _ from hsort)
  have H32 := (show Hid _ from h32)
  clear hsort h32
  go_wp2_with fail
  refine (clone10 m cn an q w2 han2 hanil hq hn1).mono ?_
  rintro e w3 ⟨an1, cn1, rfl, hK3, hz1, hr1⟩
  clear hz1
  obtain ⟨rfl, rW⟩ := hr1 hn0
  have ham2 : Nums .u16 w3 am m O := fun h => by
    obtain ⟨b, off, e, hc⟩ := ham h
    exact ⟨b, off, e, fun i hi => (hK2.trans hK3).cell (hc i hi) (by simp)⟩
  go_wp2_with fail
  refine (clone11 m cm am O w3 ham2 hamnil hO hn1).mono ?_
  rintro e w4 ⟨am1, cm1, rfl, hK4, hz1, hz2⟩
  clear hz1 hz2
  have rW4 := hK4.row rW (by simp)
  have hKw := (hK2.trans hK3).trans hK4
  clear rW ham ham2 han han2 hK2 hK3 hK4 hr1
  go_wp2_with fail
  refine (zzfirst_any m cn1 cm1 _ am1 q x w4 (nums_row hq rW4) hq hn1 hx H32.out HSQ.out).mono ?_
  rintro e w5 ⟨r, rfl, hK5, hr⟩
  have HFR : Hid (FirstIs q m x r) := hr
  have rW5 := hK5.row rW4 (by simp)
  have hKf := hKw.trans hK5
  clear hr hKw hK5 rW4
  go_wp2_with fail
  go_loop [8] (fun i => ∃ k : Nat, k ≤ m ∧ i = .int .i64 k ∧ ∀ j, j < k → q.getD j 0 < x) (fun i => m - (intOf i).toNat)
  case atStart => exact ⟨0, by omega, rfl, fun j hj => by omega⟩
  case round =>
  obtain ⟨k, hk, rfl, hall⟩ := hrel
  have HA := (show Hid _ from hall)
  clear hall
  by_cases hlt : k < m
  · have g := rW5.int k (by omega)
    by_cases hv : x ≤ q.getD k 0
    · have er : r = k := HFR.out.unique (.inl ⟨hlt, HA.out, hv⟩)
      subst er
      generalize q.getD r 0 = v at *
      go_wp2_with fail
      go_ret
      exact Yes.kept hKf
    · have HN : Hid (∀ j, j < k + 1 → q.getD j 0 < x) := fun j hj => by
        by_cases e : j = k
        · subst e; omega
        · exact HA.out j (by omega)
      generalize q.getD k 0 = v at *
      go_wp2_with fail
      go_round
      case rel => exact ⟨k + 1, by omega, by go_num, HN.out⟩
      case measure => simp [intOf]; omega
  · have er : r = 0 := HFR.out.unique (.inr ⟨rfl, fun j hj => HA.out j (by omega)⟩)
    subst er
    go_wp2_with fail
    go_ret
    exact Yes.kept hKf

end Go.Proofs.Qxb6000070aMods
