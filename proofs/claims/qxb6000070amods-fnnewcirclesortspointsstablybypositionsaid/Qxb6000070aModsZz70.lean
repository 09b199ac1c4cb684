/-
  The thin shim ZZNewCircle of this seat (six results), and circleInputFits.
-/
import Derived.Test.Qxb6000070aModsNew
import Derived.Test.Qxb6000070aModsClone
import Derived.Deep.QuietTactic
import Derived.BigQuiet
namespace Go.Proofs.Qxb6000070aMods
open Go.RowKit

/-- The law's end: true, and nothing that was there has turned. -/
def Yes (w : World) (e : Ending) (w' : World) : Prop := e = .returned (.bool true) ∧ Below w.heap.size w w'
theorem Yes.same (w : World) : Yes w (.returned (.bool true)) w := ⟨rfl, Below.refl _ _⟩
theorem Yes.kept {w w' : World} (h : Kept [] w w') : Yes w (.returned (.bool true)) w' := ⟨rfl, h.below (Nat.le_refl _) (by simp)⟩

def Fits (m n : Nat) (A : List Nat) : Prop := m ≤ 65536 ∧ n ≤ 131072 ∧ ∀ p ∈ A, p % 4294967296 < m

set_option maxHeartbeats 1000000 in
theorem fits_any (m cm n cp : Nat) (an ap : Option Addr) (ss : List ByteArray) (A : List Nat) (w : World) (han : Strs w an m ss) (hap : Nums .u64 w ap n A) (hA : A.length = n) (hm : m ≤ 65536) (hn : n ≤ 131072)
    (hs : ∀ i, i < m → (ss.getD i ByteArray.empty).size ≤ 1048576) (h64 : ∀ p ∈ A, p < 18446744073709551616) :
    Calls Trym.prog 17 #[.slice an m cm, .slice ap n cp] w fun e w' => Verdict w (Fits m n A) e w' := by
  have hd1 : decide (65536 < (m : Int)) = false := decide_eq_false (by omega)
  have hd2 : decide (131072 < (n : Int)) = false := decide_eq_false (by omega)
  by_cases hT : 8 * m + 8 * n ≤ 1048576
  · go_enter Trym.func17, Trym.ntmps17
    go_wp2_with fail
    go_loop [5, 6] (fun z i => ∃ k t : Nat, k ≤ m ∧ i = .int .i64 k ∧ t ≤ 1048576 ∧ z = .int .i64 t) (fun _ i => m - (intOf i).toNat)
    case atStart => exact ⟨0, 8 * m + 8 * n, by omega, rfl, hT, by go_num⟩
    case round =>
    obtain ⟨k, t, hk, rfl, ht, rfl⟩ := hrel
    by_cases hlt : k < m
    · obtain ⟨b, off, rfl, hc⟩ := han (by omega)
      have g := hc k hlt
      have h1 := hs k hlt
      clear hc han hs
      generalize ss.getD k ByteArray.empty = s at *
      by_cases ht2 : t + s.size ≤ 1048576
      · go_wp2_with fail
        go_round
        case rel => exact ⟨k + 1, t + s.size, by omega, by go_num, ht2, by go_num⟩
        case measure => simp [intOf]; omega
      · go_wp2_with fail
        go_ret
        exact Verdict.no w _
    · clear han hs hT
      go_wp2_with fail
      go_loop [7] (fun i => ∃ k : Nat, k ≤ n ∧ i = .int .i64 k ∧ ∀ j, j < k → A.getD j 0 % 4294967296 < m) (fun i => n - (intOf i).toNat)
      case atStart => exact ⟨0, by omega, rfl, fun j hj => by omega⟩
      case round =>
      clear hlt hk ht
      obtain ⟨k, hk, rfl, hall⟩ := hrel
      have HA := (show Hid _ from hall)
      clear hall
      by_cases hlt : k < n
      · obtain ⟨b, off, rfl, hc⟩ := hap (by omega)
        have g := hc k hlt
        have hp6 := h64 _ (getD_mem A k (by omega))
        have hb := and_low (A.getD k 0) hp6
        clear hc hap h64
        by_cases hlow : A.getD k 0 % 4294967296 < m
        · have HS : Hid (∀ j, j < k + 1 → A.getD j 0 % 4294967296 < m) := fun j hj => by
            by_cases e : j = k
            · subst e; exact hlow
            · exact HA.out j (by omega)
          generalize A.getD k 0 = p at *
          generalize p % 4294967296 = q at *
          go_wp2_with fail
          go_round
          case rel => exact ⟨k + 1, by omega, by go_num, HS.out⟩
          case measure => simp [intOf]; omega
        · generalize A.getD k 0 = p at *
          generalize p % 4294967296 = q at *
          go_wp2_with fail
          go_ret
          exact Verdict.no w _
      · have hkm : k = n := by omega
        subst hkm
        go_wp2_with fail
        go_ret
        refine Verdict.yes w ⟨hm, hn, fun p hp => ?_⟩
        obtain ⟨j, hj, e⟩ := List.getElem_of_mem hp
        have := HA.out j (by omega)
        rw [List.getD, List.getElem?_eq_getElem hj, Option.getD_some, e] at this
        exact this
  · go_enter Trym.func17, Trym.ntmps17
    go_wp2_with fail
    go_ret
    exact Verdict.no w _

/-- What ZZNewCircle leaves. -/
def NewPost (P n m cm : Nat) (an : Option Addr) (A : List Nat) (w : World) (e : Ending) (w' : World) : Prop :=
  ∃ W O, w.heap.size ≤ W ∧ w.heap.size ≤ O ∧ W ≠ O ∧
    e = .returned (.tuple #[.slice (some ⟨W, 0, none⟩) n n, .slice none 0 0, .slice none 0 0, .slice (some ⟨O, 0, none⟩) n n, .slice an m cm, .int .i64 ((distinctN (A.map own) m : Nat) : Int)]) ∧
      Kept [P] w w' ∧ Row w' W 24 (ints .u32 ((radix A).map pos)) ∧ Row w' O 34 (ints .u16 ((radix A).map own))

theorem results_tmp6 {fn : Func} {a b c d e f : Tmp} (h : fn.results = #[.tmp a, .tmp b, .tmp c, .tmp d, .tmp e, .tmp f]) (tmps : Array Value) (P : Program) (w : World) :
    (results fn tmps).run P w = .ok (.tuple #[tmps.getD a undef, tmps.getD b undef, tmps.getD c undef, tmps.getD d undef, tmps.getD e undef, tmps.getD f undef]) w := by
  simp [results, h]

set_option maxHeartbeats 1000000 in
theorem zznew_any (P n cp m cm : Nat) (ap an : Option Addr) (A : List Nat) (w : World)
    (hA : A.length = n) (hn : n < 131074) (hm : m ≤ 65536) (hap : 0 < n → ap = some ⟨P, 0, none⟩) (h64 : ∀ p ∈ A, p < 18446744073709551616) (how : ∀ p ∈ A, p % 4294967296 < m)
    (rP : 0 < n → Row w P 44 (ints .u64 A)) (nPs : 0 < n → P < w.heap.size) :
    Calls Trym.prog 20 #[.slice an m cm, .slice ap n cp] w fun e w' => NewPost P n m cm an A w e w' := by
  go_enter Trym.func20, Trym.ntmps20
  go_wp2_with fail
  refine (new_any P n cp m cm ap an A w hA hn hm hap h64 how rP nPs).mono ?_
  rintro e w2 ⟨W, O, hW, hO, hWO, rfl, hK2, rW, rO⟩
  generalize hc : distinctN (A.map own) m = c at *
  have HC : Hid (distinctN (A.map own) m = c) := hc
  clear hc
  obtain ⟨w3, hw3⟩ : ∃ w3, w3 = w2.alloc (.cells #[.slice (some ⟨W, 0, none⟩) n n, .slice none 0 0, .slice none 0 0, .slice (some ⟨O, 0, none⟩) n n, .slice an m cm, .int .i64 (c : Int)] 48) := ⟨_, rfl⟩
  go_wp2_with fail
  rw [← hw3]
  have rC : Row w3 w2.heap.size 48 [.slice (some ⟨W, 0, none⟩) n n, .slice none 0 0, .slice none 0 0, .slice (some ⟨O, 0, none⟩) n n, .slice an m cm, .int .i64 (c : Int)] := by
    rw [hw3]; exact Row.newAt _ _ _ _ rfl
  have rW3 : Row w3 W 24 (ints .u32 ((radix A).map pos)) := by rw [hw3]; exact rW.alloc _
  have rO3 : Row w3 O 34 (ints .u16 ((radix A).map own)) := by rw [hw3]; exact rO.alloc _
  have hK3 : Kept [P] w w3 := by rw [hw3]; exact hK2.alloc _
  clear hw3 rW rO hK2
  obtain ⟨⟨x0, x1, x2, x3, x4, x5⟩, -⟩ := rC.six
  go_quiet (fail)
  go_wp2_with fail
  refine bodyPost_ret (results_tmp6 rfl _ _ _) rfl ?_
  exact ⟨W, O, hW, hO, hWO, by rw [HC.out]; rfl, hK3.drewN _, rW3, rO3⟩

end Go.Proofs.Qxb6000070aMods
