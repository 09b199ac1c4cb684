/-
  The laws' copies of slices.
-/
import Derived.Test.Qxb6000070aModsGuards
namespace Go.Proofs.Qxb6000070aMods
open Go.RowKit

/-- A copy of n cells vs: nil stays nil; else a new block. -/
def Cloned (t : TypeId) (n : Nat) (vs : List Value) (w : World) (e : Ending) (w' : World) : Prop :=
  ∃ a c, e = .returned (.slice a n c) ∧ Kept [] w w' ∧ (a = none → n = 0 ∧ c = 0) ∧ (0 < n → a = some ⟨w.heap.size, 0, none⟩ ∧ Row w' w.heap.size t vs)

def strs (ss : List ByteArray) : List Value := ss.map Value.string
theorem strs_len (ss : List ByteArray) : (strs ss).length = ss.length := by simp [strs]
theorem strs_get (ss : List ByteArray) (i : Nat) (h : i < ss.length) : (strs ss)[i]? = some (.string (ss.getD i ByteArray.empty)) := by simp [strs, List.getD, h]

/-- The first k cells are copied, the rest is still zero. -/
def upTo (vs : List Value) (z : Value) (k : Nat) : List Value := vs.take k ++ List.replicate (vs.length - k) z
theorem upTo_len (vs : List Value) (z : Value) (k : Nat) (h : k ≤ vs.length) : (upTo vs z k).length = vs.length := by simp [upTo]; omega
theorem upTo_zero (vs : List Value) (z : Value) : upTo vs z 0 = List.replicate vs.length z := by simp [upTo]
theorem upTo_all (vs : List Value) (z : Value) : upTo vs z vs.length = vs := by simp [upTo]
theorem upTo_cons (vs : List Value) (z : Value) (k : Nat) (h : k < vs.length) : upTo vs z k = vs.take k ++ z :: List.replicate (vs.length - (k + 1)) z := by
  unfold upTo
  rw [show vs.length - k = (vs.length - (k + 1)) + 1 by omega, List.replicate_succ]
theorem upTo_succ (vs : List Value) (z v : Value) (k : Nat) (h : k < vs.length) (hv : vs[k]? = some v) : (upTo vs z k).set k v = upTo vs z (k + 1) := by
  have hv2 : vs[k] = v := by rw [List.getElem?_eq_getElem h] at hv; exact Option.some.inj hv
  have hl : (vs.take k).length = k := by simp; omega
  rw [upTo_cons vs z k h, List.set_append_right _ _ (by omega), hl, Nat.sub_self, List.set_cons_zero, upTo, List.take_succ_eq_append_getElem h, hv2, List.append_assoc]
  rfl
theorem upTo_get (vs : List Value) (z : Value) (k : Nat) (h : k < vs.length) : (upTo vs z k)[k]? = some z := by
  have hl : (vs.take k).length = k := by simp; omega
  rw [upTo_cons vs z k h, List.getElem?_append_right (by omega), hl, Nat.sub_self]
  rfl
theorem Row.upToNext {w : World} {b : Nat} {t : TypeId} {vs : List Value} {z v : Value} {k : Nat} (r : Row w b t (upTo vs z k)) (h : k < vs.length) (hv : vs[k]? = some v) :
    Row (w.setCell ⟨b, k, none⟩ v) b t (upTo vs z (k + 1)) := by
  rw [← upTo_succ vs z v k h hv]
  exact r.set k v

set_option maxHeartbeats 400000 in
theorem clone18 (n cp : Nat) (ap : Option Addr) (A : List ByteArray) (w : World) (hap : Strs w ap n A) (hnil : ap = none → n = 0 ∧ cp = 0) (hA : A.length = n) (hn : n ≤ 1048576) :
    Calls Trym.prog 18 #[.slice ap n cp] w fun e w' => Cloned 9 n (strs A) w e w' := by
  have hnl := fun (w : World) (a : Option Addr) (n c n' c' : Nat) => Lib.run_eql_slice_nil (P := Trym.prog) w _ _ a n c n' c' Trym.underlying35
  have hmk := fun w => run_make1 (P := Trym.prog) w 35 9 (.string ByteArray.empty) 16 Trym.underlying35 Trym.infoStr rfl n (by omega) (by omega)
  cases ap with
  | none =>
    obtain ⟨rfl, rfl⟩ := hnil rfl
    go_enter Trym.func18, Trym.ntmps18
    go_wp2_with fail
    go_ret
    exact ⟨none, 0, rfl, Kept.refl _ _, fun _ => ⟨rfl, rfl⟩, fun h => by omega⟩
  | some x =>
    have hvl : (strs A).length = n := by simp [strs, hA]
    go_enter Trym.func18, Trym.ntmps18
    go_wp2_with fail
    have r0 : Row (w.alloc (.cells (Array.replicate n (.string ByteArray.empty)) 9)) w.heap.size 9 (upTo (strs A) (.string ByteArray.empty) 0) := by
      rw [upTo_zero, hvl]; exact Row.newRep _ _ _ _ _ rfl
    have k0 := (Kept.refl [] w).alloc (.cells (Array.replicate n (.string ByteArray.empty)) 9)
    generalize w.alloc (.cells (Array.replicate n (.string ByteArray.empty)) 9) = w1 at *
    go_loopw [4] (fun i wr => ∃ k : Nat, k ≤ n ∧ i = .int .i64 k ∧ Kept [] w wr ∧ Row wr w.heap.size 9 (upTo (strs A) (.string ByteArray.empty) k)) (fun i _ => n - (intOf i).toNat)
    case atStart => exact ⟨0, Nat.zero_le _, rfl, k0, r0⟩
    case round =>
      obtain ⟨k, hk, rfl, hK, hR⟩ := hrel
      clear k0 r0
      by_cases hlt : k < n
      · obtain ⟨b, off, hx, hc⟩ := hap (by omega)
        cases hx
        have h1 := hK.cell (hc k hlt) (by simp)
        have h2 := hR.cell k
        rw [upTo_get _ _ _ (by omega)] at h2
        have h3 := hR.free k
        have hv : (strs A)[k]? = some (.string (A.getD k ByteArray.empty)) := strs_get  A k (by omega)
        have HR := (show Hid (Row wr w.heap.size 9 (upTo (strs A) (.string ByteArray.empty) k)) from hR)
        have HV := (show Hid _ from hv)
        have HVL := (show Hid _ from hvl)
        clear hv hR hap hc hmk hnl hvl
        generalize A.getD k ByteArray.empty = v at *
        go_wp2_with fail
        go_roundw
        case rel => exact ⟨k + 1, by omega, by go_num, hK.setCell (.inl (Nat.le_refl _)) _, HR.out.upToNext (by have := HVL.out; omega) HV.out⟩
        case measure => simp [intOf]; omega
      · have hkn : k = n := by omega
        subst hkn
        have hR2 : Row wr w.heap.size 9 (strs A) := by
          have := hR
          rw [← hvl, upTo_all] at this
          exact this
        go_wp2_with fail
        go_ret
        exact ⟨_, _, rfl, hK, (fun h => by cases h), fun _ => ⟨rfl, hR2⟩⟩

set_option maxHeartbeats 400000 in
theorem clone19 (n cp : Nat) (ap : Option Addr) (A : List Nat) (w : World) (hap : Nums .u64 w ap n A) (hnil : ap = none → n = 0 ∧ cp = 0) (hA : A.length = n) (hn : n ≤ 1048576) :
    Calls Trym.prog 19 #[.slice ap n cp] w fun e w' => Cloned 44 n (ints .u64 A) w e w' := by
  have hnl := fun (w : World) (a : Option Addr) (n c n' c' : Nat) => Lib.run_eql_slice_nil (P := Trym.prog) w _ _ a n c n' c' Trym.underlying36
  have hmk := fun w => run_make1 (P := Trym.prog) w 36 44 (.int .u64 0) 8 Trym.underlying36 Trym.infoU64 rfl n (by omega) (by omega)
  cases ap with
  | none =>
    obtain ⟨rfl, rfl⟩ := hnil rfl
    go_enter Trym.func19, Trym.ntmps19
    go_wp2_with fail
    go_ret
    exact ⟨none, 0, rfl, Kept.refl _ _, fun _ => ⟨rfl, rfl⟩, fun h => by omega⟩
  | some x =>
    have hvl : (ints .u64 A).length = n := by simp [ints, hA]
    go_enter Trym.func19, Trym.ntmps19
    go_wp2_with fail
    have r0 : Row (w.alloc (.cells (Array.replicate n (.int .u64 0)) 44)) w.heap.size 44 (upTo (ints .u64 A) (.int .u64 0) 0) := by
      rw [upTo_zero, hvl]; exact Row.newRep _ _ _ _ _ rfl
    have k0 := (Kept.refl [] w).alloc (.cells (Array.replicate n (.int .u64 0)) 44)
    generalize w.alloc (.cells (Array.replicate n (.int .u64 0)) 44) = w1 at *
    go_loopw [4] (fun i wr => ∃ k : Nat, k ≤ n ∧ i = .int .i64 k ∧ Kept [] w wr ∧ Row wr w.heap.size 44 (upTo (ints .u64 A) (.int .u64 0) k)) (fun i _ => n - (intOf i).toNat)
    case atStart => exact ⟨0, Nat.zero_le _, rfl, k0, r0⟩
    case round =>
      obtain ⟨k, hk, rfl, hK, hR⟩ := hrel
      clear k0 r0
      by_cases hlt : k < n
      · obtain ⟨b, off, hx, hc⟩ := hap (by omega)
        cases hx
        have h1 := hK.cell (hc k hlt) (by simp)
        have h2 := hR.cell k
        rw [upTo_get _ _ _ (by omega)] at h2
        have h3 := hR.free k
        have hv : (ints .u64 A)[k]? = some (.int .u64 ((A.getD k 0 : Nat) : Int)) := ints_get .u64 A k (by omega)
        have HR := (show Hid (Row wr w.heap.size 44 (upTo (ints .u64 A) (.int .u64 0) k)) from hR)
        have HV := (show Hid _ from hv)
        have HVL := (show Hid _ from hvl)
        clear hv hR hap hc hmk hnl hvl
        generalize A.getD k 0 = v at *
        go_wp2_with fail
        go_roundw
        case rel => exact ⟨k + 1, by omega, by go_num, hK.setCell (.inl (Nat.le_refl _)) _, HR.out.upToNext (by have := HVL.out; omega) HV.out⟩
        case measure => simp [intOf]; omega
      · have hkn : k = n := by omega
        subst hkn
        have hR2 : Row wr w.heap.size 44 (ints .u64 A) := by
          have := hR
          rw [← hvl, upTo_all] at this
          exact this
        go_wp2_with fail
        go_ret
        exact ⟨_, _, rfl, hK, (fun h => by cases h), fun _ => ⟨rfl, hR2⟩⟩

set_option maxHeartbeats 400000 in
theorem clone10 (n cp : Nat) (ap : Option Addr) (A : List Nat) (w : World) (hap : Nums .u32 w ap n A) (hnil : ap = none → n = 0 ∧ cp = 0) (hA : A.length = n) (hn : n ≤ 1048576) :
    Calls Trym.prog 10 #[.slice ap n cp] w fun e w' => Cloned 24 n (ints .u32 A) w e w' := by
  have hnl := fun (w : World) (a : Option Addr) (n c n' c' : Nat) => Lib.run_eql_slice_nil (P := Trym.prog) w _ _ a n c n' c' Trym.underlying22
  have hmk := fun w => run_make1 (P := Trym.prog) w 22 24 (.int .u32 0) 4 Trym.underlying22 Trym.infoU32 rfl n (by omega) (by omega)
  cases ap with
  | none =>
    obtain ⟨rfl, rfl⟩ := hnil rfl
    go_enter Trym.func10, Trym.ntmps10
    go_wp2_with fail
    go_ret
    exact ⟨none, 0, rfl, Kept.refl _ _, fun _ => ⟨rfl, rfl⟩, fun h => by omega⟩
  | some x =>
    have hvl : (ints .u32 A).length = n := by simp [ints, hA]
    go_enter Trym.func10, Trym.ntmps10
    go_wp2_with fail
    have r0 : Row (w.alloc (.cells (Array.replicate n (.int .u32 0)) 24)) w.heap.size 24 (upTo (ints .u32 A) (.int .u32 0) 0) := by
      rw [upTo_zero, hvl]; exact Row.newRep _ _ _ _ _ rfl
    have k0 := (Kept.refl [] w).alloc (.cells (Array.replicate n (.int .u32 0)) 24)
    generalize w.alloc (.cells (Array.replicate n (.int .u32 0)) 24) = w1 at *
    go_loopw [4] (fun i wr => ∃ k : Nat, k ≤ n ∧ i = .int .i64 k ∧ Kept [] w wr ∧ Row wr w.heap.size 24 (upTo (ints .u32 A) (.int .u32 0) k)) (fun i _ => n - (intOf i).toNat)
    case atStart => exact ⟨0, Nat.zero_le _, rfl, k0, r0⟩
    case round =>
      obtain ⟨k, hk, rfl, hK, hR⟩ := hrel
      clear k0 r0
      by_cases hlt : k < n
      · obtain ⟨b, off, hx, hc⟩ := hap (by omega)
        cases hx
        have h1 := hK.cell (hc k hlt) (by simp)
        have h2 := hR.cell k
        rw [upTo_get _ _ _ (by omega)] at h2
        have h3 := hR.free k
        have hv : (ints .u32 A)[k]? = some (.int .u32 ((A.getD k 0 : Nat) : Int)) := ints_get .u32 A k (by omega)
        have HR := (show Hid (Row wr w.heap.size 24 (upTo (ints .u32 A) (.int .u32 0) k)) from hR)
        have HV := (show Hid _ from hv)
        have HVL := (show Hid _ from hvl)
        clear hv hR hap hc hmk hnl hvl
        generalize A.getD k 0 = v at *
        go_wp2_with fail
        go_roundw
        case rel => exact ⟨k + 1, by omega, by go_num, hK.setCell (.inl (Nat.le_refl _)) _, HR.out.upToNext (by have := HVL.out; omega) HV.out⟩
        case measure => simp [intOf]; omega
      · have hkn : k = n := by omega
        subst hkn
        have hR2 : Row wr w.heap.size 24 (ints .u32 A) := by
          have := hR
          rw [← hvl, upTo_all] at this
          exact this
        go_wp2_with fail
        go_ret
        exact ⟨_, _, rfl, hK, (fun h => by cases h), fun _ => ⟨rfl, hR2⟩⟩

set_option maxHeartbeats 400000 in
theorem clone11 (n cp : Nat) (ap : Option Addr) (A : List Nat) (w : World) (hap : Nums .u16 w ap n A) (hnil : ap = none → n = 0 ∧ cp = 0) (hA : A.length = n) (hn : n ≤ 1048576) :
    Calls Trym.prog 11 #[.slice ap n cp] w fun e w' => Cloned 34 n (ints .u16 A) w e w' := by
  have hnl := fun (w : World) (a : Option Addr) (n c n' c' : Nat) => Lib.run_eql_slice_nil (P := Trym.prog) w _ _ a n c n' c' Trym.underlying23
  have hmk := fun w => run_make1 (P := Trym.prog) w 23 34 (.int .u16 0) 2 Trym.underlying23 Trym.infoU16 rfl n (by omega) (by omega)
  cases ap with
  | none =>
    obtain ⟨rfl, rfl⟩ := hnil rfl
    go_enter Trym.func11, Trym.ntmps11
    go_wp2_with fail
    go_ret
    exact ⟨none, 0, rfl, Kept.refl _ _, fun _ => ⟨rfl, rfl⟩, fun h => by omega⟩
  | some x =>
    have hvl : (ints .u16 A).length = n := by simp [ints, hA]
    go_enter Trym.func11, Trym.ntmps11
    go_wp2_with fail
    have r0 : Row (w.alloc (.cells (Array.replicate n (.int .u16 0)) 34)) w.heap.size 34 (upTo (ints .u16 A) (.int .u16 0) 0) := by
      rw [upTo_zero, hvl]; exact Row.newRep _ _ _ _ _ rfl
    have k0 := (Kept.refl [] w).alloc (.cells (Array.replicate n (.int .u16 0)) 34)
    generalize w.alloc (.cells (Array.replicate n (.int .u16 0)) 34) = w1 at *
    go_loopw [4] (fun i wr => ∃ k : Nat, k ≤ n ∧ i = .int .i64 k ∧ Kept [] w wr ∧ Row wr w.heap.size 34 (upTo (ints .u16 A) (.int .u16 0) k)) (fun i _ => n - (intOf i).toNat)
    case atStart => exact ⟨0, Nat.zero_le _, rfl, k0, r0⟩
    case round =>
      obtain ⟨k, hk, rfl, hK, hR⟩ := hrel
      clear k0 r0
      by_cases hlt : k < n
      · obtain ⟨b, off, hx, hc⟩ := hap (by omega)
        cases hx
        have h1 := hK.cell (hc k hlt) (by simp)
        have h2 := hR.cell k
        rw [upTo_get _ _ _ (by omega)] at h2
        have h3 := hR.free k
        have hv : (ints .u16 A)[k]? = some (.int .u16 ((A.getD k 0 : Nat) : Int)) := ints_get .u16 A k (by omega)
        have HR := (show Hid (Row wr w.heap.size 34 (upTo (ints .u16 A) (.int .u16 0) k)) from hR)
        have HV := (show Hid _ from hv)
        have HVL := (show Hid _ from hvl)
        clear hv hR hap hc hmk hnl hvl
        generalize A.getD k 0 = v at *
        go_wp2_with fail
        go_roundw
        case rel => exact ⟨k + 1, by omega, by go_num, hK.setCell (.inl (Nat.le_refl _)) _, HR.out.upToNext (by have := HVL.out; omega) HV.out⟩
        case measure => simp [intOf]; omega
      · have hkn : k = n := by omega
        subst hkn
        have hR2 : Row wr w.heap.size 34 (ints .u16 A) := by
          have := hR
          rw [← hvl, upTo_all] at this
          exact this
        go_wp2_with fail
        go_ret
        exact ⟨_, _, rfl, hK, (fun h => by cases h), fun _ => ⟨rfl, hR2⟩⟩


end Go.Proofs.Qxb6000070aMods
