/-
  stableByPosition: the walk.
-/
import Derived.Test.Qxb6000051aModsMerge
import Derived.Test.Qxb6000051aModsClone
import Derived.Deep.QuietTactic
import Derived.BigQuiet
namespace Go.Proofs.Qxb6000051aMods
open Go.RowKit

set_option maxHeartbeats 400000 in
theorem minInt_any (a b : Int) (w : World) : Calls Trym.prog 26 #[.int .i64 a, .int .i64 b] w fun e w' => e = .returned (.int .i64 (min a b)) ∧ w' = w := by
  by_cases h : a < b
  · have hm : min a b = a := by omega
    rw [hm]
    clear hm
    go_enter Trym.func26, Trym.ntmps26
    go_wp2
    go_ret
    exact ⟨rfl, rfl⟩
  · have hm : min a b = b := by omega
    rw [hm]
    clear hm
    go_enter Trym.func26, Trym.ntmps26
    go_wp2
    go_ret
    exact ⟨rfl, rfl⟩

/-- What stableByPosition leaves. -/
def Sorted (n : Nat) (A : List Nat) (w : World) (e : Ending) (w' : World) : Prop :=
  ∃ S B, e = .returned (.slice (some ⟨S, 0, none⟩) n n) ∧ Kept [] w w' ∧ w.heap.size ≤ S ∧ B.length = n ∧ Row w' S 36 (ints .u64 B) ∧ KStable pos A B

set_option maxHeartbeats 8000000 in
set_option maxRecDepth 100000 in
theorem stable_any (n cp : Nat) (ap : Option Addr) (A : List Nat) (w : World) (hap : Nums .u64 w ap n A) (hA : A.length = n) (hn : n < 131074) :
    Calls Trym.prog 11 #[.slice ap n cp] w fun e w' => Sorted n A w e w' := by
  have hmk := fun w => run_make1 (P := Trym.prog) w 23 36 (.int .u64 0) 8 Trym.underlying23 Trym.infoU64 rfl n (by omega) (by omega)
  have hvl : (ints .u64 A).length = n := by simp [ints, hA]
  go_enter Trym.func11, Trym.ntmps11
  go_wp2_with fail
  have r0 : Row (w.alloc (.cells (Array.replicate n (.int .u64 0)) 36)) w.heap.size 36 (upTo (ints .u64 A) (.int .u64 0) 0) := by
    rw [upTo_zero, hvl]; exact Row.newRep _ _ _ _ _ rfl
  have k0 := (Kept.refl [] w).alloc (.cells (Array.replicate n (.int .u64 0)) 36)
  generalize w.alloc (.cells (Array.replicate n (.int .u64 0)) 36) = w1 at *
  go_loopw [5] (fun i wr => ∃ k : Nat, k ≤ n ∧ i = .int .i64 k ∧ Kept [] w wr ∧ Row wr w.heap.size 36 (upTo (ints .u64 A) (.int .u64 0) k)) (fun i _ => n - (intOf i).toNat)
  case atStart => exact ⟨0, Nat.zero_le _, rfl, k0, r0⟩
  case round =>
  obtain ⟨k, hk, rfl, hK, hR⟩ := hrel
  clear k0 r0
  by_cases hlt : k < n
  · obtain ⟨b, off, rfl, hc⟩ := hap (by omega)
    have h1 := hK.cell (hc k hlt) (by simp)
    have h2 := hR.cell k
    rw [upTo_get _ _ _ (by omega)] at h2
    have h3 := hR.free k
    have hv := ints_get .u64 A k (by omega)
    have HR := (show Hid (Row wr w.heap.size 36 (upTo (ints .u64 A) (.int .u64 0) k)) from hR)
    have HV := (show Hid _ from hv)
    have HVL := (show Hid _ from hvl)
    clear hv hR hmk hvl hap hc
    generalize A.getD k 0 = v at *
    go_wp2_with fail
    go_roundw
    case rel => exact ⟨k + 1, by omega, by go_num, hK.setCell (.inl (Nat.le_refl _)) _, HR.out.upToNext (by have := HVL.out; omega) HV.out⟩
    case measure => simp [intOf]; omega
  have hkn : n = k := by omega
  subst hkn
  have rS : Row wr w.heap.size 36 (ints .u64 A) := by
    have := hR
    rw [← hvl, upTo_all] at this
    exact this
  clear hR hlt hk hap hvl
  go_wp2_with fail
  have rD : Row (wr.alloc (.cells (Array.replicate n (.int .u64 0)) 36)) wr.heap.size 36 (ints .u64 (List.replicate n 0)) := by
    rw [ints, List.map_replicate]; exact Row.newRep _ _ _ _ _ rfl
  have rS2 := rS.alloc (.cells (Array.replicate n (.int .u64 0)) 36)
  have k0 := hK.alloc (.cells (Array.replicate n (.int .u64 0)) 36)
  have nSD : w.heap.size ≠ wr.heap.size := by have := rS.lt; omega
  have sSD : w.heap.size ≤ wr.heap.size := by have := rS.lt; omega
  have hrun := Runs.start pos A n hA
  clear rS hK
  generalize wr.alloc (.cells (Array.replicate n (.int .u64 0)) 36) = w2 at *
  generalize hDe : wr.heap.size = Db at *
  clear hDe hmk
  go_loopw [4, 6, 7] (fun s d x wr => ∃ (sb db wd : Nat) (src D : List Nat), s = .slice (some ⟨sb, 0, none⟩) n n ∧ d = .slice (some ⟨db, 0, none⟩) n n ∧ x = .int .i64 wd ∧ 1 ≤ wd ∧ wd ≤ 262148 ∧ sb ≠ db ∧ w.heap.size ≤ sb ∧ w.heap.size ≤ db ∧
      Row wr sb 36 (ints .u64 src) ∧ Row wr db 36 (ints .u64 D) ∧ D.length = n ∧ Runs pos A src wd n ∧ Kept [] w wr) (fun _ _ x _ => n - (intOf x).toNat)
  case atStart => exact ⟨w.heap.size, Db, 1, A, List.replicate n 0, rfl, rfl, rfl, by omega, by omega, nSD, Nat.le_refl _, sSD, rS2, rD, List.length_replicate, hrun, k0⟩
  case round =>
  clear k0 rD rS2 nSD sSD hrun
  obtain ⟨sb, db, wd, src, D, rfl, rfl, rfl, hw1, hw2, nsd, ssb, sdb, rS, rD, hDl, hrun, hK⟩ := hrel
  by_cases hwn : wd < n
  · obtain ⟨wo, hwo⟩ : ∃ wo : World, wo = wr := ⟨_, rfl⟩
    rw [← hwo] at rS rD hK
    rw [← hwo]
    clear hwo
    have HRUN := (show Hid _ from hrun)
    have hsl : src.length = n := hrun.1
    clear hrun
    go_wp2_with fail
    go_loopw [8] (fun x wr => ∃ t : Nat, x = .int .i64 ((t * (2 * wd) : Nat) : Int) ∧ t * (2 * wd) < n + 2 * wd ∧ Row wr db 36 (ints .u64 (passTo pos src wd n D t)) ∧ Kept [db] wo wr) (fun x _ => n - (intOf x).toNat)
    case atStart => exact ⟨0, by simp, by omega, rD, Kept.refl _ _⟩
    case round =>
    obtain ⟨t, rfl, htn, rDt, hKt⟩ := hrel
    generalize hle : t * (2 * wd) = lo at *
    have HLE := (show Hid _ from hle)
    clear hle
    by_cases hlo : lo < n
    · have hmd : min ((lo : Int) + (wd : Int)) (n : Int) = ((midOf wd n t : Nat) : Int) := by have := HLE.out; unfold midOf; omega
      have hhi : min ((lo : Int) + 2 * (wd : Int)) (n : Int) = ((hiOf wd n t : Nat) : Int) := by have := HLE.out; unfold hiOf; omega
      have m1 : lo ≤ midOf wd n t := by have := HLE.out; unfold midOf; omega
      have m2 : midOf wd n t ≤ hiOf wd n t := by unfold midOf hiOf; omega
      have m3 : hiOf wd n t ≤ n := by unfold hiOf; omega
      have m4 : lo < hiOf wd n t := by have := HLE.out; unfold hiOf; omega
      have hpl : (pairOf pos src wd n t).length = hiOf wd n t - lo := by rw [pair_len pos src wd n t hsl (by have := HLE.out; omega)]; rw [HLE.out]
      have hpe : pairOf pos src wd n t = mrg pos (seg src lo (midOf wd n t)) (seg src (midOf wd n t) (hiOf wd n t)) := by unfold pairOf; rw [HLE.out]
      have HPS : Hid (passTo pos src wd n D (t + 1) = lay (passTo pos src wd n D t) lo (pairOf pos src wd n t) (hiOf wd n t - lo)) := by
        show passTo pos src wd n D (t + 1) = _
        rw [passTo, HLE.out]
      have hptl : (passTo pos src wd n D t).length = n := by rw [passTo_len]; exact hDl
      generalize pairOf pos src wd n t = ms at *
      generalize passTo pos src wd n D t = Dt at *
      generalize midOf wd n t = mid at *
      generalize hiOf wd n t = hi at *
      obtain ⟨wz, hwz⟩ : ∃ wz : World, wz = wr := ⟨_, rfl⟩
      rw [← hwz] at rDt hKt
      rw [← hwz]
      clear hwz
      have HPE := (show Hid _ from hpe)
      have HPL := (show Hid _ from hpl)
      have HSL := (show Hid _ from hsl)
      have HTL := (show Hid _ from hptl)
      clear hpe hpl hptl hsl
      go_wp2_with fail
      refine (minInt_any _ _ _).mono ?_
      rintro e w' ⟨rfl, rfl⟩
      rw [hmd]
      clear hmd
      go_wp2_with fail
      refine (minInt_any _ _ _).mono ?_
      rintro e w' ⟨rfl, rfl⟩
      rw [hhi]
      clear hhi
      go_wp2_with fail
      go_loopw [11, 12, 13] (fun a b c wr => ∃ i j u : Nat, lo ≤ i ∧ i ≤ mid ∧ mid ≤ j ∧ j ≤ hi ∧ u + lo + mid = i + j ∧ a = .int .i64 i ∧ b = .int .i64 j ∧ c = .int .i64 ((lo + u : Nat) : Int) ∧ ms.drop u = mrg pos (seg src i mid) (seg src j hi) ∧
          Row wr db 36 (ints .u64 (lay Dt lo ms u)) ∧ Kept [db] wo wr) (fun _ _ c _ => hi - (intOf c).toNat)
      case atStart => exact ⟨lo, mid, 0, by omega, by omega, by omega, by omega, by omega, rfl, rfl, rfl, by rw [List.drop_zero]; exact HPE.out, rDt, hKt⟩
      case round =>
      clear rDt hKt
      obtain ⟨i, j, u, a1, a2, a3, a4, a5, rfl, rfl, rfl, hdr, rDk, hKk⟩ := hrel
      by_cases hku : lo + u < hi
      · have rSk := hKk.row rS (by simpa using nsd)
        have gD := rDk.int (lo + u) (by rw [lay_len]; have := HTL.out; omega)
        have gDf := rDk.free (lo + u)
        generalize (lay Dt lo ms u).getD (lo + u) 0 = z at gD
        have c1 : (0 : Int) ≤ (i : Int) := by omega
        have c2 : (0 : Int) ≤ (j : Int) := by omega
        by_cases hi1 : i < mid
        · have gx := rSk.int i (by have := HSL.out; omega)
          have c3 : (i : Int) < (n : Int) := by omega
          have c4 : (i : Int) < (mid : Int) := by omega
          have qx := div_pos (src.getD i 0)
          rw [seg_cons src i mid hi1 (by have := HSL.out; omega)] at hdr
          by_cases hj1 : j < hi
          · have gy := rSk.int j (by have := HSL.out; omega)
            have c5 : (j : Int) < (n : Int) := by omega
            have c6 : decide ((hi : Int) ≤ (j : Int)) = false := decide_eq_false (by omega)
            have qy := div_pos (src.getD j 0)
            rw [seg_cons src j hi hj1 (by have := HSL.out; omega)] at hdr
            by_cases hp : pos (src.getD i 0) ≤ pos (src.getD j 0)
            · rw [mrg_left pos _ _ _ _ hp, ← seg_cons src j hi hj1 (by have := HSL.out; omega)] at hdr
              have hst := drop_step hdr
              have HST := (show Hid _ from hst)
              have HRD := (show Hid (Row wr db 36 (ints .u64 (lay Dt lo ms u))) from rDk)
              clear hst hdr rDk
              generalize src.getD i 0 = x at *
              generalize src.getD j 0 = y at *
              have c7 : ((pos x : Nat) : Int) ≤ ((pos y : Nat) : Int) := by omega
              go_wp2_with fail
              go_quiet (fail)
              go_wp2_with fail
              go_roundw
              case rel =>
                refine ⟨i + 1, j, u + 1, by omega, by omega, by omega, by omega, by omega, by go_num, rfl, by go_num, HST.out.2, ?_, (hKk.drewN _).setCell (.inr (by simp)) _⟩
                rw [lay, HST.out.1]
                exact Row.setInt (w := wr.drewN nq) HRD.out (lo + u) x
              case measure => simp [intOf]; omega
            · rw [mrg_right pos _ _ _ _ (by omega), ← seg_cons src i mid hi1 (by have := HSL.out; omega)] at hdr
              have hst := drop_step hdr
              have HST := (show Hid _ from hst)
              have HRD := (show Hid (Row wr db 36 (ints .u64 (lay Dt lo ms u))) from rDk)
              clear hst hdr rDk
              generalize src.getD j 0 = y at *
              generalize src.getD i 0 = x at *
              have c7 : decide (((pos x : Nat) : Int) ≤ ((pos y : Nat) : Int)) = false := decide_eq_false (by omega)
              go_wp2_with fail
              go_quiet (fail)
              go_wp2_with fail
              go_roundw
              case rel =>
                refine ⟨i, j + 1, u + 1, by omega, by omega, by omega, by omega, by omega, rfl, by go_num, by go_num, HST.out.2, ?_, (hKk.drewN _).setCell (.inr (by simp)) _⟩
                rw [lay, HST.out.1]
                exact Row.setInt (w := wr.drewN nq) HRD.out (lo + u) y
              case measure => simp [intOf]; omega
          · have hj2 : j = hi := by omega
            rw [seg_nil src j hi (by omega), mrg_nil_right] at hdr
            have hdr2 : ms.drop u = src.getD i 0 :: mrg pos (seg src (i + 1) mid) (seg src j hi) := by rw [seg_nil src j hi (by omega), mrg_nil_right]; exact hdr
            clear hdr
            have hdr := hdr2
            clear hdr2
            have c6 : (hi : Int) ≤ (j : Int) := by omega
            clear hj2
            have hst := drop_step hdr
            have HST := (show Hid _ from hst)
            have HRD := (show Hid (Row wr db 36 (ints .u64 (lay Dt lo ms u))) from rDk)
            clear hst hdr rDk
            generalize src.getD i 0 = x at *
            go_wp2_with fail
            go_quiet (fail)
            go_wp2_with fail
            go_roundw
            case rel =>
              refine ⟨i + 1, j, u + 1, by omega, by omega, by omega, by omega, by omega, by go_num, rfl, by go_num, HST.out.2, ?_, (hKk.drewN _).setCell (.inr (by simp)) _⟩
              rw [lay, HST.out.1]
              exact Row.setInt (w := wr.drewN nq) HRD.out (lo + u) x
            case measure => simp [intOf]; omega
        · have hj1 : j < hi := by omega
          have gy := rSk.int j (by have := HSL.out; omega)
          have c5 : (j : Int) < (n : Int) := by omega
          have c4 : decide ((i : Int) < (mid : Int)) = false := decide_eq_false (by omega)
          rw [seg_cons src j hi hj1 (by have := HSL.out; omega), seg_nil src i mid (by omega), mrg_nil_left] at hdr
          have hdr2 : ms.drop u = src.getD j 0 :: mrg pos (seg src i mid) (seg src (j + 1) hi) := by rw [seg_nil src i mid (by omega), mrg_nil_left]; exact hdr
          clear hdr
          have hdr := hdr2
          clear hdr2
          have hst := drop_step hdr
          have HST := (show Hid _ from hst)
          have HRD := (show Hid (Row wr db 36 (ints .u64 (lay Dt lo ms u))) from rDk)
          clear hst hdr rDk
          generalize src.getD j 0 = y at *
          go_wp2_with fail
          go_quiet (fail)
          go_wp2_with fail
          go_roundw
          case rel =>
            refine ⟨i, j + 1, u + 1, by omega, by omega, by omega, by omega, by omega, rfl, by go_num, by go_num, HST.out.2, ?_, (hKk.drewN _).setCell (.inr (by simp)) _⟩
            rw [lay, HST.out.1]
            exact Row.setInt (w := wr.drewN nq) HRD.out (lo + u) y
          case measure => simp [intOf]; omega
      · have hu : hi - lo = u := by omega
        have HN : Hid (Row wr db 36 (ints .u64 (passTo pos src wd n D (t + 1)))) := by
          rw [HPS.out, hu]; exact rDk
        have HL2 : Hid ((t + 1) * (2 * wd) = lo + 2 * wd) := by
          show (t + 1) * (2 * wd) = lo + 2 * wd
          rw [Nat.succ_mul, HLE.out]
        clear rDk hdr hu
        go_wp2_with fail
        go_roundw
        case rel => exact ⟨t + 1, by rw [HL2.out]; go_num, by rw [HL2.out]; omega, HN.out, hKk⟩
        case measure => simp [intOf]; omega
    · go_wp2_with fail
      go_roundw
      case rel => exact ⟨db, sb, 2 * wd, _, src, rfl, rfl, by go_num, by omega, by omega, nsd.symm, sdb, ssb, rDt, hKt.row rS (by simpa using nsd), hsl, Runs.pass HRUN.out D hDl t (by have := HLE.out; omega), hK.then hKt (fun i hi hy => by simp at hy; omega)⟩
      case measure => simp [intOf]; omega
  · go_wp2_with fail
    go_ret
    exact ⟨sb, src, rfl, hK, ssb, hrun.1, rS, hrun.done hA (by omega)⟩

end Go.Proofs.Qxb6000051aMods
