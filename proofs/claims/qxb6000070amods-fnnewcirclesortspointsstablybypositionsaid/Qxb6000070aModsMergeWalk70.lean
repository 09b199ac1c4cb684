/-
  stableOrderByPosition, sameStrings: the walks.
-/
import Derived.Test.Qxb6000070aModsMerge
import Derived.Test.Qxb6000070aModsClone
import Derived.Deep.QuietTactic
import Derived.BigQuiet
import Derived.Deep.CutRange
namespace Go.Proofs.Qxb6000070aMods
open Go.RowKit

theorem KStable.mem {key : Nat → Nat} {A B : List Nat} (h : KStable key A B) {v : Nat} (hv : v ∈ B) : v ∈ A := by
  have h1 : v ∈ B.filter (fun p => key p == key v) := List.mem_filter.2 ⟨hv, by simp⟩
  rw [h.2] at h1
  exact (List.mem_filter.1 h1).1
theorem seg_mem {l : List Nat} {a b v : Nat} (h : v ∈ seg l a b) : v ∈ l := List.mem_of_mem_drop (List.mem_of_mem_take h)
theorem Runs.mem {key : Nat → Nat} {A src : List Nat} {w n : Nat} (h : Runs key A src w n) (hw : 1 ≤ w) {i : Nat} (hi : i < n) : src.getD i 0 ∈ A := by
  have e1 : (i / w) * w ≤ i := Nat.div_mul_le_self i w
  have e2 : i < (i / w) * w + w := by
    have := Nat.lt_div_mul_add (a := i) (b := w) (by omega)
    omega
  have k := h.2 (i / w)
  generalize (i / w) * w = b at e1 e2 k
  have hl : (seg src b (min (b + w) n)).length = min (b + w) n - b := seg_len _ _ _ (by rw [h.1]; omega)
  have hg := seg_get src b (min (b + w) n) (i - b) (by omega)
  rw [show b + (i - b) = i by omega] at hg
  rw [← hg]
  apply seg_mem (a := b) (b := min (b + w) n)
  apply k.mem
  rw [List.getD, List.getElem?_eq_getElem (by omega)]
  exact List.getElem_mem _

/-- The place i is ordered by the position of the point that lies there. -/
def kpos (A : List Nat) (i : Nat) : Nat := pos (A.getD i 0)

/-- What stableOrderByPosition leaves. -/
def Ordered (n : Nat) (A : List Nat) (w : World) (e : Ending) (w' : World) : Prop :=
  ∃ S B, e = .returned (.slice (some ⟨S, 0, none⟩) n n) ∧ Kept [] w w' ∧ w.heap.size ≤ S ∧ B.length = n ∧ Row w' S 3 (ints .i64 B) ∧ KStable (kpos A) (List.range n) B

set_option maxHeartbeats 16000000 in
set_option maxRecDepth 100000 in
theorem order_any (n cp : Nat) (ap : Option Addr) (A : List Nat) (w : World) (hap : Nums .u64 w ap n A) (hA : A.length = n) (hn : n < 131074) :
    Calls Trym.prog 21 #[.slice ap n cp] w fun e w' => Ordered n A w e w' := by
  have hmk := fun w => run_make1 (P := Trym.prog) w 42 3 (.int .i64 0) 8 Trym.underlying42 Trym.infoInt rfl n (by omega) (by omega)
  have hvl : (ints .i64 (List.range n)).length = n := by simp [ints]
  go_enter Trym.func21, Trym.ntmps21
  go_wp2_with fail
  have r0 : Row ((w.alloc (.cells (Array.replicate n (.int .i64 0)) 3)).alloc (.cells (Array.replicate n (.int .i64 0)) 3)) w.heap.size 3 (upTo (ints .i64 (List.range n)) (.int .i64 0) 0) := by
    rw [upTo_zero, hvl]; exact (Row.newRep _ _ _ _ _ rfl).alloc _
  have rD0 : Row ((w.alloc (.cells (Array.replicate n (.int .i64 0)) 3)).alloc (.cells (Array.replicate n (.int .i64 0)) 3)) (w.heap.size + 1) 3 (ints .i64 (List.replicate n 0)) := by
    rw [ints, List.map_replicate]; exact Row.newRep _ _ _ _ _ (by simp)
  have k0 := ((Kept.refl [] w).alloc (.cells (Array.replicate n (.int .i64 0)) 3)).alloc (.cells (Array.replicate n (.int .i64 0)) 3)
  have sSD : w.heap.size ≤ w.heap.size + 1 := by omega
  have nSD : w.heap.size ≠ w.heap.size + 1 := by omega
  generalize (w.alloc (.cells (Array.replicate n (.int .i64 0)) 3)).alloc (.cells (Array.replicate n (.int .i64 0)) 3) = w1 at *
  generalize w.heap.size + 1 = Db at *
  clear hmk
  go_loopw [6] (fun i wr => ∃ k : Nat, k ≤ n ∧ i = .int .i64 k ∧ Kept [] w wr ∧ Row wr w.heap.size 3 (upTo (ints .i64 (List.range n)) (.int .i64 0) k) ∧ Row wr Db 3 (ints .i64 (List.replicate n 0))) (fun i _ => n - (intOf i).toNat)
  case atStart => exact ⟨0, Nat.zero_le _, rfl, k0, r0, rD0⟩
  case round =>
  clear k0 r0 rD0
  obtain ⟨k, hk, rfl, hK, hR, rD⟩ := hrel
  by_cases hlt : k < n
  · have h2 := hR.cell k
    rw [upTo_get _ _ _ (by omega)] at h2
    have h3 := hR.free k
    have HV : Hid ((ints .i64 (List.range n))[k]? = some (.int .i64 (k : Int))) := by
      show (ints .i64 (List.range n))[k]? = some (.int .i64 (k : Int))
      simp [ints, hlt]
    have HR := (show Hid (Row wr w.heap.size 3 (upTo (ints .i64 (List.range n)) (.int .i64 0) k)) from hR)
    have HVL := (show Hid _ from hvl)
    clear hR hvl hap
    go_wp2_with fail
    go_roundw
    case rel => exact ⟨k + 1, by omega, by go_num, hK.setCell (.inl (Nat.le_refl _)) _, HR.out.upToNext (by have := HVL.out; omega) HV.out, rD.other _ (by simpa using nSD.symm) _⟩
    case measure => simp [intOf]; omega
  have hkn : n = k := by omega
  subst hkn
  have rS : Row wr w.heap.size 3 (ints .i64 (List.range n)) := by
    have e := upTo_all (ints .i64 (List.range n)) (.int .i64 0)
    rw [hvl] at e
    rw [e] at hR
    exact hR
  have hrun := Runs.start (kpos A) (List.range n) n List.length_range
  clear hR hlt hk hvl
  go_wp2_with fail
  go_loopw [4, 5, 7] (fun s d x wr => ∃ (sb db wd : Nat) (src D : List Nat), s = .slice (some ⟨sb, 0, none⟩) n n ∧ d = .slice (some ⟨db, 0, none⟩) n n ∧ x = .int .i64 wd ∧ 1 ≤ wd ∧ wd ≤ 262148 ∧ sb ≠ db ∧ w.heap.size ≤ sb ∧ w.heap.size ≤ db ∧
      Row wr sb 3 (ints .i64 src) ∧ Row wr db 3 (ints .i64 D) ∧ D.length = n ∧ Runs (kpos A) (List.range n) src wd n ∧ Kept [] w wr) (fun _ _ x _ => n - (intOf x).toNat)
  case atStart => exact ⟨w.heap.size, Db, 1, List.range n, List.replicate n 0, rfl, rfl, rfl, by omega, by omega, nSD, Nat.le_refl _, sSD, rS, rD, List.length_replicate, hrun, hK⟩
  case round =>
  clear rD rS nSD sSD hrun hK
  obtain ⟨sb, db, wd, src, D, rfl, rfl, rfl, hw1, hw2, nsd, ssb, sdb, rS, rD, hDl, hrun, hK⟩ := hrel
  by_cases hwn : wd < n
  · obtain ⟨wo, hwo⟩ : ∃ wo : World, wo = wr := ⟨_, rfl⟩
    rw [← hwo] at rS rD hK
    rw [← hwo]
    clear hwo
    obtain ⟨pb, off, rfl, hc⟩ := hap (by omega)
    clear hap
    have HC : Hid (∀ i, i < n → wo.cell? ⟨pb, off + i, none⟩ = some (.int .u64 ((A.getD i 0 : Nat) : Int)) ∧ pb ≠ db) := by
      intro i hi
      have hb := World.block_lt_of_cell? w _ (hc i hi)
      have hb2 : pb < w.heap.size := hb
      exact ⟨hK.cell (hc i hi) (by simp), by omega⟩
    clear hc
    have HRUN := (show Hid _ from hrun)
    have HMEM : Hid (∀ i, i < n → src.getD i 0 < n) := fun i hi => List.mem_range.1 (Runs.mem HRUN.out hw1 hi)
    have hsl : src.length = n := hrun.1
    clear hrun
    go_wp2_with fail
    go_loopw [8] (fun x wr => ∃ t : Nat, x = .int .i64 ((t * (2 * wd) : Nat) : Int) ∧ t * (2 * wd) < n + 2 * wd ∧ Row wr db 3 (ints .i64 (passTo (kpos A) src wd n D t)) ∧ Kept [db] wo wr) (fun x _ => n - (intOf x).toNat)
    case atStart => exact ⟨0, by simp, by omega, rD, Kept.refl _ _⟩
    case round =>
    obtain ⟨t, rfl, htn, rDt, hKt⟩ := hrel
    generalize hle : t * (2 * wd) = lo at *
    have HLE := (show Hid _ from hle)
    clear hle
    by_cases hlo : lo < n
    · have hmd : midOf wd n t = min (lo + wd) n := by unfold midOf; rw [HLE.out]
      have hhi : hiOf wd n t = min (lo + 2 * wd) n := by unfold hiOf; rw [HLE.out]
      have m1 : lo ≤ midOf wd n t := by omega
      have m2 : midOf wd n t ≤ hiOf wd n t := by omega
      have m3 : hiOf wd n t ≤ n := by omega
      have m4 : lo < hiOf wd n t := by omega
      have hpl : (pairOf (kpos A) src wd n t).length = hiOf wd n t - lo := by rw [pair_len (kpos A) src wd n t hsl (by have := HLE.out; omega)]; rw [HLE.out]
      have hpe : pairOf (kpos A) src wd n t = mrg (kpos A) (seg src lo (midOf wd n t)) (seg src (midOf wd n t) (hiOf wd n t)) := by unfold pairOf; rw [HLE.out]
      have HPS : Hid (passTo (kpos A) src wd n D (t + 1) = lay (passTo (kpos A) src wd n D t) lo (pairOf (kpos A) src wd n t) (hiOf wd n t - lo)) := by
        show passTo (kpos A) src wd n D (t + 1) = _
        rw [passTo, HLE.out]
      have hptl : (passTo (kpos A) src wd n D t).length = n := by rw [passTo_len]; exact hDl
      generalize pairOf (kpos A) src wd n t = ms at *
      generalize passTo (kpos A) src wd n D t = Dt at *
      generalize midOf wd n t = mid at *
      generalize hiOf wd n t = hi at *
      obtain ⟨wz, hwz⟩ : ∃ wz : World, wz = wr := ⟨_, rfl⟩
      rw [← hwz] at rDt hKt
      rw [← hwz]
      clear hwz
      have HPE := (show Hid _ from hpe)
      have HPL := (show Hid _ from hpl)
      have HSL := (show Hid _ from hsl)
      have HTL := (show Hid _ from hptl)
      have HMD := (show Hid _ from hmd)
      have HHI := (show Hid _ from hhi)
      clear hpe hpl hptl hsl hmd hhi
      go_upto_if 46 with fail
      go_cut [9] from 34 to 131 (fun m wx => m = .int .i64 (mid : Int) ∧ wx = wz)
      case first =>
        by_cases hg : n < lo + wd
        · have hg2 : (n : Int) < (lo : Int) + (wd : Int) := by omega
          go_wp2_with fail
          go_meet
          case rel => exact ⟨congrArg (Value.int .i64) (by have := HMD.out; omega), rfl⟩
        · have hg2 : ¬ (n : Int) < (lo : Int) + (wd : Int) := by omega
          go_wp2_with fail
          go_meet
          case rel => exact ⟨congrArg (Value.int .i64) (by have := HMD.out; omega), rfl⟩
      case rest =>
      obtain ⟨rfl, hwc⟩ := hcut
      rw [hwc]
      clear hwc
      go_upto_if 54 with fail
      go_cut [10] from 34 to 131 (fun m wx => m = .int .i64 (hi : Int) ∧ wx = wz)
      case first =>
        by_cases hg : n < lo + 2 * wd
        · have hg2 : (n : Int) < (lo : Int) + 2 * (wd : Int) := by omega
          go_wp2_with fail
          go_meet
          case rel => exact ⟨congrArg (Value.int .i64) (by have := HHI.out; omega), rfl⟩
        · have hg2 : ¬ (n : Int) < (lo : Int) + 2 * (wd : Int) := by omega
          go_wp2_with fail
          go_meet
          case rel => exact ⟨congrArg (Value.int .i64) (by have := HHI.out; omega), rfl⟩
      case rest =>
      obtain ⟨rfl, hwc⟩ := hcut
      rw [hwc]
      clear hwc
      go_wp2_with fail
      go_loopw [11, 12, 13] (fun a b c wr => ∃ i j u : Nat, lo ≤ i ∧ i ≤ mid ∧ mid ≤ j ∧ j ≤ hi ∧ u + lo + mid = i + j ∧ a = .int .i64 i ∧ b = .int .i64 j ∧ c = .int .i64 ((lo + u : Nat) : Int) ∧ ms.drop u = mrg (kpos A) (seg src i mid) (seg src j hi) ∧
          Row wr db 3 (ints .i64 (lay Dt lo ms u)) ∧ Kept [db] wo wr) (fun _ _ c _ => hi - (intOf c).toNat)
      case atStart => exact ⟨lo, mid, 0, by omega, by omega, by omega, by omega, by omega, rfl, rfl, rfl, by rw [List.drop_zero]; exact HPE.out, rDt, hKt⟩
      case round =>
      clear rDt hKt
      obtain ⟨i, j, u, a1, a2, a3, a4, a5, rfl, rfl, rfl, hdr, rDk, hKk⟩ := hrel
      have rSk := hKk.row rS (by simpa using nsd)
      have c1 : (0 : Int) ≤ (i : Int) := by omega
      have c2 : (0 : Int) ≤ (j : Int) := by omega
      by_cases hij : i < mid ∧ j < hi
      · obtain ⟨hi1, hj1⟩ := hij
        have gD := rDk.int (lo + u) (by rw [lay_len]; have := HTL.out; omega)
        have gDf := rDk.free (lo + u)
        generalize (lay Dt lo ms u).getD (lo + u) 0 = z at gD
        have gx := rSk.int i (by have := HSL.out; omega)
        have c3 : (i : Int) < (n : Int) := by omega
        have c4 : (i : Int) < (mid : Int) := by omega
        have gy := rSk.int j (by have := HSL.out; omega)
        have c5 : (j : Int) < (n : Int) := by omega
        have c6 : (j : Int) < (hi : Int) := by omega
        have lx := HMEM.out i (by omega)
        have ly := HMEM.out j (by omega)
        have px := hKk.cell (HC.out _ lx).1 (by simpa using (HC.out _ lx).2)
        have py := hKk.cell (HC.out _ ly).1 (by simpa using (HC.out _ ly).2)
        rw [seg_cons src i mid hi1 (by have := HSL.out; omega), seg_cons src j hi hj1 (by have := HSL.out; omega)] at hdr
        by_cases hp : kpos A (src.getD i 0) ≤ kpos A (src.getD j 0)
        · rw [mrg_left (kpos A) _ _ _ _ hp, ← seg_cons src j hi hj1 (by have := HSL.out; omega)] at hdr
          have hst := drop_step hdr
          have HST := (show Hid _ from hst)
          have HRD := (show Hid (Row wr db 3 (ints .i64 (lay Dt lo ms u))) from rDk)
          clear hst hdr rDk
          generalize src.getD i 0 = x at *
          generalize src.getD j 0 = y at *
          unfold kpos at hp
          have d1 : (0 : Int) ≤ (x : Int) := by omega
          have d2 : (0 : Int) ≤ (y : Int) := by omega
          have d3 : (x : Int) < (n : Int) := by omega
          have d4 : (y : Int) < (n : Int) := by omega
          generalize A.getD x 0 = vx at *
          generalize A.getD y 0 = vy at *
          have qx := div_pos vx
          have qy := div_pos vy
          have c7 : decide (((pos vy : Nat) : Int) < ((pos vx : Nat) : Int)) = false := decide_eq_false (by omega)
          go_wp2_with fail
          go_quiet (fail)
          go_wp2_with fail
          go_roundw
          case rel =>
            refine ⟨i + 1, j, u + 1, by omega, by omega, by omega, by omega, by omega, by go_num, rfl, by go_num, HST.out.2, ?_, (hKk.drewN _).setCell (.inr (by simp)) _⟩
            rw [lay, HST.out.1]
            exact Row.setInt (w := wr.drewN nq) HRD.out (lo + u) x
          case measure => simp [intOf]; omega
        · rw [mrg_right (kpos A) _ _ _ _ (by omega), ← seg_cons src i mid hi1 (by have := HSL.out; omega)] at hdr
          have hst := drop_step hdr
          have HST := (show Hid _ from hst)
          have HRD := (show Hid (Row wr db 3 (ints .i64 (lay Dt lo ms u))) from rDk)
          clear hst hdr rDk
          generalize src.getD j 0 = y at *
          generalize src.getD i 0 = x at *
          unfold kpos at hp
          have d1 : (0 : Int) ≤ (x : Int) := by omega
          have d2 : (0 : Int) ≤ (y : Int) := by omega
          have d3 : (x : Int) < (n : Int) := by omega
          have d4 : (y : Int) < (n : Int) := by omega
          generalize A.getD x 0 = vx at *
          generalize A.getD y 0 = vy at *
          have qx := div_pos vx
          have qy := div_pos vy
          have c7 : ((pos vy : Nat) : Int) < ((pos vx : Nat) : Int) := by omega
          go_wp2_with fail
          go_quiet (fail)
          go_wp2_with fail
          go_roundw
          case rel =>
            refine ⟨i, j + 1, u + 1, by omega, by omega, by omega, by omega, by omega, rfl, by go_num, by go_num, HST.out.2, ?_, (hKk.drewN _).setCell (.inr (by simp)) _⟩
            rw [lay, HST.out.1]
            exact Row.setInt (w := wr.drewN nq) HRD.out (lo + u) y
          case measure => simp [intOf]; omega
      have two : (i < mid ∧ j = hi) ∨ i = mid := by omega
      have HDR := (show Hid _ from hdr)
      clear hdr hij
      have fin : i = mid ∨ j = hi := by omega
      rcases two with ⟨t1, t2⟩ | t1
      · have c4 : (i : Int) < (mid : Int) := by omega
        have c6 : decide ((j : Int) < (hi : Int)) = false := decide_eq_false (by omega)
        clear t1 t2
        go_wp2_with fail
        go_loopw [11, 13] (fun a c wr => ∃ i u : Nat, lo ≤ i ∧ i ≤ mid ∧ u + lo + mid = i + j ∧ (i = mid ∨ j = hi) ∧ a = .int .i64 i ∧ c = .int .i64 ((lo + u : Nat) : Int) ∧ ms.drop u = mrg (kpos A) (seg src i mid) (seg src j hi) ∧
            Row wr db 3 (ints .i64 (lay Dt lo ms u)) ∧ Kept [db] wo wr) (fun _ c _ => hi - (intOf c).toNat)
        case atStart => exact ⟨i, u, a1, a2, a5, fin, rfl, rfl, HDR.out, rDk, hKk⟩
        case round =>
        clear rDk hKk HDR a1 a2 a5 fin c1 c4 rSk
        obtain ⟨i, u, a1, a2, a5, fin, rfl, rfl, hdr, rDk, hKk⟩ := hrel
        have rSk := hKk.row rS (by simpa using nsd)
        have c1 : (0 : Int) ≤ (i : Int) := by omega
        by_cases hi1 : i < mid
        · have gD := rDk.int (lo + u) (by rw [lay_len]; have := HTL.out; omega)
          have gDf := rDk.free (lo + u)
          generalize (lay Dt lo ms u).getD (lo + u) 0 = z at gD
          have gx := rSk.int i (by have := HSL.out; omega)
          have hj2 : hi ≤ j := by omega
          rw [seg_cons src i mid hi1 (by have := HSL.out; omega), seg_nil src j hi hj2, mrg_nil_right] at hdr
          have hdr2 : ms.drop u = src.getD i 0 :: mrg (kpos A) (seg src (i + 1) mid) (seg src j hi) := by rw [seg_nil src j hi hj2, mrg_nil_right]; exact hdr
          have HST := (show Hid _ from drop_step hdr2)
          have HRD := (show Hid (Row wr db 3 (ints .i64 (lay Dt lo ms u))) from rDk)
          clear hdr hdr2 rDk
          generalize src.getD i 0 = x at *
          go_wp2_with fail
          go_roundw
          case rel =>
            refine ⟨i + 1, u + 1, by omega, by omega, by omega, by omega, by go_num, by go_num, HST.out.2, ?_, hKk.setCell (.inr (by simp)) _⟩
            rw [lay, HST.out.1]
            exact Row.setInt HRD.out (lo + u) x
          case measure => simp [intOf]; omega
        have hie : i = mid := by omega
        rw [seg_nil src i mid (by omega), mrg_nil_left] at hdr
        have HDR := (show Hid _ from hdr)
        clear hdr
        go_wp2_with fail
        go_loopw [12, 13] (fun b c wr => ∃ j u : Nat, mid ≤ j ∧ j ≤ hi ∧ u + lo = j ∧ b = .int .i64 j ∧ c = .int .i64 ((lo + u : Nat) : Int) ∧ ms.drop u = seg src j hi ∧
            Row wr db 3 (ints .i64 (lay Dt lo ms u)) ∧ Kept [db] wo wr) (fun _ c _ => hi - (intOf c).toNat)
        case atStart => exact ⟨j, u, a3, a4, by omega, rfl, rfl, HDR.out, rDk, hKk⟩
        case round =>
        clear rDk hKk HDR a1 a2 a3 a4 a5 fin c1 c2 rSk hie hi1
        obtain ⟨j, u, a3, a4, a5, rfl, rfl, hdr, rDk, hKk⟩ := hrel
        have rSk := hKk.row rS (by simpa using nsd)
        have c2 : (0 : Int) ≤ (j : Int) := by omega
        by_cases hj1 : j < hi
        · have gD := rDk.int (lo + u) (by rw [lay_len]; have := HTL.out; omega)
          have gDf := rDk.free (lo + u)
          generalize (lay Dt lo ms u).getD (lo + u) 0 = z at gD
          have gy := rSk.int j (by have := HSL.out; omega)
          rw [seg_cons src j hi hj1 (by have := HSL.out; omega)] at hdr
          have HST := (show Hid _ from drop_step hdr)
          have HRD := (show Hid (Row wr db 3 (ints .i64 (lay Dt lo ms u))) from rDk)
          clear hdr rDk
          generalize src.getD j 0 = y at *
          go_wp2_with fail
          go_roundw
          case rel =>
            refine ⟨j + 1, u + 1, by omega, by omega, by omega, by go_num, by go_num, HST.out.2, ?_, hKk.setCell (.inr (by simp)) _⟩
            rw [lay, HST.out.1]
            exact Row.setInt HRD.out (lo + u) y
          case measure => simp [intOf]; omega
        have hu : hi - lo = u := by omega
        have HN : Hid (Row wr db 3 (ints .i64 (passTo (kpos A) src wd n D (t + 1)))) := by
          rw [HPS.out, hu]; exact rDk
        have HL2 : Hid ((t + 1) * (2 * wd) = lo + 2 * wd) := by
          show (t + 1) * (2 * wd) = lo + 2 * wd
          rw [Nat.succ_mul, HLE.out]
        clear rDk hdr hu
        go_wp2_with fail
        go_roundw
        case rel => exact ⟨t + 1, by rw [HL2.out]; go_num, by rw [HL2.out]; omega, HN.out, hKk⟩
        case measure => simp [intOf]; omega
      · have c4 : ¬ (i : Int) < (mid : Int) := by omega
        clear t1
        go_wp2_with fail
        go_loopw [11, 13] (fun a c wr => ∃ i u : Nat, lo ≤ i ∧ i ≤ mid ∧ u + lo + mid = i + j ∧ (i = mid ∨ j = hi) ∧ a = .int .i64 i ∧ c = .int .i64 ((lo + u : Nat) : Int) ∧ ms.drop u = mrg (kpos A) (seg src i mid) (seg src j hi) ∧
            Row wr db 3 (ints .i64 (lay Dt lo ms u)) ∧ Kept [db] wo wr) (fun _ c _ => hi - (intOf c).toNat)
        case atStart => exact ⟨i, u, a1, a2, a5, fin, rfl, rfl, HDR.out, rDk, hKk⟩
        case round =>
        clear rDk hKk HDR a1 a2 a5 fin c1 c4 rSk
        obtain ⟨i, u, a1, a2, a5, fin, rfl, rfl, hdr, rDk, hKk⟩ := hrel
        have rSk := hKk.row rS (by simpa using nsd)
        have c1 : (0 : Int) ≤ (i : Int) := by omega
        by_cases hi1 : i < mid
        · have gD := rDk.int (lo + u) (by rw [lay_len]; have := HTL.out; omega)
          have gDf := rDk.free (lo + u)
          generalize (lay Dt lo ms u).getD (lo + u) 0 = z at gD
          have gx := rSk.int i (by have := HSL.out; omega)
          have hj2 : hi ≤ j := by omega
          rw [seg_cons src i mid hi1 (by have := HSL.out; omega), seg_nil src j hi hj2, mrg_nil_right] at hdr
          have hdr2 : ms.drop u = src.getD i 0 :: mrg (kpos A) (seg src (i + 1) mid) (seg src j hi) := by rw [seg_nil src j hi hj2, mrg_nil_right]; exact hdr
          have HST := (show Hid _ from drop_step hdr2)
          have HRD := (show Hid (Row wr db 3 (ints .i64 (lay Dt lo ms u))) from rDk)
          clear hdr hdr2 rDk
          generalize src.getD i 0 = x at *
          go_wp2_with fail
          go_roundw
          case rel =>
            refine ⟨i + 1, u + 1, by omega, by omega, by omega, by omega, by go_num, by go_num, HST.out.2, ?_, hKk.setCell (.inr (by simp)) _⟩
            rw [lay, HST.out.1]
            exact Row.setInt HRD.out (lo + u) x
          case measure => simp [intOf]; omega
        have hie : i = mid := by omega
        rw [seg_nil src i mid (by omega), mrg_nil_left] at hdr
        have HDR := (show Hid _ from hdr)
        clear hdr
        go_wp2_with fail
        go_loopw [12, 13] (fun b c wr => ∃ j u : Nat, mid ≤ j ∧ j ≤ hi ∧ u + lo = j ∧ b = .int .i64 j ∧ c = .int .i64 ((lo + u : Nat) : Int) ∧ ms.drop u = seg src j hi ∧
            Row wr db 3 (ints .i64 (lay Dt lo ms u)) ∧ Kept [db] wo wr) (fun _ c _ => hi - (intOf c).toNat)
        case atStart => exact ⟨j, u, a3, a4, by omega, rfl, rfl, HDR.out, rDk, hKk⟩
        case round =>
        clear rDk hKk HDR a1 a2 a3 a4 a5 fin c1 c2 rSk hie hi1
        obtain ⟨j, u, a3, a4, a5, rfl, rfl, hdr, rDk, hKk⟩ := hrel
        have rSk := hKk.row rS (by simpa using nsd)
        have c2 : (0 : Int) ≤ (j : Int) := by omega
        by_cases hj1 : j < hi
        · have gD := rDk.int (lo + u) (by rw [lay_len]; have := HTL.out; omega)
          have gDf := rDk.free (lo + u)
          generalize (lay Dt lo ms u).getD (lo + u) 0 = z at gD
          have gy := rSk.int j (by have := HSL.out; omega)
          rw [seg_cons src j hi hj1 (by have := HSL.out; omega)] at hdr
          have HST := (show Hid _ from drop_step hdr)
          have HRD := (show Hid (Row wr db 3 (ints .i64 (lay Dt lo ms u))) from rDk)
          clear hdr rDk
          generalize src.getD j 0 = y at *
          go_wp2_with fail
          go_roundw
          case rel =>
            refine ⟨j + 1, u + 1, by omega, by omega, by omega, by go_num, by go_num, HST.out.2, ?_, hKk.setCell (.inr (by simp)) _⟩
            rw [lay, HST.out.1]
            exact Row.setInt HRD.out (lo + u) y
          case measure => simp [intOf]; omega
        have hu : hi - lo = u := by omega
        have HN : Hid (Row wr db 3 (ints .i64 (passTo (kpos A) src wd n D (t + 1)))) := by
          rw [HPS.out, hu]; exact rDk
        have HL2 : Hid ((t + 1) * (2 * wd) = lo + 2 * wd) := by
          show (t + 1) * (2 * wd) = lo + 2 * wd
          rw [Nat.succ_mul, HLE.out]
        clear rDk hdr hu
        go_wp2_with fail
        go_roundw
        case rel => exact ⟨t + 1, by rw [HL2.out]; go_num, by rw [HL2.out]; omega, HN.out, hKk⟩
        case measure => simp [intOf]; omega
    · go_wp2_with fail
      go_roundw
      case rel => exact ⟨db, sb, 2 * wd, _, src, rfl, rfl, by go_num, by omega, by omega, nsd.symm, sdb, ssb, rDt, hKt.row rS (by simpa using nsd), hsl, Runs.pass HRUN.out D hDl t (by have := HLE.out; omega), hK.then hKt (fun i hi hy => by simp at hy; omega)⟩
      case measure => simp [intOf]; omega
  · go_wp2_with fail
    go_ret
    exact ⟨sb, src, rfl, hK, ssb, hrun.1, rS, hrun.done List.length_range (by omega)⟩

end Go.Proofs.Qxb6000070aMods
