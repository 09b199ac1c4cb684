/-
  circlePoint: a position and an owner as one number.
-/
import Derived.Test.Qxb6000070aModsPlain
namespace Go.Proofs.Qxb6000070aMods
open Go.RowKit

set_option maxHeartbeats 400000 in
theorem point_any (p o : Nat) (w : World) (hp : p < 4294967296) (ho : o < 65536) :
    Calls Trym.prog 32 #[.int .u32 p, .int .i64 o] w fun e w' => e = .returned (.int .u64 ((p * 4294967296 + o : Nat) : Int)) ∧ w' = w := by
  have hor := or_point p o hp ho
  go_enter Trym.func32, Trym.ntmps32
  go_wp2
  go_ret
  exact ⟨rfl, rfl⟩

theorem point_back_any (p : Nat) (w : World) (h64 : p < 18446744073709551616) (ho : p % 4294967296 < 65536) :
    Calls Trym.prog 32 #[.int .u32 (pos p : Nat), .int .i64 (own p : Nat)] w fun e w' => e = .returned (.int .u64 (p : Int)) ∧ w' = w := by
  refine (point_any (pos p) (own p) w (pos_lt p h64) (own_lt p)).mono ?_
  rintro e w' ⟨rfl, rfl⟩
  rw [point_back p ho]
  exact ⟨rfl, rfl⟩

end Go.Proofs.Qxb6000070aMods
