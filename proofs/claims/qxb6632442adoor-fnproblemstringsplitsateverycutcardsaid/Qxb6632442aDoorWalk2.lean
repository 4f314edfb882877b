/-
  SEAT b6632442aD: zzMagnitude.
-/
import Derived.Test.Qxb6632442aDoorWalk1
import Derived.Outline
namespace Go.Proofs.Qxb6632442aDoor
open Go Go.RowKit Txt

theorem mag_neg (x : Int) (h0 : -9223372036854775808 ≤ x) (h1 : x < 0) (w : World) :
    Calls Tryd.prog 11 #[.int .i64 x] w fun e w' => e = .returned (.tuple #[.bool true, .int .u64 (mag x)]) ∧ w' = w := by
  go_enter Tryd.func11, Tryd.ntmps11
  go_wp2
  go_ret2
  refine ⟨?_, rfl⟩
  have : (mag x : Int) = -(x + 1) + 1 := by unfold mag; omega
  rw [this]; rfl

theorem mag_pos (x : Int) (h0 : 0 ≤ x) (h1 : x ≤ 9223372036854775807) (w : World) :
    Calls Tryd.prog 11 #[.int .i64 x] w fun e w' => e = .returned (.tuple #[.bool false, .int .u64 (mag x)]) ∧ w' = w := by
  go_enter Tryd.func11, Tryd.ntmps11
  go_wp2
  go_ret2
  refine ⟨?_, rfl⟩
  have : (mag x : Int) = x := by unfold mag; omega
  rw [this]; rfl

end Go.Proofs.Qxb6632442aDoor
