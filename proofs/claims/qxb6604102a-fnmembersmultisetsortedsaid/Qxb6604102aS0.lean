/-
  Our program's cmp.isNaN, cmp.Less (its slices' sort at ReplicaID, a uint32), walked: turned to this program from the guide's worked walk of the same function over its toy (Walk0).
-/
import Derived.Test.Qxb6604102aProg
import Derived.Sort.Walk0
import Derived.Sort.WalkB12
namespace Go.Proofs.Qxb6604102a
open Go.Proofs Go.RowKit Go.Sort
abbrev encU : Int → Value := fun x => Value.int .u32 x

set_option maxHeartbeats 1000000 in
theorem Sx.cmp_isNaN_int (x : Int) (w : World) : Calls Try.prog 36 #[.int .u32 x] w fun e w' => e = .returned (.bool false) ∧ w' = w := by
  go_enter Try.func36, Try.ntmps36
  go_wp2
  go_ret
  exact ⟨by simp, rfl⟩

set_option maxHeartbeats 1000000 in
/-- cmp.Less[int]: IT RETURNS 'Sort.ltInt x y'; the world is as it was. -/
theorem Sx.cmp_Less_int (x y : Int) (w : World) : Calls Try.prog 26 #[.int .u32 x, .int .u32 y] w fun e w' => e = .returned (.bool (Sort.ltInt x y)) ∧ w' = w := by
  go_enter Try.func26, Try.ntmps26
  go_wp2_with (go_at_call 36; refine (Sx.cmp_isNaN_int _ _).mono ?_; rintro e w' ⟨rfl, rfl⟩)
  go_ret
  exact ⟨rfl, rfl⟩
end Go.Proofs.Qxb6604102a
