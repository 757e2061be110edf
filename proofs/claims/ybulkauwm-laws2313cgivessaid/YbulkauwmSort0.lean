import Derived.Test.YbulkauwmRows
import Derived.Test.YbulkauwmBits
import Derived.Sort.WalkA14
namespace Go.Proofs.Ybulkauwm
open Go.RowKit Go.Sort
abbrev encU : Int → Value := fun x => Value.int .u64 x

set_option maxHeartbeats 1000000 in
theorem Yba.cmp_isNaN_int (x : Int) (w : World) : Calls Yba.prog 41 #[.int .u64 x] w fun e w' => e = .returned (.bool false) ∧ w' = w := by
  go_enter Yba.func41, Yba.ntmps41
  go_wp2
  go_ret
  exact ⟨by simp, rfl⟩

set_option maxHeartbeats 1000000 in
theorem Yba.cmp_Less_int (x y : Int) (w : World) : Calls Yba.prog 25 #[.int .u64 x, .int .u64 y] w fun e w' => e = .returned (.bool (Sort.ltInt x y)) ∧ w' = w := by
  go_enter Yba.func25, Yba.ntmps25
  go_wp2_with (go_at_call 41; refine (Yba.cmp_isNaN_int _ _).mono ?_; rintro e w' ⟨rfl, rfl⟩)
  go_ret
  exact ⟨rfl, rfl⟩

end Go.Proofs.Ybulkauwm
