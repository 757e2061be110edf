import Derived.Test.YbulkauxoLaw
namespace Go.Proofs.Ybulkauxo
open Go.RowKit

set_option maxRecDepth 100000 in
theorem early (a0 a1 : Option Addr) (n c0 k c1 : Nat) (tv : Int) (w : World) (h : 1024 < n ∨ 1024 < k ∨ n = 0) :
    Calls Yba.prog 3 #[.slice a0 n c0, .slice a1 k c1, .int .u8 tv] w fun en w' => en = .returned (.bool true) ∧ Below w.heap.size w w' := by
  have HB1 : Hid (Below w.heap.size w (w.alloc (.cells #[.slice a0 n c0] 22))) := (Below.refl _ _).alloc (Nat.le_refl _) _
  by_cases h1 : 1024 < n
  · clear h
    go_enter Yba.func3, Yba.ntmps3
    go_wp2_with fail
    go_ret
    exact ⟨rfl, HB1.out⟩
  · by_cases h2 : 1024 < k
    · clear h
      go_enter Yba.func3, Yba.ntmps3
      go_wp2_with fail
      go_ret
      exact ⟨rfl, HB1.out⟩
    · obtain rfl : n = 0 := by omega
      clear h
      go_enter Yba.func3, Yba.ntmps3
      go_wp2_with fail
      go_ret
      exact ⟨rfl, HB1.out⟩
end Go.Proofs.Ybulkauxo
