import Derived.Test.YbulkauxoModel
namespace Go.Proofs.Ybulkauxo
open Go.RowKit

set_option maxRecDepth 100000 in
theorem good_any (vs : Nat → Nat) (n s t b o c vb tb : Nat) (w : World) (hs : s < n) (hv0 : w.cell? ⟨vb, 0, none⟩ = some (.slice (some ⟨b, o, none⟩) n c)) (hv : w.cell? ⟨b, o + s, none⟩ = some (.int .u8 (vs s : Int))) (ht : w.cell? ⟨tb, 0, none⟩ = some (.int .i64 (t : Int))) :
    Calls Yba.prog 5 #[.int .i64 (s : Int), .pointer (some ⟨vb, 0, none⟩), .pointer (some ⟨tb, 0, none⟩)] w fun e w' => e = .returned (.bool (good vs t s)) ∧ ∃ q, w' = w.drewN q := by
  have e5 : ((vs s : Int).tmod 5) = ((vs s % 5 : Nat) : Int) := rfl
  have e3 : ((vs s : Int).tmod 3) = ((vs s % 3 : Nat) : Int) := rfl
  have l3 : vs s % 3 < 3 := Nat.mod_lt _ (by decide)
  have l5 : vs s % 5 < 5 := Nat.mod_lt _ (by decide)
  by_cases h5 : vs s % 5 = 0
  · have hg : good vs t s = false := by
      unfold good
      rw [decide_eq_false (by simpa using h5)]
      rfl
    rw [hg]
    rw [h5] at e5
    clear hg e3 h5
    go_enter Yba.func5, Yba.ntmps5
    go_wp2_with fail
    go_quiet (fail)
    go_wp2_with fail
    go_ret
    exact ⟨rfl, _, rfl⟩
  · have hg : good vs t s = decide (vs s % 3 = t) := by
      unfold good
      rw [decide_eq_true h5, Bool.true_and]
    rw [hg]
    clear hg
    generalize vs s % 5 = F at *
    generalize vs s % 3 = T at *
    have hF : decide ((F : Int) = 0) = false := decide_eq_false (by omega)
    go_enter Yba.func5, Yba.ntmps5
    go_wp2_with fail
    go_quiet (fail)
    go_wp2_with fail
    go_ret
    refine ⟨?_, _, rfl⟩
    have hw : IntKind.i64.wrap (T : Int) = (T : Int) := by rw [IntKind.wrap_i64]; omega
    have h1 : ((F : Int) != 0) = true := by simpa using h5
    show Ending.returned (.bool ((F : Int) != 0 && IntKind.i64.wrap (T : Int) == (t : Int))) = _
    rw [hw, h1, Bool.true_and]
    congr 2
    by_cases h : T = t
    · subst h
      simp
    · rw [decide_eq_false h]
      have : ¬ ((T : Int) = (t : Int)) := by omega
      simpa using this
end Go.Proofs.Ybulkauxo
