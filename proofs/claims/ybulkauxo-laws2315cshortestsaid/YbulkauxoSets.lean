import Derived.Test.YbulkauxoBase
namespace Go.Proofs.Ybulkauxo
open Go.RowKit

set_option maxRecDepth 100000 in
theorem vset0 (a b : Option Addr) (c d : Nat) (w : World) :
    Calls Yba.prog 13 #[.slice a 0 c, .slice b 0 d] w fun e w' => e = .returned (.slice a 0 c) ∧ w' = w := by
  have C := ints0 a c w
  go_enter Yba.func13, Yba.ntmps13
  go_wp2_with fail
  refine wp_loop_rounds 1 ?_
  rw [rounds_succ]
  go_wp2_with (go_at_call 18; refine C.mono ?_; rintro e w1 ⟨rfl, rfl⟩)
  go_ret
  exact ⟨rfl, rfl⟩

set_option maxRecDepth 100000 in
set_option maxHeartbeats 1000000 in
theorem vset1 (base vb x : Nat) (a : Option Addr) (c d : Nat) (w : World) (hb : base ≤ w.heap.size) (ho : w.ownsRow base 3 1 (.slice a 0 c) 0 []) (hv : w.cell? ⟨vb, 0, none⟩ = some (.int .i64 (x : Int))) :
    Calls Yba.prog 13 #[.slice a 0 c, .slice (some ⟨vb, 0, none⟩) 1 d] w fun e w' => ∃ g c', e = .returned (.slice (some ⟨g, 0, none⟩) 1 c') ∧ w'.ownsRow base 3 1 (.slice (some ⟨g, 0, none⟩) 1 c') 1 [.int .i64 (x : Int)] ∧
      Kin w.heap.size (.slice a 0 c) (.slice (some ⟨g, 0, none⟩) 1 c') ∧ Fr (fun k => Value.ownBlock (.slice a 0 c) = some k) w w' := by
  have CH := has0 a c x w
  have CI : Hid (∀ g cap w4, Calls Yba.prog 18 #[.slice (some ⟨g, 0, none⟩) 1 cap] w4 fun e w' => e = .returned (.tuple #[]) ∧ w' = w4) := fun g cap w4 => ints1 _ _ w4
  obtain ⟨i0, hi0, hz0, hz1, hz2⟩ := info_parts Yba.info3
  have hown : ∀ o, (w.alloc o).ownsRow base 3 1 (.slice a 0 c) 0 [] := fun o => ho.alloc o
  clear ho
  go_enter Yba.func13, Yba.ntmps13
  go_wp2_with fail
  refine wp_loop_rounds 2 ?_
  rw [rounds_succ]
  go_wp2_with (first
    | (go_at_call 17; refine CH.mono ?_; rintro e w ⟨rfl, rfl⟩)
    | (at_builtin; go_must (refine wpList_append_lies _ rfl (.tmp 17) (.tmp 19) 29 rfl base 3 i0 (.int .i64 0) 1 8 Yba.underlying29 hi0 hz0 hz1 hz2 rfl (by decide) (.slice a 0 c) 0 [] rfl (hown _) ⟨w.heap.size, 0, none⟩ 1 1 [.int .i64 (x : Int)] rfl rfl ?d1 ?d2 ?d3 ?d4 ?d5 ?d6 (w.heap.size + 1) ?d7 ?d8)))
  case d1 => exact fun j u hj => new_cells _ _ 3 _ (by simp) j u hj
  case d2 => exact fun u hu => by simp at hu; subst hu; rfl
  case d3 => omega
  case d4 => unfold maxLen; omega
  case d5 => omega
  case d6 => simp; omega
  case d7 => simp
  case d8 =>
    intro g cap w4 ho4 hg4 hat hlt4
    have HO4 : Hid (w4.ownsRow base 3 1 (.slice (some ⟨g, 0, none⟩) 1 cap) 1 [.int .i64 (x : Int)]) := ho4
    have R1 : Hid (Fr (fun k => Value.ownBlock (.slice a 0 c) = some k) w w4) := ((Fr.refl _ w).alloc _).grown hg4 (fun k _ e => e)
    have R2 : Hid (Kin w.heap.size (.slice a 0 c) (.slice (some ⟨g, 0, none⟩) 1 cap)) := by
      rcases hat with h | h
      · exact .inl (by rw [h]; rfl)
      · exact .inr ⟨g, rfl, by omega⟩
    clear ho4 hg4 hat hown
    go_wp2_with fail
    rw [rounds_succ]
    go_wp2_with (go_at_call 18; refine (CI.out _ _ _).mono ?_; rintro e w5 ⟨rfl, rfl⟩)
    go_ret
    exact ⟨_, _, rfl, HO4.out, R2.out, R1.out⟩
end Go.Proofs.Ybulkauxo
