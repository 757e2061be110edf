import Derived.Test.YbulkauxoModel
namespace Go.Proofs.Ybulkauxo
open Go.RowKit

/-- The bytes of uvarint(x). -/
def ubytes (x : Nat) : List Value := if x < 128 then [.int .u8 (x : Int)] else [.int .u8 ((x % 128 + 128 : Nat) : Int), .int .u8 ((x / 128 : Nat) : Int)]

theorem orhi : ∀ x : Nat, x < 1025 → 128 ≤ x → bits BinOp.or IntKind.u8 ((x : Int) % 256) 128 = ((x % 128 + 128 : Nat) : Int) := by decide +kernel

set_option maxRecDepth 100000 in
set_option maxHeartbeats 1000000 in
theorem uv1 (base x : Nat) (a : Option Addr) (c : Nat) (w : World) (hx : x < 128) (hb : base ≤ w.heap.size) (ho : w.ownsRow base 5 1 (.slice a 0 c) 0 []) :
    Calls Yba.prog 8 #[.slice a 0 c, .int .u64 (x : Int)] w fun e w' => ∃ g c', e = .returned (.slice (some ⟨g, 0, none⟩) 1 c') ∧ w'.ownsRow base 5 1 (.slice (some ⟨g, 0, none⟩) 1 c') 1 [.int .u8 (x : Int)] ∧
      Kin w.heap.size (.slice a 0 c) (.slice (some ⟨g, 0, none⟩) 1 c') ∧ Fr (fun k => Value.ownBlock (.slice a 0 c) = some k) w w' := by
  obtain ⟨i0, hi0, hz0, hz1, hz2⟩ := info_parts Yba.info5
  have hown : ∀ o, (w.alloc o).ownsRow base 5 1 (.slice a 0 c) 0 [] := fun o => ho.alloc o
  clear ho
  go_enter Yba.func8, Yba.ntmps8
  go_wp2_with fail
  refine wp_loop_rounds 1 ?_
  rw [rounds_succ]
  go_wp2_with (at_builtin; go_must (refine wpList_append_lies _ rfl (.tmp 15) (.tmp 18) 22 rfl base 5 i0 (.int .u8 0) 1 1 Yba.underlying22 hi0 hz0 hz1 hz2 rfl (by decide) (.slice a 0 c) 0 [] rfl (hown _) ⟨w.heap.size, 0, none⟩ 1 1 [.int .u8 (x : Int)] rfl rfl ?d1 ?d2 ?d3 ?d4 ?d5 ?d6 (w.heap.size + 1) ?d7 ?d8))
  case d1 => exact fun j u hj => new_cells _ _ 5 _ (by simp) j u hj
  case d2 => exact fun u hu => by simp at hu; subst hu; rfl
  case d3 => omega
  case d4 => unfold maxLen; omega
  case d5 => omega
  case d6 => simp; omega
  case d7 => simp
  case d8 =>
    intro g cap w4 ho4 hg4 hat hlt4
    have HO4 : Hid (w4.ownsRow base 5 1 (.slice (some ⟨g, 0, none⟩) 1 cap) 1 [.int .u8 (x : Int)]) := ho4
    have R1 : Hid (Fr (fun k => Value.ownBlock (.slice a 0 c) = some k) w w4) := ((Fr.refl _ w).alloc _).grown hg4 (fun k _ e => e)
    have R2 : Hid (Kin w.heap.size (.slice a 0 c) (.slice (some ⟨g, 0, none⟩) 1 cap)) := by
      rcases hat with h | h
      · exact .inl (by rw [h]; rfl)
      · exact .inr ⟨g, rfl, by omega⟩
    clear ho4 hg4 hat hown
    go_wp2_with fail
    go_ret
    exact ⟨_, _, rfl, HO4.out, R2.out, R1.out⟩

set_option maxRecDepth 100000 in
set_option maxHeartbeats 1000000 in
theorem uv2 (base x : Nat) (a : Option Addr) (c : Nat) (w : World) (hx : 128 ≤ x) (hx2 : x ≤ 1024) (hb : base ≤ w.heap.size) (ho : w.ownsRow base 5 1 (.slice a 0 c) 0 []) :
    Calls Yba.prog 8 #[.slice a 0 c, .int .u64 (x : Int)] w fun e w' => ∃ g c', e = .returned (.slice (some ⟨g, 0, none⟩) 2 c') ∧ w'.ownsRow base 5 1 (.slice (some ⟨g, 0, none⟩) 2 c') 2 [.int .u8 ((x % 128 + 128 : Nat) : Int), .int .u8 ((x / 128 : Nat) : Int)] ∧
      Kin w.heap.size (.slice a 0 c) (.slice (some ⟨g, 0, none⟩) 2 c') ∧ Fr (fun k => Value.ownBlock (.slice a 0 c) = some k) w w' := by
  obtain ⟨i0, hi0, hz0, hz1, hz2⟩ := info_parts Yba.info5
  have hown : ∀ o, (w.alloc o).ownsRow base 5 1 (.slice a 0 c) 0 [] := fun o => ho.alloc o
  have HL0 : Hid (∀ k, Value.ownBlock (.slice a 0 c) = some k → k < w.heap.size) := fun k hk => (own_lt ho hk).2
  clear ho
  go_enter Yba.func8, Yba.ntmps8
  go_wp2_with fail
  refine wp_loop_rounds 2 ?_
  rw [rounds_succ]
  go_wp2_with (at_builtin; go_must (refine wpList_append_lies _ rfl (.tmp 7) (.tmp 11) 22 rfl base 5 i0 (.int .u8 0) 1 1 Yba.underlying22 hi0 hz0 hz1 hz2 rfl (by decide) (.slice a 0 c) 0 [] rfl (hown _) ⟨w.heap.size, 0, none⟩ 1 1 [.int .u8 (bits BinOp.or IntKind.u8 ((x : Int) % 256) 128)] rfl rfl ?d1 ?d2 ?d3 ?d4 ?d5 ?d6 (w.heap.size + 1) ?d7 ?d8))
  case d1 => exact fun j u hj => new_cells _ _ 5 _ (by simp) j u hj
  case d2 => exact fun u hu => by simp at hu; subst hu; rfl
  case d3 => omega
  case d4 => unfold maxLen; omega
  case d5 => omega
  case d6 => simp; omega
  case d7 => simp
  case d8 =>
    intro g cap w4 ho4 hg4 hat hlt4
    have R1 : Hid (Fr (fun k => Value.ownBlock (.slice a 0 c) = some k) w w4) := ((Fr.refl _ w).alloc _).grown hg4 (fun k _ e => e)
    have R2 : Hid (Value.ownBlock (.slice a 0 c) = some g ∨ w.heap.size ≤ g) := by
      rcases hat with h | h
      · exact .inl h
      · exact .inr (by omega)
    have hown4 : ∀ o, (w4.alloc o).ownsRow base 5 1 (.slice (some ⟨g, 0, none⟩) 1 cap) 1 [.int .u8 (bits BinOp.or IntKind.u8 ((x : Int) % 256) 128)] := fun o => World.ownsRow.alloc ho4 o
    have hsz4 : w.heap.size + 1 ≤ w4.heap.size := by have := hg4.size; simpa using this
    have hx7 : (x : Int) / 128 < 128 := by omega
    clear ho4 hg4 hat hown
    go_wp2_with fail
    rw [rounds_succ]
    go_wp2_with (at_builtin; go_must (refine wpList_append_lies _ rfl (.tmp 15) (.tmp 18) 22 rfl base 5 i0 (.int .u8 0) 1 1 Yba.underlying22 hi0 hz0 hz1 hz2 rfl (by decide) (.slice (some ⟨g, 0, none⟩) 1 cap) 1 [.int .u8 (bits BinOp.or IntKind.u8 ((x : Int) % 256) 128)] rfl (hown4 _) ⟨w4.heap.size, 0, none⟩ 1 1 [.int .u8 ((x : Int) / 128)] rfl rfl ?e1 ?e2 ?e3 ?e4 ?e5 ?e6 (w4.heap.size + 1) ?e7 ?e8))
    case e1 => exact fun j u hj => new_cells _ _ 5 _ (by simp) j u hj
    case e2 => exact fun u hu => by simp at hu; subst hu; rfl
    case e3 => omega
    case e4 => unfold maxLen; omega
    case e5 => omega
    case e6 => simp; omega
    case e7 => simp
    case e8 =>
      intro g5 cap5 w5 ho5 hg5 hat5 hlt5
      have HO5 : Hid (w5.ownsRow base 5 1 (.slice (some ⟨g5, 0, none⟩) 2 cap5) 2 [.int .u8 ((x % 128 + 128 : Nat) : Int), .int .u8 ((x / 128 : Nat) : Int)]) := by
        have h5 : w5.ownsRow base 5 1 (.slice (some ⟨g5, 0, none⟩) 2 cap5) 2 [.int .u8 (bits BinOp.or IntKind.u8 ((x : Int) % 256) 128), .int .u8 ((x : Int) / 128)] := ho5
        rw [orhi x (by omega) hx] at h5
        exact h5
      have R3 : Hid (Kin w.heap.size (.slice a 0 c) (.slice (some ⟨g5, 0, none⟩) 2 cap5)) := by
        rcases hat5 with h | h
        · have h : g = g5 := by simpa [Value.ownBlock] using h
          subst h
          exact R2.out.elim (fun h => .inl (by rw [h]; rfl)) (fun h => .inr ⟨_, rfl, h⟩)
        · exact .inr ⟨g5, rfl, by omega⟩
      have R4 : Hid (Fr (fun k => Value.ownBlock (.slice a 0 c) = some k) w w5) := (R1.out.alloc _).grown hg5 (fun k hk e => by
        have e : g = k := by simpa [Value.ownBlock] using e
        subst e
        exact R2.out.elim id (fun h => by omega))
      clear ho5 hg5 hat5 hown4
      go_wp2_with fail
      go_ret
      exact ⟨_, _, rfl, HO5.out, R3.out, R4.out⟩

theorem uv (base x : Nat) (a : Option Addr) (c : Nat) (w : World) (hx : x ≤ 1024) (hb : base ≤ w.heap.size) (ho : w.ownsRow base 5 1 (.slice a 0 c) 0 []) :
    Calls Yba.prog 8 #[.slice a 0 c, .int .u64 (x : Int)] w fun e w' => ∃ g c', e = .returned (.slice (some ⟨g, 0, none⟩) (ubytes x).length c') ∧ w'.ownsRow base 5 1 (.slice (some ⟨g, 0, none⟩) (ubytes x).length c') (ubytes x).length (ubytes x) ∧
      Kin w.heap.size (.slice a 0 c) (.slice (some ⟨g, 0, none⟩) (ubytes x).length c') ∧ Fr (fun k => Value.ownBlock (.slice a 0 c) = some k) w w' := by
  by_cases h : x < 128
  · have e : ubytes x = [.int .u8 (x : Int)] := if_pos h
    rw [e]
    exact uv1 base x a c w h hb ho
  · have e : ubytes x = [.int .u8 ((x % 128 + 128 : Nat) : Int), .int .u8 ((x / 128 : Nat) : Int)] := if_neg h
    rw [e]
    exact uv2 base x a c w (by omega) hx hb ho
end Go.Proofs.Ybulkauxo
