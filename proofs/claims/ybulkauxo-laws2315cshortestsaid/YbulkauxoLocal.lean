import Derived.Test.YbulkauxoKeys
namespace Go.Proofs.Ybulkauxo
open Go.RowKit

theorem frozen_drewN (w : World) (q : Nat) (a : Addr) : (w.drewN q).frozen? a = w.frozen? a := rfl

set_option maxRecDepth 100000 in
theorem decode1 (kb o c ib x : Nat) (v : Value) (w : World) (hx : x < 128) (hx1 : 1 ≤ x) (h0 : w.cell? ⟨kb, o, none⟩ = some (.int .u8 (x : Int))) (hi : w.rowIs ib 21 1 fun _ => v) :
    Calls Yba.prog 20 #[.slice (some ⟨kb, o, none⟩) 1 c, .slice (some ⟨ib, 0, none⟩) 1 1, .slice none 0 0] w fun e w' => e = .returned (.slice none 0 0) ∧ w' = w.setCell ⟨ib, 0, none⟩ (.int .i32 ((x : Int) - 1)) := by
  have C := uvarint1 kb o 1 c x w hx (Nat.le_refl _) h0
  have ci := hi.cell (show 0 < 1 by omega)
  have fi := hi.frozen 0
  clear hi h0
  go_enter Yba.func20, Yba.ntmps20
  go_wp2_with fail
  refine wp_loop_rounds 2 ?_
  rw [rounds_succ]
  go_wp2_with (go_at_call 23; refine C.mono ?_; rintro e w1 ⟨rfl, rfl⟩)
  rw [rounds_succ]
  go_wp2
  refine wp_loop_rounds 1 ?_
  rw [rounds_succ]
  go_wp2
  go_ret
  exact ⟨rfl, rfl⟩

set_option maxRecDepth 100000 in
theorem decode2 (kb o c ib x : Nat) (v : Value) (w : World) (hx : 128 ≤ x) (hx1 : x ≤ 1024) (h0 : w.cell? ⟨kb, o, none⟩ = some (.int .u8 ((x % 128 + 128 : Nat) : Int))) (h1 : w.cell? ⟨kb, o + 1, none⟩ = some (.int .u8 ((x / 128 : Nat) : Int))) (hi : w.rowIs ib 21 1 fun _ => v) :
    Calls Yba.prog 20 #[.slice (some ⟨kb, o, none⟩) 2 c, .slice (some ⟨ib, 0, none⟩) 1 1, .slice none 0 0] w fun e w' => e = .returned (.slice none 0 0) ∧ w' = w.setCell ⟨ib, 0, none⟩ (.int .i32 ((x : Int) - 1)) := by
  have C := uvarint2 kb o 2 c x w hx hx1 (Nat.le_refl _) h0 h1
  have ci := hi.cell (show 0 < 1 by omega)
  have fi := hi.frozen 0
  clear hi h0 h1
  go_enter Yba.func20, Yba.ntmps20
  go_wp2_with fail
  refine wp_loop_rounds 2 ?_
  rw [rounds_succ]
  go_wp2_with (go_at_call 23; refine C.mono ?_; rintro e w1 ⟨rfl, rfl⟩)
  rw [rounds_succ]
  go_wp2
  refine wp_loop_rounds 1 ?_
  rw [rounds_succ]
  go_wp2
  go_ret
  exact ⟨rfl, rfl⟩

theorem rowIs_drewN {w : World} {b : Nat} {t : TypeId} {n : Nat} {f : Nat → Value} (q : Nat) (h : w.rowIs b t n f) : (w.drewN q).rowIs b t n f := h

set_option maxRecDepth 100000 in
theorem local_any (M n s ib : Nat) (v : Value) (w : World) (hn : n ≤ 1024) (hs : s < n) (hk : KeysAt w M n) (hi : w.rowIs ib 21 1 fun _ => v) :
    Calls Yba.prog 16 #[.pointer (some ⟨M, 0, none⟩), .int .i64 (s : Int), .slice (some ⟨ib, 0, none⟩) 1 1] w fun e w' => e = .returned (.slice (some ⟨ib, 0, none⟩) 1 1) ∧ ∃ q, w' = (w.drewN q).setCell ⟨ib, 0, none⟩ (.int .i32 (s : Int)) := by
  have CA := at_any M n s w hn hs hk
  have hM : M < w.heap.size := by
    obtain ⟨kb, eb, kcap, ecap, h1, _⟩ := hk
    exact World.block_lt_of_cell? _ _ h1
  clear hk
  have CD : ∀ (kb c q : Nat), KeyIn w kb (kend s) (s + 1) → Calls Yba.prog 20 #[.slice (some ⟨kb, kend s, none⟩) (kend (s + 1) - kend s) c, .slice (some ⟨ib, 0, none⟩) 1 1, .slice none 0 0] (w.drewN q) fun e w' => e = .returned (.slice none 0 0) ∧ w' = (w.drewN q).setCell ⟨ib, 0, none⟩ (.int .i32 (s : Int)) := fun kb c q hk => by
    have es : (((s + 1 : Nat) : Int) - 1) = (s : Int) := by omega
    by_cases h : s + 1 < 128
    · have := decode1 kb (kend s) c ib (s + 1) v (w.drewN q) h (by omega) (hk.1 h) hi
      rw [es] at this
      rw [show kend (s + 1) - kend s = 1 by unfold kend; omega]
      exact this
    · have := decode2 kb (kend s) c ib (s + 1) v (w.drewN q) (by omega) (by omega) (hk.2 (by omega)).1 (hk.2 (by omega)).2 hi
      rw [es] at this
      rw [show kend (s + 1) - kend s = 2 by unfold kend; omega]
      exact this
  have HD : Hid _ := CD
  clear CD hi
  go_enter Yba.func16, Yba.ntmps16
  go_wp2_with (first
    | (go_at_call 21; refine CA.mono ?_; rintro e w1 ⟨⟨kb, c, rfl, hk⟩, q, rfl⟩)
    | (go_at_call 20; refine (HD.out kb c q hk).mono ?_; rintro e w2 ⟨rfl, rfl⟩)
    | fail)
  go_ret
  exact ⟨rfl, _, rfl⟩

/-! ### want, has -/
set_option maxRecDepth 100000 in
theorem want0 (a : Option Addr) (c tb : Nat) (w : World) : Calls Yba.prog 6 #[.slice a 0 c, .pointer (some ⟨tb, 0, none⟩)] w fun e w' => e = .returned (.bool false) ∧ w' = w := by
  go_enter Yba.func6, Yba.ntmps6
  go_wp2
  refine wp_loop_rounds 1 ?_
  rw [rounds_succ]
  go_wp2
  go_ret
  exact ⟨rfl, rfl⟩
set_option maxRecDepth 100000 in
theorem want1 (b c tb x t : Nat) (w : World) (h : w.cell? ⟨b, 0, none⟩ = some (.int .i64 (x : Int))) (ht : w.cell? ⟨tb, 0, none⟩ = some (.int .i64 (t : Int))) :
    Calls Yba.prog 6 #[.slice (some ⟨b, 0, none⟩) 1 c, .pointer (some ⟨tb, 0, none⟩)] w fun e w' => e = .returned (.bool (decide (x = t))) ∧ w' = w := by
  by_cases e : x = t
  · subst e
    go_enter Yba.func6, Yba.ntmps6
    go_wp2
    refine wp_loop_rounds 2 ?_
    rw [rounds_succ]
    go_wp2
    go_ret
    exact ⟨by simp, rfl⟩
  · have e2 : ¬ ((x : Int) = (t : Int)) := by omega
    rw [decide_eq_false e]
    clear e
    go_enter Yba.func6, Yba.ntmps6
    go_wp2
    refine wp_loop_rounds 2 ?_
    rw [rounds_succ]
    go_wp2
    rw [rounds_succ]
    go_wp2
    go_ret
    exact ⟨rfl, rfl⟩
set_option maxRecDepth 100000 in
theorem has0 (a : Option Addr) (c : Nat) (x : Int) (w : World) : Calls Yba.prog 17 #[.slice a 0 c, .int .i64 x] w fun e w' => e = .returned (.bool false) ∧ w' = w := by
  go_enter Yba.func17, Yba.ntmps17
  go_wp2
  refine wp_loop_rounds 1 ?_
  rw [rounds_succ]
  go_wp2
  go_ret
  exact ⟨rfl, rfl⟩

/-! ### states, blocked, movedTo -/
theorem states_any (M n : Nat) (a : Option Addr) (c : Nat) (w : World) (h : w.cell? ⟨M, 0, none⟩ = some (.slice a (n + 1) c)) (hn : n ≤ 1024) :
    Calls Yba.prog 10 #[.pointer (some ⟨M, 0, none⟩)] w fun e w' => e = .returned (.int .i64 (n : Int)) ∧ w' = w := by
  go_enter Yba.func10, Yba.ntmps10
  go_wp2
  go_ret
  exact ⟨by simp, rfl⟩
set_option maxRecDepth 100000 in
theorem blocked_any (M : Nat) (a k : Int) (w : World) (h : w.cell? ⟨M, 11, none⟩ = some (.slice none 0 0)) :
    Calls Yba.prog 15 #[.pointer (some ⟨M, 0, none⟩), .int .i32 a, .int .i64 k] w fun e w' => e = .returned (.bool false) ∧ w' = w := by
  have hnil : ∀ W, (binOp .eql 34 (.slice none 0 0) (.slice none 0 0)).run Yba.prog W = .ok (.bool true) W := fun W => by kernel_rfl
  go_enter Yba.func15, Yba.ntmps15
  go_wp2
  go_ret
  exact ⟨by simp, rfl⟩
set_option maxRecDepth 100000 in
theorem moved_any (fb tb : Nat) (x y : Int) (w : World) (h1 : w.cell? ⟨fb, 0, none⟩ = some (.int .i32 x)) (h2 : w.cell? ⟨tb, 0, none⟩ = some (.int .i32 y)) :
    Calls Yba.prog 19 #[.slice (some ⟨fb, 0, none⟩) 1 1, .slice (some ⟨tb, 0, none⟩) 1 1, .int .i64 0] w fun e w' => e = .returned (.int .i32 y) ∧ w' = w := by
  go_enter Yba.func19, Yba.ntmps19
  go_wp2
  refine wp_loop_rounds 2 ?_
  rw [rounds_succ]
  go_wp2
  rw [rounds_succ]
  go_wp2
  go_ret
  exact ⟨rfl, rfl⟩

/-! ### sort.Ints of at most one number -/
set_option maxRecDepth 100000 in
theorem isort0 (a : Option Addr) (c : Nat) (w : World) : Calls Yba.prog 26 #[.slice a 0 c, .int .i64 0, .int .i64 0] w fun e w' => e = .returned (.tuple #[]) ∧ w' = w := by
  go_enter Yba.func26, Yba.ntmps26
  go_wp2
  refine wp_loop_rounds 1 ?_
  rw [rounds_succ]
  go_wp2
  go_end0
  exact ⟨rfl, rfl⟩
set_option maxRecDepth 100000 in
theorem isort1 (a : Option Addr) (c : Nat) (w : World) : Calls Yba.prog 26 #[.slice a 1 c, .int .i64 0, .int .i64 1] w fun e w' => e = .returned (.tuple #[]) ∧ w' = w := by
  go_enter Yba.func26, Yba.ntmps26
  go_wp2
  refine wp_loop_rounds 1 ?_
  rw [rounds_succ]
  go_wp2
  go_end0
  exact ⟨rfl, rfl⟩
set_option maxRecDepth 100000 in
theorem pdq0 (a : Option Addr) (c : Nat) (y : Int) (w : World) : Calls Yba.prog 24 #[.slice a 0 c, .int .i64 0, .int .i64 0, .int .i64 y] w fun e w' => e = .returned (.tuple #[]) ∧ w' = w := by
  have C := isort0 a c w
  go_enter Yba.func24, Yba.ntmps24
  go_wp2
  refine wp_loop_rounds 1 ?_
  rw [rounds_succ]
  go_wp2_with (go_at_call 26; refine C.mono ?_; rintro e w1 ⟨rfl, rfl⟩)
  (try simp only [Exit.inBlock, Exit.then]); refine bodyPost_ret (results_none rfl _ _ _) rfl ?_
  exact ⟨rfl, rfl⟩
set_option maxRecDepth 100000 in
theorem pdq1 (a : Option Addr) (c : Nat) (y : Int) (w : World) : Calls Yba.prog 24 #[.slice a 1 c, .int .i64 0, .int .i64 1, .int .i64 y] w fun e w' => e = .returned (.tuple #[]) ∧ w' = w := by
  have C := isort1 a c w
  go_enter Yba.func24, Yba.ntmps24
  go_wp2
  refine wp_loop_rounds 1 ?_
  rw [rounds_succ]
  go_wp2_with (go_at_call 26; refine C.mono ?_; rintro e w1 ⟨rfl, rfl⟩)
  (try simp only [Exit.inBlock, Exit.then]); refine bodyPost_ret (results_none rfl _ _ _) rfl ?_
  exact ⟨rfl, rfl⟩
set_option maxRecDepth 100000 in
theorem blen0 (w : World) : Calls Yba.prog 25 #[.int .u64 0] w fun e w' => (∃ y, e = .returned (.int .i64 y)) ∧ w' = w := by
  go_enter Yba.func25, Yba.ntmps25
  go_wp2
  go_ret
  exact ⟨⟨_, rfl⟩, rfl⟩
set_option maxRecDepth 100000 in
theorem blen1 (w : World) : Calls Yba.prog 25 #[.int .u64 1] w fun e w' => (∃ y, e = .returned (.int .i64 y)) ∧ w' = w := by
  go_enter Yba.func25, Yba.ntmps25
  go_wp2
  go_ret
  exact ⟨⟨_, rfl⟩, rfl⟩
set_option maxRecDepth 100000 in
theorem sort0 (a : Option Addr) (c : Nat) (w : World) : Calls Yba.prog 22 #[.slice a 0 c] w fun e w' => e = .returned (.tuple #[]) ∧ w' = w := by
  have CB := blen0 w
  have C := fun y => pdq0 a c y w
  have HC : Hid _ := C
  clear C
  go_enter Yba.func22, Yba.ntmps22
  go_wp2_with (first | (go_at_call 25; refine CB.mono ?_; rintro e w1 ⟨⟨y, rfl⟩, rfl⟩) | (go_at_call 24; refine (HC.out y).mono ?_; rintro e w1 ⟨rfl, rfl⟩) | fail)
  go_end0
  exact ⟨rfl, rfl⟩
set_option maxRecDepth 100000 in
theorem ints0 (a : Option Addr) (c : Nat) (w : World) : Calls Yba.prog 18 #[.slice a 0 c] w fun e w' => e = .returned (.tuple #[]) ∧ w' = w := by
  have C := sort0 a c w
  go_enter Yba.func18, Yba.ntmps18
  go_wp2_with (go_at_call 22; refine C.mono ?_; rintro e w1 ⟨rfl, rfl⟩)
  go_end0
  exact ⟨rfl, rfl⟩
set_option maxRecDepth 100000 in
theorem sort1 (a : Option Addr) (c : Nat) (w : World) : Calls Yba.prog 22 #[.slice a 1 c] w fun e w' => e = .returned (.tuple #[]) ∧ w' = w := by
  have CB := blen1 w
  have C := fun y => pdq1 a c y w
  have HC : Hid _ := C
  clear C
  go_enter Yba.func22, Yba.ntmps22
  go_wp2_with (first | (go_at_call 25; refine CB.mono ?_; rintro e w1 ⟨⟨y, rfl⟩, rfl⟩) | (go_at_call 24; refine (HC.out y).mono ?_; rintro e w1 ⟨rfl, rfl⟩) | fail)
  go_end0
  exact ⟨rfl, rfl⟩
set_option maxRecDepth 100000 in
theorem ints1 (a : Option Addr) (c : Nat) (w : World) : Calls Yba.prog 18 #[.slice a 1 c] w fun e w' => e = .returned (.tuple #[]) ∧ w' = w := by
  have C := sort1 a c w
  go_enter Yba.func18, Yba.ntmps18
  go_wp2_with (go_at_call 22; refine C.mono ?_; rintro e w1 ⟨rfl, rfl⟩)
  go_end0
  exact ⟨rfl, rfl⟩
end Go.Proofs.Ybulkauxo
