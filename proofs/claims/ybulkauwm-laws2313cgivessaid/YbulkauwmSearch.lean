import Derived.Test.YbulkauwmFind
namespace Go.Proofs.Ybulkauwm
open Go.RowKit

/-- The cells of a slice of uint64s. -/
def U64At (w : World) (ra : Option Addr) (n : Nat) (f : Nat → Int) : Prop :=
  0 < n → ∃ rb ro, ra = some ⟨rb, ro, none⟩ ∧ ∀ k, k < n → w.cell? ⟨rb, ro + k, none⟩ = some (.int .u64 (f k))

theorem isNaN_any (x : Int) (w : World) : Calls Yba.prog 26 #[.int .u64 x] w fun e w' => e = .returned (.bool false) ∧ w' = w := by
  go_enter Yba.func26, Yba.ntmps26
  go_wp2
  go_ret
  exact ⟨by simp, rfl⟩

theorem less_any (x y : Int) (w : World) : Calls Yba.prog 25 #[.int .u64 x, .int .u64 y] w fun e w' => e = .returned (.bool (decide (x < y))) ∧ w' = w := Yba.cmp_Less_int x y w

set_option maxHeartbeats 2000000 in
set_option maxRecDepth 1000000 in
theorem bsearch_any (ra : Option Addr) (n cap : Nat) (f : Nat → Int) (y : Int) (w : World) (hn : n ≤ 1024) (ht : U64At w ra n f) (hs : ∀ a b, a ≤ b → b < n → f a ≤ f b) :
    Calls Yba.prog 19 #[.slice ra n cap, .int .u64 y] w fun e w' => (∃ pos : Nat, e = .returned (.tuple #[.int .i64 pos, .bool (isIn f n y)])) ∧ w' = w := by
  have HS : Hid (∀ a b, a ≤ b → b < n → f a ≤ f b) := hs
  clear hs
  go_enter Yba.func19, Yba.ntmps19
  go_wp2
  go_loop [7, 8] (fun vi vj => ∃ i j : Nat, i ≤ j ∧ j ≤ n ∧ vi = .int .i64 i ∧ vj = .int .i64 j ∧ (∀ k, k < i → f k < y) ∧ (∀ k, j ≤ k → k < n → y ≤ f k)) (fun vi vj => (intOf vj - intOf vi).toNat)
  case atStart => exact ⟨0, n, Nat.zero_le _, Nat.le_refl _, rfl, rfl, fun k hk => absurd hk (by omega), fun k h1 h2 => absurd h1 (by omega)⟩
  case round =>
    obtain ⟨i, j, hij, hjn, rfl, rfl, hlo, hhi⟩ := hrel
    have HLO : Hid (∀ k, k < i → f k < y) := hlo
    have HHI : Hid (∀ k, j ≤ k → k < n → y ≤ f k) := hhi
    clear hlo hhi
    by_cases hlt : i < j
    · obtain ⟨tb, to, rfl, hc⟩ := ht (by omega)
      have c0 := hc ((i + j) / 2) (by omega)
      clear hc ht
      generalize hx : f ((i + j) / 2) = x at c0
      have HX : Hid (f ((i + j) / 2) = x) := hx
      clear hx
      by_cases hxy : x < y
      · go_wp2_with (go_at_call 25; refine (less_any _ _ _).mono ?_; rintro e w2 ⟨rfl, rfl⟩)
        go_round
        case rel =>
          refine ⟨(i + j) / 2 + 1, j, by omega, hjn, by rw [show ((i : Int) + (j : Int)) / 2 + 1 = (((i + j) / 2 + 1 : Nat) : Int) by omega], rfl, fun k hk => ?_, HHI.out⟩
          have := HS.out k ((i + j) / 2) (by omega) (by omega)
          rw [HX.out] at this
          omega
        case measure => simp [intOf]; omega
      · go_wp2_with (go_at_call 25; refine (less_any _ _ _).mono ?_; rintro e w2 ⟨rfl, rfl⟩)
        go_round
        case rel =>
          refine ⟨i, (i + j) / 2, by omega, by omega, rfl, by rw [show ((i : Int) + (j : Int)) / 2 = (((i + j) / 2 : Nat) : Int) by omega], HLO.out, fun k hk hkn => ?_⟩
          have := HS.out ((i + j) / 2) k hk hkn
          rw [HX.out] at this
          omega
        case measure => simp [intOf]; omega
    · obtain rfl : i = j := by omega
      have E : Hid (isIn f n y = decide (i < n ∧ f i = y)) := isIn_end hjn HLO.out HHI.out HS.out
      by_cases hin : i < n
      · obtain ⟨tb, to, rfl, hc⟩ := ht (by omega)
        have c0 := hc i hin
        clear hc ht
        generalize hx : f i = x at c0
        have HX : Hid (f i = x) := hx
        clear hx
        by_cases hxy : x = y
        · have E2 : Hid (isIn f n y = true) := E.out.trans (decide_eq_true ⟨hin, HX.out.trans hxy⟩)
          have b1 : (x == y) = true := by simpa using hxy
          clear hxy
          go_wp2_with (first | (go_at_call 26; refine (isNaN_any _ _).mono ?_; rintro e w2 ⟨rfl, rfl⟩))
          go_ret2
          refine ⟨⟨i, ?_⟩, rfl⟩
          rw [E2.out]
          rfl
        · have E2 : Hid (isIn f n y = false) := E.out.trans (decide_eq_false (fun h => hxy (HX.out.symm.trans h.2)))
          have b1 : (x == y) = false := by simpa using hxy
          clear hxy
          go_wp2_with (first | (go_at_call 26; refine (isNaN_any _ _).mono ?_; rintro e w2 ⟨rfl, rfl⟩))
          go_ret2
          refine ⟨⟨i, ?_⟩, rfl⟩
          rw [E2.out]
          rfl
      · go_wp2_with (go_at_call 26; fail)
        go_ret2
        refine ⟨⟨i, ?_⟩, rfl⟩
        rw [E.out, decide_eq_false (fun h => hin h.1)]
        rfl

theorem equal_any (ra rb : Option Addr) (n c1 c2 : Nat) (f : Nat → Int) (w : World) (hn : n ≤ 1024) (ha : U64At w ra n f) (hb : U64At w rb n f) :
    Calls Yba.prog 12 #[.slice ra n c1, .slice rb n c2] w fun e w' => e = .returned (.bool true) ∧ ∃ q, w' = w.drewN q := by
  go_enter Yba.func12, Yba.ntmps12
  go_wp2
  go_loopw [13] (fun i wr => ∃ k q : Nat, k ≤ n ∧ i = .int .i64 k ∧ wr = w.drewN q) (fun i _ => n - (intOf i).toNat)
  case atStart => exact ⟨0, 0, Nat.zero_le _, rfl, rfl⟩
  case round =>
    obtain ⟨k, q, hk, rfl, rfl⟩ := hrel
    by_cases hlt : k < n
    · obtain ⟨b1, o1, rfl, h1⟩ := ha (by omega)
      obtain ⟨b2, o2, rfl, h2⟩ := hb (by omega)
      have d1 := h1 k hlt
      have d2 := h2 k hlt
      have hI : (k : Int) < (n : Int) := by omega
      clear h1 h2 ha hb
      generalize f k = x at *
      go_wp2
      go_quiet (fail)
      go_wp2
      go_roundw
      case rel => exact ⟨k + 1, _, by omega, by go_num, rfl⟩
      case measure => simp [intOf]; omega
    · go_wp2
      go_ret
      exact ⟨rfl, q, rfl⟩
end Go.Proofs.Ybulkauwm
