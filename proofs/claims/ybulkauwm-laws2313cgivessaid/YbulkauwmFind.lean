import Derived.Test.YbulkauwmSmall
namespace Go.Proofs.Ybulkauwm
open Go.RowKit

/-- What the walks are told of the table of rumors. -/
def TabAt (w : World) (ta : Option Addr) (n : Nat) (tid tborn : Nat → Int) (xa : Nat → Option Addr) (xn xc : Nat → Nat) : Prop :=
  0 < n → ∃ tb to, ta = some ⟨tb, to, none⟩ ∧ tb < w.heap.size ∧ ∀ k, k < n → w.cell? ⟨tb, to + k * 3, none⟩ = some (.int .u64 (tid k)) ∧
    w.cell? ⟨tb, to + k * 3 + 1, none⟩ = some (.slice (xa k) (xn k) (xc k)) ∧ w.cell? ⟨tb, to + k * 3 + 2, none⟩ = some (.int .i64 (tborn k))

def isIn (tid : Nat → Int) (n : Nat) (y : Int) : Bool := (List.range n).any fun k => tid k == y

theorem isIn_end {tid : Nat → Int} {n i : Nat} {y : Int} (hin : i ≤ n) (hlo : ∀ k, k < i → tid k < y) (hhi : ∀ k, i ≤ k → k < n → y ≤ tid k) (hs : ∀ a b, a ≤ b → b < n → tid a ≤ tid b) :
    isIn tid n y = decide (i < n ∧ tid i = y) := by
  unfold isIn
  rw [Bool.eq_iff_iff, List.any_eq_true, decide_eq_true_iff]
  constructor
  · rintro ⟨k, hk, e⟩
    have hk := List.mem_range.1 hk
    have e : tid k = y := by simpa using e
    by_cases h : k < i
    · have := hlo k h; omega
    · have h1 := hs i k (by omega) hk
      have h2 := hhi i (Nat.le_refl _) (by omega)
      exact ⟨by omega, by omega⟩
  · rintro ⟨h, e⟩
    exact ⟨i, List.mem_range.2 h, by simpa using e⟩

theorem cmpI_neg (x y : Int) : decide (cmpI x y < 0) = decide (x < y) := by
  unfold cmpI; split
  · simp [*]
  · split <;> simp [*]
theorem cmpI_zero (x y : Int) : (cmpI x y == 0) = decide (x = y) := by
  unfold cmpI
  split
  · rw [decide_eq_false (by omega)]; rfl
  · split
    · rw [decide_eq_false (by omega)]; rfl
    · rw [decide_eq_true (by omega)]; rfl

set_option maxHeartbeats 2000000 in
set_option maxRecDepth 1000000 in
theorem search_any (ta : Option Addr) (n cap : Nat) (tid tborn : Nat → Int) (xa : Nat → Option Addr) (xn xc : Nat → Nat) (y : Int) (w : World) (hn : n ≤ 1024)
    (ht : TabAt w ta n tid tborn xa xn xc) (hs : ∀ a b, a ≤ b → b < n → tid a ≤ tid b) :
    Calls Yba.prog 28 #[.slice ta n cap, .int .u64 y, .func (.func 29) #[] #[]] w fun e w' => ∃ pos : Nat, e = .returned (.tuple #[.int .i64 pos, .bool (isIn tid n y)]) ∧ Below w.heap.size w w' := by
  have HS : Hid (∀ a b, a ≤ b → b < n → tid a ≤ tid b) := hs
  clear hs
  go_enter Yba.func28, Yba.ntmps28
  go_wp2
  go_loopw [9, 10] (fun vi vj wr => ∃ i j : Nat, i ≤ j ∧ j ≤ n ∧ vi = .int .i64 i ∧ vj = .int .i64 j ∧ (∀ k, k < i → tid k < y) ∧ (∀ k, j ≤ k → k < n → y ≤ tid k) ∧ Below w.heap.size w wr) (fun vi vj _ => (intOf vj - intOf vi).toNat)
  case atStart => exact ⟨0, n, Nat.zero_le _, Nat.le_refl _, rfl, rfl, fun k hk => absurd hk (by omega), fun k h1 h2 => absurd h1 (by omega), Below.refl _ _⟩
  case round =>
    obtain ⟨i, j, hij, hjn, rfl, rfl, hlo, hhi, hbel⟩ := hrel
    have HLO : Hid (∀ k, k < i → tid k < y) := hlo
    have HHI : Hid (∀ k, j ≤ k → k < n → y ≤ tid k) := hhi
    clear hlo hhi
    by_cases hlt : i < j
    · obtain ⟨tb, to, rfl, htb, hc⟩ := ht (by omega)
      obtain ⟨c0, c1, c2⟩ := hc ((i + j) / 2) (by omega)
      rw [← hbel.cell htb] at c0 c1 c2
      clear hc ht
      generalize hx : tid ((i + j) / 2) = x at c0
      generalize xa ((i + j) / 2) = xa' at c1
      generalize xn ((i + j) / 2) = xn' at c1
      generalize xc ((i + j) / 2) = xc' at c1
      generalize tborn ((i + j) / 2) = tb' at c2
      have HX : Hid (tid ((i + j) / 2) = x) := hx
      clear hx
      have C := fun w => find1_any x tb' (.slice xa' xn' xc') xa' xn' xc' rfl y w
      have hneg := cmpI_neg x y
      by_cases hxy : x < y
      · have hd : decide (cmpI x y < 0) = true := by rw [hneg]; exact decide_eq_true hxy
        clear hneg
        generalize cmpI x y = cv at *
        go_wp2_with (go_at_call 29; refine (C _).mono ?_; rintro e w2 ⟨rfl, hb2⟩)
        go_roundw
        case rel =>
          refine ⟨(i + j) / 2 + 1, j, by omega, hjn, by rw [show ((i : Int) + (j : Int)) / 2 + 1 = (((i + j) / 2 + 1 : Nat) : Int) by omega], rfl, fun k hk => ?_, HHI.out, hbel.trans (hb2.mono hbel.size)⟩
          have := HS.out k ((i + j) / 2) (by omega) (by omega)
          rw [HX.out] at this
          omega
        case measure => simp [intOf]; omega
      · have hd : decide (cmpI x y < 0) = false := by rw [hneg]; exact decide_eq_false hxy
        clear hneg
        generalize cmpI x y = cv at *
        go_wp2_with (go_at_call 29; refine (C _).mono ?_; rintro e w2 ⟨rfl, hb2⟩)
        go_roundw
        case rel =>
          refine ⟨i, (i + j) / 2, by omega, by omega, rfl, by rw [show ((i : Int) + (j : Int)) / 2 = (((i + j) / 2 : Nat) : Int) by omega], HLO.out, fun k hk hkn => ?_, hbel.trans (hb2.mono hbel.size)⟩
          have := HS.out ((i + j) / 2) k hk hkn
          rw [HX.out] at this
          omega
        case measure => simp [intOf]; omega
    · obtain rfl : i = j := by omega
      have E : Hid (isIn tid n y = decide (i < n ∧ tid i = y)) := isIn_end hjn HLO.out HHI.out HS.out
      by_cases hin : i < n
      · obtain ⟨tb, to, rfl, htb, hc⟩ := ht (by omega)
        obtain ⟨c0, c1, c2⟩ := hc i hin
        rw [← hbel.cell htb] at c0 c1 c2
        clear hc ht
        generalize hx : tid i = x at c0
        generalize xa i = xa' at c1
        generalize xn i = xn' at c1
        generalize xc i = xc' at c1
        generalize tborn i = tb' at c2
        have HX : Hid (tid i = x) := hx
        clear hx
        have C := fun w => find1_any x tb' (.slice xa' xn' xc') xa' xn' xc' rfl y w
        have HZ : Hid ((cmpI x y == 0) = decide (x = y)) := cmpI_zero x y
        generalize cmpI x y = cv at *
        go_wp2_with (go_at_call 29; refine (C _).mono ?_; rintro e w2 ⟨rfl, hb2⟩)
        go_ret2
        refine ⟨i, ?_, hbel.trans (hb2.mono hbel.size)⟩
        rw [E.out, HX.out]
        have : decide (i < n ∧ x = y) = (cv == 0) := by rw [HZ.out]; simp [hin]
        rw [this]
        rfl
      · go_wp2_with (go_at_call 29; fail)
        go_ret2
        refine ⟨i, ?_, hbel⟩
        rw [E.out, decide_eq_false (fun h => hin h.1)]
        rfl

theorem find_any (ta : Option Addr) (n cap : Nat) (tid tborn : Nat → Int) (xa : Nat → Option Addr) (xn xc : Nat → Nat) (y : Int) (w : World) (hn : n ≤ 1024)
    (ht : TabAt w ta n tid tborn xa xn xc) (hs : ∀ a b, a ≤ b → b < n → tid a ≤ tid b) :
    Calls Yba.prog 21 #[.slice ta n cap, .int .u64 y] w fun e w' => ∃ pos : Nat, e = .returned (.tuple #[.int .i64 pos, .bool (isIn tid n y)]) ∧ Below w.heap.size w w' := by
  have C := search_any ta n cap tid tborn xa xn xc y w hn ht hs
  generalize isIn tid n y = r at *
  go_enter Yba.func21, Yba.ntmps21
  go_wp2_with (go_at_call 28; refine C.mono ?_; rintro e w2 ⟨pos, rfl, hb2⟩)
  go_ret2
  exact ⟨pos, rfl, hb2⟩

theorem has_any (ta : Option Addr) (n cap : Nat) (tid tborn : Nat → Int) (xa : Nat → Option Addr) (xn xc : Nat → Nat) (y : Int) (w : World) (hn : n ≤ 1024)
    (ht : TabAt w ta n tid tborn xa xn xc) (hs : ∀ a b, a ≤ b → b < n → tid a ≤ tid b) :
    Calls Yba.prog 16 #[.slice ta n cap, .int .u64 y] w fun e w' => e = .returned (.bool (isIn tid n y)) ∧ Below w.heap.size w w' := by
  have C := find_any ta n cap tid tborn xa xn xc y w hn ht hs
  generalize isIn tid n y = r at *
  go_enter Yba.func16, Yba.ntmps16
  go_wp2_with (go_at_call 21; refine C.mono ?_; rintro e w2 ⟨pos, rfl, hb2⟩)
  go_ret
  exact ⟨rfl, hb2⟩
end Go.Proofs.Ybulkauwm
