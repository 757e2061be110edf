import Derived.Test.YbulkauwmSort0
import Derived.WalkKit
import Derived.Below
import Derived.Deep.OwnRows
import Derived.Deep.QuietTactic
import Derived.Deep.RegionWith
import Derived.BigQuiet
import Derived.WalkSpells
import Derived.StillTactics
import Derived.Laws.Pointers
import Derived.Deep.RegionHeld3
namespace Go.Proofs.Ybulkauwm
open Go.RowKit

/-- (Mode).Contact at PushPull. -/
theorem contact_any (a b : Bool) (w : World) :
    Calls Yba.prog 15 #[.int .i64 3, .bool a, .bool b] w fun e w' => e = .returned (.tuple #[.bool (b && !a), .bool (a && !b)]) ∧ w' = w := by
  cases a <;> cases b
  all_goals
    go_enter Yba.func15, Yba.ntmps15
    go_wp2
    go_ret2
    exact ⟨rfl, rfl⟩

/-- cmp.Compare[uint64]. -/
def cmpI (x y : Int) : Int := if x < y then -1 else if y < x then 1 else 0
theorem compare_any (x y : Int) (w : World) :
    Calls Yba.prog 30 #[.int .u64 x, .int .u64 y] w fun e w' => e = .returned (.int .i64 (cmpI x y)) ∧ w' = w := by
  rcases Int.lt_trichotomy x y with h | h | h
  · have e : cmpI x y = -1 := if_pos h
    rw [e]
    clear e
    go_enter Yba.func30, Yba.ntmps30
    go_wp2_with (go_at_call 41; refine (Yba.cmp_isNaN_int _ _).mono ?_; rintro e w' ⟨rfl, rfl⟩)
    go_ret
    exact ⟨rfl, rfl⟩
  · have e : cmpI x y = 0 := by unfold cmpI; rw [if_neg (by omega), if_neg (by omega)]
    rw [e]
    clear e
    subst h
    go_enter Yba.func30, Yba.ntmps30
    go_wp2_with (go_at_call 41; refine (Yba.cmp_isNaN_int _ _).mono ?_; rintro e w' ⟨rfl, rfl⟩)
    go_ret
    exact ⟨rfl, rfl⟩
  · have e : cmpI x y = 1 := by unfold cmpI; rw [if_neg (by omega), if_pos h]
    rw [e]
    clear e
    go_enter Yba.func30, Yba.ntmps30
    go_wp2_with (go_at_call 41; refine (Yba.cmp_isNaN_int _ _).mono ?_; rintro e w' ⟨rfl, rfl⟩)
    go_ret
    exact ⟨rfl, rfl⟩

/-- The closure in find. -/
theorem find1_any (x b : Int) (v : Value) (a : Option Addr) (n c : Nat) (hv : v = .slice a n c) (y : Int) (w : World) :
    Calls Yba.prog 29 #[.agg #[.int .u64 x, v, .int .i64 b], .int .u64 y] w fun e w' => e = .returned (.int .i64 (cmpI x y)) ∧ Below w.heap.size w w' := by
  subst hv
  go_enter Yba.func29, Yba.ntmps29
  go_wp2_with (go_at_call 30; refine (compare_any _ _ _).mono ?_; rintro e w' ⟨rfl, rfl⟩)
  go_ret
  exact ⟨rfl, (Below.refl _ _).alloc (Nat.le_refl _) _⟩

/-- (Duration).Milliseconds. -/
theorem millisec_any (d : Int) (w : World) (h1 : -4294967296 ≤ d) (h2 : d ≤ 4294967296) :
    Calls Yba.prog 42 #[.int .i64 d] w fun e w' => e = .returned (.int .i64 (d.tdiv 1000000)) ∧ w' = w := by
  go_enter Yba.func42, Yba.ntmps42
  go_wp2
  go_ret
  exact ⟨rfl, rfl⟩

theorem ret_int {k : IntKind} {a b : Int} (h : a = b) : Ending.returned (.int k a) = .returned (.int k b) := by rw [h]

/-- What Millis gives, of a difference of two int32s. -/
def ageOf (d : Int) : Int := if 0 < d then d / 1000000 else 0
theorem age_bd (d : Int) (h2 : d ≤ 4294967296) : 0 ≤ ageOf d ∧ ageOf d ≤ 4295 := by
  unfold ageOf; split <;> omega
theorem millis_any (d : Int) (w : World) (h1 : -4294967296 ≤ d) (h2 : d ≤ 4294967296) :
    Calls Yba.prog 27 #[.int .i64 d] w fun e w' => e = .returned (.int .u32 (ageOf d)) ∧ w' = w := by
  by_cases h : 0 < d
  · have e : ageOf d = d / 1000000 := if_pos h
    rw [e]
    have e2 : d.tdiv 1000000 = d / 1000000 := Int.tdiv_eq_ediv_of_nonneg (by omega)
    have C := fun w => millisec_any d w h1 h2
    rw [e2] at C
    have b1 : 0 ≤ d / 1000000 := by omega
    have b2 : d / 1000000 ≤ 4295 := by omega
    clear e e2
    generalize d / 1000000 = m at *
    go_enter Yba.func27, Yba.ntmps27
    go_wp2_with (go_at_call 42; refine (C _).mono ?_; rintro e w' ⟨rfl, rfl⟩)
    go_ret
    exact ⟨ret_int (by omega), rfl⟩
  · have e : ageOf d = 0 := if_neg h
    rw [e]
    have C := fun w => millisec_any d w h1 h2
    have b0 : d.tdiv 1000000 = -((-d) / 1000000) := by
      rw [← Int.tdiv_eq_ediv_of_nonneg (show 0 ≤ -d by omega), Int.neg_tdiv, Int.neg_neg]
    have b1 : d.tdiv 1000000 ≤ 0 := by omega
    have b2 : -4295 ≤ d.tdiv 1000000 := by omega
    clear b0
    clear e
    generalize d.tdiv 1000000 = m at *
    go_enter Yba.func27, Yba.ntmps27
    go_wp2_with (go_at_call 42; refine (C _).mono ?_; rintro e w' ⟨rfl, rfl⟩)
    go_ret
    exact ⟨ret_int (by omega), rfl⟩

theorem spreadFor_any (eb : Nat) (iv : Int) (w : World) (h1 : -2147483648 ≤ iv) (h2 : iv ≤ 2147483647) (c0 : w.cell? ⟨eb, 0, none⟩ = some (.int .i64 iv)) :
    Calls Yba.prog 24 #[.pointer (some ⟨eb, 0, none⟩)] w fun e w' => e = .returned (.int .i64 (50 * iv)) ∧ w' = w := by
  go_enter Yba.func24, Yba.ntmps24
  go_wp2
  go_ret
  exact ⟨rfl, rfl⟩

theorem spreads_any (eb : Nat) (iv now x born : Int) (a : Option Addr) (n c : Nat) (w : World) (h1 : -2147483648 ≤ iv) (h2 : iv ≤ 2147483647) (n1 : -2147483648 ≤ now) (n2 : now ≤ 2147483647)
    (b1 : -2147483648 ≤ born) (b2 : born ≤ 2147483647) (heb : eb < w.heap.size) (c0 : w.cell? ⟨eb, 0, none⟩ = some (.int .i64 iv)) :
    Calls Yba.prog 18 #[.pointer (some ⟨eb, 0, none⟩), .agg #[.int .u64 x, .slice a n c, .int .i64 born], .int .i64 now] w fun e w' =>
      e = .returned (.bool (decide (now - born < 50 * iv))) ∧ Below w.heap.size w w' := by
  have C : ∀ o q, Calls Yba.prog 24 #[.pointer (some ⟨eb, 0, none⟩)] ((w.alloc o).drewN q) fun e w' => e = .returned (.int .i64 (50 * iv)) ∧ w' = (w.alloc o).drewN q := fun o q =>
    spreadFor_any eb iv _ h1 h2 ((World.cell?_alloc_lt _ _ _ heb).trans c0)
  go_enter Yba.func18, Yba.ntmps18
  go_wp2
  go_quiet ((go_at_call 24; exact Calls.quiet_of_same (C _ _)))
  go_wp2
  go_ret
  exact ⟨rfl, ⟨rfl, rfl, rfl, by simp, fun k hk => Below.heap_alloc _ _ _ hk⟩⟩

/-- wireOf: the three cells of a wireRumor. -/
theorem wireOf_any (x born now : Int) (a : Option Addr) (n c : Nat) (w : World) (n1 : -2147483648 ≤ now) (n2 : now ≤ 2147483647) (b1 : -2147483648 ≤ born) (b2 : born ≤ 2147483647) :
    Calls Yba.prog 20 #[.agg #[.int .u64 x, .slice a n c, .int .i64 born], .int .i64 now] w fun e w' =>
      e = .returned (.agg #[.int .u64 x, .int .u32 (ageOf (now - born)), .slice a n c]) ∧ Below w.heap.size w w' := by
  have C : ∀ w, Calls Yba.prog 27 #[.int .i64 (now - born)] w fun e w' => e = .returned (.int .u32 (ageOf (now - born))) ∧ w' = w := fun w => millis_any _ w (by omega) (by omega)
  have hwr : IntKind.i64.wrap (now - born) = now - born := by rw [IntKind.wrap_i64]; omega
  generalize ageOf (now - born) = A at *
  go_enter Yba.func20, Yba.ntmps20
  go_wp2
  go_region_held3 (fun w' => w'.cell? ⟨w.heap.size, 0, none⟩ = some (.int .u64 x) ∧ w'.cell? ⟨w.heap.size, 1, none⟩ = some (.slice a n c) ∧ w'.cell? ⟨w.heap.size, 2, none⟩ = some (.int .i64 born)) (go_keep)
    (first | (go_at_call 27; refine (C _).mono ?_; rintro e w' ⟨rfl, rfl⟩))
  go_wp2
  exact bodyPost_ret (v := .agg #[.int .u64 x, .int .u32 A, .slice a n c]) (by simp [results, Yba.results20, go_sem]) rfl ⟨rfl, (((Below.refl _ _).alloc (Nat.le_refl _) _).alloc (by simp) _).drew⟩
/-- zzs2313clisted: is id one of the bytes? -/
theorem listed_any (ra : Option Addr) (len cap : Nat) (zs : Nat → Int) (id : Int) (w : World) (hlen : len ≤ 1024) (hz : ∀ k, k < len → 0 ≤ zs k ∧ zs k ≤ 255)
    (hr : 0 < len → ∃ rb ro, ra = some ⟨rb, ro, none⟩ ∧ ∀ k, k < len → w.cell? ⟨rb, ro + k, none⟩ = some (.int .u8 (zs k))) :
    Calls Yba.prog 13 #[.slice ra len cap, .int .i64 id] w fun e w' => e = .returned (.bool ((List.range len).any fun k => zs k == id)) ∧ w' = w := by
  go_enter Yba.func13, Yba.ntmps13
  go_wp2
  go_loop [9] (fun i => ∃ k : Nat, k ≤ len ∧ i = .int .i64 k ∧ ((List.range k).any fun j => zs j == id) = false) (fun i => len - (intOf i).toNat)
  case atStart => exact ⟨0, Nat.zero_le _, rfl, rfl⟩
  case round =>
    obtain ⟨k, hk, rfl, hno⟩ := hrel
    have HN : Hid (((List.range k).any fun j => zs j == id) = false) := hno
    clear hno
    by_cases hlt : k < len
    · obtain ⟨rb, ro, rfl, hc⟩ := hr (by omega)
      have c := hc k hlt
      have b := hz k hlt
      clear hc hr hz
      by_cases e : zs k = id
      · have e2 : (zs k == id) = true := by simpa using e
        have H1 : Hid (((List.range len).any fun j => zs j == id) = true) := List.any_eq_true.2 ⟨k, List.mem_range.2 hlt, e2⟩
        clear e
        go_wp2
        go_ret
        exact ⟨by rw [H1.out]; rfl, rfl⟩
      · have e2 : (zs k == id) = false := by simpa using e
        have H1 : Hid (((List.range (k + 1)).any fun j => zs j == id) = false) := by
          show _ = _
          rw [List.range_succ, List.any_append, HN.out]
          simp [e2]
        clear e
        go_wp2
        go_round
        case rel => exact ⟨k + 1, by omega, by go_num, H1.out⟩
        case measure => simp [intOf]; omega
    · obtain rfl : k = len := by omega
      go_wp2
      go_ret
      exact ⟨by rw [HN.out]; rfl, rfl⟩

/-- What the walks are told of the held rumors that came in. -/
def HeldAt (w : World) (ha : Option Addr) (n : Nat) (hid hborn : Nat → Int) (htxt : Nat → ByteArray) : Prop :=
  (0 < n → ∃ hb ho, ha = some ⟨hb, ho, none⟩ ∧ hb < w.heap.size ∧ ∀ k, k < n → w.cell? ⟨hb, ho + k * 3, none⟩ = some (.int .u8 (hid k)) ∧
    w.cell? ⟨hb, ho + k * 3 + 1, none⟩ = some (.int .i32 (hborn k)) ∧ w.cell? ⟨hb, ho + k * 3 + 2, none⟩ = some (.string (htxt k))) ∧
  ∀ k, k < n → (0 ≤ hid k ∧ hid k ≤ 255) ∧ (-2147483648 ≤ hborn k ∧ hborn k ≤ 2147483647)

/-- The first held rumor of an id. -/
def firstOf (hid : Nat → Int) (n : Nat) (id : Int) : Option Nat := (List.range n).find? fun k => hid k == id
def firstVal (hid hborn : Nat → Int) (htxt : Nat → ByteArray) : Option Nat → Value
  | some k => .tuple #[.agg #[.int .u8 (hid k), .int .i32 (hborn k), .string (htxt k)], .bool true]
  | none => .tuple #[.agg #[.int .u8 0, .int .i32 0, .string ⟨#[]⟩], .bool false]

theorem first_hit {hid : Nat → Int} {n k : Nat} {id : Int} (h : firstOf hid k id = none) (hlt : k < n) (e : (hid k == id) = true) : firstOf hid n id = some k := by
  unfold firstOf at *
  have hr : List.range n = List.range k ++ (List.range (n - k)).map (k + ·) := by
    rw [← List.range_add]; congr 1; omega
  rw [hr, List.find?_append, h]
  obtain ⟨m, hm⟩ : ∃ m, n - k = m + 1 := ⟨n - k - 1, by omega⟩
  rw [hm, List.range_succ_eq_map]
  simp [e]

theorem first_any (ha : Option Addr) (n cap : Nat) (hid hborn : Nat → Int) (htxt : Nat → ByteArray) (id : Int) (w : World) (hn : n ≤ 256) (hh : HeldAt w ha n hid hborn htxt) :
    Calls Yba.prog 11 #[.slice ha n cap, .int .i64 id] w fun e w' => e = .returned (firstVal hid hborn htxt (firstOf hid n id)) ∧ Below w.heap.size w w' := by
  obtain ⟨hr, hb⟩ := hh
  go_enter Yba.func11, Yba.ntmps11
  go_wp2
  go_loopw [10] (fun i wr => ∃ k : Nat, k ≤ n ∧ i = .int .i64 k ∧ firstOf hid k id = none ∧ wr.heap[w.heap.size]? = some (.cells #[.int .u8 0, .int .i32 0, .string ⟨#[]⟩] 36 (0, 0)) ∧ Below w.heap.size w wr) (fun i _ => n - (intOf i).toNat)
  case atStart => exact ⟨0, Nat.zero_le _, rfl, rfl, heap_alloc_new w _, (Below.refl _ _).alloc (Nat.le_refl _) _⟩
  case round =>
    obtain ⟨k, hk, rfl, hno, hblk, hbel⟩ := hrel
    have HN : Hid (firstOf hid k id = none) := hno
    clear hno
    have hsz : w.heap.size < wr.heap.size := lt_of_block hblk
    by_cases hlt : k < n
    · obtain ⟨hb0, ho, rfl, hb1, hc⟩ := hr (by omega)
      obtain ⟨c0, c1, c2⟩ := hc k hlt
      rw [← hbel.cell hb1] at c0 c1 c2
      have b := hb k hlt
      clear hc hr hb
      by_cases e : hid k = id
      · have e2 : (hid k == id) = true := by simpa using e
        clear e
        have f0 : wr.cell? ⟨w.heap.size, 0, none⟩ = some (.int .u8 0) := by simp [World.cell?, hblk]
        have f1 : wr.cell? ⟨w.heap.size, 1, none⟩ = some (.int .i32 0) := by simp [World.cell?, hblk]
        have f2 : wr.cell? ⟨w.heap.size, 2, none⟩ = some (.string ⟨#[]⟩) := by simp [World.cell?, hblk]
        have g0 : wr.frozen? ⟨w.heap.size, 0, none⟩ = false := by simp [World.frozen?, hblk]
        have g1 : wr.frozen? ⟨w.heap.size, 1, none⟩ = false := by simp [World.frozen?, hblk]
        have g2 : wr.frozen? ⟨w.heap.size, 2, none⟩ = false := by simp [World.frozen?, hblk]
        have H1 : Hid (firstOf hid n id = some k) := first_hit HN.out hlt e2
        clear hblk
        go_wp2
        refine bodyPost_ret (v := firstVal hid hborn htxt (some k)) (by simp [results, Yba.results11, go_sem, hsz, f0, f1, f2, firstVal]) rfl ⟨by rw [H1.out], ?_⟩
        exact (((hbel.setCell (Nat.le_refl _) _).setCell (Nat.le_refl _) _).setCell (Nat.le_refl _) _).alloc (by simp; omega) _
      · have e2 : (hid k == id) = false := by simpa using e
        have H1 : Hid (firstOf hid (k + 1) id = none) := by
          show _ = _
          unfold firstOf at *
          rw [List.range_succ, List.find?_append, show (List.range k).find? (fun k => hid k == id) = none from HN.out]
          simp [e2]
        clear e
        go_wp2
        go_roundw
        case rel => exact ⟨k + 1, by omega, by go_num, H1.out, by rw [Below.heap_alloc _ _ _ hsz]; exact hblk, hbel.alloc (by omega) _⟩
        case measure => simp [intOf]; omega
    · obtain rfl : k = n := by omega
      have f0 : wr.cell? ⟨w.heap.size, 0, none⟩ = some (.int .u8 0) := by simp [World.cell?, hblk]
      have f1 : wr.cell? ⟨w.heap.size, 1, none⟩ = some (.int .i32 0) := by simp [World.cell?, hblk]
      have f2 : wr.cell? ⟨w.heap.size, 2, none⟩ = some (.string ⟨#[]⟩) := by simp [World.cell?, hblk]
      have g0 : wr.frozen? ⟨w.heap.size, 0, none⟩ = false := by simp [World.frozen?, hblk]
      have g1 : wr.frozen? ⟨w.heap.size, 1, none⟩ = false := by simp [World.frozen?, hblk]
      have g2 : wr.frozen? ⟨w.heap.size, 2, none⟩ = false := by simp [World.frozen?, hblk]
      clear hblk
      go_wp2
      refine bodyPost_ret (v := firstVal hid hborn htxt none) (by simp [results, Yba.results11, go_sem, f0, f1, f2, firstVal]) rfl ⟨by rw [HN.out], ?_⟩
      exact ((hbel.setCell (Nat.le_refl _) _).setCell (Nat.le_refl _) _).setCell (Nat.le_refl _) _
end Go.Proofs.Ybulkauwm
