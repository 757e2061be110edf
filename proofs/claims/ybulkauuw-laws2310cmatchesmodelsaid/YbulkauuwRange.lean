import Derived.Test.YbulkauuwCodes
namespace Go.Proofs.Ybulkauuw
open Go.RowKit

/-- What the walks are told of the bytes that came in. -/
def Came (w : World) (ra : Option Addr) (len : Nat) (zs : Nat → Int) : Prop :=
  (0 < len → ∃ rb ro, ra = some ⟨rb, ro, none⟩ ∧ rb < w.heap.size ∧ ∀ k, k < len → w.cell? ⟨rb, ro + k, none⟩ = some (.int .u8 (zs k))) ∧ ∀ k, k < len → 0 ≤ zs k ∧ zs k ≤ 255

/-- What a store of byte k does to the row of types. -/
theorem types_step {w : World} {B len k : Nat} {f : Nat → Int} {c : Int}
    (h : w.rowIs B 5 len (fun j => .int .u8 (if j < k then f j else 0))) (hc : c = f k) :
    (w.setCell ⟨B, k, none⟩ (.int .u8 c)).rowIs B 5 len (fun j => .int .u8 (if j < k + 1 then f j else 0)) := by
  refine (h.set k (.int .u8 c)).congr fun j _ => ?_
  show (if j = k then Value.int .u8 c else _) = _
  by_cases e : j = k
  · rw [if_pos e, if_pos (by omega), e, hc]
  · rw [if_neg e]
    by_cases e2 : j < k
    · rw [if_pos e2, if_pos (by omega)]
    · rw [if_neg e2, if_neg (by omega)]

theorem code_facts (n : Int) (ts : Nat → Int) (len k : Nat) (hn : 1 ≤ n) (hts : ∀ j, j < len → 0 ≤ ts j ∧ ts j < n) (hk : k < len) :
    0 ≤ codeAt n ts k ∧ codeAt n ts k < n + 2 ∧ (2 ≤ codeAt n ts k → codeAt n ts k - 2 = ts k) := by
  have := hts k hk
  unfold codeAt
  split
  · omega
  · split
    · omega
    · split <;> omega

set_option maxHeartbeats 1000000 in
theorem range_core (a0 : Int) (ra : Option Addr) (len cap : Nat) (zs : Nat → Int) (w : World) (h0 : 0 ≤ a0 ∧ a0 ≤ 255) (hlen : len ≤ 1024) (hz : Came w ra len zs) :
    Calls Yba.prog 8 #[.int .u8 a0, .slice ra len cap] w fun e w' => e = .returned (.bool true) ∧ Below w.heap.size w w' := by
  obtain ⟨hr, hzb⟩ := hz
  obtain ⟨n, hn⟩ : ∃ n, a0 % 16 + 1 = n := ⟨_, rfl⟩
  have hn1 : 1 ≤ n := by omega
  have hn2 : n ≤ 16 := by omega
  have hmk := run_make_row' (P := Yba.prog) 26 5 (.int .u8 0) 1 Yba.underlying26 Yba.info5 rfl .i64 .i64 len (by omega) (by omega)
  go_enter Yba.func8, Yba.ntmps8
  go_wp2
  clear hmk hn
  go_loopw [7] (fun i wr => ∃ k : Nat, k ≤ len ∧ i = .int .i64 k ∧ wr.rowIs w.heap.size 5 len (fun j => .int .u8 (if j < k then zs j % n else 0)) ∧ Below w.heap.size w wr)
    (fun i _ => len - (intOf i).toNat)
  case atStart =>
    exact ⟨0, Nat.zero_le _, rfl, World.rowIs_made w (.int .u8 0) len 5, (Below.refl _ _).alloc (Nat.le_refl _) _⟩
  case round =>
    obtain ⟨k, hk, rfl, hrow, hbel⟩ := hrel
    by_cases hlt : k < len
    · obtain ⟨rb, ro, rfl, hrb, hcell⟩ := hr (by omega)
      have d2 : wr.cell? ⟨rb, ro + k, none⟩ = some (.int .u8 (zs k)) := (hbel.cell hrb).trans (hcell k hlt)
      have hfz := hrow.frozen k
      have hck := hrow.cell hlt
      have hbt := hzb k hlt
      have hmod1 : 0 ≤ zs k % n := Int.emod_nonneg _ (by omega)
      have hmod2 : zs k % n < n := Int.emod_lt_of_pos _ (by omega)
      have HR : Hid (wr.rowIs w.heap.size 5 len (fun j => .int .u8 (if j < k then zs j % n else 0))) := hrow
      clear hrow hcell hr hzb
      go_wp2
      go_roundw
      case rel => exact ⟨k + 1, by omega, by go_num, types_step (f := fun j => zs j % n) HR.out rfl, hbel.setCell (Nat.le_refl _) _⟩
      case measure => simp [intOf]; omega
    · obtain rfl : k = len := by omega
      have hts : ∀ j, j < k → 0 ≤ zs j % n ∧ zs j % n < n := fun j _ => ⟨Int.emod_nonneg _ (by omega), Int.emod_lt_of_pos _ (by omega)⟩
      have hrow2 : wr.rowIs w.heap.size 5 k (fun j => .int .u8 (zs j % n)) := hrow.congr fun j hj => by rw [if_pos hj]
      clear hrow hr hzb
      have hwl : w.heap.size < wr.heap.size := hrow2.lt
      obtain ⟨W1, hW1⟩ : ∃ W1, W1 = wr.alloc (.cells #[.int .i64 n, .slice (some ⟨w.heap.size, 0, none⟩) k k, .slice none 0 0] 35) := ⟨_, rfl⟩
      have hsz : W1.heap.size = wr.heap.size + 1 := by rw [hW1]; simp
      have q0 : W1.cell? ⟨wr.heap.size, 0, none⟩ = some (.int .i64 n) := by rw [hW1]; simp
      have q1 : W1.cell? ⟨wr.heap.size, 1, none⟩ = some (.slice (some ⟨w.heap.size, 0, none⟩) k k) := by rw [hW1]; simp
      have hrow3 : W1.rowIs w.heap.size 5 k (fun j => .int .u8 (zs j % n)) := by rw [hW1]; exact hrow2.alloc _
      have hbel1 : Below w.heap.size w W1 := by rw [hW1]; exact hbel.alloc (Nat.le_of_lt hwl) _
      have C := codes_any wr.heap.size (some ⟨w.heap.size, 0, none⟩) k k n (fun j => zs j % n) W1 hn1 hn2 hlen hts (by omega) q0 q1
        (fun _ => ⟨w.heap.size, 0, rfl, by omega, fun j hj => by rw [Nat.zero_add]; exact hrow3.cell hj⟩)
      rw [hsz] at C
      have HRW : Hid (W1.rowIs w.heap.size 5 k (fun j => .int .u8 (zs j % n))) := hrow3
      subst hW1
      have HSZ : Hid _ := hsz
      have HC : Hid _ := C
      clear C hrow2 hrow3 q0 q1 hsz hbel
      go_wp2_with fail
      refine Calls.mono HC.out ?_
      rintro e w2 ⟨rfl, hrc, hb2⟩
      clear HC
      have hbel2 : Below w.heap.size w w2 := hbel1.trans (hb2.mono (by omega))
      have hrt : w2.rowIs w.heap.size 5 k (fun j => .int .u8 (zs j % n)) := HRW.out.of_block (hb2.block _ (by omega))
      have HB2 : Hid (Below w.heap.size w w2) := hbel2
      have HRC : Hid (w2.rowIs (wr.heap.size + 1) 3 k (fun j => .int .i64 (codeAt n (fun j => zs j % n) j))) := hrc
      have HRT : Hid (w2.rowIs w.heap.size 5 k (fun j => .int .u8 (zs j % n))) := hrt
      have g0 : 0 < k → w2.cell? ⟨wr.heap.size + 1, 0, none⟩ = some (.int .i64 0) := fun h => by
        have := hrc.cell h
        exact this
      clear hbel1 hb2 hbel2 hrt hrc HRW HSZ
      by_cases hk0 : 0 < k
      · have g00 := g0 hk0
        clear g0
        go_wp2
        go_loop [9] (fun i => ∃ j : Nat, 1 ≤ j ∧ j ≤ k ∧ i = .int .i64 j) (fun i => k - (intOf i).toNat)
        case atStart => exact ⟨1, by omega, by omega, rfl⟩
        case round =>
          obtain ⟨j, hj1, hjk, rfl⟩ := hrel
          by_cases hlt : j < k
          · have cc := HRC.out.cell hlt
            have ct := HRT.out.cell hlt
            obtain ⟨hc1, hc2, hc3⟩ := code_facts n (fun j => zs j % n) k j hn1 hts hlt
            have ht := hts j hlt
            clear hts
            generalize codeAt n (fun j => zs j % n) j = C at *
            generalize zs j % n = T at *
            by_cases h2 : 2 ≤ C
            · have e := hc3 h2
              have be : (C - 2 != T) = false := by simp [e]
              clear hc3 e g00
              go_wp2
              go_round
              case rel => exact ⟨j + 1, by omega, by omega, by go_num⟩
              case measure => simp [intOf]; omega
            · clear hc3 g00
              go_wp2
              go_round
              case rel => exact ⟨j + 1, by omega, by omega, by go_num⟩
              case measure => simp [intOf]; omega
          · go_wp2
            go_ret
            exact ⟨rfl, HB2.out⟩
      · obtain rfl : k = 0 := by omega
        clear g0
        go_wp2
        refine wp_loop_rounds 1 ?_
        rw [rounds_succ]
        go_wp2
        go_ret
        exact ⟨rfl, HB2.out⟩

theorem range_long (a0 : Int) (ra : Option Addr) (len cap : Nat) (w : World) (hlen : ¬ len ≤ 1024) :
    Calls Yba.prog 8 #[.int .u8 a0, .slice ra len cap] w fun e w' => e = .returned (.bool true) ∧ Below w.heap.size w w' := by
  go_enter Yba.func8, Yba.ntmps8
  go_wp2
  go_ret
  exact ⟨rfl, Below.refl _ _⟩
end Go.Proofs.Ybulkauuw
