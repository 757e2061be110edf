import Derived.Test.YbulkauuwModel
import Derived.Test.YbulkauuwRange
import Derived.WalkSpells
import Derived.Deep.Draws
namespace Go.Proofs.Ybulkauuw
open Go.RowKit

theorem below_drewN {B : Nat} {w w' : World} (h : Below B w w') (n : Nat) : Below B w (w'.drewN n) := ⟨h.os, h.tape, h.output, h.size, h.block⟩

set_option maxHeartbeats 2000000 in
theorem matches_core (a0 : Int) (x : Addr) (len cap : Nat) (zs : Nat → Int) (w : World) (h0 : 0 ≤ a0 ∧ a0 ≤ 255) (hlen : len ≤ 1024) (hz : Came w (some x) len zs) :
    Calls Yba.prog 7 #[.int .u8 a0, .slice (some x) len cap] w fun e w' => e = .returned (.bool true) ∧ Below w.heap.size w w' := by
  obtain ⟨hr, hzb⟩ := hz
  obtain ⟨n, hn⟩ : ∃ n, a0 % 16 + 1 = n := ⟨_, rfl⟩
  have hn1 : 1 ≤ n := by omega
  have hn2 : n ≤ 16 := by omega
  have hmk := run_make_row' (P := Yba.prog) 26 5 (.int .u8 0) 1 Yba.underlying26 Yba.info5 rfl .i64 .i64 len (by omega) (by omega)
  have hne := fun w => run_neq_slice_nil_any (P := Yba.prog) w 26 5 (some x) len cap 0 0 Yba.underlying26
  go_enter Yba.func7, Yba.ntmps7
  go_wp2
  clear hmk hn hne
  go_loopw [7] (fun i wr => ∃ k : Nat, k ≤ len ∧ i = .int .i64 k ∧ wr.rowIs w.heap.size 5 len (fun j => .int .u8 (if j < k then zs j % n else 0)) ∧ Below w.heap.size w wr)
    (fun i _ => len - (intOf i).toNat)
  case atStart =>
    exact ⟨0, Nat.zero_le _, rfl, World.rowIs_made w (.int .u8 0) len 5, (Below.refl _ _).alloc (Nat.le_refl _) _⟩
  case round =>
    obtain ⟨k, hk, rfl, hrow, hbel⟩ := hrel
    by_cases hlt : k < len
    · obtain ⟨rb, ro, hx, hrb, hcell⟩ := hr (by omega)
      cases hx
      have d2 : wr.cell? ⟨rb, ro + k, none⟩ = some (.int .u8 (zs k)) := (hbel.cell hrb).trans (hcell k hlt)
      have hfz := hrow.frozen k
      have hck := hrow.cell hlt
      have hbt := hzb k hlt
      have hmod1 : 0 ≤ zs k % n := Int.emod_nonneg _ (by omega)
      have hmod2 : zs k % n < n := Int.emod_lt_of_pos _ (by omega)
      have HR : Hid (wr.rowIs w.heap.size 5 len (fun j => .int .u8 (if j < k then zs j % n else 0))) := hrow
      clear hrow hcell hr hzb
      go_wp2
      go_roundw
      case rel => exact ⟨k + 1, by omega, by go_num, types_step (f := fun j => zs j % n) HR.out rfl, hbel.setCell (Nat.le_refl _) _⟩
      case measure => simp [intOf]; omega
    · obtain rfl : k = len := by omega
      have hts : ∀ j, j < k → 0 ≤ zs j % n ∧ zs j % n < n := fun j _ => ⟨Int.emod_nonneg _ (by omega), Int.emod_lt_of_pos _ (by omega)⟩
      have hrow2 : wr.rowIs w.heap.size 5 k (fun j => .int .u8 (zs j % n)) := hrow.congr fun j hj => by rw [if_pos hj]
      have HRAW : Hid (Came w (some x) k zs) := ⟨hr, hzb⟩
      clear hrow hr hzb
      have hwl : w.heap.size < wr.heap.size := hrow2.lt
      obtain ⟨W1, hW1⟩ : ∃ W1, W1 = wr.alloc (.cells #[.int .i64 n, .slice (some ⟨w.heap.size, 0, none⟩) k k, .slice none 0 0] 35) := ⟨_, rfl⟩
      have hsz : W1.heap.size = wr.heap.size + 1 := by rw [hW1]; simp
      have q0 : W1.cell? ⟨wr.heap.size, 0, none⟩ = some (.int .i64 n) := by rw [hW1]; simp
      have q1 : W1.cell? ⟨wr.heap.size, 1, none⟩ = some (.slice (some ⟨w.heap.size, 0, none⟩) k k) := by rw [hW1]; simp
      have hrow3 : W1.rowIs w.heap.size 5 k (fun j => .int .u8 (zs j % n)) := by rw [hW1]; exact hrow2.alloc _
      have hbel1 : Below w.heap.size w W1 := by rw [hW1]; exact hbel.alloc (Nat.le_of_lt hwl) _
      have C := codes_any wr.heap.size (some ⟨w.heap.size, 0, none⟩) k k n (fun j => zs j % n) W1 hn1 hn2 hlen hts (by omega) q0 q1
        (fun _ => ⟨w.heap.size, 0, rfl, by omega, fun j hj => by rw [Nat.zero_add]; exact hrow3.cell hj⟩)
      rw [hsz] at C
      have HRW : Hid (W1.rowIs w.heap.size 5 k (fun j => .int .u8 (zs j % n))) := hrow3
      have HQ : Hid (W1.heap.size = wr.heap.size + 1 ∧ W1.cell? ⟨wr.heap.size, 0, none⟩ = some (.int .i64 n) ∧ W1.cell? ⟨wr.heap.size, 1, none⟩ = some (.slice (some ⟨w.heap.size, 0, none⟩) k k)) := ⟨hsz, q0, q1⟩
      subst hW1
      have HC : Hid _ := C
      clear C hrow2 hrow3 q0 q1 hsz hbel
      go_wp2_with fail
      refine Calls.mono HC.out ?_
      rintro e w2 ⟨rfl, hrc, hb2⟩
      clear HC
      have hbel2 : Below w.heap.size w w2 := hbel1.trans (hb2.mono (by omega))
      have hrt : w2.rowIs w.heap.size 5 k (fun j => .int .u8 (zs j % n)) := HRW.out.of_block (hb2.block _ (by omega))
      have hs2 : wr.heap.size + 1 < w2.heap.size := hrc.lt
      have HF : Hid (w2.cell? ⟨wr.heap.size, 0, none⟩ = some (.int .i64 n) ∧ w2.cell? ⟨wr.heap.size, 1, none⟩ = some (.slice (some ⟨w.heap.size, 0, none⟩) k k)) :=
        ⟨(hb2.cell (by simp)).trans HQ.out.2.1, (hb2.cell (by simp)).trans HQ.out.2.2⟩
      have M := model_any (some ⟨w.heap.size, 0, none⟩) k k n (fun j => zs j % n) w2 hn1 hn2 hlen hts
        (fun _ => ⟨w.heap.size, 0, rfl, by omega, fun j hj => by rw [Nat.zero_add]; exact hrt.cell hj⟩)
      have HM : Hid _ := M
      have HB2 : Hid (Below w.heap.size w w2) := hbel2
      have HRC : Hid (w2.rowIs (wr.heap.size + 1) 3 k (fun j => .int .i64 (codeAt n (fun j => zs j % n) j))) := hrc
      have HRT : Hid (w2.rowIs w.heap.size 5 k (fun j => .int .u8 (zs j % n))) := hrt
      clear M hbel1 hb2 hbel2 hrt hrc HRW HQ
      go_wp2_with fail
      refine Calls.mono HM.out ?_
      rintro e w3 ⟨rfl, hrw, hb3⟩
      clear HM
      have f0 : w3.cell? ⟨wr.heap.size, 0, none⟩ = some (.int .i64 n) := (hb3.cell (show wr.heap.size < w2.heap.size by omega)).trans HF.out.1
      have f1 : w3.cell? ⟨wr.heap.size, 1, none⟩ = some (.slice (some ⟨w.heap.size, 0, none⟩) k k) := (hb3.cell (show wr.heap.size < w2.heap.size by omega)).trans HF.out.2
      have HG : Hid (w3.rowIs (wr.heap.size + 1) 3 k (fun j => .int .i64 (codeAt n (fun j => zs j % n) j))) := HRC.out.of_block (hb3.block _ (by omega))
      have HT : Hid (w3.rowIs w.heap.size 5 k (fun j => .int .u8 (zs j % n))) := HRT.out.of_block (hb3.block _ (by omega))
      have HB : Hid (Below w.heap.size w w3) := HB2.out.trans (hb3.mono (by omega))
      have HW : Hid (w3.rowIs w2.heap.size 3 k (fun j => .int .i64 (codeAt n (fun j => zs j % n) j))) := hrw
      clear hb3 hrw HRC HRT HB2 HF
      go_wp2
      go_loopw [11] (fun i wx => ∃ j q : Nat, j ≤ k ∧ i = .int .i64 j ∧ wx = w3.drewN q) (fun i _ => k - (intOf i).toNat)
      case atStart => exact ⟨0, 0, Nat.zero_le _, rfl, rfl⟩
      case round =>
        obtain ⟨j, q, hj, rfl, rfl⟩ := hrel
        by_cases hlt : j < k
        · have cg := HG.out.cell hlt
          have cw := HW.out.cell hlt
          have hjI : (j : Int) < (k : Int) := by omega
          generalize codeAt n (fun j => zs j % n) j = C at *
          go_wp2
          go_quiet (fail)
          go_wp2
          go_roundw
          case rel => exact ⟨j + 1, _, by omega, by go_num, rfl⟩
          case measure => simp [intOf]; omega
        · go_wp2
          go_loopw [12] (fun i wx => ∃ j q : Nat, j ≤ k ∧ i = .int .i64 j ∧ wx = w3.drewN q) (fun i _ => k - (intOf i).toNat)
          case atStart => exact ⟨0, q, Nat.zero_le _, rfl, rfl⟩
          case round =>
            obtain ⟨m, q2, hm, rfl, rfl⟩ := hrel
            by_cases hlt2 : m < k
            · obtain ⟨rb, ro, hx, hrb, hcell⟩ := HRAW.out.1 (by omega)
              cases hx
              have d2 : w3.cell? ⟨rb, ro + m, none⟩ = some (.int .u8 (zs m)) := (HB.out.cell hrb).trans (hcell m hlt2)
              have ct := HT.out.cell hlt2
              have hbt := HRAW.out.2 m hlt2
              have hmod1 : 0 ≤ zs m % n := Int.emod_nonneg _ (by omega)
              have hmod2 : zs m % n < n := Int.emod_lt_of_pos _ (by omega)
              have hjI : (m : Int) < (k : Int) := by omega
              clear hcell
              go_wp2
              go_quiet (fail)
              go_wp2
              go_roundw
              case rel => exact ⟨m + 1, _, by omega, by go_num, rfl⟩
              case measure => simp [intOf]; omega
            · go_wp2
              go_ret
              exact ⟨rfl, below_drewN HB.out _⟩

set_option maxHeartbeats 2000000 in
theorem matches_nil (a0 : Int) (w : World) (h0 : 0 ≤ a0 ∧ a0 ≤ 255) :
    Calls Yba.prog 7 #[.int .u8 a0, .slice none 0 0] w fun e w' => e = .returned (.bool true) ∧ Below w.heap.size w w' := by
  obtain ⟨n, hn⟩ : ∃ n, a0 % 16 + 1 = n := ⟨_, rfl⟩
  have hn1 : 1 ≤ n := by omega
  have hn2 : n ≤ 16 := by omega
  have hne := fun w => run_neq_slice_nil_any (P := Yba.prog) w 26 5 none 0 0 0 0 Yba.underlying26
  obtain ⟨W1, hW1⟩ : ∃ W1, W1 = w.alloc (.cells #[.int .i64 n, .slice none 0 0, .slice none 0 0] 35) := ⟨_, rfl⟩
  have hsz : W1.heap.size = w.heap.size + 1 := by rw [hW1]; simp
  have q0 : W1.cell? ⟨w.heap.size, 0, none⟩ = some (.int .i64 n) := by rw [hW1]; simp
  have q1 : W1.cell? ⟨w.heap.size, 1, none⟩ = some (.slice none 0 0) := by rw [hW1]; simp
  have hbel1 : Below w.heap.size w W1 := by rw [hW1]; exact (Below.refl _ _).alloc (Nat.le_refl _) _
  have C := codes_any w.heap.size none 0 0 n (fun _ => 0) W1 hn1 hn2 (by omega) (fun j hj => absurd hj (by omega)) (by omega) q0 q1 (fun h => absurd h (by omega))
  rw [hsz] at C
  have HQ : Hid (W1.heap.size = w.heap.size + 1 ∧ W1.cell? ⟨w.heap.size, 0, none⟩ = some (.int .i64 n) ∧ W1.cell? ⟨w.heap.size, 1, none⟩ = some (.slice none 0 0)) := ⟨hsz, q0, q1⟩
  subst hW1
  have HC : Hid _ := C
  clear C q0 q1 hsz
  go_enter Yba.func7, Yba.ntmps7
  go_wp2_with fail
  refine Calls.mono HC.out ?_
  rintro e w2 ⟨rfl, hrc, hb2⟩
  clear HC
  have hbel2 : Below w.heap.size w w2 := hbel1.trans (hb2.mono (by omega))
  have hs2 : w.heap.size + 1 < w2.heap.size := hrc.lt
  have HF : Hid (w2.cell? ⟨w.heap.size, 0, none⟩ = some (.int .i64 n) ∧ w2.cell? ⟨w.heap.size, 1, none⟩ = some (.slice none 0 0)) :=
    ⟨(hb2.cell (by simp)).trans HQ.out.2.1, (hb2.cell (by simp)).trans HQ.out.2.2⟩
  have M := model_any none 0 0 n (fun _ => 0) w2 hn1 hn2 (by omega) (fun j hj => absurd hj (by omega)) (fun h => absurd h (by omega))
  have HM : Hid _ := M
  have HB2 : Hid (Below w.heap.size w w2) := hbel2
  clear M hbel1 hb2 hbel2 hrc HQ
  go_wp2_with fail
  refine Calls.mono HM.out ?_
  rintro e w3 ⟨rfl, hrw, hb3⟩
  clear HM
  have f0 : w3.cell? ⟨w.heap.size, 0, none⟩ = some (.int .i64 n) := (hb3.cell (show w.heap.size < w2.heap.size by omega)).trans HF.out.1
  have f1 : w3.cell? ⟨w.heap.size, 1, none⟩ = some (.slice none 0 0) := (hb3.cell (show w.heap.size < w2.heap.size by omega)).trans HF.out.2
  have HB : Hid (Below w.heap.size w w3) := HB2.out.trans (hb3.mono (by omega))
  clear hb3 hrw HB2 HF
  go_wp2
  refine wp_loop_rounds 1 ?_
  rw [rounds_succ]
  go_wp2
  refine wp_loop_rounds 1 ?_
  rw [rounds_succ]
  go_wp2
  go_ret
  exact ⟨rfl, HB.out⟩

theorem matches_long (a0 : Int) (ra : Option Addr) (len cap : Nat) (w : World) (hlen : ¬ len ≤ 1024) :
    Calls Yba.prog 7 #[.int .u8 a0, .slice ra len cap] w fun e w' => e = .returned (.bool true) ∧ Below w.heap.size w w' := by
  go_enter Yba.func7, Yba.ntmps7
  go_wp2
  go_ret
  exact ⟨rfl, Below.refl _ _⟩
end Go.Proofs.Ybulkauuw
