import Derived.Test.YbulkauuwRows
import Derived.WalkKit
import Derived.ProofKit
import Derived.Below
import Derived.Deep.OwnRows
import Derived.Deep.QuietTactic
import Derived.BigQuiet
namespace Go.Proofs.Ybulkauuw
open Go.RowKit

theorem Yba.info3 : (Yba.prog.info? 3).map (fun i => (i.zero, i.size, i.bytes)) = some (some (.int .i64 0), 1, 8) := by kernel_rfl
theorem Yba.info5 : (Yba.prog.info? 5).map (fun i => (i.zero, i.size, i.bytes)) = some (some (.int .u8 0), 1, 1) := by kernel_rfl

/-- The type of the block before block i (0 ahead of the first). -/
def lastAt (ts : Nat → Int) (i : Nat) : Int := if i ≤ 1 then 0 else ts (i - 1)
/-- The type of the block before that. -/
def secondAt (ts : Nat → Int) (i : Nat) : Int := if i ≤ 1 then 1 else lastAt ts (i - 1)
/-- The block type code of block i. -/
def codeAt (n : Int) (ts : Nat → Int) (i : Nat) : Int :=
  if i = 0 then 0 else if ts i = (lastAt ts i + 1) % n then 1 else if ts i = secondAt ts i then 0 else ts i + 2

theorem lastAt_succ (ts : Nat → Int) (k : Nat) (hk : 1 ≤ k) : lastAt ts (k + 1) = ts k := by
  unfold lastAt; rw [if_neg (by omega)]; rfl
theorem secondAt_succ (ts : Nat → Int) (k : Nat) (hk : 1 ≤ k) : secondAt ts (k + 1) = lastAt ts k := by
  unfold secondAt; rw [if_neg (by omega)]; rfl
theorem lastAt_bd (n : Int) (ts : Nat → Int) (len k : Nat) (hn : 1 ≤ n) (hts : ∀ j, j < len → 0 ≤ ts j ∧ ts j < n) (hk : k ≤ len) : 0 ≤ lastAt ts k ∧ lastAt ts k < n := by
  unfold lastAt
  split
  · omega
  · exact hts _ (by omega)

/-- What a store of block k's code does to the row of codes. -/
theorem codes_step {w : World} {B len k : Nat} {n : Int} {ts : Nat → Int} {c : Int}
    (h : w.rowIs B 3 len (fun j => .int .i64 (if j < k then codeAt n ts j else 0))) (hc : c = codeAt n ts k) :
    (w.setCell ⟨B, k, none⟩ (.int .i64 c)).rowIs B 3 len (fun j => .int .i64 (if j < k + 1 then codeAt n ts j else 0)) := by
  refine (h.set k (.int .i64 c)).congr fun j _ => ?_
  show (if j = k then Value.int .i64 c else _) = _
  by_cases e : j = k
  · rw [if_pos e, if_pos (by omega), e, hc]
  · rw [if_neg e]
    by_cases e2 : j < k
    · rw [if_pos e2, if_pos (by omega)]
    · rw [if_neg e2, if_neg (by omega)]

set_option maxHeartbeats 1000000 in
theorem codes_any (sb : Nat) (ta : Option Addr) (len cap : Nat) (n : Int) (ts : Nat → Int) (w : World) (hn : 1 ≤ n) (hn2 : n ≤ 16) (hlen : len ≤ 1024)
    (hts : ∀ j, j < len → 0 ≤ ts j ∧ ts j < n) (hsb : sb < w.heap.size)
    (c0 : w.cell? ⟨sb, 0, none⟩ = some (.int .i64 n)) (c1 : w.cell? ⟨sb, 1, none⟩ = some (.slice ta len cap))
    (hta : 0 < len → ∃ tb to, ta = some ⟨tb, to, none⟩ ∧ tb < w.heap.size ∧ ∀ k, k < len → w.cell? ⟨tb, to + k, none⟩ = some (.int .u8 (ts k))) :
    Calls Yba.prog 13 #[.pointer (some ⟨sb, 0, none⟩)] w fun e w' =>
      e = .returned (.slice (some ⟨w.heap.size, 0, none⟩) len len) ∧ w'.rowIs w.heap.size 3 len (fun j => .int .i64 (codeAt n ts j)) ∧ Below w.heap.size w w' := by
  have hmk := run_make_row' (P := Yba.prog) 36 3 (.int .i64 0) 8 Yba.underlying36 Yba.info3 rfl .i64 .i64 len (by omega) (by omega)
  go_enter Yba.func13, Yba.ntmps13
  go_wp2
  clear hmk
  go_loopw [4, 5, 6] (fun l s i wr => ∃ k : Nat, 1 ≤ k ∧ (k ≤ len ∨ k = 1) ∧ i = .int .i64 k ∧ l = .int .i64 (lastAt ts k) ∧ s = .int .i64 (secondAt ts k) ∧
      wr.rowIs w.heap.size 3 len (fun j => .int .i64 (if j < k then codeAt n ts j else 0)) ∧ Below w.heap.size w wr) (fun _ _ i _ => len + 1 - (intOf i).toNat)
  case atStart =>
    refine ⟨1, Nat.le_refl _, Or.inr rfl, rfl, rfl, rfl, ?_, (Below.refl _ _).alloc (Nat.le_refl _) _⟩
    refine (World.rowIs_made w (.int .i64 0) len 3).congr fun j _ => ?_
    by_cases e : j < 1
    · obtain rfl : j = 0 := by omega
      rfl
    · rw [if_neg e]
  case round =>
    obtain ⟨k, hk1, hk, rfl, rfl, rfl, hrow, hbel⟩ := hrel
    have d0 : wr.cell? ⟨sb, 0, none⟩ = some (.int .i64 n) := (hbel.cell hsb).trans c0
    have d1 : wr.cell? ⟨sb, 1, none⟩ = some (.slice ta len cap) := (hbel.cell hsb).trans c1
    by_cases hlt : k < len
    · obtain ⟨tb, to, rfl, htb, hcell⟩ := hta (by omega)
      have d2 : wr.cell? ⟨tb, to + k, none⟩ = some (.int .u8 (ts k)) := (hbel.cell htb).trans (hcell k hlt)
      have hfz := hrow.frozen k
      have hck := hrow.cell hlt
      have hbt := hts k hlt
      have hbl := lastAt_bd n ts len k hn hts (by omega)
      have HL : Hid (lastAt ts (k + 1) = ts k) := lastAt_succ ts k hk1
      have HS : Hid (secondAt ts (k + 1) = lastAt ts k) := secondAt_succ ts k hk1
      have HC : Hid (codeAt n ts k = if ts k = (lastAt ts k + 1) % n then 1 else if ts k = secondAt ts k then 0 else ts k + 2) := by
        unfold codeAt; exact if_neg (by omega)
      clear hts hcell hta c0 c1
      generalize hT : ts k = T at *
      generalize hLL : lastAt ts k = L at *
      generalize hSS : secondAt ts k = S at *
      have HT : Hid (ts k = T) := hT
      have HLL : Hid (lastAt ts k = L) := hLL
      have HSS : Hid (secondAt ts k = S) := hSS
      clear hT hLL hSS
      have HR : Hid (wr.rowIs w.heap.size 3 len (fun j => .int .i64 (if j < k then codeAt n ts j else 0))) := hrow
      clear hrow
      have fin : ∀ c : Int, c = codeAt n ts k → (∃ k' : Nat, 1 ≤ k' ∧ (k' ≤ len ∨ k' = 1) ∧ Value.int .i64 ((k : Int) + 1) = .int .i64 k' ∧ Value.int .i64 T = .int .i64 (lastAt ts k') ∧ Value.int .i64 L = .int .i64 (secondAt ts k') ∧
          (wr.setCell ⟨w.heap.size, k, none⟩ (.int .i64 c)).rowIs w.heap.size 3 len (fun j => .int .i64 (if j < k' then codeAt n ts j else 0)) ∧ Below w.heap.size w (wr.setCell ⟨w.heap.size, k, none⟩ (.int .i64 c))) := fun c hc =>
        ⟨k + 1, by omega, Or.inl (by omega), by go_num, by rw [HL.out], by rw [HS.out], codes_step HR.out hc, hbel.setCell (Nat.le_refl _) _⟩
      have FIN : Hid _ := fin
      clear fin
      by_cases e1 : T = (L + 1) % n
      · have b1 : (T == (L + 1) % n) = true := by simpa using e1
        have H1 : Hid (codeAt n ts k = 1) := HC.out.trans (if_pos e1)
        clear e1
        go_wp2
        go_roundw
        case rel => exact FIN.out 1 H1.out.symm
        case measure => simp [intOf]; omega
      · have b1 : (T == (L + 1) % n) = false := by simpa using e1
        by_cases e2 : T = S
        · have b2 : (T == S) = true := by simpa using e2
          have H1 : Hid (codeAt n ts k = 0) := HC.out.trans ((if_neg e1).trans (if_pos e2))
          clear e1 e2
          go_wp2
          go_roundw
          case rel => exact FIN.out 0 H1.out.symm
          case measure => simp [intOf]; omega
        · have b2 : (T == S) = false := by simpa using e2
          have H1 : Hid (codeAt n ts k = T + 2) := HC.out.trans ((if_neg e1).trans (if_neg e2))
          clear e1 e2
          go_wp2
          go_roundw
          case rel => exact FIN.out (T + 2) H1.out.symm
          case measure => simp [intOf]; omega
    · go_wp2
      go_ret
      refine ⟨rfl, hrow.congr fun j hj => ?_, hbel⟩
      rw [if_pos (by omega)]
end Go.Proofs.Ybulkauuw
