import Derived.Test.YbulkauxoProg
import Derived.Test.YbulkauxoBfs
import Derived.WalkKit
import Derived.Below
import Derived.Lib.Strings
import Derived.Lib.Slices
import Derived.Lib.Small
import Derived.Lib.Walk
import Derived.Lib.BitFns
import Derived.Deep.OwnRows
import Derived.Deep.QuietTactic
import Derived.Deep.RegionWith
import Derived.BigQuiet
import Derived.WalkSpells
import Derived.StillTactics
import Derived.Laws.Pointers
import Derived.Deep.RegionHeld3
namespace Go.Proofs.Ybulkauxo
open Go.RowKit

theorem low1 : ∀ x : Nat, x < 128 → bits BinOp.or IntKind.u64 0 (IntKind.u64.wrap (IntKind.u64.wrap (bits BinOp.and IntKind.u8 (x : Int) 127))) = (x : Int) := by decide +kernel

set_option maxRecDepth 100000 in
theorem uvarint1 (b o len cap x : Nat) (w : World) (hx : x < 128) (hl : 1 ≤ len) (h0 : w.cell? ⟨b, o, none⟩ = some (.int .u8 (x : Int))) :
    Calls Yba.prog 23 #[.slice (some ⟨b, o, none⟩) len cap, .int .i64 0] w fun e w' => e = .returned (.tuple #[.int .u64 (x : Int), .int .i64 1]) ∧ w' = w := by
  go_enter Yba.func23, Yba.ntmps23
  go_wp2
  refine wp_loop_rounds 1 ?_
  rw [rounds_succ]
  go_wp2
  rw [low1 x hx]
  go_ret2
  exact ⟨rfl, rfl⟩

theorem low2 : ∀ x : Nat, x < 1025 → 128 ≤ x → bits BinOp.or IntKind.u64
            (bits BinOp.or IntKind.u64 0 (IntKind.u64.wrap (IntKind.u64.wrap (bits BinOp.and IntKind.u8 (((x % 128 + 128 : Nat) : Int)) 127))))
            (IntKind.u64.wrap (IntKind.u64.wrap (bits BinOp.and IntKind.u8 (((x / 128 : Nat) : Int)) 127) * 128)) = (x : Int) := by decide +kernel
set_option maxRecDepth 100000 in
theorem uvarint2 (b o len cap x : Nat) (w : World) (hx : 128 ≤ x) (hx2 : x ≤ 1024) (hl : 2 ≤ len) (h0 : w.cell? ⟨b, o, none⟩ = some (.int .u8 ((x % 128 + 128 : Nat) : Int))) (h1 : w.cell? ⟨b, o + 1, none⟩ = some (.int .u8 ((x / 128 : Nat) : Int))) :
    Calls Yba.prog 23 #[.slice (some ⟨b, o, none⟩) len cap, .int .i64 0] w fun e w' => e = .returned (.tuple #[.int .u64 (x : Int), .int .i64 2]) ∧ w' = w := by
  have hy1 : 128 ≤ x % 128 + 128 := by omega
  have hy2 : x % 128 + 128 < 256 := by omega
  have hz : x / 128 < 128 := by omega
  generalize hy : x % 128 + 128 = y at h0 hy1 hy2
  generalize hz' : x / 128 = z at h1 hz
  have HX : Hid (x % 128 + 128 = y ∧ x / 128 = z ∧ 128 ≤ x ∧ x ≤ 1024) := ⟨hy, hz', hx, hx2⟩
  clear hy hz' hx hx2
  go_enter Yba.func23, Yba.ntmps23
  go_wp2
  refine wp_loop_rounds 2 ?_
  rw [rounds_succ]
  go_wp2
  rw [rounds_succ]
  go_wp2
  obtain ⟨h1, h2, h3, h4⟩ := HX.out
  rw [← h1, ← h2, low2 x (by omega) h3]
  go_ret2
  exact ⟨rfl, rfl⟩

/-- Where the key of state s starts in the list's bytes. -/
def kend (s : Nat) : Nat := s + (s - 127)
def KeyIn (w : World) (kb o x : Nat) : Prop :=
  (x < 128 → w.cell? ⟨kb, o, none⟩ = some (.int .u8 (x : Int))) ∧
  (128 ≤ x → w.cell? ⟨kb, o, none⟩ = some (.int .u8 ((x % 128 + 128 : Nat) : Int)) ∧ w.cell? ⟨kb, o + 1, none⟩ = some (.int .u8 ((x / 128 : Nat) : Int)))
/-- The keys of n states, state s under uvarint(s+1). -/
def KeysAt (w : World) (M n : Nat) : Prop := ∃ kb eb kcap ecap, w.cell? ⟨M, 12, none⟩ = some (.slice (some ⟨kb, 0, none⟩) (kend n) kcap) ∧ w.cell? ⟨M, 13, none⟩ = some (.slice (some ⟨eb, 0, none⟩) n ecap) ∧ kend n ≤ kcap ∧
  (∀ s, s < n → w.cell? ⟨eb, s, none⟩ = some (.int .u32 (kend (s + 1) : Int))) ∧ ∀ s, s < n → KeyIn w kb (kend s) (s + 1)

set_option maxRecDepth 100000 in
theorem at_any (M n s : Nat) (w : World) (hn : n ≤ 1024) (hs : s < n) (hk : KeysAt w M n) :
    Calls Yba.prog 21 #[.pointer (some ⟨M, 12, none⟩), .int .i64 (s : Int)] w fun e w' => (∃ kb c, e = .returned (.slice (some ⟨kb, kend s, none⟩) (kend (s + 1) - kend s) c) ∧ KeyIn w kb (kend s) (s + 1)) ∧ ∃ q, w' = w.drewN q := by
  obtain ⟨kb, eb, kcap, ecap, h1, h2, h3, h4, h5⟩ := hk
  have c1 := h4 s hs
  have hk := h5 s hs
  have l1 : kend s < kend (s + 1) := by unfold kend; omega
  have l2 : kend (s + 1) ≤ kend n := by unfold kend; omega
  have l3 : kend n ≤ 2048 := by unfold kend; omega
  have HK : Hid _ := hk
  clear hk h5
  by_cases h0 : 0 < s
  · have c0 := h4 (s - 1) (by omega)
    rw [show s - 1 + 1 = s by omega] at c0
    clear h4
    generalize kend (s + 1) = y at *
    generalize kend n = z at *
    generalize hx : kend s = x at *
    clear hx
    go_enter Yba.func21, Yba.ntmps21
    go_wp2
    go_quiet (fail)
    go_wp2
    go_ret
    exact ⟨⟨_, _, rfl, HK.out⟩, _, rfl⟩
  · obtain rfl : s = 0 := by omega
    clear h4
    have hx : kend 0 = 0 := rfl
    rw [hx] at HK l1 ⊢
    generalize kend (0 + 1) = y at *
    generalize kend n = z at *
    clear hx
    go_enter Yba.func21, Yba.ntmps21
    go_wp2
    go_quiet (fail)
    go_wp2
    go_ret
    exact ⟨⟨_, _, rfl, HK.out⟩, _, rfl⟩
end Go.Proofs.Ybulkauxo
