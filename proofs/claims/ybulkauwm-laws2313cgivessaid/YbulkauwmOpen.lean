import Derived.Test.YbulkauwmRows
import Derived.Test.YbulkauwmAsks
import Derived.ProofKit
import Derived.OpenShut
import Derived.ChangeOld
import Derived.Deep.Slices
import Derived.Deep.Strs
namespace Go.Proofs.Ybulkauwm
open Go.ChangeShapes Go.WideShapes Go.ChangeAt Go.RowKit Go.Deep

theorem own : ownKnob Yba.prog.godebug = none := by kernel_rfl
theorem laidOut : laidOutB Yba.prog = true := by kernel_rfl
theorem cells36 : Yba.prog.cellsOf 36 = 3 := by kernel_rfl
theorem cells5 : Yba.prog.cellsOf 5 = 1 := by kernel_rfl
theorem cells21 : Yba.prog.cellsOf 21 = 1 := by kernel_rfl
theorem cells9 : Yba.prog.cellsOf 9 = 1 := by kernel_rfl

theorem list3 {l : List Value} (h : l.length = 3) : ∃ a b c, l = [a, b, c] := by
  match l, h with
  | [a, b, c], _ => exact ⟨a, b, c, rfl⟩

set_option maxRecDepth 100000 in
/-- The held rumors that came in, opened. -/
theorem held_open {H : Type} {enc : TypeId × Value → H} {W : World} {fuel : Nat} {a0 : Option Addr} {len cap : Nat} {x : DataW H × List MemPlace}
    (h : DataW.trod enc Yba.prog W 0 (fun _ => true) true fuel 26 [.slice a0 len cap] = some x) : ∃ hid hborn htxt, HeldAt W a0 len hid hborn htxt := by
  rcases open_slice Yba.underlying26 h with ⟨e, _⟩ | ⟨a, l, c, m, n, D, Pl, e, _, hl, _, hm, _, hx⟩
  · simp at e
    obtain ⟨rfl, rfl, rfl⟩ := e
    exact ⟨fun _ => 0, fun _ => 0, fun _ => ⟨#[]⟩, fun h => absurd h (by omega), fun k hk => absurd hk (by omega)⟩
  · simp at e
    obtain ⟨rfl, rfl, rfl⟩ := e
    simp at hm
    have each : ∀ i, i < len → ∃ q : Int × Int × ByteArray, W.cell? (a.add (i * 3)) = some (.int .u8 q.1) ∧ W.cell? (a.add (i * 3 + 1)) = some (.int .i32 q.2.1) ∧ W.cell? (a.add (i * 3 + 2)) = some (.string q.2.2) ∧
        (0 ≤ q.1 ∧ q.1 ≤ 255) ∧ (-2147483648 ≤ q.2.1 ∧ q.2.1 ≤ 2147483647) := by
      intro i hi
      obtain ⟨cs', h1, h2⟩ := hx i (by omega)
      rw [cells36] at h1
      obtain ⟨_, hlen, hcell⟩ := World.cells?_some h1
      obtain ⟨y0, y1, y2, n', _, _, g0, g1, g2⟩ := trod_struct3 Yba.underlying36 h2
      obtain ⟨v0, v1, v2, rfl⟩ := list3 hlen
      · simp [cells5, cells21, cells9] at g0 g1 g2
        obtain ⟨z0, e0, _, w0⟩ := DataW.trod_int Yba.underlying5 g0
        obtain ⟨z1, e1, _, w1⟩ := DataW.trod_int Yba.underlying21 g1
        obtain ⟨s, e2, _, _⟩ := DataW.trod_string Yba.underlying9 g2
        simp at e0 e1 e2
        subst e0 e1 e2
        have c0 := hcell 0 (by omega)
        have c1 := hcell 1 (by omega)
        have c2 := hcell 2 (by omega)
        rw [add_add] at c0 c1 c2
        exact ⟨(z0, z1, s), by simpa using c0, by simpa using c1, by simpa using c2, bounds_u8 w0, bounds_i32 w1⟩
    obtain ⟨q, hq⟩ := choose_lt each
    refine ⟨fun i => (q i).1, fun i => (q i).2.1, fun i => (q i).2.2, fun hp => ?_, fun k hk => ⟨(hq k hk).2.2.2.1, (hq k hk).2.2.2.2⟩⟩
    obtain ⟨b, off, spot⟩ := a
    have h0 := (hq 0 hp).1
    have hspot : spot = none := by simpa [Addr.add] using World.cell?_spot h0
    subst hspot
    refine ⟨b, off, rfl, ?_, fun k hk => ?_⟩
    · rw [add_plain] at h0
      exact World.block_lt_of_cell? W _ h0
    · have := hq k hk
      rw [add_plain, add_plain, add_plain] at this
      exact ⟨this.1, by simpa [Nat.add_assoc] using this.2.1, by simpa [Nat.add_assoc] using this.2.2.1⟩

/-- The bytes that came in, opened. -/
theorem bytes_open {H : Type} {enc : TypeId × Value → H} {W : World} {fuel : Nat} {a0 : Option Addr} {len cap : Nat} {x : DataW H × List MemPlace}
    (h : DataW.trod enc Yba.prog W 0 (fun _ => true) true fuel 27 [.slice a0 len cap] = some x) : ∃ sp, BytesAt W a0 len sp := by
  rcases open_ints Yba.underlying27 Yba.underlying5 (by kernel_rfl) h with ⟨hcs, _⟩ | ⟨x, l, c, zs, hcs, _, hl, hm, hz, _, hcell, hwz⟩
  · simp at hcs
    obtain ⟨rfl, rfl, rfl⟩ := hcs
    exact ⟨fun _ => 0, fun h => absurd h (by omega), fun k hk => absurd hk (by omega)⟩
  · simp at hcs
    obtain ⟨rfl, rfl, rfl⟩ := hcs
    simp at hz
    refine ⟨fun k => zs.getD k 0, fun hp => ?_, fun k hk => ?_⟩
    · obtain ⟨b, off, rfl, hc⟩ := ints_at hcell (by omega)
      exact ⟨b, off, rfl, World.block_lt_of_cell? W _ (hc 0 (by omega)), fun k hk => hc k (by omega)⟩
    · have hk' : k < zs.length := by omega
      have : zs.getD k 0 = zs[k] := by simp [List.getD, hk']
      show 0 ≤ zs.getD k 0 ∧ zs.getD k 0 ≤ 255
      rw [this]
      exact bounds_u8 (hwz _ (List.getElem_mem hk'))
end Go.Proofs.Ybulkauwm
