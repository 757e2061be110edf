import Derived.Test.YbulkauwmBuild
import Derived.Test.YbulkauwmSearch
import Derived.Test.YbulkauwmSort
namespace Go.Proofs.Ybulkauwm
open Go.RowKit

/-- Below block number B all is as it was but blocks wb and ib. -/
structure Keeps (B wb ib : Nat) (w w' : World) : Prop where
  os : w'.os = w.os
  tape : w'.tape = w.tape
  output : w'.output = w.output
  size : w.heap.size ≤ w'.heap.size
  block : ∀ k, k < B → k ≠ wb → k ≠ ib → w'.heap[k]? = w.heap[k]?

namespace Keeps
variable {B wb ib : Nat} {a w w' : World}
theorem refl (B wb ib : Nat) (w : World) : Keeps B wb ib w w := ⟨rfl, rfl, rfl, Nat.le_refl _, fun _ _ _ _ => rfl⟩
theorem trans (h : Keeps B wb ib a w) (k : Keeps B wb ib w w') : Keeps B wb ib a w' :=
  ⟨k.os.trans h.os, k.tape.trans h.tape, k.output.trans h.output, Nat.le_trans h.size k.size, fun i hi h1 h2 => (k.block i hi h1 h2).trans (h.block i hi h1 h2)⟩
theorem drew (h : Keeps B wb ib a w) : Keeps B wb ib a w.drew := ⟨h.os, h.tape, h.output, h.size, h.block⟩
theorem drewN (h : Keeps B wb ib a w) (n : Nat) : Keeps B wb ib a (w.drewN n) := ⟨h.os, h.tape, h.output, h.size, h.block⟩
theorem alloc (h : Keeps B wb ib a w) (hB : B ≤ w.heap.size) (o : Obj) : Keeps B wb ib a (w.alloc o) :=
  h.trans ⟨rfl, rfl, rfl, by simp, fun k hk _ _ => Below.heap_alloc _ _ _ (by omega)⟩
theorem setCell (h : Keeps B wb ib a w) {p : Addr} (hp : B ≤ p.block ∨ p.block = wb ∨ p.block = ib) (u : Value) : Keeps B wb ib a (w.setCell p u) :=
  h.trans ⟨rfl, rfl, rfl, by simp [World.setCell], fun k hk h1 h2 => Below.heap_setCell _ _ _ _ (by omega)⟩
theorem grown {row : Option Nat} (h : Keeps B wb ib a w) (hg : w.grownBy w' row) (hB : B ≤ w.heap.size) (hr : ∀ k, row = some k → B ≤ k ∨ k = wb ∨ k = ib) : Keeps B wb ib a w' :=
  h.trans ⟨hg.os, hg.tape, hg.output, hg.size, fun k hk h1 h2 => hg.block k (by omega) (fun e => by have := hr k e.symm; omega)⟩
theorem below (h : Keeps B wb ib a w) (hb : Below w.heap.size w w') (hB : B ≤ w.heap.size) : Keeps B wb ib a w' :=
  h.trans ⟨hb.os, hb.tape, hb.output, hb.size, fun k hk _ _ => hb.block k (by omega)⟩
theorem to_below (h : Keeps B wb ib a w) {B0 : Nat} (h0 : B0 ≤ B) (h1 : B0 ≤ wb) (h2 : B0 ≤ ib) : Below B0 a w :=
  ⟨h.os, h.tape, h.output, h.size, fun k hk => h.block k (by omega) (by omega) (by omega)⟩
theorem cell (h : Keeps B wb ib a w) {p : Addr} (hp : p.block < B) (h1 : p.block ≠ wb) (h2 : p.block ≠ ib) : w.cell? p = a.cell? p := World.cell?_of_block (w := a) (h.block p.block hp h1 h2)
end Keeps

/-- The six cells of the work struct. -/
def workAt (w : World) (wb : Nat) (v0 v2 v3 : Value) : Prop := w.heap[wb]? = some (.cells #[v0, .slice none 0 0, v2, v3, .slice none 0 0, .slice none 0 0] 46 (0, 0))

theorem workAt.cells {w : World} {wb : Nat} {v0 v2 v3 : Value} (h : workAt w wb v0 v2 v3) :
    w.cell? ⟨wb, 0, none⟩ = some v0 ∧ w.cell? ⟨wb, 2, none⟩ = some v2 ∧ w.cell? ⟨wb, 3, none⟩ = some v3 ∧ w.frozen? ⟨wb, 2, none⟩ = false ∧ w.frozen? ⟨wb, 3, none⟩ = false := by
  unfold workAt at h
  refine ⟨?_, ?_, ?_, ?_, ?_⟩ <;> simp [World.cell?, World.frozen?, h]
theorem workAt.of_block {w w' : World} {wb : Nat} {v0 v2 v3 : Value} (h : workAt w wb v0 v2 v3) (e : w'.heap[wb]? = w.heap[wb]?) : workAt w' wb v0 v2 v3 := e.trans h
theorem workAt.lt {w : World} {wb : Nat} {v0 v2 v3 : Value} (h : workAt w wb v0 v2 v3) : wb < w.heap.size := (Array.getElem?_eq_some_iff.1 h).1
theorem workAt.set2 {w : World} {wb : Nat} {v0 v2 v3 : Value} (h : workAt w wb v0 v2 v3) (v : Value) : workAt (w.setCell ⟨wb, 2, none⟩ v) wb v0 v v3 := by
  unfold workAt at h ⊢
  simp [World.setCell, Array.getElem?_modify, h]
theorem workAt.set3 {w : World} {wb : Nat} {v0 v2 v3 : Value} (h : workAt w wb v0 v2 v3) (v : Value) : workAt (w.setCell ⟨wb, 3, none⟩ v) wb v0 v2 v := by
  unfold workAt at h ⊢
  simp [World.setCell, Array.getElem?_modify, h]

/-- Behind a store into a block below its base a row is owned as before. -/
theorem own_set {w : World} {base : Nat} {e : TypeId} {size : Nat} {v : Value} {n : Nat} {xs : List Value} (h : w.ownsRow base e size v n xs) {a : Addr} (ha : a.block < base) (u : Value) : (w.setCell a u).ownsRow base e size v n xs := ownsRow_setCell_below h ha u

def listOf (f : Nat → Int) (n : Nat) : List Int := (List.range n).map f
theorem listOf_len (f : Nat → Int) (n : Nat) : (listOf f n).length = n := by simp [listOf]
theorem listOf_get (f : Nat → Int) (n j : Nat) (h : j < n) : (listOf f n)[j]'(by rw [listOf_len]; exact h) = f j := by simp [listOf]

theorem sort_any (ib cap len : Nat) (f : Nat → Int) (w : World) (hlen : len ≤ 1024) (hrow : w.rowIs ib 39 len (fun j => .int .u64 (f j))) :
    Calls Yba.prog 17 #[.slice (some ⟨ib, 0, none⟩) len cap] w fun e w' => e = .returned (.tuple #[]) ∧ ∃ g : Nat → Int, (∀ a b, a ≤ b → b < len → g a ≤ g b) ∧ (listOf g len).Perm (listOf f len) ∧
      (∀ j, j < len → w'.cell? ⟨ib, j, none⟩ = some (.int .u64 (g j))) ∧ w.grownBy w' (some ib) := by
  have hH : Go.Sort.Holds (Value.int .u64) w ib 0 (listOf f len).toArray := by
    intro j hj
    have hj' : j < len := by simpa [listOf] using hj
    refine ⟨?_, hrow.frozen _⟩
    rw [Nat.zero_add, hrow.cell hj']
    simp [listOf, hj']
  have C := Yba.slices_Sort_int ib 0 cap (listOf f len) w hH hrow.lt (by rw [listOf_len]; omega)
  rw [listOf_len] at C
  refine C.mono ?_
  rintro e w' ⟨rfl, n, os, rfl⟩
  refine ⟨rfl, fun j => ((listOf f len).mergeSort fun x y => decide (x ≤ y)).getD j 0, ?_, ?_, ?_, ?_⟩
  · have hp : ((listOf f len).mergeSort fun x y => decide (x ≤ y)).Pairwise (fun x y => decide (x ≤ y) = true) :=
      List.pairwise_mergeSort (fun a b c h1 h2 => by simp at *; omega) (fun a b => by simp; omega) _
    rw [List.pairwise_iff_getElem] at hp
    intro a b hab hb
    have hl : ((listOf f len).mergeSort fun x y => decide (x ≤ y)).length = len := by rw [List.length_mergeSort, listOf_len]
    have ea : ∀ j (hj : j < len), ((listOf f len).mergeSort fun x y => decide (x ≤ y)).getD j 0 = ((listOf f len).mergeSort fun x y => decide (x ≤ y))[j]'(by rw [hl]; exact hj) := fun j hj => by
      rw [List.getD_eq_getElem?_getD, List.getElem?_eq_getElem (by rw [hl]; exact hj)]; rfl
    show ((listOf f len).mergeSort fun x y => decide (x ≤ y)).getD a 0 ≤ ((listOf f len).mergeSort fun x y => decide (x ≤ y)).getD b 0
    rw [ea a (by omega), ea b hb]
    rcases Nat.lt_or_ge a b with h | h
    · exact of_decide_eq_true (hp a b (by rw [hl]; omega) (by rw [hl]; omega) h)
    · obtain rfl : a = b := by omega
      exact Int.le_refl _
  · have hl : ((listOf f len).mergeSort fun x y => decide (x ≤ y)).length = len := by rw [List.length_mergeSort, listOf_len]
    have : listOf (fun j => ((listOf f len).mergeSort fun x y => decide (x ≤ y)).getD j 0) len = (listOf f len).mergeSort fun x y => decide (x ≤ y) := by
      apply List.ext_getElem
      · rw [listOf_len, hl]
      · intro j h1 h2
        rw [listOf_get _ _ _ (by rw [listOf_len] at h1; exact h1)]
        rw [List.getD_eq_getElem?_getD, List.getElem?_eq_getElem h2]; rfl
    rw [this]
    exact List.mergeSort_perm _ _
  · intro j hj
    have hl : ((listOf f len).mergeSort fun x y => decide (x ≤ y)).length = len := by rw [List.length_mergeSort, listOf_len]
    rw [Go.Sort.cell?_grow _ _ _ (by simpa using hrow.lt)]
    have := Go.Sort.cell?_putRow (Value.int .u64) (Go.Sort.ahead w n) ib 0 (listOf f len).toArray ((listOf f len).mergeSort fun x y => decide (x ≤ y)).toArray (Go.Sort.holds_ahead _ _ _ _ _ _ hH) (by simp) j (by simpa [listOf_len] using hj)
    rw [Nat.zero_add] at this
    rw [this]
    congr 2
    show _ = ((listOf f len).mergeSort fun x y => decide (x ≤ y)).getD j 0
    rw [List.getD_eq_getElem?_getD, List.getElem?_eq_getElem (by rw [hl]; exact hj)]
    simp [hl, hj]
  · refine ⟨rfl, rfl, rfl, by simp, fun k hk hne => ?_⟩
    rw [Go.Sort.heap_grow_old _ _ (by simpa using hk)]
    unfold Go.Sort.putRow Go.Sort.mapBlock
    simp only [Go.Sort.heap_ahead, Array.getElem?_modify]
    rw [if_neg (fun e => hne (by rw [e]))]
end Go.Proofs.Ybulkauwm
