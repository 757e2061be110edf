import Derived.Test.YbulkauxoDone
import Derived.Test.YbulkauxoSearch
namespace Go.Proofs.Ybulkauxo
open Go.RowKit

theorem chain8 (w : World) (o0 o1 o2 o3 o4 o5 o6 o7 : Obj) (W : World) (hW : W = (((((((w.alloc o0).alloc o1).alloc o2).alloc o3).alloc o4).alloc o5).alloc o6).alloc o7) :
    W.heap[w.heap.size]? = some o0 ∧ W.heap[w.heap.size + 1]? = some o1 ∧ W.heap[w.heap.size + 1 + 1]? = some o2 ∧ W.heap[w.heap.size + 1 + 1 + 1 + 1]? = some o4 ∧ W.heap[w.heap.size + 1 + 1 + 1 + 1 + 1]? = some o5 ∧
    W.heap[w.heap.size + 1 + 1 + 1 + 1 + 1 + 1]? = some o6 ∧ W.heap[w.heap.size + 1 + 1 + 1 + 1 + 1 + 1 + 1]? = some o7 ∧ Fr (fun _ => False) w W ∧ W.heap.size = w.heap.size + 8 := by
  subst hW
  obtain ⟨h0, h1, h2, h3, h4⟩ := chain5 w o0 o1 o2 o3 o4
  have up : ∀ {W : World} {o : Obj} {k : Nat} {x : Obj}, W.heap[k]? = some x → (W.alloc o).heap[k]? = some x := fun {W o k x} h => (Below.heap_alloc _ _ _ (lt_of_block h)).trans h
  have h5 : ((((((w.alloc o0).alloc o1).alloc o2).alloc o3).alloc o4).alloc o5).heap[w.heap.size + 1 + 1 + 1 + 1 + 1]? = some o5 := by have := heap_alloc_new (((((w.alloc o0).alloc o1).alloc o2).alloc o3).alloc o4) o5; simpa using this
  have h6 : (((((((w.alloc o0).alloc o1).alloc o2).alloc o3).alloc o4).alloc o5).alloc o6).heap[w.heap.size + 1 + 1 + 1 + 1 + 1 + 1]? = some o6 := by have := heap_alloc_new ((((((w.alloc o0).alloc o1).alloc o2).alloc o3).alloc o4).alloc o5) o6; simpa using this
  have h7 : ((((((((w.alloc o0).alloc o1).alloc o2).alloc o3).alloc o4).alloc o5).alloc o6).alloc o7).heap[w.heap.size + 1 + 1 + 1 + 1 + 1 + 1 + 1]? = some o7 := by have := heap_alloc_new (((((((w.alloc o0).alloc o1).alloc o2).alloc o3).alloc o4).alloc o5).alloc o6) o7; simpa using this
  exact ⟨up (up (up h0)), up (up (up h1)), up (up (up h2)), up (up (up h4)), up (up h5), up h6, h7, ((((((((Fr.refl (fun _ => False) w).alloc o0).alloc o1).alloc o2).alloc o3).alloc o4).alloc o5).alloc o6).alloc o7, by simp⟩

theorem row_of {w : World} {b : Nat} {t : TypeId} {c : Array Value} {n : Nat} {f : Nat → Value} (h : w.heap[b]? = some (.cells c t (0, 0))) (hs : c.size = n) (hc : ∀ i, i < n → c[i]? = some (f i)) : w.rowIs b t n f := ⟨c, h, hs, hc⟩

theorem take_one {l : List Value} {x : Value} (h : l[0]? = some x) : l.take (1 * 1) = [x] := by
  cases l with
  | nil => simp at h
  | cons a l =>
    simp at h
    subst h
    rfl

theorem bs_start {w wp W : World} {n : Nat} {vs : Nat → Nat} {os : Nat → List Nat} {oa : Nat → Option Addr} {oc : Nat → Nat} (hn : n ≤ 1024) (hO : OutS w.heap.size wp w.heap.size n os oa oc) (hB : Below w.heap.size w wp)
    (hW : W = (((((((wp.alloc (.cells #[.slice (some ⟨wp.heap.size + 1, 0, none⟩) (n + 1) (n + 1), .slice (some ⟨wp.heap.size + 1 + 1, 0, none⟩) 1 (n + 1), .slice none 0 0, .slice none 0 0, .slice (some ⟨wp.heap.size + 1 + 1 + 1 + 1, 0, none⟩) n n, .slice none 0 0, .slice none 0 0, .slice none 0 0, .int .i64 0, .bool false, .slice none 0 0, .slice none 0 0, .slice none 0 0, .slice none 0 0,
      .slice (some ⟨wp.heap.size + 1 + 1 + 1 + 1 + 1, 0, none⟩) 1 1, .slice (some ⟨wp.heap.size + 1 + 1 + 1 + 1 + 1 + 1, 0, none⟩) n n, .slice (some ⟨wp.heap.size + 1 + 1 + 1 + 1 + 1 + 1 + 1, 0, none⟩) n n, .bool false, .float .f64 0, .bool false, .int .i64 0] 48)).alloc
      (.cells (madeCells #[.int .i32 0] (n + 1)) 21)).alloc (.cells ((madeCells #[.int .i32 0] (n + 1)).setIfInBounds 0 (.int .i32 0)) 21)).alloc (.cells #[.int .i32 0] 21)).alloc (.cells (madeCells #[.int .i32 0] n) 21)).alloc (.cells #[.int .i32 0] 21)).alloc (.cells (madeCells #[.int .i64 0, .bool false] (n * 2)) 53)).alloc (.cells (madeCells #[.slice none 0 0] n) 29)) :
    BS w wp.heap.size n vs os oa oc 0 0 0 0 0 0 ⟨wp.heap.size + 1 + 1, n + 1, none, 0, none, 0, none, 0, none, 0, 0, fun _ => none, fun _ => 0⟩ W := by
  obtain ⟨h0, h1, h2, h4, h5, h6, h7, F, hs⟩ := chain8 _ _ _ _ _ _ _ _ _ W hW
  clear hW
  have hsz := hB.size
  refine ⟨row_of h0 rfl fun i hi => ?_, row_of h1 (size_madeCells _ _) fun i hi => ?_, ?_, World.ownsRow_nil _ _ _ _, World.ownsRow_nil _ _ _ _, World.ownsRow_nil _ _ _ _, ⟨[], World.ownsRow_nil _ _ _ _⟩, row_of h4 (size_madeCells _ _) fun i hi => made_one _ _ _ hi, row_of h5 rfl fun i hi => ?_, row_of h6 (size_madeCells _ _) fun i hi => ?_, row_of h7 (size_madeCells _ _) fun i hi => ?_, fun j hj => absurd hj (Nat.not_lt_zero j), ?_, fun x hx k hk => ?_, .inl rfl, fun k hk => ?_, fun k hk => ?_, ?_, ?_, hO.row.lt, fun b hb => by simp at hb, fun b hb => by simp at hb, fun b hb => by simp at hb⟩
  · match i, hi with
    | 0, _ => rfl
    | 1, _ => rfl
    | 2, _ => rfl
    | 3, _ => rfl
    | 4, _ => rfl
    | 5, _ => rfl
    | 6, _ => rfl
    | 7, _ => rfl
    | 8, _ => rfl
    | 9, _ => rfl
    | 10, _ => rfl
    | 11, _ => rfl
    | 12, _ => rfl
    | 13, _ => rfl
    | 14, _ => rfl
    | 15, _ => rfl
    | 16, _ => rfl
    | 17, _ => rfl
    | 18, _ => rfl
    | 19, _ => rfl
    | 20, _ => rfl
    | j + 21, h => exact absurd h (by omega)
  · rw [made_one _ _ _ hi]
    by_cases h : i ≤ 0
    · obtain rfl : i = 0 := by omega
      rfl
    · rw [if_neg h]
      rfl
  · refine ⟨rfl, .inr ⟨wp.heap.size + 1 + 1, n + 1, _, rfl, by omega, h2, by omega, by unfold maxLen; omega, ?_, ?_⟩⟩
    · rw [Array.size_setIfInBounds, size_madeCells, Nat.mul_one]
    · refine take_one ?_
      rw [Array.getElem?_toList, Array.getElem?_setIfInBounds, if_pos rfl, size_madeCells, if_pos (by omega)]
      rfl
  · obtain rfl : i = 0 := by omega
    rfl
  · unfold rf
    rw [if_neg (Nat.not_lt_zero _)]
    rcases (show i % 2 = 0 ∨ i % 2 = 1 by omega) with e | e <;> simp [madeCells, hi, e]
  · rw [made_one _ _ _ hi, if_neg (Nat.not_lt_zero i)]
  · exact ⟨F.rowIs hO.row id, fun s hs => F.own (hO.own s hs) (fun _ _ => id), hO.dif, hO.ge, hO.nil⟩
  · exact (own_lt (hO.own x hx) (by rw [ob']; exact hk)).2
  · simp at hk
  · simp at hk
  · exact hB.trans (F.below hsz (fun _ e => e.elim))
  · omega
end Go.Proofs.Ybulkauxo
