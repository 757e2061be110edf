import Derived.Test.YbulkauxoPlain
import Derived.Test.YbulkauxoOut
import Derived.Test.YbulkauxoSearch
namespace Go.Proofs.Ybulkauxo
open Go.RowKit

/-- What the law's own search keeps: the distances and the queue; W: the world behind Reach. -/
structure LS (W : World) (n : Nat) (NL : List Nd) (qa : Option Addr) (qc : Nat) (wr : World) : Prop where
  dist : wr.rowIs W.heap.size 3 n fun u => .int .i64 (dval NL u)
  que : wr.ownsRow W.heap.size 3 1 (.slice qa NL.length qc) NL.length (NL.map fun d => .int .i64 (d.st : Int))
  dif : qa.map Addr.block ≠ some W.heap.size
  bel : Below W.heap.size W wr

theorem LS.drewN {W : World} {n : Nat} {NL : List Nd} {qa : Option Addr} {qc : Nat} {wr : World} (h : LS W n NL qa qc wr) (q : Nat) : LS W n NL qa qc (wr.drewN q) := ⟨rowIs_drewN q h.dist, h.que, h.dif, below_drewN h.bel q⟩

theorem LS.start {W : World} {n : Nat} {wr : World} (h : wr.rowIs W.heap.size 3 n fun _ => .int .i64 (-1)) (hb : Below W.heap.size W wr) :
    LS W n [root] (some ⟨wr.heap.size, 0, none⟩) 1 ((wr.setCell ⟨W.heap.size, 0, none⟩ (.int .i64 0)).alloc (.cells #[.int .i64 0] 3)) := by
  have hl := h.lt
  have hs : (wr.setCell ⟨W.heap.size, 0, none⟩ (.int .i64 0)).heap.size = wr.heap.size := by simp [World.setCell]
  refine ⟨(((h.set 0 _).congr (fun u _ => ?_)).alloc _), ⟨rfl, .inr ⟨wr.heap.size, 1, #[.int .i64 0], rfl, by omega, ?_, Nat.le_refl _, by unfold maxLen; omega, rfl, rfl⟩⟩, fun e => ?_, (hb.setCell (by simp) _).alloc (by rw [hs]; omega) _⟩
  · rw [dval_root]
    by_cases e : u = 0
    · rw [if_pos e, if_pos e]
    · rw [if_neg e, if_neg e]
  · have := heap_alloc_new (wr.setCell ⟨W.heap.size, 0, none⟩ (.int .i64 0)) (.cells #[.int .i64 0] 3)
    rw [hs] at this
    exact this
  · have e' : wr.heap.size = W.heap.size := by simpa using e
    omega

/-- One state more in the queue. -/
theorem LS.step {W : World} {n : Nat} {NL : List Nd} {qa : Option Addr} {qc : Nat} {wr w6 : World} {d : Nd} {o : Obj} {g cap : Nat} (h : LS W n NL qa qc wr) (hd : holds NL d.st = false)
    (ho : w6.ownsRow W.heap.size 3 1 (.slice (some ⟨g, 0, none⟩) (NL.length + 1) cap) (NL.length + 1) ((NL.map fun d => .int .i64 (d.st : Int)) ++ [.int .i64 (d.st : Int)]))
    (hg : ((wr.setCell ⟨W.heap.size, d.st, none⟩ (.int .i64 (d.dp : Int))).alloc o).grownBy w6 (Value.slice qa NL.length qc).ownBlock) (hat : (Value.slice qa NL.length qc).ownBlock = some g ∨ g = wr.heap.size + 1) :
    LS W n (visit NL d) (some ⟨g, 0, none⟩) cap w6 := by
  have hv : visit NL d = NL ++ [d] := if_neg (by rw [hd]; exact Bool.false_ne_true)
  have hl := h.dist.lt
  rw [hv]
  rw [ob'] at hg hat
  have F : Fr (fun k => qa.map Addr.block = some k) ((wr.setCell ⟨W.heap.size, d.st, none⟩ (.int .i64 (d.dp : Int))).alloc o) w6 := (Fr.refl _ _).grown hg (fun k _ e => e)
  have h1 : (wr.setCell ⟨W.heap.size, d.st, none⟩ (.int .i64 (d.dp : Int))).rowIs W.heap.size 3 n fun u => .int .i64 (dval (NL ++ [d]) u) := (h.dist.set d.st _).congr (fun u _ => by
    rw [dval_new hd]
    by_cases e : u = d.st
    · rw [if_pos e, if_pos e]
    · rw [if_neg e, if_neg e])
  refine ⟨F.rowIs (h1.alloc o) h.dif, ?_, fun e => ?_, ?_⟩
  · rw [List.length_append, List.map_append]
    exact ho
  · have e' : g = W.heap.size := by simpa using e
    rcases hat with h2 | h2
    · rw [e'] at h2
      exact h.dif h2
    · omega
  · refine ((h.bel.setCell (by simp) _).alloc (by simp [World.setCell]; omega) o).trans (F.below ?_ (fun k e => ?_))
    · simp [World.setCell]; omega
    · exact (own_lt h.que (by rw [ob']; exact e)).1

/-- The targets' rows, as cells. -/
def OutC (w : World) (ob n : Nat) (L : Nat → List Nat) : Prop := ∀ s, s < n → ∃ a c, w.cell? ⟨ob, s, none⟩ = some (.slice a (L s).length c) ∧ (0 < (L s).length → ∃ g, a = some ⟨g, 0, none⟩ ∧ ∀ j, j < (L s).length → w.cell? ⟨g, j, none⟩ = some (.int .i32 ((L s).getD j 0 : Int)))
theorem OutS.cells {base : Nat} {w : World} {ob n : Nat} {L : Nat → List Nat} {oa : Nat → Option Addr} {oc : Nat → Nat} (h : OutS base w ob n L oa oc) : OutC w ob n L := fun s hs => by
  refine ⟨oa s, oc s, h.row.cell hs, fun hp => ?_⟩
  obtain ⟨g, e, -, -, -, hc⟩ := own_cells (h.own s hs) hp
  refine ⟨g, e, fun j hj => ?_⟩
  rw [hc j (by omega)]
  unfold i32s
  rw [List.getElem?_map, List.getD_eq_getElem?_getD, List.getElem?_eq_getElem hj]
  rfl
theorem OutC.below {w w' : World} {ob n : Nat} {L : Nat → List Nat} (h : OutC w ob n L) (hb : Below w.heap.size w w') : OutC w' ob n L := fun s hs => by
  obtain ⟨a, c, h1, h2⟩ := h s hs
  refine ⟨a, c, Below.keep hb h1, fun hp => ?_⟩
  obtain ⟨g, e, h3⟩ := h2 hp
  exact ⟨g, e, fun j hj => Below.keep hb (h3 j hj)⟩

/-- What Reach answers, its two slices' parts named. -/
def RR (n : Nat) (vs : Nat → Nat) (t : Nat) (os : Nat → List Nat) (w' : World) (ra : Option Addr) (rl : Nat) (okb : Bool) : Prop :=
  ((List.range n).any (good vs t) = false ∧ ra = none ∧ rl = 0 ∧ okb = false) ∨
  ∃ (i : Nat) (x : Nd) (rb : Nat), Kept n os i ∧ (run os i)[i]? = some x ∧ (∀ j d, j < i → (run os i)[j]? = some d → good vs t d.st = false) ∧ good vs t x.st = true ∧
    ra = some ⟨rb, 0, none⟩ ∧ rl = (up (run os i) i i).length ∧ okb = true ∧ MovesAt w' rb (up (run os i) i i).reverse
theorem Reached.parts {n : Nat} {vs : Nat → Nat} {t : Nat} {os : Nat → List Nat} {w w' : World} {e : Ending} (h : Reached n vs t os w w' e) :
    ∃ ra rl okb, e = .returned (.tuple #[.slice ra rl rl, .bool okb]) ∧ RR n vs t os w' ra rl okb ∧ Below w.heap.size w w' := by
  rcases h with ⟨h1, rfl, h2⟩ | ⟨i, x, rb, h1, h2, h3, h4, rfl, h5, h6⟩
  · exact ⟨none, 0, false, rfl, .inl ⟨h1, rfl, rfl, rfl⟩, h2⟩
  · exact ⟨_, _, true, rfl, .inr ⟨i, x, rb, h1, h2, h3, h4, rfl, rfl, rfl, h5⟩, h6⟩
end Go.Proofs.Ybulkauxo
