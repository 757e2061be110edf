import Derived.Test.YbulkauxoSteps
namespace Go.Proofs.Ybulkauxo
open Go.RowKit

variable {w : World} {H n : Nat} {vs : Nat → Nat} {os : Nat → List Nat} {oa : Nat → Option Addr} {oc : Nat → Nat} {a t m k r q : Nat} {D : BD} {wr : World}

theorem BS.frame {w' : World} (h : BS w H n vs os oa oc a t m k r q D wr) (F : Fr (fun _ => False) wr w') : BS w H n vs os oa oc a t m k r q D w' := by
  obtain ⟨xs, hkey⟩ := h.key
  refine ⟨F.rowIs h.mrow id, F.rowIs h.act id, F.own h.mov (fun _ _ => id), F.own h.to (fun _ _ => id), F.own h.byt (fun _ _ => id), F.own h.ends (fun _ _ => id), ⟨xs, F.own hkey (fun _ _ => id)⟩, F.rowIs h.actor id, F.rowIs h.start id, F.rowIs h.res id, F.rowIs h.ret id, fun j hj hr => ?_,
    ⟨F.rowIs h.out.row id, fun s hs => F.own (h.out.own s hs) (fun _ _ => id), h.out.dif, h.out.ge, h.out.nil⟩, h.outlt, h.dm, h.dt, h.dk, h.bel.trans (F.below h.bel.size (fun b e => e.elim)), Nat.le_trans h.sz F.size, h.lo, h.lk, h.lb, h.le⟩
  obtain ⟨g, cs, h1, h2, h4⟩ := h.retc j hj hr
  exact ⟨g, cs, h1, (F.block g (lt_of_block h2) id).trans h2, h4⟩

/-- A frame over one of the two rows that the round writes last, with what it then holds. -/
theorem BS.over2 {b0 r' q' : Nat} {w' : World} {qa' : Nat → Option Addr} {qc' : Nat → Nat} (h : BS w H n vs os oa oc a t m k r q D wr) (hb0 : b0 = H + 1 + 1 + 1 + 1 + 1 + 1 ∨ b0 = H + 1 + 1 + 1 + 1 + 1 + 1 + 1) (F : Fr (fun b => b = b0) wr w')
    (res : w'.rowIs (H + 1 + 1 + 1 + 1 + 1 + 1) 53 (n * 2) (rf vs r')) (ret : w'.rowIs (H + 1 + 1 + 1 + 1 + 1 + 1 + 1) 29 n fun j => if j < q' then .slice (qa' j) (setOf vs j).length (qc' j) else .slice none 0 0)
    (retc : ∀ j, j < q' → vs j % 5 ≠ 0 → ∃ g cs, qa' j = some ⟨g, 0, none⟩ ∧ w'.heap[g]? = some (.cells cs 3 (0, 0)) ∧ cs[0]? = some (.int .i64 ((vs j % 3 : Nat) : Int))) : BS w H n vs os oa oc a t m k r' q' { D with qa := qa', qc := qc' } w' := by
  obtain ⟨xs, hkey⟩ := h.key
  have hlo := h.lo
  have hown : ∀ {e : TypeId} {size c : Nat} {v : Value} {xs : List Value}, wr.ownsRow w.heap.size e size v c xs → e ≠ 53 → e ≠ 29 → ∀ b, v.ownBlock = some b → ¬ b = b0 := fun {e size c v xs} ho h1 h2 b hb e1 => by
    subst e1
    rcases hb0 with e2 | e2
    · subst e2
      exact own_row_ne ho h.res (fun e => h1 e.symm) hb
    · subst e2
      exact own_row_ne ho h.ret (fun e => h2 e.symm) hb
  exact ⟨F.rowIs h.mrow (by omega), F.rowIs h.act (by omega), F.own h.mov (hown h.mov (by decide) (by decide)), F.own h.to (hown h.to (by decide) (by decide)), F.own h.byt (hown h.byt (by decide) (by decide)), F.own h.ends (hown h.ends (by decide) (by decide)), ⟨xs, F.own hkey (hown hkey (by decide) (by decide))⟩, F.rowIs h.actor (by omega), F.rowIs h.start (by omega), res, ret, retc,
    ⟨F.rowIs h.out.row (by omega), fun s hs => F.own (h.out.own s hs) (hown (h.out.own s hs) (by decide) (by decide)), h.out.dif, h.out.ge, h.out.nil⟩, h.outlt, h.dm, h.dt, h.dk, h.bel.trans (F.below h.bel.size (fun b e => by omega)), Nat.le_trans h.sz F.size, h.lo, h.lk, h.lb, h.le⟩

theorem BS.set_res (h : BS w H n vs os oa oc a t m k r q D wr) :
    BS w H n vs os oa oc a t m k (r + 1) q D ((wr.setCell ⟨H + 1 + 1 + 1 + 1 + 1 + 1, r * 2, none⟩ (.int .i64 ((vs r % 3 : Nat) : Int))).setCell ⟨H + 1 + 1 + 1 + 1 + 1 + 1, r * 2 + 1, none⟩ (.bool (decide (vs r % 5 ≠ 0)))) := by
  have F : Fr (fun b => b = H + 1 + 1 + 1 + 1 + 1 + 1) wr ((wr.setCell ⟨H + 1 + 1 + 1 + 1 + 1 + 1, r * 2, none⟩ (.int .i64 ((vs r % 3 : Nat) : Int))).setCell ⟨H + 1 + 1 + 1 + 1 + 1 + 1, r * 2 + 1, none⟩ (.bool (decide (vs r % 5 ≠ 0)))) :=
    ((Fr.refl (fun b => b = H + 1 + 1 + 1 + 1 + 1 + 1) wr).setCell (p := ⟨H + 1 + 1 + 1 + 1 + 1 + 1, r * 2, none⟩) (fun _ => rfl) _).setCell (p := ⟨H + 1 + 1 + 1 + 1 + 1 + 1, r * 2 + 1, none⟩) (fun _ => rfl) _
  refine h.over2 (.inl rfl) F (((h.res.set (r * 2) _).set (r * 2 + 1) _).congr (fun p _ => rf_succ vs r p)) (F.rowIs h.ret (by omega)) (fun j hj hr => ?_)
  obtain ⟨g, cs, h1, h2, h4⟩ := h.retc j hj hr
  refine ⟨g, cs, h1, (F.block g (lt_of_block h2) (fun e => ?_)).trans h2, h4⟩
  obtain ⟨ca, hca, _⟩ := h.res
  rw [← e, h2] at hca
  simp at hca

theorem BS.set_ret {w' : World} {A : Option Addr} {c : Nat} (h : BS w H n vs os oa oc a t m k r q D wr) (F : Fr (fun b => b = H + 1 + 1 + 1 + 1 + 1 + 1 + 1) wr w')
    (hr : w'.rowIs (H + 1 + 1 + 1 + 1 + 1 + 1 + 1) 29 n fun j => if j = q then .slice A (setOf vs q).length c else if j < q then .slice (D.qa j) (setOf vs j).length (D.qc j) else .slice none 0 0)
    (hA : vs q % 5 ≠ 0 → ∃ g cs, A = some ⟨g, 0, none⟩ ∧ w'.heap[g]? = some (.cells cs 3 (0, 0)) ∧ cs[0]? = some (.int .i64 ((vs q % 3 : Nat) : Int))) :
    BS w H n vs os oa oc a t m k r (q + 1) { D with qa := fun j => if j = q then A else D.qa j, qc := fun j => if j = q then c else D.qc j } w' := by
  refine h.over2 (.inr rfl) F (F.rowIs h.res (by omega)) (hr.congr (fun j _ => ?_)) (fun j hj h5 => ?_)
  · by_cases e : j = q
    · subst e
      rw [if_pos rfl, if_pos (by omega), if_pos rfl, if_pos rfl]
    · rw [if_neg e]
      by_cases h1 : j < q
      · rw [if_pos h1, if_pos (by omega), if_neg e, if_neg e]
      · rw [if_neg h1, if_neg (by omega)]
  · by_cases e : j = q
    · subst e
      simp only [if_true]
      exact hA h5
    · simp only [if_neg e]
      obtain ⟨g, cs, h1, h2, h4⟩ := h.retc j (by omega) h5
      refine ⟨g, cs, h1, (F.block g (lt_of_block h2) (fun e => ?_)).trans h2, h4⟩
      obtain ⟨ca, hca, _⟩ := h.ret
      rw [← e, h2] at hca
      simp at hca
end Go.Proofs.Ybulkauxo
