import Derived.Test.YbulkauxoStart
import Derived.Laws.AppendOwnNone
namespace Go.Proofs.Ybulkauxo
open Go.RowKit

variable {w : World} {H n : Nat} {vs : Nat → Nat} {os : Nat → List Nat} {oa : Nat → Option Addr} {oc : Nat → Nat} {a t m k r q : Nat} {D : BD} {wr : World}

/-- Nothing but the actions row was written. -/
theorem BS.set_act (h : BS w H n vs os oa oc a t m k r q D wr) : BS w H n vs os oa oc (a + 1) t m k r q D (wr.setCell ⟨H + 1, a + 1, none⟩ (.int .i32 ((a : Int) + 1))) := by
  have F : Fr (fun j => j = H + 1) wr (wr.setCell ⟨H + 1, a + 1, none⟩ (.int .i32 ((a : Int) + 1))) := (Fr.refl (fun j => j = H + 1) wr).setCell (p := ⟨H + 1, a + 1, none⟩) (fun _ => rfl) _
  have hlo := h.lo
  have na : ∀ {e : TypeId} {sz c j : Nat} {x : Option Addr} {xs : List Value}, wr.ownsRow w.heap.size e sz (.slice x c j) c xs → e ≠ 21 → ∀ b, Value.ownBlock (.slice x c j) = some b → ¬ b = H + 1 := fun {e sz c j x xs} ho he b hb e1 => by
    obtain ⟨cs, h1, _⟩ := h.act
    exact own_ne ho h1 (fun e2 => he e2.symm) (by rw [← e1]; exact hb)
  refine ⟨F.rowIs h.mrow (by omega), (h.act.set (a + 1) _).congr (fun j hj => ?_), F.own h.mov (fun b hb => ?_), F.own h.to (fun b hb => ?_), F.own h.byt (na h.byt (by decide)), F.own h.ends (na h.ends (by decide)), ?_, F.rowIs h.actor (by omega), F.rowIs h.start (by omega), F.rowIs h.res (by omega), F.rowIs h.ret (by omega), fun j hj hr => ?_, ⟨F.rowIs h.out.row (by omega), fun s hs => F.own (h.out.own s hs) (fun b hb => ?_), h.out.dif, h.out.ge, h.out.nil⟩, h.outlt, h.dm, h.dt, h.dk, h.bel.setCell (by simp; omega) _, ?_, h.lo, h.lk, h.lb, h.le⟩
  · by_cases e : j = a + 1
    · rw [if_pos e, if_pos (by omega), e]
      rfl
    · rw [if_neg e]
      by_cases h2 : j ≤ a
      · rw [if_pos h2, if_pos (by omega)]
      · rw [if_neg h2, if_neg (by omega)]
  · have := h.dm
    simp [Value.ownBlock] at hb
    omega
  · rw [ob'] at hb
    have := (h.dt b hb).1
    omega
  · obtain ⟨xs, hk⟩ := h.key
    exact ⟨xs, F.own hk (na hk (by decide))⟩
  · obtain ⟨g, cs, h1, h2, h3⟩ := h.retc j hj hr
    refine ⟨g, cs, h1, (F.block g (lt_of_block h2) (fun e => ?_)).trans h2, h3⟩
    obtain ⟨ca, hca, _⟩ := h.act
    rw [← e, h2] at hca
    simp at hca
  · rw [ob'] at hb
    have := h.outlt s hs b hb
    omega
  · have := h.sz
    simpa [World.setCell] using this

/-- What no append of the round touches. -/
structure BX (w : World) (H n : Nat) (vs : Nat → Nat) (os : Nat → List Nat) (oa : Nat → Option Addr) (oc : Nat → Nat) (a r q : Nat) (qa : Nat → Option Addr) (qc : Nat → Nat) (wr : World) : Prop where
  act : wr.rowIs (H + 1) 21 (n + 1) fun j => .int .i32 ((if j ≤ a then j else 0 : Nat) : Int)
  actor : wr.rowIs (H + 1 + 1 + 1 + 1) 21 n fun _ => .int .i32 0
  start : wr.rowIs (H + 1 + 1 + 1 + 1 + 1) 21 1 fun _ => .int .i32 0
  res : wr.rowIs (H + 1 + 1 + 1 + 1 + 1 + 1) 53 (n * 2) (rf vs r)
  ret : wr.rowIs (H + 1 + 1 + 1 + 1 + 1 + 1 + 1) 29 n fun j => if j < q then .slice (qa j) (setOf vs j).length (qc j) else .slice none 0 0
  retc : ∀ j, j < q → vs j % 5 ≠ 0 → ∃ g cs, qa j = some ⟨g, 0, none⟩ ∧ wr.heap[g]? = some (.cells cs 3 (0, 0)) ∧ cs[0]? = some (.int .i64 ((vs j % 3 : Nat) : Int))
  out : OutS w.heap.size wr w.heap.size n os oa oc
  outlt : ∀ x, x < n → ∀ k, (oa x).map Addr.block = some k → k < H
  bel : Below w.heap.size w wr
  sz : H + 8 ≤ wr.heap.size
  lo : w.heap.size < H
theorem BS.fix (h : BS w H n vs os oa oc a t m k r q D wr) : BX w H n vs os oa oc a r q D.qa D.qc wr := ⟨h.act, h.actor, h.start, h.res, h.ret, h.retc, h.out, h.outlt, h.bel, h.sz, h.lo⟩
/-- A frame over blocks that are the Model's own, or of the growing rows. -/
theorem BX.move {qa : Nat → Option Addr} {qc : Nat → Nat} {S : Nat → Prop} {w' : World} (h : BX w H n vs os oa oc a r q qa qc wr) (F : Fr S wr w') (hS : ∀ b, S b → b = H ∨ b = H + 1 + 1 ∨ H + 8 ≤ b) (h3 : ∀ b cs, wr.heap[b]? = some (.cells cs 3 (0, 0)) → ¬ S b) :
    BX w H n vs os oa oc a r q qa qc w' := by
  have hlo := h.lo
  have nS : ∀ {b : Nat}, b ≠ H → b ≠ H + 1 + 1 → b < H + 8 → ¬ S b := fun {b} h1 h2 h3 e => by have := hS b e; omega
  refine ⟨F.rowIs h.act (nS (by omega) (by omega) (by omega)), F.rowIs h.actor (nS (by omega) (by omega) (by omega)), F.rowIs h.start (nS (by omega) (by omega) (by omega)), F.rowIs h.res (nS (by omega) (by omega) (by omega)), F.rowIs h.ret (nS (by omega) (by omega) (by omega)), fun j hj hr => ?_,
    ⟨F.rowIs h.out.row (nS (by omega) (by omega) (by omega)), fun s hs => F.own (h.out.own s hs) (fun b hb => ?_), h.out.dif, h.out.ge, h.out.nil⟩, h.outlt, h.bel.trans (F.below h.bel.size (fun b e => by have := hS b e; omega)), Nat.le_trans h.sz F.size, h.lo⟩
  · obtain ⟨g, cs, h1, h2, h4⟩ := h.retc j hj hr
    exact ⟨g, cs, h1, (F.block g (lt_of_block h2) (h3 g cs h2)).trans h2, h4⟩
  · rw [ob'] at hb
    have := h.outlt s hs b hb
    exact nS (by omega) (by omega) (by omega)

/-- 'append(v, nil...)' at a step of a region that draws its order. -/
theorem step_append_none {P : Program} {W : World} {ops : Array Oper} {o : Oper} {ac : Act} {K : Act → World → Prop} {Q : Exit → Act → World → Prop} {E : Prop} (hgd : o.guard = none) (s x : Operand) (ty : TypeId)
    (ho : o.op = .call { callee := .builtin .append, args := #[s, x], argTypes := #[ty, ty] }) (base : Nat) (e : TypeId) (i : TypeInfo) (size : Nat) (ht : P.underlying ty = some (.slice e)) (hi : P.info? e = some i)
    (v : Value) (c : Nat) (xs : List Value) (hs : ac.eval s = v) (hown : W.ownsRow base e size v c xs) (hx : ac.eval x = .slice none 0 0) (h : K (ac.put o.dst v) W) :
    if Region.wanted o (yielded ops ac.tmps) = true then Oper.wp P o ac W K Q else E := by
  have hw : Region.wanted o (yielded ops ac.tmps) = true := by simp [Region.wanted, hgd]
  rw [if_pos hw]
  have hrun := run_append_owned_none (P := P) (w := W) base ty o.type e i size ht hi v c xs hown
  unfold Oper.wp
  simp [execOp, ho, resolve, invoke, builtin, hs, hx, hrun, Result.andThen]
  exact h

theorem tl_succ (os : Nat → List Nat) (t : Nat) : tl os (t + 1) = tl os t ++ i32s (os t) := by
  unfold tl i32s
  rw [List.range_succ, List.flatMap_append, List.map_append]
  simp
theorem own_row_ne {w' : World} {base : Nat} {e : TypeId} {size c : Nat} {v : Value} {xs : List Value} {b : Nat} {ty : TypeId} {N : Nat} {f : Nat → Value} (ho : w'.ownsRow base e size v c xs) (hr : w'.rowIs b ty N f) (h : ty ≠ e) : v.ownBlock ≠ some b := by
  obtain ⟨cs, h1, _⟩ := hr
  exact own_ne ho h1 h

/-- The targets of one state more: the append's answer stored into m.to. -/
theorem BS.set_to {w' : World} {ta' : Option Addr} {tc' : Nat} (h : BS w H n vs os oa oc a t m k r q D wr)
    (ho : w'.ownsRow w.heap.size 21 1 (.slice ta' (psum os (t + 1)) tc') (psum os (t + 1)) (tl os (t + 1))) (F : Fr (fun b => D.ta.map Addr.block = some b) wr w')
    (hd : ∀ b, ta'.map Addr.block = some b → D.ta.map Addr.block = some b ∨ wr.heap.size ≤ b) :
    BS w H n vs os oa oc a (t + 1) m k r q { D with ta := ta', tc := tc' } (w'.setCell ⟨H, 2, none⟩ (.slice ta' (psum os (t + 1)) tc')) := by
  have hdt := h.dt
  have hsz := h.sz
  have hml : D.ma < wr.heap.size := (own_lt h.mov rfl).2
  have hm' : w'.rowIs H 48 21 (mf H n os t m k D) := F.rowIs h.mrow (fun e => by have := (hdt _ e).1; omega)
  have FS : Fr (fun b => b = H) w' (w'.setCell ⟨H, 2, none⟩ (.slice ta' (psum os (t + 1)) tc')) := (Fr.refl (fun b => b = H) w').setCell (p := ⟨H, 2, none⟩) (fun _ => rfl) _
  have FF : Fr (fun b => b = H ∨ D.ta.map Addr.block = some b) wr (w'.setCell ⟨H, 2, none⟩ (.slice ta' (psum os (t + 1)) tc')) := (F.mono (fun _ _ e => .inr e)).trans FS (fun _ _ e => .inl e)
  have X := h.fix.move FF (fun b e => e.elim .inl (fun e => .inr (.inr (hdt b e).1))) (fun b cs hb e => by
    rcases e with e | e
    · obtain ⟨cm, h1, _⟩ := h.mrow
      rw [← e, hb] at h1
      simp at h1
    · exact own_ne h.to hb (by decide) (by rw [ob']; exact e))
  have keep : ∀ {e : TypeId} {size c : Nat} {v : Value} {xs : List Value}, wr.ownsRow w.heap.size e size v c xs → e ≠ 48 → (∀ b, v.ownBlock = some b → D.ta.map Addr.block ≠ some b) → (w'.setCell ⟨H, 2, none⟩ (.slice ta' (psum os (t + 1)) tc')).ownsRow w.heap.size e size v c xs := fun {e size c v xs} hv he hne =>
    FF.own hv (fun b hb e1 => e1.elim (fun e1 => own_row_ne hv h.mrow (fun e2 => he e2.symm) (by rw [← e1]; exact hb)) (hne b hb))
  have nt : ∀ {e : TypeId} {size c : Nat} {v : Value} {xs : List Value}, wr.ownsRow w.heap.size e size v c xs → e ≠ 21 → ∀ b, v.ownBlock = some b → D.ta.map Addr.block ≠ some b := fun {e size c v xs} hv he b hb => by
    have := own_own_ne h.to hv he hb
    rw [ob'] at this
    exact this
  obtain ⟨xs, hkey⟩ := h.key
  refine ⟨(hm'.set 2 _).congr (fun j _ => ?_), X.act, keep h.mov (by decide) (fun b hb e => ?_), FS.own ho (fun b hb e => own_row_ne ho hm' (by decide) (by rw [← e]; exact hb)), keep h.byt (by decide) (nt h.byt (by decide)), keep h.ends (by decide) (nt h.ends (by decide)), ⟨xs, keep hkey (by decide) (nt hkey (by decide))⟩, X.actor, X.start, X.res, X.ret, X.retc, X.out, X.outlt, h.dm, fun b hb => ?_, h.dk, X.bel, X.sz, X.lo, h.lk, h.lb, h.le⟩
  · unfold mf
    by_cases e : j = 2
    · subst e
      simp
    · simp only [if_neg e]
  · have hb' : D.ma = b := by simpa [Value.ownBlock] using hb
    exact (hdt b e).2 hb'.symm
  · rcases hd b hb with e | e
    · exact hdt b e
    · exact ⟨by omega, by show b ≠ D.ma; omega⟩

theorem pl_succ (os : Nat → List Nat) (m : Nat) : pl os (m + 1) = pl os m ++ [.int .i32 (psum os (m + 1) : Int)] := by
  unfold pl
  rw [List.range_succ, List.map_append]
  rfl
/-- The moves of one state more. -/
theorem BS.set_mov {w' : World} {ma' mc' : Nat} (h : BS w H n vs os oa oc a t m k r q D wr)
    (ho : w'.ownsRow w.heap.size 21 1 (.slice (some ⟨ma', 0, none⟩) (m + 1 + 1) mc') (m + 1 + 1) (pl os (m + 1))) (F : Fr (fun b => b = D.ma) wr w') (hd : ma' = D.ma ∨ wr.heap.size ≤ ma') :
    BS w H n vs os oa oc a t (m + 1) k r q { D with ma := ma', mc := mc' } (w'.setCell ⟨H, 1, none⟩ (.slice (some ⟨ma', 0, none⟩) (m + 1 + 1) mc')) := by
  have hdm := h.dm
  have hsz := h.sz
  have hdt := h.dt
  have hm' : w'.rowIs H 48 21 (mf H n os t m k D) := F.rowIs h.mrow (fun e => by omega)
  have FS : Fr (fun b => b = H) w' (w'.setCell ⟨H, 1, none⟩ (.slice (some ⟨ma', 0, none⟩) (m + 1 + 1) mc')) := (Fr.refl (fun b => b = H) w').setCell (p := ⟨H, 1, none⟩) (fun _ => rfl) _
  have FF : Fr (fun b => b = H ∨ b = D.ma) wr (w'.setCell ⟨H, 1, none⟩ (.slice (some ⟨ma', 0, none⟩) (m + 1 + 1) mc')) := (F.mono (fun _ _ e => .inr e)).trans FS (fun _ _ e => .inl e)
  have X := h.fix.move FF (fun b e => by omega) (fun b cs hb e => by
    rcases e with e | e
    · obtain ⟨cm, h1, _⟩ := h.mrow
      rw [← e, hb] at h1
      simp at h1
    · exact own_ne h.mov hb (by decide) (by rw [e]; rfl))
  have keep : ∀ {e : TypeId} {size c : Nat} {v : Value} {xs : List Value}, wr.ownsRow w.heap.size e size v c xs → e ≠ 48 → (∀ b, v.ownBlock = some b → b ≠ D.ma) → (w'.setCell ⟨H, 1, none⟩ (.slice (some ⟨ma', 0, none⟩) (m + 1 + 1) mc')).ownsRow w.heap.size e size v c xs := fun {e size c v xs} hv he hne =>
    FF.own hv (fun b hb e1 => e1.elim (fun e1 => own_row_ne hv h.mrow (fun e2 => he e2.symm) (by rw [← e1]; exact hb)) (hne b hb))
  have nt : ∀ {e : TypeId} {size c : Nat} {v : Value} {xs : List Value}, wr.ownsRow w.heap.size e size v c xs → e ≠ 21 → ∀ b, v.ownBlock = some b → b ≠ D.ma := fun {e size c v xs} hv he b hb e1 => own_own_ne h.mov hv he hb (by rw [e1]; rfl)
  obtain ⟨xs, hkey⟩ := h.key
  refine ⟨(hm'.set 1 _).congr (fun j _ => ?_), X.act, FS.own ho (fun b hb e => own_row_ne ho hm' (by decide) (by rw [← e]; exact hb)), keep h.to (by decide) (fun b hb => ?_), keep h.byt (by decide) (nt h.byt (by decide)), keep h.ends (by decide) (nt h.ends (by decide)), ⟨xs, keep hkey (by decide) (nt hkey (by decide))⟩, X.actor, X.start, X.res, X.ret, X.retc, X.out, X.outlt, ?_, fun b hb => ?_, h.dk, X.bel, X.sz, X.lo, h.lk, h.lb, h.le⟩
  · unfold mf
    by_cases e : j = 1
    · subst e
      simp
    · simp only [if_neg e]
  · rw [ob'] at hb
    exact (hdt b hb).2
  · show ma' = H + 1 + 1 ∨ H + 8 ≤ ma'
    omega
  · have h1 := hdt b hb
    have h2 := (own_lt h.to (by rw [ob']; exact hb)).2
    exact ⟨h1.1, by show b ≠ ma'; omega⟩

theorem fr_h3 {S : Nat → Prop} (hS : ∀ b, S b → ∃ cs ty fr, wr.heap[b]? = some (.cells cs ty fr) ∧ ty ≠ 3) : ∀ b cs, wr.heap[b]? = some (.cells cs 3 (0, 0)) → ¬ S b := fun b cs hb e => by
  obtain ⟨cs', ty, fr, h1, h2⟩ := hS b e
  rw [hb] at h1
  simp at h1
  exact h2 h1.2.1.symm
theorem own_type {w' : World} {base : Nat} {e : TypeId} {size c : Nat} {v : Value} {xs : List Value} (ho : w'.ownsRow base e size v c xs) {b : Nat} (hb : v.ownBlock = some b) : ∃ cs fr, w'.heap[b]? = some (.cells cs e fr) := by
  rcases ho.2 with ⟨rfl, _⟩ | ⟨g, cap, cur, rfl, _, hg, _⟩
  · simp [Value.ownBlock] at hb
  · simp [Value.ownBlock] at hb
    subst hb
    exact ⟨_, _, hg⟩

/-- A new key in the buffer (AppendUvarint). -/
theorem BS.set_key {w' : World} {ka' : Option Addr} {kn' kc' : Nat} {ys : List Value} (h : BS w H n vs os oa oc a t m k r q D wr)
    (ho : w'.ownsRow w.heap.size 5 1 (.slice ka' kn' kc') kn' ys) (F : Fr (fun b => D.ka.map Addr.block = some b) wr w') (hd : ∀ b, ka'.map Addr.block = some b → D.ka.map Addr.block = some b ∨ wr.heap.size ≤ b) :
    BS w H n vs os oa oc a t m k r q { D with ka := ka', kn := kn', kc := kc' } w' := by
  obtain ⟨xs, hkey⟩ := h.key
  have X := h.fix.move F (fun b e => .inr (.inr (h.lk b e))) (fr_h3 fun b e => by
    obtain ⟨cs, fr, h1⟩ := own_type hkey (b := b) (by rw [ob']; exact e)
    exact ⟨cs, 5, fr, h1, by decide⟩)
  have nt : ∀ {e : TypeId} {size c : Nat} {v : Value} {xs : List Value}, wr.ownsRow w.heap.size e size v c xs → e ≠ 5 → ∀ b, v.ownBlock = some b → ¬ D.ka.map Addr.block = some b := fun {e size c v xs} hv he b hb => by
    have := own_own_ne hkey hv he hb
    rw [ob'] at this
    exact this
  refine ⟨F.rowIs h.mrow (fun e => ?_), X.act, F.own h.mov (nt h.mov (by decide)), F.own h.to (nt h.to (by decide)), F.own h.byt (fun b hb e => ?_), F.own h.ends (nt h.ends (by decide)), ⟨ys, ho⟩, X.actor, X.start, X.res, X.ret, X.retc, X.out, X.outlt, h.dm, h.dt, fun b hb e => ?_, X.bel, X.sz, X.lo, fun b hb => ?_, h.lb, h.le⟩
  · exact own_row_ne hkey h.mrow (by decide) (by rw [ob']; exact e)
  · rw [ob'] at hb
    exact h.dk b e hb
  · rcases hd b hb with e1 | e1
    · exact h.dk b e1 e
    · have := (own_lt h.byt (by rw [ob']; exact e)).2
      omega
  · rcases hd b hb with e1 | e1
    · exact h.lk b e1
    · have := h.sz
      omega

theorem bl_succ (k : Nat) : bl (k + 1) = bl k ++ ubytes (k + 1) := by
  unfold bl
  rw [List.range_succ, List.flatMap_append]
  simp
theorem el_succ (k : Nat) : el (k + 1) = el k ++ [.int .u32 (kend (k + 1) : Int)] := by
  unfold el
  rw [List.range_succ, List.map_append]
  rfl
theorem kend_succ (k : Nat) : kend k + (ubytes (k + 1)).length = kend (k + 1) := by
  have h1 := bl_len (k + 1)
  rw [bl_succ, List.length_append, bl_len] at h1
  exact h1

/-- keyList.add of the next state's key. -/
theorem BS.set_add {w' : World} {b1 c1 e1 c2 : Nat} (h : BS w H n vs os oa oc a t m k r q D wr)
    (hm : w'.rowIs H 48 21 fun j => if j = 13 then .slice (some ⟨e1, 0, none⟩) (k + 1) c2 else if j = 12 then .slice (some ⟨b1, 0, none⟩) (kend (k + 1)) c1 else mf H n os t m k D j)
    (hb : w'.ownsRow w.heap.size 5 1 (.slice (some ⟨b1, 0, none⟩) (kend (k + 1)) c1) (kend (k + 1)) (bl (k + 1))) (he : w'.ownsRow w.heap.size 65 1 (.slice (some ⟨e1, 0, none⟩) (k + 1) c2) (k + 1) (el (k + 1)))
    (kb : D.ba.map Addr.block = some b1 ∨ wr.heap.size ≤ b1) (ke : D.ea.map Addr.block = some e1 ∨ wr.heap.size ≤ e1)
    (F : Fr (fun b => b = H ∨ D.ba.map Addr.block = some b ∨ D.ea.map Addr.block = some b) wr w') :
    BS w H n vs os oa oc a t m (k + 1) r q { D with ba := some ⟨b1, 0, none⟩, bc := c1, ea := some ⟨e1, 0, none⟩, ec := c2 } w' := by
  obtain ⟨xs, hkey⟩ := h.key
  have hsz := h.sz
  have X := h.fix.move F (fun b e => by
    rcases e with e | e | e
    · exact .inl e
    · exact .inr (.inr (h.lb b e))
    · exact .inr (.inr (h.le b e))) (fr_h3 fun b e => by
    rcases e with e | e | e
    · obtain ⟨cs, h1, _⟩ := h.mrow
      exact ⟨cs, 48, _, by rw [e]; exact h1, by decide⟩
    · obtain ⟨cs, fr, h1⟩ := own_type h.byt (b := b) (by rw [ob']; exact e)
      exact ⟨cs, 5, fr, h1, by decide⟩
    · obtain ⟨cs, fr, h1⟩ := own_type h.ends (b := b) (by rw [ob']; exact e)
      exact ⟨cs, 65, fr, h1, by decide⟩)
  have nt : ∀ {size c : Nat} {v : Value} {xs : List Value}, wr.ownsRow w.heap.size 21 size v c xs → ∀ b, v.ownBlock = some b → ¬ (b = H ∨ D.ba.map Addr.block = some b ∨ D.ea.map Addr.block = some b) := fun {size c v xs} hv b hb e => by
    rcases e with e | e | e
    · exact own_row_ne hv h.mrow (by decide) (by rw [← e]; exact hb)
    · have := own_own_ne h.byt hv (by decide) hb
      rw [ob'] at this
      exact this e
    · have := own_own_ne h.ends hv (by decide) hb
      rw [ob'] at this
      exact this e
  refine ⟨hm.congr (fun j _ => ?_), X.act, F.own h.mov (nt h.mov), F.own h.to (nt h.to), hb, he, ⟨xs, F.own hkey (fun b hb' e => ?_)⟩, X.actor, X.start, X.res, X.ret, X.retc, X.out, X.outlt, h.dm, h.dt, fun b hb' e => ?_, X.bel, X.sz, X.lo, h.lk, fun b hb' => ?_, fun b hb' => ?_⟩
  · unfold mf
    by_cases e13 : j = 13
    · subst e13
      simp
    · by_cases e12 : j = 12
      · subst e12
        simp
      · simp only [if_neg e13, if_neg e12]
  · rcases e with e | e | e
    · exact own_row_ne hkey h.mrow (by decide) (by rw [← e]; exact hb')
    · rw [ob'] at hb'
      exact h.dk b hb' e
    · have := own_own_ne h.ends hkey (by decide) hb'
      rw [ob'] at this
      exact this e
  · have hbe : b1 = b := by simpa using e
    subst hbe
    rcases kb with e1 | e1
    · exact h.dk _ hb' e1
    · have := (own_lt hkey (by rw [ob']; exact hb')).2
      omega
  · have hbe : b1 = b := by simpa using hb'
    subst hbe
    rcases kb with e1 | e1
    · exact h.lb _ e1
    · omega
  · have hbe : e1 = b := by simpa using hb'
    subst hbe
    rcases ke with e1 | e1
    · exact h.le _ e1
    · omega

theorem rf_succ (vs : Nat → Nat) (r p : Nat) :
    (if p = r * 2 + 1 then Value.bool (decide (vs r % 5 ≠ 0)) else if p = r * 2 then Value.int .i64 ((vs r % 3 : Nat) : Int) else rf vs r p) = rf vs (r + 1) p := by
  by_cases h1 : p = r * 2 + 1
  · subst h1
    rw [if_pos rfl]
    unfold rf
    rw [if_pos (by omega), if_neg (by omega), show (r * 2 + 1) / 2 = r by omega]
  · rw [if_neg h1]
    by_cases h0 : p = r * 2
    · subst h0
      rw [if_pos rfl]
      unfold rf
      rw [if_pos (by omega), if_pos (by omega), show r * 2 / 2 = r by omega]
    · rw [if_neg h0]
      unfold rf
      have e : (p / 2 < r + 1) = (p / 2 < r) := propext ⟨by omega, by omega⟩
      simp only [e]
/-- A frame over one of the two rows that the round writes last. -/
theorem BS.over {b0 : Nat} {w' : World} (h : BS w H n vs os oa oc a t m k r q D wr) (hb0 : b0 = H + 1 + 1 + 1 + 1 + 1 + 1 ∨ b0 = H + 1 + 1 + 1 + 1 + 1 + 1 + 1) (F : Fr (fun b => b = b0) wr w')
    (res : w'.rowIs (H + 1 + 1 + 1 + 1 + 1 + 1) 53 (n * 2) (rf vs r)) (ret : w'.rowIs (H + 1 + 1 + 1 + 1 + 1 + 1 + 1) 29 n fun j => if j < q then .slice (D.qa j) (setOf vs j).length (D.qc j) else .slice none 0 0)
    (h3 : ∀ g cs, wr.heap[g]? = some (.cells cs 3 (0, 0)) → g ≠ b0) (hown : ∀ {e : TypeId} {size c : Nat} {v : Value} {xs : List Value}, wr.ownsRow w.heap.size e size v c xs → e ≠ 53 → e ≠ 29 → ∀ b, v.ownBlock = some b → b ≠ b0) : BS w H n vs os oa oc a t m k r q D w' := by
  obtain ⟨xs, hkey⟩ := h.key
  have hlo := h.lo
  refine ⟨F.rowIs h.mrow (by omega), F.rowIs h.act (by omega), F.own h.mov (hown h.mov (by decide) (by decide)), F.own h.to (hown h.to (by decide) (by decide)), F.own h.byt (hown h.byt (by decide) (by decide)), F.own h.ends (hown h.ends (by decide) (by decide)), ⟨xs, F.own hkey (hown hkey (by decide) (by decide))⟩, F.rowIs h.actor (by omega), F.rowIs h.start (by omega), res, ret, fun j hj hr => ?_,
    ⟨F.rowIs h.out.row (by omega), fun s hs => F.own (h.out.own s hs) (hown (h.out.own s hs) (by decide) (by decide)), h.out.dif, h.out.ge, h.out.nil⟩, h.outlt, h.dm, h.dt, h.dk, h.bel.trans (F.below h.bel.size (fun b e => by omega)), Nat.le_trans h.sz F.size, h.lo, h.lk, h.lb, h.le⟩
  obtain ⟨g, cs, h1, h2, h4⟩ := h.retc j hj hr
  exact ⟨g, cs, h1, (F.block g (lt_of_block h2) (h3 g cs h2)).trans h2, h4⟩

theorem psum_outL_succ (n : Nat) (e : Nat → Nat) (k : Nat) : ∀ x, psum (outL n e (k + 1)) x = psum (outL n e k) x + (if k % n < x then 1 else 0)
  | 0 => by simp [psum]
  | x + 1 => by
    show psum (outL n e (k + 1)) x + (outL n e (k + 1) x).length = psum (outL n e k) x + (outL n e k x).length + _
    rw [psum_outL_succ n e k x, outL_succ]
    by_cases h : x = k % n
    · rw [if_pos h, if_neg (by omega), if_pos (by omega), List.length_append]
      simp
      omega
    · rw [if_neg h]
      by_cases h2 : k % n < x
      · rw [if_pos h2, if_pos (by omega)]; omega
      · rw [if_neg h2, if_neg (by omega)]; omega
theorem psum_outL_zero (n : Nat) (e : Nat → Nat) : ∀ x, psum (outL n e 0) x ≤ x
  | 0 => Nat.le_refl _
  | x + 1 => by
    show psum (outL n e 0) x + (outL n e 0 x).length ≤ x + 1
    have h1 := psum_outL_zero n e x
    have h2 := outL_len n e 0 x
    omega
theorem psum_outL (n : Nat) (e : Nat → Nat) (x : Nat) : ∀ k, psum (outL n e k) x ≤ x + k
  | 0 => psum_outL_zero n e x
  | k + 1 => by
    rw [psum_outL_succ]
    have := psum_outL n e x k
    split <;> omega
end Go.Proofs.Ybulkauxo
