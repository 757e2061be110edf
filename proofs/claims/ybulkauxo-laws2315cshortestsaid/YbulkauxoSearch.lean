import Derived.Test.YbulkauxoModel
namespace Go.Proofs.Ybulkauxo
open Go.RowKit

/-- What Reach answers. -/
def Reached (n : Nat) (vs : Nat → Nat) (t : Nat) (os : Nat → List Nat) (w w' : World) (e : Ending) : Prop :=
  ((List.range n).any (good vs t) = false ∧ e = .returned (.tuple #[.slice none 0 0, .bool false]) ∧ Below w.heap.size w w') ∨
  ∃ (i : Nat) (x : Nd) (rb : Nat), Kept n os i ∧ (run os i)[i]? = some x ∧ (∀ j d, j < i → (run os i)[j]? = some d → good vs t d.st = false) ∧ good vs t x.st = true ∧
    e = .returned (.tuple #[.slice (some ⟨rb, 0, none⟩) (up (run os i) i i).length (up (run os i) i i).length, .bool true]) ∧ MovesAt w' rb (up (run os i) i i).reverse ∧ Below w.heap.size w w'

/-- What Reach's search keeps from round to round (but for the two slices). -/
structure RQ (w : World) (n : Nat) (vs : Nat → Nat) (t : Nat) (os : Nat → List Nat) (wF wN fb ib i : Nat) (wr : World) : Prop where
  kept : Kept n os i
  le : i ≤ (run os i).length
  no : ∀ j d, j < i → (run os i)[j]? = some d → good vs t d.st = false
  ss : SS w.heap.size wr wF wN fb n (run os i)
  ids : ∃ v, wr.rowIs ib 21 1 fun _ => v
  ne : fb ≠ ib
  ge : w.heap.size ≤ ib
  bel : Below w.heap.size w wr
/-- The two slices. -/
def RV (w wr : World) (v s : Value) : Prop := ∃ va vn vc vx sa sn sc sx, v = .slice va vn vc ∧ s = .slice sa sn sc ∧ wr.ownsRow w.heap.size 3 1 (.slice va vn vc) vn vx ∧ wr.ownsRow w.heap.size 3 1 (.slice sa sn sc) sn sx ∧
  ∀ k, Value.ownBlock (.slice va vn vc) = some k → Value.ownBlock (.slice sa sn sc) ≠ some k

theorem chain5 (w : World) (o0 o1 o2 o3 o4 : Obj) : ((((((w.alloc o0).alloc o1).alloc o2).alloc o3).alloc o4).heap[w.heap.size]? = some o0 ∧ (((((w.alloc o0).alloc o1).alloc o2).alloc o3).alloc o4).heap[w.heap.size + 1]? = some o1 ∧
    (((((w.alloc o0).alloc o1).alloc o2).alloc o3).alloc o4).heap[w.heap.size + 1 + 1]? = some o2 ∧ (((((w.alloc o0).alloc o1).alloc o2).alloc o3).alloc o4).heap[w.heap.size + 1 + 1 + 1]? = some o3 ∧ (((((w.alloc o0).alloc o1).alloc o2).alloc o3).alloc o4).heap[w.heap.size + 1 + 1 + 1 + 1]? = some o4) := by
  have h0 : (w.alloc o0).heap[w.heap.size]? = some o0 := heap_alloc_new w o0
  have h1 : ((w.alloc o0).alloc o1).heap[w.heap.size + 1]? = some o1 := by have := heap_alloc_new (w.alloc o0) o1; simpa using this
  have h2 : (((w.alloc o0).alloc o1).alloc o2).heap[w.heap.size + 1 + 1]? = some o2 := by have := heap_alloc_new ((w.alloc o0).alloc o1) o2; simpa using this
  have h3 : ((((w.alloc o0).alloc o1).alloc o2).alloc o3).heap[w.heap.size + 1 + 1 + 1]? = some o3 := by have := heap_alloc_new (((w.alloc o0).alloc o1).alloc o2) o3; simpa using this
  have h4 : (((((w.alloc o0).alloc o1).alloc o2).alloc o3).alloc o4).heap[w.heap.size + 1 + 1 + 1 + 1]? = some o4 := by have := heap_alloc_new ((((w.alloc o0).alloc o1).alloc o2).alloc o3) o4; simpa using this
  have up : ∀ {W : World} {o : Obj} {k : Nat} {x : Obj}, W.heap[k]? = some x → (W.alloc o).heap[k]? = some x := fun {W o k x} h => (Below.heap_alloc _ _ _ (lt_of_block h)).trans h
  exact ⟨up (up (up (up h0))), up (up (up h1)), up (up h2), up h3, h4⟩
theorem made_one (v : Value) (n i : Nat) (h : i < n) : (madeCells #[v] n)[i]? = some v := by
  simp [madeCells, h, Nat.mod_one]

theorem search_start (w : World) (n : Nat) (vs : Nat → Nat) (t : Nat) (os : Nat → List Nat) (hn0 : 0 < n) :
    RQ w n vs t os (w.heap.size + 1) (w.heap.size + 1 + 1 + 1) w.heap.size (w.heap.size + 1 + 1 + 1 + 1) 0
      (((((w.alloc (.cells ((madeCells #[.int .i32 0] n).setIfInBounds 0 (.int .i32 1)) 21)).alloc (.cells #[.slice (some ⟨w.heap.size, 0, none⟩) n n] 34)).alloc (.cells #[.int .i32 0, .int .i32 0, .int .i32 (-1), .int .i32 0, .int .i32 0] 56)).alloc
        (.cells #[.slice (some ⟨w.heap.size + 1 + 1, 0, none⟩) 1 1] 57)).alloc (.cells #[.int .i32 0] 21)) := by
  obtain ⟨h0, h1, h2, h3, h4⟩ := chain5 w (.cells ((madeCells #[.int .i32 0] n).setIfInBounds 0 (.int .i32 1)) 21) (.cells #[.slice (some ⟨w.heap.size, 0, none⟩) n n] 34) (.cells #[.int .i32 0, .int .i32 0, .int .i32 (-1), .int .i32 0, .int .i32 0] 56) (.cells #[.slice (some ⟨w.heap.size + 1 + 1, 0, none⟩) 1 1] 57) (.cells #[.int .i32 0] 21)
  refine ⟨kept_zero n os hn0, Nat.zero_le _, fun j d hj => absurd hj (Nat.not_lt_zero j), ⟨h1, ⟨some ⟨w.heap.size + 1 + 1, 0, none⟩, 1, h3, ?_⟩, ⟨_, h0, by simp [size_madeCells], fun u hu => ?_⟩, by omega, by omega, by omega⟩, ⟨.int .i32 0, _, h4, rfl, fun i hi => ?_⟩, by omega, by omega, ?_⟩
  · exact ⟨rfl, .inr ⟨_, 1, _, rfl, by omega, h2, Nat.le_refl _, by unfold maxLen; omega, rfl, rfl⟩⟩
  · rw [Array.getElem?_setIfInBounds]
    show _ = some (Value.int .i32 (if holds [root] u = true then 1 else 0))
    by_cases e : u = 0
    · subst e
      simp [size_madeCells, hn0, holds, root]
    · rw [if_neg (fun h => e h.symm), made_one _ _ _ hu]
      have : holds [root] u = false := by simp [holds, root]; omega
      rw [this]
      rfl
  · obtain rfl : i = 0 := by omega
    rfl
  · exact (((((Below.refl _ w).alloc (Nat.le_refl _) _).alloc (by simp) _).alloc (by simp; omega) _).alloc (by simp; omega) _).alloc (by simp; omega) _

theorem ob (a : Option Addr) (n c : Nat) : Value.ownBlock (.slice a n c) = a.map Addr.block := by cases a <;> rfl
theorem below_drewN {B : Nat} {a w : World} (h : Below B a w) (q : Nat) : Below B a (w.drewN q) := ⟨h.os, h.tape, h.output, h.size, h.block⟩

/-- Behind returnedValues the other slice is owned as before. -/
theorem mid1 {w wr w1 : World} {ib q vn vc sn sc : Nat} {va sa : Option Addr} {sx : List Value} {v : Value} (hi : wr.rowIs ib 21 1 fun _ => v) (hs : wr.ownsRow w.heap.size 3 1 (.slice sa sn sc) sn sx)
    (hd : ∀ k, Value.ownBlock (.slice va vn vc) = some k → Value.ownBlock (.slice sa sn sc) ≠ some k) (f1 : Fr (fun k => k = ib ∨ Value.ownBlock (.slice va 0 vc) = some k) (wr.drewN q) w1) : w1.ownsRow w.heap.size 3 1 (.slice sa sn sc) sn sx := by
  refine f1.own (a := wr.drewN q) hs (fun k hk e => ?_)
  rcases e with rfl | e
  · obtain ⟨cs, h1, _⟩ := hi
    exact own_ne hs h1 (by decide) hk
  · exact hd k (by rw [ob] at e ⊢; exact e) hk

theorem mid {w wr w1 w2 : World} {n t wF wN fb ib i q vn vc sn sc m c1 m2 c2 : Nat} {vs : Nat → Nat} {os : Nat → List Nat} {va sa a1 a2 : Option Addr} {vx sx xs xs2 : List Value} {u : Value}
    (hQ : RQ w n vs t os wF wN fb ib i wr) (hv : wr.ownsRow w.heap.size 3 1 (.slice va vn vc) vn vx) (hs : wr.ownsRow w.heap.size 3 1 (.slice sa sn sc) sn sx)
    (hd : ∀ k, Value.ownBlock (.slice va vn vc) = some k → Value.ownBlock (.slice sa sn sc) ≠ some k)
    (o1 : w1.ownsRow w.heap.size 3 1 (.slice a1 m c1) m xs) (k1 : Kin (wr.drewN q).heap.size (.slice va 0 vc) (.slice a1 m c1)) (i1 : w1.rowIs ib 21 1 fun _ => u) (f1 : Fr (fun k => k = ib ∨ Value.ownBlock (.slice va 0 vc) = some k) (wr.drewN q) w1)
    (o2 : w2.ownsRow w.heap.size 3 1 (.slice a2 m2 c2) m2 xs2) (k2 : Kin w1.heap.size (.slice sa 0 sc) (.slice a2 m2 c2)) (f2 : Fr (fun k => Value.ownBlock (.slice sa 0 sc) = some k) w1 w2) :
    RQ w n vs t os wF wN fb ib i w2 ∧ RV w w2 (.slice a1 m c1) (.slice a2 m2 c2) := by
  simp only [Kin, ob] at k1 k2 f1 f2
  have hv1 : ∀ {b : Nat} {cs : Array Value} {e : TypeId} {fr : Nat × Nat}, wr.heap[b]? = some (.cells cs e fr) → e ≠ 3 → va.map Addr.block ≠ some b := fun {b cs e fr} h he => by have := own_ne hv h he; rw [ob] at this; exact this
  have hs1 : ∀ {b : Nat} {cs : Array Value} {e : TypeId} {fr : Nat × Nat}, wr.heap[b]? = some (.cells cs e fr) → e ≠ 3 → sa.map Addr.block ≠ some b := fun {b cs e fr} h he => by have := own_ne hs h he; rw [ob] at this; exact this
  have hvl : ∀ {j : Nat}, va.map Addr.block = some j → w.heap.size ≤ j ∧ j < wr.heap.size := fun {j} hj => own_lt hv (by rw [ob]; exact hj)
  have hsl : ∀ {j : Nat}, sa.map Addr.block = some j → w.heap.size ≤ j ∧ j < wr.heap.size := fun {j} hj => own_lt hs (by rw [ob]; exact hj)
  obtain ⟨v0, hi⟩ := hQ.ids
  obtain ⟨ci, hi0, _⟩ := id hi
  have F : Fr (fun k => k = ib ∨ va.map Addr.block = some k ∨ sa.map Addr.block = some k) (wr.drewN q) w2 :=
    (f1.mono (fun _ _ e => e.elim .inl (fun e => .inr (.inl e)))).trans f2 (fun _ _ e => .inr (.inr e))
  have nS : ∀ {b : Nat} {cs : Array Value} {e : TypeId} {fr : Nat × Nat}, wr.heap[b]? = some (.cells cs e fr) → e ≠ 3 → e ≠ 21 → ¬ (b = ib ∨ va.map Addr.block = some b ∨ sa.map Addr.block = some b) := fun {b cs e fr} h h3 h21 hor => by
    rcases hor with rfl | h1 | h1
    · rw [hi0] at h; simp at h; exact h21 h.2.1.symm
    · exact hv1 h h3 h1
    · exact hs1 h h3 h1
  have hss : SS w.heap.size (wr.drewN q) wF wN fb n (run os i) := ⟨hQ.ss.hF, hQ.ss.hN, hQ.ss.few, hQ.ss.ge⟩
  obtain ⟨na, nc, hN, _⟩ := hQ.ss.hN
  obtain ⟨cf, hf0, _⟩ := hQ.ss.few
  have sz : (wr.drewN q).heap.size = wr.heap.size := rfl
  refine ⟨⟨hQ.kept, hQ.le, hQ.no, ?_, ⟨u, f2.rowIs i1 (hs1 hi0 (by decide))⟩, hQ.ne, hQ.ge, ?_⟩, a1, m, c1, xs, a2, m2, c2, xs2, rfl, rfl, ?_, o2, fun j hj => ?_⟩
  · refine hss.of_fr F (nS hQ.ss.hF (by decide) (by decide)) (nS hN (by decide) (by decide)) (fun e => ?_) (fun j cs fr h => nS (b := j) (cs := cs) (fr := fr) h (by decide) (by decide))
    rcases e with e | e | e
    · exact hQ.ne e
    · exact hv1 hf0 (by decide) e
    · exact hs1 hf0 (by decide) e
  · refine (below_drewN hQ.bel q).trans (F.below (by rw [sz]; exact hQ.bel.size) (fun j e => ?_))
    rcases e with rfl | e | e
    · exact hQ.ge
    · exact (hvl e).1
    · exact (hsl e).1
  · refine f2.own o1 (fun j hj e => ?_)
    rw [ob] at hj
    rcases k1 with k1 | ⟨g, k1, hg⟩
    · have := hd j (by rw [ob, ← k1]; exact hj)
      rw [ob] at this
      exact this e
    · rw [hj] at k1
      injection k1 with k1
      have := (hsl e).2
      rw [sz] at hg
      omega
  · rw [ob] at hj ⊢
    intro e
    have h1 := own_lt o1 (by rw [ob]; exact hj)
    rcases k2 with k2 | ⟨g, k2, hg⟩
    · rw [k2] at e
      rcases k1 with k1 | ⟨g, k1, hg⟩
      · have := hd j (by rw [ob, ← k1]; exact hj)
        rw [ob] at this
        exact this e
      · rw [hj] at k1
        injection k1 with k1
        have := (hsl e).2
        rw [sz] at hg
        omega
    · rw [e] at k2
      injection k2 with k2
      omega

theorem rq_succ {w w2 w5 : World} {n t wF wN fb ib i : Nat} {vs : Nat → Nat} {os : Nat → List Nat} {x : Nd} (hosn : ∀ s, s < n → ∀ u ∈ os s, u < n) (hQ : RQ w n vs t os wF wN fb ib i w2) (hx : (run os i)[i]? = some x) (hg : good vs t x.st = false)
    (hss : SS w.heap.size w5 wF wN fb n (expn os (run os i) i x (os x.st).length)) (ids : ∃ v, w5.rowIs ib 21 1 fun _ => v) (bel : Below w.heap.size w w5) : RQ w n vs t os wF wN fb ib (i + 1) w5 := by
  have hxn := hQ.kept.inv.lt x (List.mem_of_getElem? hx)
  obtain ⟨_, _, h3, _⟩ := expn_inv hQ.kept.inv hx (hQ.kept.top x hx) (hosn _ hxn) _ (Nat.le_refl _)
  rw [← run_succ hx] at hss h3
  refine ⟨kept_succ hosn hQ.kept hx, ?_, fun j d hj hd => ?_, hss, ids, hQ.ne, hQ.ge, bel⟩
  · have := (List.getElem?_eq_some_iff.1 (h3 i x hx)).1
    omega
  · by_cases e : j = i
    · subst e
      rw [h3 j x hx] at hd
      injection hd with hd
      rw [← hd]
      exact hg
    · have hil := (List.getElem?_eq_some_iff.1 hx).1
      have hjl : j < (run os i).length := by omega
      have := h3 j _ (List.getElem?_eq_getElem hjl)
      rw [hd] at this
      injection this with this
      exact hQ.no j d (by omega) (by rw [this]; exact List.getElem?_eq_getElem hjl)
theorem calm_own {w w' : World} {fb base n : Nat} {v : Value} {xs : List Value} (c : Calm fb w w') (ho : w.ownsRow base 3 1 v n xs) (hf : ∃ cs fr, w.heap[fb]? = some (.cells cs 21 fr)) : w'.ownsRow base 3 1 v n xs := by
  refine ⟨ho.1, ?_⟩
  rcases ho.2 with h1 | ⟨g, cap, cur, h1, h2, h3, h4⟩
  · exact .inl h1
  · refine .inr ⟨g, cap, cur, h1, h2, c.block g cur 3 (0, 0) (fun e => ?_) (by decide) (by decide) h3, h4⟩
    obtain ⟨cs, fr, hf⟩ := hf
    rw [← e, h3] at hf
    simp at hf
/-- What the search's inner loop keeps. -/
structure RL (w : World) (n : Nat) (os : Nat → List Nat) (wF wN fb ib i : Nat) (NL : List Nd) (x : Nd) (v s : Value) (c : Nat) (wr : World) : Prop where
  ss : SS w.heap.size wr wF wN fb n (expn os NL i x c)
  ids : ∃ v, wr.rowIs ib 21 1 fun _ => v
  rv : RV w wr v s
  bel : Below w.heap.size w wr
theorem rl_step {w wr w6 : World} {n wF wN fb ib i c X : Nat} {os : Nat → List Nat} {NL : List Nd} {x : Nd} {v s : Value} (hne : fb ≠ ib) (h : RL w n os wF wN fb ib i NL x v s c wr) (hX : X = x.st)
    (hss : SS w.heap.size w6 wF wN fb n (visit (expn os NL i x c) ⟨(os X).getD c 0, i, X, c, x.dp + 1⟩)) (hc : Calm fb wr w6) (hb : Below w.heap.size wr w6) : RL w n os wF wN fb ib i NL x v s (c + 1) w6 := by
  subst hX
  obtain ⟨v0, cs, h1, h2, h3⟩ := h.ids
  obtain ⟨va, vn, vc, vx, sa, sn, sc, sx, e1, e2, ho1, ho2, hd⟩ := h.rv
  obtain ⟨cf, hf, _⟩ := h.ss.few
  exact ⟨hss, ⟨v0, cs, hc.block ib cs 21 (0, 0) (fun e => hne e.symm) (by decide) (by decide) h1, h2, h3⟩, ⟨va, vn, vc, vx, sa, sn, sc, sx, e1, e2, calm_own hc ho1 ⟨_, _, hf⟩, calm_own hc ho2 ⟨_, _, hf⟩, hd⟩, h.bel.trans hb⟩
theorem rl_drew {w wr : World} {n wF wN fb ib i c : Nat} {os : Nat → List Nat} {NL : List Nd} {x : Nd} {v s : Value} (q : Nat) (h : RL w n os wF wN fb ib i NL x v s c wr) : RL w n os wF wN fb ib i NL x v s c (wr.drewN q) :=
  ⟨⟨h.ss.hF, h.ss.hN, h.ss.few, h.ss.ge⟩, h.ids, h.rv, below_drewN h.bel q⟩
end Go.Proofs.Ybulkauxo
