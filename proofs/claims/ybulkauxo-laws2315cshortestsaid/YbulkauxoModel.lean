import Derived.Test.YbulkauxoReplay
namespace Go.Proofs.Ybulkauxo
open Go.RowKit

/-- How many moves the states before s have. -/
def psum (os : Nat → List Nat) : Nat → Nat
  | 0 => 0
  | s + 1 => psum os s + (os s).length
theorem psum_mono (os : Nat → List Nat) {a b : Nat} (h : a ≤ b) : psum os a ≤ psum os b := by
  induction b with
  | zero =>
    obtain rfl : a = 0 := by omega
    exact Nat.le_refl _
  | succ b ih =>
    by_cases e : a = b + 1
    · subst e; exact Nat.le_refl _
    · exact Nat.le_trans (ih (by omega)) (by show psum os b ≤ psum os b + _; omega)

/-- The model in memory. -/
structure ModelAt (w : World) (M n : Nat) (vs : Nat → Nat) (os : Nat → List Nat) : Prop where
  keys : KeysAt w M n
  acts : ∃ b c, w.cell? ⟨M, 0, none⟩ = some (.slice (some ⟨b, 0, none⟩) (n + 1) c) ∧ ∀ j, j ≤ n → w.cell? ⟨b, j, none⟩ = some (.int .i32 (j : Int))
  movs : ∃ b c, w.cell? ⟨M, 1, none⟩ = some (.slice (some ⟨b, 0, none⟩) (n + 1) c) ∧ ∀ j, j ≤ n → w.cell? ⟨b, j, none⟩ = some (.int .i32 (psum os j : Int))
  to : ∃ a c, w.cell? ⟨M, 2, none⟩ = some (.slice a (psum os n) c) ∧ (0 < psum os n → ∃ b, a = some ⟨b, 0, none⟩ ∧ ∀ s j, s < n → j < (os s).length → w.cell? ⟨b, psum os s + j, none⟩ = some (.int .i32 ((os s).getD j 0 : Int)))
  actor : ∃ b c, w.cell? ⟨M, 4, none⟩ = some (.slice (some ⟨b, 0, none⟩) n c) ∧ ∀ s, s < n → w.cell? ⟨b, s, none⟩ = some (.int .i32 0)
  stops : w.cell? ⟨M, 5, none⟩ = some (.slice none 0 0)
  comp : w.cell? ⟨M, 10, none⟩ = some (.slice none 0 0)
  ord : w.cell? ⟨M, 11, none⟩ = some (.slice none 0 0)
  start : ∃ b c, w.cell? ⟨M, 14, none⟩ = some (.slice (some ⟨b, 0, none⟩) 1 c) ∧ w.cell? ⟨b, 0, none⟩ = some (.int .i32 0)
  res : ResAt w M n vs
  rets : ∃ b c, w.cell? ⟨M, 16, none⟩ = some (.slice (some ⟨b, 0, none⟩) n c) ∧ ∀ s, s < n → ∃ a c, w.cell? ⟨b, s, none⟩ = some (.slice a (setOf vs s).length c) ∧ (vs s % 5 ≠ 0 → ∃ g, a = some ⟨g, 0, none⟩ ∧ w.cell? ⟨g, 0, none⟩ = some (.int .i64 ((vs s % 3 : Nat) : Int)))

theorem ModelAt.below {w w' : World} {M n : Nat} {vs : Nat → Nat} {os : Nat → List Nat} (h : ModelAt w M n vs os) (hb : Below w.heap.size w w') : ModelAt w' M n vs os := by
  have t : ∀ {a : Addr} {v : Value}, w.cell? a = some v → w'.cell? a = some v := Below.keep hb
  obtain ⟨k0, ⟨b1, c1, k1, j1⟩, ⟨b2, c2, k2, j2⟩, ⟨a3, c3, k3, j3⟩, ⟨b4, c4, k4, j4⟩, k5, k6, k7, ⟨b8, c8, k8, j8⟩, ⟨b9, c9, k9, j9⟩, ⟨b0, c0, k10, j10⟩⟩ := h
  refine ⟨k0.below hb, ⟨b1, c1, t k1, fun j hj => t (j1 j hj)⟩, ⟨b2, c2, t k2, fun j hj => t (j2 j hj)⟩, ⟨a3, c3, t k3, fun hp => ?_⟩, ⟨b4, c4, t k4, fun s hs => t (j4 s hs)⟩, t k5, t k6, t k7, ⟨b8, c8, t k8, t j8⟩, ⟨b9, c9, t k9, fun s hs => ⟨t (j9 s hs).1, t (j9 s hs).2⟩⟩, ⟨b0, c0, t k10, fun s hs => ?_⟩⟩
  · obtain ⟨b, e, hc⟩ := j3 hp
    exact ⟨b, e, fun s j hs hj => t (hc s j hs hj)⟩
  · obtain ⟨a, c, h1, h2⟩ := j10 s hs
    exact ⟨a, c, t h1, fun hr => by
      obtain ⟨g, e, hg⟩ := h2 hr
      exact ⟨g, e, t hg⟩⟩

/-- Has state s returned t? -/
def good (vs : Nat → Nat) (t s : Nat) : Bool := decide (vs s % 5 ≠ 0) && decide (vs s % 3 = t)

theorem want_set (vs : Nat → Nat) (s t tb : Nat) (a : Option Addr) (c : Nat) (w : World) (ht : w.cell? ⟨tb, 0, none⟩ = some (.int .i64 (t : Int))) (h : vs s % 5 ≠ 0 → ∃ g, a = some ⟨g, 0, none⟩ ∧ w.cell? ⟨g, 0, none⟩ = some (.int .i64 ((vs s % 3 : Nat) : Int))) :
    Calls Yba.prog 6 #[.slice a (setOf vs s).length c, .pointer (some ⟨tb, 0, none⟩)] w fun e w' => e = .returned (.bool (good vs t s)) ∧ w' = w := by
  by_cases hr : vs s % 5 ≠ 0
  · obtain ⟨g, rfl, hg⟩ := h hr
    have e1 : setOf vs s = [.int .i64 ((vs s % 3 : Nat) : Int)] := if_pos hr
    rw [e1]
    have := want1 g c tb (vs s % 3) t w hg ht
    unfold good
    rw [decide_eq_true hr, Bool.true_and]
    exact this
  · have e1 : setOf vs s = [] := if_neg hr
    rw [e1]
    unfold good
    rw [decide_eq_false hr, Bool.false_and]
    exact want0 a c tb w

theorem any_succ (p : Nat → Bool) (k : Nat) : (List.range (k + 1)).any p = ((List.range k).any p || p k) := by
  rw [List.range_succ, List.any_append]
  simp

/-- returnedValues, said once. -/
theorem retvals (base M n s ib : Nat) (vs : Nat → Nat) (a : Option Addr) (c : Nat) (v : Value) (w : World) (hn : n ≤ 1024) (hs : s < n) (hk : KeysAt w M n) (hr : ResAt w M n vs) (hi : w.rowIs ib 21 1 fun _ => v) (hb : base ≤ w.heap.size)
    (hM : ∀ rb rc, w.cell? ⟨M, 15, none⟩ = some (.slice (some ⟨rb, 0, none⟩) n rc) → M ≠ ib ∧ rb ≠ ib) (ho : w.ownsRow base 3 1 (.slice a 0 c) 0 []) :
    Calls Yba.prog 12 #[.pointer (some ⟨M, 0, none⟩), .int .i64 (s : Int), .slice (some ⟨ib, 0, none⟩) 1 1, .slice a 0 c] w fun e w' => ∃ a' c', e = .returned (.slice a' (setOf vs s).length c') ∧ w'.ownsRow base 3 1 (.slice a' (setOf vs s).length c') (setOf vs s).length (setOf vs s) ∧
      Kin w.heap.size (.slice a 0 c) (.slice a' (setOf vs s).length c') ∧ (w'.rowIs ib 21 1 fun _ => .int .i32 s) ∧ Fr (fun k => k = ib ∨ Value.ownBlock (.slice a 0 c) = some k) w w' := by
  obtain ⟨rb, rc, r0, r1⟩ := hr
  obtain ⟨h1, h2⟩ := hM rb rc r0
  obtain ⟨r1, r2⟩ := r1 s hs
  by_cases hret : vs s % 5 ≠ 0
  · have e1 : setOf vs s = [.int .i64 ((vs s % 3 : Nat) : Int)] := if_pos hret
    rw [e1]
    rw [decide_eq_true hret] at r2
    refine (retvals1 base M n s ib rb rc (vs s % 3) a c v w hn hs hk r0 r1 r2 hi h1 h2 hb ho).mono ?_
    rintro e w' ⟨g, c', rfl, k1, k2, k3, k4⟩
    exact ⟨_, _, rfl, k1, k2, k3, k4⟩
  · have e1 : setOf vs s = [] := if_neg hret
    rw [e1]
    rw [decide_eq_false hret] at r2
    have hne : Value.ownBlock (.slice a 0 c) ≠ some ib := by
      obtain ⟨cc, h1, _⟩ := hi
      exact own_ne ho h1 (by decide)
    refine (retvals0 M n s ib rb rc a c v w hn hs hk r0 r2 hi h1 h2).mono ?_
    rintro e w' ⟨rfl, k1, k2⟩
    exact ⟨_, _, rfl, k2.own ho (fun k hk e => hne (by rw [← e]; exact hk)), .inl rfl, k1, k2.mono (fun _ _ e => .inl e)⟩

/-- valueSet, said once. -/
theorem vset (base s : Nat) (vs : Nat → Nat) (a b : Option Addr) (c d : Nat) (w : World) (hb : base ≤ w.heap.size) (ho : w.ownsRow base 3 1 (.slice a 0 c) 0 []) (hv : w.ownsRow base 3 1 (.slice b (setOf vs s).length d) (setOf vs s).length (setOf vs s)) :
    Calls Yba.prog 13 #[.slice a 0 c, .slice b (setOf vs s).length d] w fun e w' => ∃ a' c', e = .returned (.slice a' (setOf vs s).length c') ∧ w'.ownsRow base 3 1 (.slice a' (setOf vs s).length c') (setOf vs s).length (setOf vs s) ∧
      Kin w.heap.size (.slice a 0 c) (.slice a' (setOf vs s).length c') ∧ Fr (fun k => Value.ownBlock (.slice a 0 c) = some k) w w' := by
  by_cases hret : vs s % 5 ≠ 0
  · have e1 : setOf vs s = [.int .i64 ((vs s % 3 : Nat) : Int)] := if_pos hret
    rw [e1] at hv ⊢
    obtain ⟨vb, rfl, _, _, _, hc⟩ := own_cells hv (by simp)
    refine (vset1 base vb (vs s % 3) a c d w hb ho (hc 0 (by simp))).mono ?_
    rintro e w' ⟨g, c', rfl, k1, k2, k3⟩
    exact ⟨_, _, rfl, k1, k2, k3⟩
  · have e1 : setOf vs s = [] := if_neg hret
    rw [e1] at hv ⊢
    refine (vset0 a b c d w).mono ?_
    rintro e w' ⟨rfl, rfl⟩
    exact ⟨_, _, rfl, ho, .inl rfl, Fr.refl _ _⟩
theorem own_set {w : World} {base s c : Nat} {vs : Nat → Nat} {a : Option Addr} (h : w.ownsRow base 3 1 (.slice a (setOf vs s).length c) (setOf vs s).length (setOf vs s)) : vs s % 5 ≠ 0 → ∃ g, a = some ⟨g, 0, none⟩ ∧ w.cell? ⟨g, 0, none⟩ = some (.int .i64 ((vs s % 3 : Nat) : Int)) := fun hr => by
  have e1 : setOf vs s = [.int .i64 ((vs s % 3 : Nat) : Int)] := if_pos hr
  rw [e1] at h
  obtain ⟨g, rfl, _, _, _, hc⟩ := own_cells h (by simp)
  exact ⟨g, rfl, hc 0 (by simp)⟩
end Go.Proofs.Ybulkauxo
