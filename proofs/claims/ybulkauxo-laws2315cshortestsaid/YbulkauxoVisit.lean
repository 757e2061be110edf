import Derived.Test.YbulkauxoSets
namespace Go.Proofs.Ybulkauxo
open Go.RowKit

def ncells (d : Nd) : List Value := [.int .i32 (d.st : Int), .int .i32 0, .int .i32 d.fr, .int .i32 (d.ac : Int), .int .i32 (d.oc : Int)]
def nflat (NL : List Nd) : List Value := NL.flatMap ncells
theorem nflat_len : ∀ NL : List Nd, (nflat NL).length = NL.length * 5
  | [] => rfl
  | d :: NL => by
    show (ncells d ++ nflat NL).length = _
    rw [List.length_append, nflat_len NL, List.length_cons]
    show 5 + _ = _
    omega
theorem nflat_get : ∀ (NL : List Nd) (p i : Nat) (d : Nd), NL[p]? = some d → i < 5 → (nflat NL)[p * 5 + i]? = (ncells d)[i]?
  | [], p, i, d, h, _ => by simp at h
  | a :: NL, p, i, d, h, hi => by
    have hc : (ncells a).length = 5 := rfl
    show (ncells a ++ nflat NL)[p * 5 + i]? = _
    cases p with
    | zero =>
      simp at h
      subst h
      rw [List.getElem?_append_left (by omega)]
      simp
    | succ p =>
      rw [List.getElem?_append_right (by omega), show (p + 1) * 5 + i - (ncells a).length = p * 5 + i by omega]
      exact nflat_get NL p i d (by simpa using h) hi

/-- The search's memory: the two variables' cells, the row of marks, the row of nodes. -/
structure SS (B : Nat) (w : World) (wF wN fb n : Nat) (NL : List Nd) : Prop where
  hF : w.heap[wF]? = some (.cells #[.slice (some ⟨fb, 0, none⟩) n n] 34 (0, 0))
  hN : ∃ a c, w.heap[wN]? = some (.cells #[.slice a NL.length c] 57 (0, 0)) ∧ w.ownsRow B 56 5 (.slice a NL.length c) NL.length (nflat NL)
  few : w.rowIs fb 21 n fun u => .int .i32 (if holds NL u = true then 1 else 0)
  ge : B ≤ wF ∧ B ≤ wN ∧ B ≤ fb

/-- What is of another type, and not the marks, is as it was. -/
structure Calm (fb : Nat) (w w' : World) : Prop where
  size : w.heap.size ≤ w'.heap.size
  block : ∀ k cs t fr, k ≠ fb → t ≠ 57 → t ≠ 56 → w.heap[k]? = some (.cells cs t fr) → w'.heap[k]? = some (.cells cs t fr)
theorem Calm.refl (fb : Nat) (w : World) : Calm fb w w := ⟨Nat.le_refl _, fun _ _ _ _ _ _ _ h => h⟩
theorem Calm.trans {fb : Nat} {a b c : World} (h : Calm fb a b) (k : Calm fb b c) : Calm fb a c := ⟨Nat.le_trans h.size k.size, fun i cs t fr h1 h2 h3 h4 => k.block i cs t fr h1 h2 h3 (h.block i cs t fr h1 h2 h3 h4)⟩

theorem SS.of_fr {S : Nat → Prop} {B : Nat} {w w' : World} {wF wN fb n : Nat} {NL : List Nd} (h : SS B w wF wN fb n NL) (f : Fr S w w') (h1 : ¬ S wF) (h2 : ¬ S wN) (h3 : ¬ S fb) (h4 : ∀ k cs fr, w.heap[k]? = some (.cells cs 56 fr) → ¬ S k) : SS B w' wF wN fb n NL := by
  obtain ⟨a, c, hN, ho⟩ := h.hN
  refine ⟨(f.block _ (lt_of_block h.hF) h1).trans h.hF, ⟨a, c, (f.block _ (lt_of_block hN) h2).trans hN, f.own ho fun k hk => ?_⟩, f.rowIs h.few h3, h.ge⟩
  rcases ho.2 with ⟨h5, _⟩ | ⟨g, cap, cur, h5, _, hg, _⟩
  · injection h5 with e1
    subst e1
    simp [Value.ownBlock] at hk
  · injection h5 with e1
    subst e1
    simp [Value.ownBlock] at hk
    subst hk
    exact h4 _ _ _ hg

set_option maxRecDepth 100000 in
set_option maxHeartbeats 2000000 in
theorem visit_any (B wF wN fb n u i ac oc dp : Nat) (NL : List Nd) (w : World) (hu : u < n) (hl : NL.length ≤ 1024) (hs : SS B w wF wN fb n NL) (hB : B ≤ w.heap.size) :
    Calls Yba.prog 11 #[.int .i32 (u : Int), .int .i32 0, .agg #[.int .i32 0, .int .i32 0, .int .i32 (i : Int), .int .i32 (ac : Int), .int .i32 (oc : Int)], .pointer (some ⟨wF, 0, none⟩), .pointer (some ⟨wN, 0, none⟩)] w
      fun e w' => e = .returned (.tuple #[]) ∧ SS B w' wF wN fb n (visit NL ⟨u, i, ac, oc, dp⟩) ∧ Calm fb w w' ∧ Below B w w' := by
  have HS : Hid (SS B w wF wN fb n NL) := hs
  have hF0 : w.cell? ⟨wF, 0, none⟩ = some (.slice (some ⟨fb, 0, none⟩) n n) := by simp [World.cell?, hs.hF]
  have hFl := lt_of_block hs.hF
  have hfl := hs.few.lt
  have cu := hs.few.cell hu
  have fu := hs.few.frozen u
  cases hh : holds NL u with
  | true =>
    rw [if_pos hh] at cu
    have HV : Hid (visit NL ⟨u, i, ac, oc, dp⟩ = NL) := if_pos hh
    clear hs hh
    go_enter Yba.func11, Yba.ntmps11
    go_wp2
    go_end0
    refine ⟨rfl, ?_, ⟨by simp, fun k cs t fr _ _ _ h => by rw [Below.heap_alloc _ _ _ (lt_of_block h)]; exact h⟩, (Below.refl _ _).alloc hB _⟩
    rw [HV.out]
    exact HS.out.of_fr ((Fr.refl (fun _ => False) w).alloc _) id id id (fun _ _ _ _ => id)
  | false =>
    rw [if_neg (by rw [hh]; decide)] at cu
    have HV : Hid (visit NL ⟨u, i, ac, oc, dp⟩ = NL ++ [⟨u, i, ac, oc, dp⟩] ∧ ∀ x, holds (NL ++ [⟨u, i, ac, oc, dp⟩]) x = (holds NL x || u == x)) := ⟨if_neg (by rw [hh]; decide), fun x => by unfold holds; simp [List.any_append]⟩
    obtain ⟨a, c, hN, ho⟩ := hs.hN
    have hN0 : w.cell? ⟨wN, 0, none⟩ = some (.slice a NL.length c) := by simp [World.cell?, hN]
    have hNf : w.frozen? ⟨wN, 0, none⟩ = false := by simp [World.frozen?, hN]
    have hNl := lt_of_block hN
    have n1 : wF ≠ fb := fun e => by obtain ⟨cs, h1, _⟩ := hs.few; rw [← e, hs.hF] at h1; simp at h1
    have n2 : wN ≠ fb := fun e => by obtain ⟨cs, h1, _⟩ := hs.few; rw [← e, hN] at h1; simp at h1
    have n3 : Value.ownBlock (.slice a NL.length c) ≠ some wN := own_ne ho hN (by decide)
    have n4 : Value.ownBlock (.slice a NL.length c) ≠ some fb := by obtain ⟨cs, h1, _⟩ := hs.few; exact own_ne ho h1 (by decide)
    have n5 : Value.ownBlock (.slice a NL.length c) ≠ some wF := own_ne ho hs.hF (by decide)
    have fr0 : ∀ (A E : Obj) (x : Value), Fr (fun k => k = fb) w (((w.setCell ⟨fb, u, none⟩ x).alloc A).alloc E) := fun A E x => (((Fr.refl (fun k => k = fb) w).setCell (p := ⟨fb, u, none⟩) (fun _ => rfl) x).alloc A).alloc E
    have hown : ∀ (A E : Obj) (x : Value), (((w.setCell ⟨fb, u, none⟩ x).alloc A).alloc E).ownsRow B 56 5 (.slice a NL.length c) NL.length (nflat NL) := fun A E x => (fr0 A E x).own ho (fun k hk e => n4 (by rw [hk, e]))
    have FR0 : Hid (∀ (A E : Obj) (x : Value), Fr (fun k => k = fb) w (((w.setCell ⟨fb, u, none⟩ x).alloc A).alloc E)) := fr0
    clear fr0
    obtain ⟨i0, hi0, hz0, hz1, hz2⟩ := info_parts Yba.info56
    have N3 : Hid _ := n3
    have N4 : Hid _ := n4
    have N5 : Hid _ := n5
    have HNW : Hid (w.heap[wN]? = some (.cells #[.slice a NL.length c] 57 (0, 0))) := hN
    have HOW : Hid (w.ownsRow B 56 5 (.slice a NL.length c) NL.length (nflat NL)) := ho
    clear hh hs hN n3 n4 n5 ho
    go_enter Yba.func11, Yba.ntmps11
    go_wp2_with (at_builtin; go_must (refine wpList_append_lies _ rfl (.tmp 31) (.tmp 33) 57 rfl B 56 i0 (.agg #[.int .i32 0, .int .i32 0, .int .i32 0, .int .i32 0, .int .i32 0]) 5 20 Yba.underlying57 hi0 hz0 hz1 hz2 rfl (by decide) (.slice a NL.length c) NL.length (nflat NL) rfl (hown _ _ _) ⟨w.heap.size + 1, 0, none⟩ 1 1 [.int .i32 (u : Int), .int .i32 0, .int .i32 (i : Int), .int .i32 (ac : Int), .int .i32 (oc : Int)] rfl rfl ?d1 ?d2 ?d3 ?d4 ?d5 ?d6 (w.heap.size + 1 + 1) ?d7 ?d8))
    case d1 => exact fun j u hj => new_cells _ _ 56 _ (by simp) j u hj
    case d2 => exact fun u hu => by simp at hu; rcases hu with rfl | rfl | rfl | rfl | rfl <;> rfl
    case d3 => omega
    case d4 => unfold maxLen; omega
    case d5 => omega
    case d6 => simp; omega
    case d7 => simp
    case d8 =>
      intro g cap w4 ho4 hg4 hat hlt4
      have hfr : Fr (fun k => k = fb ∨ Value.ownBlock (.slice a NL.length c) = some k) w w4 := ((FR0.out _ _ _).mono (fun _ _ e => .inl e)).grown hg4 (fun k _ e => .inr e)
      have hNb : w4.heap[wN]? = w.heap[wN]? := hfr.block wN hNl (fun e => e.elim n2 N3.out)
      have hN4 : w4.cell? ⟨wN, 0, none⟩ = some (.slice a NL.length c) := (World.cell?_of_block (w := w) hNb).trans hN0
      have hNf4 : w4.frozen? ⟨wN, 0, none⟩ = false := (World.frozen?_of_block (w := w) hNb).trans hNf
      have HO4 : Hid (w4.ownsRow B 56 5 (.slice (some ⟨g, 0, none⟩) (NL.length + 1) cap) (NL.length + 1) (nflat NL ++ [.int .i32 (u : Int), .int .i32 0, .int .i32 (i : Int), .int .i32 (ac : Int), .int .i32 (oc : Int)])) := ho4
      have HFR : Hid (Fr (fun k => k = fb ∨ Value.ownBlock (.slice a NL.length c) = some k) w w4) := hfr
      have HFE : Hid (w4.rowIs fb 21 n fun x => if x = u then .int .i32 1 else .int .i32 (if holds NL x = true then 1 else 0)) :=
        (((HS.out.few.set u (.int .i32 1)).alloc _).alloc _).of_block (hg4.block fb (by simp [World.setCell]; omega) (fun e => N4.out e.symm))
      have HNB : Hid (w4.heap[wN]? = w.heap[wN]?) := hNb
      clear hown ho4 hg4 hfr hNb
      go_wp2
      go_end0
      have hgw : g ≠ wN := fun e => by
        rcases hat with h | h
        · exact N3.out (by rw [h, e])
        · omega
      have hge := HS.out.ge
      refine ⟨rfl, ⟨?_, ⟨some ⟨g, 0, none⟩, cap, ?_, ?_⟩, ?_, hge⟩, ⟨?_, fun k cs t fr h1 h2 h3 h4 => ?_⟩, ?_⟩
      · rw [Below.heap_setCell _ _ _ _ (show wF ≠ wN from fun e => by have := HS.out.hF; rw [e, HNW.out] at this; simp at this), HFR.out.block wF hFl (fun e => e.elim n1 N5.out)]
        exact HS.out.hF
      · rw [HV.out.1, List.length_append, List.length_singleton]
        have h4 := HNB.out.trans HNW.out
        simp [World.setCell, Array.getElem?_modify, h4]
      · rw [HV.out.1, List.length_append, List.length_singleton]
        have e1 : nflat (NL ++ [⟨u, i, ac, oc, dp⟩]) = nflat NL ++ [.int .i32 (u : Int), .int .i32 0, .int .i32 (i : Int), .int .i32 (ac : Int), .int .i32 (oc : Int)] := by
          unfold nflat
          rw [List.flatMap_append]
          rfl
        rw [e1]
        exact ((Fr.refl (fun k => k = wN) w4).setCell (p := ⟨wN, 0, none⟩) (fun _ => rfl) _).own HO4.out (fun k hk e => by
          simp [Value.ownBlock] at hk
          omega)
      · rw [HV.out.1]
        refine (HFE.out.setOther (a := ⟨wN, 0, none⟩) (fun e => n2 e.symm) _).congr fun x _ => ?_
        rw [HV.out.2 x]
        by_cases e : x = u
        · subst e
          simp
        · have e2 : (u == x) = false := by simpa using fun h => e h.symm
          rw [if_neg e, e2, Bool.or_false]
      · have := HFR.out.size
        simpa [World.setCell] using this
      · have hk1 : k ≠ wN := fun e => by rw [e, HNW.out] at h4; simp at h4; exact h2 h4.2.1.symm
        rw [Below.heap_setCell _ _ _ _ hk1, HFR.out.block k (lt_of_block h4) (fun e => e.elim h1 (own_ne HOW.out h4 h3))]
        exact h4
      · exact (HFR.out.below hB (fun k e => by
          rcases e with rfl | e
          · exact hge.2.2
          · exact (own_lt HOW.out e).1)).setCell hge.2.1 _
end Go.Proofs.Ybulkauxo
