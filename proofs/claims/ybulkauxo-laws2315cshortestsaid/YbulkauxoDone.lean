import Derived.Test.YbulkauxoBs
namespace Go.Proofs.Ybulkauxo
open Go.RowKit

theorem flat_at {α : Type} (g : Nat → List α) (len : Nat → Nat) (hl : ∀ s, ((List.range s).flatMap g).length = len s) : ∀ (n s j : Nat), s < n → j < (g s).length → ((List.range n).flatMap g)[len s + j]? = (g s)[j]?
  | 0, s, j, h, _ => absurd h (Nat.not_lt_zero s)
  | n + 1, s, j, h, hj => by
    have e : (List.range (n + 1)).flatMap g = (List.range n).flatMap g ++ g n := by rw [List.range_succ, List.flatMap_append]; simp
    rw [e]
    by_cases hs : s < n
    · have h1 := flat_at g len hl n s j hs hj
      have hlt : len s + j < ((List.range n).flatMap g).length := by
        have := h1.trans (List.getElem?_eq_getElem hj)
        exact (List.getElem?_eq_some_iff.1 this).1
      rw [List.getElem?_append_left hlt]
      exact h1
    · obtain rfl : s = n := by omega
      rw [List.getElem?_append_right (by rw [hl]; omega), hl, show len s + j - len s = j by omega]

theorem ubytes_len (x : Nat) : 0 < (ubytes x).length := by
  unfold ubytes
  split <;> simp
theorem bl_at {n s j : Nat} (hs : s < n) (hj : j < (ubytes (s + 1)).length) : (bl n)[kend s + j]? = (ubytes (s + 1))[j]? := flat_at (fun j => ubytes (j + 1)) kend (fun s => bl_len s) n s j hs hj

theorem bs_model {w wr : World} {H n : Nat} {vs : Nat → Nat} {os : Nat → List Nat} {oa : Nat → Option Addr} {oc : Nat → Nat} {D : BD} (hn0 : 0 < n) (h : BS w H n vs os oa oc n n n n n n D wr) : ModelAt wr H n vs os := by
  have hk0 : 0 < kend n := by unfold kend; omega
  obtain ⟨kb, hba, _, _, hkc, hkcell⟩ := own_cells h.byt hk0
  obtain ⟨eb, hea, _, _, _, hecell⟩ := own_cells h.ends hn0
  obtain ⟨mb, hma, _, _, _, hmcell⟩ := own_cells h.mov (Nat.succ_pos n)
  injection hma with hma
  injection hma with hma
  have m := fun {j : Nat} (hj : j < 21) => h.mrow.cell hj
  have m0 := m (show 0 < 21 by omega)
  have m1 := m (show 1 < 21 by omega)
  have m2 := m (show 2 < 21 by omega)
  have m4 := m (show 4 < 21 by omega)
  have m5 := m (show 5 < 21 by omega)
  have m10 := m (show 10 < 21 by omega)
  have m11 := m (show 11 < 21 by omega)
  have m12 := m (show 12 < 21 by omega)
  have m13 := m (show 13 < 21 by omega)
  have m14 := m (show 14 < 21 by omega)
  have m15 := m (show 15 < 21 by omega)
  have m16 := m (show 16 < 21 by omega)
  simp [mf] at m0 m1 m2 m4 m5 m10 m11 m12 m13 m14 m15 m16
  rw [hba] at m12
  rw [hea] at m13
  refine ⟨⟨kb, eb, D.bc, D.ec, m12, m13, hkc, fun s hs => ?_, fun s hs => ?_⟩, ⟨_, _, m0, fun j hj => ?_⟩, ⟨_, _, m1, fun j hj => ?_⟩, ⟨_, _, m2, fun hp => ?_⟩, ⟨_, _, m4, fun s hs => h.actor.cell hs⟩, m5, m10, m11, ⟨_, _, m14, h.start.cell (by omega)⟩, ⟨_, _, m15, fun s hs => ⟨?_, ?_⟩⟩, ⟨_, _, m16, fun s hs => ?_⟩⟩
  · rw [hecell s (by omega)]
    unfold el
    rw [List.getElem?_map, List.getElem?_range hs]
    rfl
  · have hb : ∀ j, j < (ubytes (s + 1)).length → wr.cell? ⟨kb, kend s + j, none⟩ = (ubytes (s + 1))[j]? := fun j hj => by
      have h1 := bl_at hs hj
      have h2 := (List.getElem?_eq_some_iff.1 (h1.trans (List.getElem?_eq_getElem hj))).1
      rw [bl_len] at h2
      rw [hkcell _ (by omega), h1]
    unfold ubytes at hb
    refine ⟨fun hx => ?_, fun hx => ?_⟩
    · rw [if_pos hx] at hb
      have := hb 0 (by simp)
      simpa using this
    · rw [if_neg (by omega)] at hb
      have h0 := hb 0 (by simp)
      have h1 := hb 1 (by simp)
      exact ⟨by simpa using h0, by simpa using h1⟩
  · rw [h.act.cell (by omega), if_pos hj]
  · rw [hma, hmcell j (by omega)]
    unfold pl
    rw [List.getElem?_map, List.getElem?_range (by omega)]
    rfl
  · obtain ⟨tb, hta, _, _, _, htc⟩ := own_cells h.to hp
    refine ⟨tb, hta, fun s j hs hj => ?_⟩
    have h1 := flat_at os (psum os) (psum_flat os) n s j hs hj
    have h2 := (List.getElem?_eq_some_iff.1 (h1.trans (List.getElem?_eq_getElem hj))).1
    rw [psum_flat] at h2
    rw [htc _ (by omega)]
    unfold tl i32s
    rw [List.getElem?_map, h1, List.getD_eq_getElem?_getD, List.getElem?_eq_getElem hj]
    rfl
  · rw [h.res.cell (by omega)]
    unfold rf
    rw [if_pos (by omega), if_pos (by omega), show s * 2 / 2 = s by omega]
  · rw [h.res.cell (by omega)]
    unfold rf
    rw [if_pos (by omega), if_neg (by omega), show (s * 2 + 1) / 2 = s by omega]
  · refine ⟨D.qa s, D.qc s, by rw [h.ret.cell hs, if_pos hs], fun hr => ?_⟩
    obtain ⟨g, cs, h1, h2, h3⟩ := h.retc s hs hr
    exact ⟨g, h1, by simp [World.cell?, h2, h3]⟩
end Go.Proofs.Ybulkauxo
