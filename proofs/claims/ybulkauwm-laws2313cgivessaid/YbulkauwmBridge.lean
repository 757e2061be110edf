import Derived.Test.YbulkauwmAnswer
namespace Go.Proofs.Ybulkauwm
open Go.RowKit

def ent (L : List Ent) (j : Nat) : Ent := L.getD j ⟨0, 0, 0, 0⟩
def eid (L : List Ent) (j : Nat) : Int := ((ent L j).id : Int)
def eborn (hborn : Nat → Int) (L : List Ent) (j : Nat) : Int := hborn (ent L j).k
def exa (L : List Ent) (j : Nat) : Option Addr := some ⟨(ent L j).blk, 0, none⟩
def exn (htxt : Nat → ByteArray) (L : List Ent) (j : Nat) : Nat := (htxt (ent L j).k).size
def exc (L : List Ent) (j : Nat) : Nat := (ent L j).cap

theorem flat_get (hborn : Nat → Int) (htxt : Nat → ByteArray) (L : List Ent) (j i : Nat) (hj : j < L.length) (hi : i < 3) :
    (flat hborn htxt L)[j * 3 + i]? = ((ent L j).cells hborn htxt)[i]? := by
  induction L generalizing j with
  | nil => simp at hj
  | cons e L ih =>
    have hc : (e.cells hborn htxt).length = 3 := rfl
    show ((e.cells hborn htxt) ++ flat hborn htxt L)[j * 3 + i]? = _
    cases j with
    | zero =>
      rw [List.getElem?_append_left (by omega)]
      simp [ent]
    | succ j =>
      rw [List.getElem?_append_right (by omega), show (j + 1) * 3 + i - (e.cells hborn htxt).length = j * 3 + i by omega, ih j (by simpa using hj)]
      simp [ent]

theorem tab_at {w : World} {base : Nat} {ta : Option Addr} {tc : Nat} {hborn : Nat → Int} {htxt : Nat → ByteArray} {L : List Ent} (h : w.ownsRow base 57 3 (.slice ta L.length tc) L.length (flat hborn htxt L)) :
    TabAt w ta L.length (eid L) (eborn hborn L) (exa L) (exn htxt L) (exc L) := by
  intro hp
  rcases h.2 with ⟨e1, e2⟩ | ⟨g, cap, cur, e1, _, hg, _⟩
  · omega
  · simp at e1
    obtain ⟨rfl, rfl⟩ := e1
    refine ⟨g, 0, rfl, (Array.getElem?_eq_some_iff.1 hg).1, fun k hk => ?_⟩
    rw [Nat.zero_add, show k * 3 = k * 3 + 0 from rfl, h.cellAt _ (by omega), h.cellAt _ (by omega), h.cellAt _ (by omega), flat_get _ _ _ _ _ hk (by omega)]
    rw [show k * 3 + 0 + 1 = k * 3 + 1 from rfl, show k * 3 + 0 + 2 = k * 3 + 2 from rfl, flat_get _ _ _ _ _ hk (by omega), flat_get _ _ _ _ _ hk (by omega)]
    exact ⟨rfl, rfl, rfl⟩

theorem tab_sorted (hid : Nat → Int) (n m : Nat) : (tab hid n m).Pairwise (fun a b => a.1 < b.1) := by
  unfold tab
  rw [List.pairwise_filterMap]
  refine (List.pairwise_lt_range (n := m)).imp ?_
  intro a b hab x hx y hy
  simp at hx hy
  obtain ⟨_, _, rfl⟩ := hx
  obtain ⟨_, _, rfl⟩ := hy
  exact hab

theorem tab_mem {hid : Nat → Int} {n m : Nat} {p : Nat × Nat} : p ∈ tab hid n m ↔ p.1 < m ∧ firstOf hid n (p.1 : Int) = some p.2 := by
  unfold tab
  rw [List.mem_filterMap]
  constructor
  · rintro ⟨id, hid', h⟩
    simp at h
    obtain ⟨k, hk, rfl⟩ := h
    exact ⟨List.mem_range.1 hid', hk⟩
  · rintro ⟨h1, h2⟩
    exact ⟨p.1, List.mem_range.2 h1, by simp [h2]⟩

section
variable {hid : Nat → Int} {n : Nat} {L : List Ent}
theorem key_get (hk : L.map (fun e => (e.id, e.k)) = tab hid n 256) {j : Nat} (hj : j < L.length) : ((ent L j).id, (ent L j).k) ∈ tab hid n 256 := by
  rw [← hk]
  refine List.mem_map.2 ⟨ent L j, ?_, rfl⟩
  unfold ent
  rw [List.getD_eq_getElem?_getD, List.getElem?_eq_getElem hj]
  exact List.getElem_mem hj
theorem eid_sorted (hk : L.map (fun e => (e.id, e.k)) = tab hid n 256) : ∀ a b, a < b → b < L.length → eid L a < eid L b := by
  have hp := tab_sorted hid n 256
  rw [← hk, List.pairwise_map, List.pairwise_iff_getElem] at hp
  intro a b hab hb
  have := hp a b (by omega) hb hab
  unfold eid ent
  rw [List.getD_eq_getElem?_getD, List.getElem?_eq_getElem (by omega), List.getD_eq_getElem?_getD, List.getElem?_eq_getElem hb]
  simpa using this
theorem eid_mono (hk : L.map (fun e => (e.id, e.k)) = tab hid n 256) : ∀ a b, a ≤ b → b < L.length → eid L a ≤ eid L b := by
  intro a b hab hb
  rcases Nat.lt_or_ge a b with h | h
  · exact Int.le_of_lt (eid_sorted hk a b h hb)
  · obtain rfl : a = b := by omega
    exact Int.le_refl _
theorem L_len (hk : L.map (fun e => (e.id, e.k)) = tab hid n 256) : L.length ≤ 256 := by
  have := tab_len hid n 256
  rw [← hk] at this
  simpa using this
/-- An id is in the table just where a held rumor bears it. -/
theorem isIn_first (hk : L.map (fun e => (e.id, e.k)) = tab hid n 256) (y : Int) (h0 : 0 ≤ y) (h1 : y ≤ 255) : isIn (eid L) L.length y = (firstOf hid n y).isSome := by
  obtain ⟨m, rfl⟩ := Int.eq_ofNat_of_zero_le h0
  unfold isIn
  rw [Bool.eq_iff_iff, List.any_eq_true]
  constructor
  · rintro ⟨j, hj, e⟩
    have hj := List.mem_range.1 hj
    have e : eid L j = (m : Int) := by simpa using e
    have := (tab_mem.1 (key_get hk hj)).2
    simp only [] at this
    unfold eid at e
    rw [e] at this
    rw [this]; rfl
  · intro h
    obtain ⟨k, hk2⟩ := Option.isSome_iff_exists.1 h
    have hm : (m, k) ∈ tab hid n 256 := tab_mem.2 ⟨by show m < 256; omega, hk2⟩
    rw [← hk] at hm
    obtain ⟨e, he, heq⟩ := List.mem_map.1 hm
    obtain ⟨j, hj, rfl⟩ := List.getElem_of_mem he
    refine ⟨j, List.mem_range.2 hj, ?_⟩
    unfold eid ent
    rw [List.getD_eq_getElem?_getD, List.getElem?_eq_getElem hj]
    simp at heq ⊢
    omega
end

/-- What build and answer leave together. -/
theorem answer_built {w w1 : World} {n len : Nat} {hid hborn : Nat → Int} {htxt : Nat → ByteArray} {sp : Nat → Int} {iv now : Int} {eb wb ib : Nat} {ta : Option Addr} {tc : Nat} {L : List Ent}
    (hB : Built w w1 n len hid hborn htxt sp iv eb wb ib ta tc L) (hlen : len ≤ 1024) (hiv : -2147483648 ≤ iv ∧ iv ≤ 2147483647) (hnow : -2147483648 ≤ now ∧ now ≤ 2147483647)
    (hb : ∀ k, k < n → -2147483648 ≤ hborn k ∧ hborn k ≤ 2147483647) :
    Calls Yba.prog 10 #[.pointer (some ⟨eb, 0, none⟩), .pointer (some ⟨wb, 0, none⟩), .int .i64 now] w1 fun e w' => e = .returned (.tuple #[]) ∧
      ∃ g v2 v3, Answered w1 w' wb ib L.length len (eid L) (eborn hborn L) sp g (exa L) (exn htxt L) (exc L) iv now v2 v3 := by
  refine answer_any eb wb ib ta L.length tc len (eid L) (eborn hborn L) (exa L) (exn htxt L) (exc L) sp iv now w1 (L_len hB.key) hlen hiv hnow ?_ (World.block_lt_of_cell? _ _ hB.c0) hB.ne.1 hB.ne.2.1 hB.ne.2.2 hB.c0 hB.c5 hB.hwb hB.row (tab_at hB.own) ?_ (eid_mono hB.key)
  · intro j hj
    exact hb _ (firstOf_lt (tab_mem.1 (key_get hB.key hj)).2).1
  · rintro b o rfl hp
    have hwb := own_ne hB.own hB.hwb (by decide)
    obtain ⟨c, hc, _⟩ := hB.row
    have hib := own_ne hB.own hc (by decide)
    simp [Value.ownBlock] at hwb hib
    exact ⟨fun e => hwb e.symm, fun e => hib e.symm⟩
end Go.Proofs.Ybulkauwm
