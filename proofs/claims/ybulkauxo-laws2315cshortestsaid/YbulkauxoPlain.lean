import Derived.Test.YbulkauxoModel
namespace Go.Proofs.Ybulkauxo

/-! ### Plain: the law's distances -/
def dval (l : List Nd) (u : Nat) : Int := match l.find? (fun d => d.st == u) with
  | some d => (d.dp : Int)
  | none => -1
theorem dval_not {l : List Nd} {u : Nat} (h : holds l u = false) : dval l u = -1 := by
  have : l.find? (fun d => d.st == u) = none := List.find?_eq_none.2 fun d hd => by
    have := holds_not h d hd
    simpa using this
  unfold dval
  rw [this]
theorem dval_has {l : List Nd} {u : Nat} (h : holds l u = true) : 0 ≤ dval l u := by
  unfold dval
  cases hf : l.find? (fun d => d.st == u) with
  | some d => exact Int.natCast_nonneg _
  | none =>
    obtain ⟨d, hd, e⟩ := holds_iff.1 h
    have := List.find?_eq_none.1 hf d hd
    simp [e] at this
theorem dval_mem {n : Nat} {os : Nat → List Nat} {l : List Nd} (I : Inv n os l) {d : Nd} (hd : d ∈ l) : dval l d.st = (d.dp : Int) := by
  unfold dval
  cases hf : l.find? (fun d' => d'.st == d.st) with
  | some d' =>
    have h1 := List.find?_some hf
    have h2 := List.mem_of_find?_eq_some hf
    have e : d' = d := I.one h2 hd (by simpa using h1)
    rw [e]
  | none =>
    have := List.find?_eq_none.1 hf d hd
    simp at this
theorem dval_new {l : List Nd} {d : Nd} (h : holds l d.st = false) (u : Nat) : dval (l ++ [d]) u = if u = d.st then (d.dp : Int) else dval l u := by
  unfold dval
  rw [List.find?_append]
  by_cases e : u = d.st
  · subst e
    have : l.find? (fun d' => d'.st == d.st) = none := List.find?_eq_none.2 fun d' hd => by
      have := holds_not h d' hd
      simpa using this
    rw [this, if_pos rfl]
    simp
  · rw [if_neg e]
    have : ([d].find? fun d' => d'.st == u) = none := List.find?_eq_none.2 fun d' hd => by
      simp at hd
      subst hd
      simpa using fun h => e h.symm
    rw [this, Option.or_none]
theorem dval_root (u : Nat) : dval [root] u = if u = 0 then 0 else -1 := by
  by_cases e : u = 0
  · subst e
    rfl
  · rw [if_neg e]
    exact dval_not (by simp [holds, root]; omega)

theorem expn_get {os : Nat → List Nat} {NL : List Nd} {i j : Nat} {x y : Nd} (h : NL[j]? = some y) : ∀ c, (expn os NL i x c)[j]? = some y
  | 0 => h
  | c + 1 => visit_get (expn_get h c)
theorem run_get {os : Nat → List Nat} {i j : Nat} {y : Nd} (h : (run os i)[j]? = some y) : (run os (i + 1))[j]? = some y := by
  show (step os (run os i) i (run os i)[i]?)[j]? = some y
  cases hx : (run os i)[i]? with
  | none => exact h
  | some x => exact expn_get h _
theorem run_get' {os : Nat → List Nat} {i j : Nat} {y : Nd} (h : (run os i)[j]? = some y) : ∀ k, (run os (i + k))[j]? = some y
  | 0 => h
  | k + 1 => run_get (run_get' h k)
theorem run_dry {os : Nat → List Nat} {q : Nat} (h : (run os q).length ≤ q) : ∀ k, run os (q + k) = run os q
  | 0 => rfl
  | k + 1 => by
    show step os (run os (q + k)) (q + k) (run os (q + k))[q + k]? = _
    rw [run_dry h k, List.getElem?_eq_none (by omega)]
    rfl

def best (l : List Nd) (g : Nat → Bool) : Nat → Int
  | 0 => -1
  | s + 1 => if g s = true ∧ 0 ≤ dval l s ∧ (best l g s < 0 ∨ dval l s < best l g s) then dval l s else best l g s
theorem best_inv (l : List Nd) (g : Nat → Bool) : ∀ k, (∀ s, s < k → 0 ≤ dval l s) → (best l g k = -1 ∧ ∀ s, s < k → g s = false) ∨ (0 ≤ best l g k ∧ (∃ s, s < k ∧ g s = true ∧ best l g k = dval l s) ∧ ∀ s, s < k → g s = true → best l g k ≤ dval l s)
  | 0, _ => .inl ⟨rfl, fun s hs => absurd hs (Nat.not_lt_zero s)⟩
  | k + 1, h => by
    have ih := best_inv l g k (fun s hs => h s (by omega))
    have hk := h k (by omega)
    have ea : best l g (k + 1) = if g k = true ∧ 0 ≤ dval l k ∧ (best l g k < 0 ∨ dval l k < best l g k) then dval l k else best l g k := rfl
    by_cases c : g k = true ∧ 0 ≤ dval l k ∧ (best l g k < 0 ∨ dval l k < best l g k)
    · rw [if_pos c] at ea
      refine .inr ⟨by omega, ⟨k, by omega, c.1, ea⟩, fun s hs hg => ?_⟩
      rw [ea]
      by_cases e : s = k
      · subst e; omega
      · rcases ih with ⟨_, h2⟩ | ⟨h1, _, h3⟩
        · rw [h2 s (by omega)] at hg; cases hg
        · have := h3 s (by omega) hg
          omega
    · rw [if_neg c] at ea
      rw [ea]
      rcases ih with ⟨h1, h2⟩ | ⟨h1, ⟨s0, h4, h5, h6⟩, h3⟩
      · refine .inl ⟨h1, fun s hs => ?_⟩
        by_cases e : s = k
        · subst e
          cases hg : g s with
          | false => rfl
          | true => exact absurd ⟨hg, hk, .inl (by omega)⟩ c
        · exact h2 s (by omega)
      · refine .inr ⟨h1, ⟨s0, by omega, h5, h6⟩, fun s hs hg => ?_⟩
        by_cases e : s = k
        · subst e
          by_cases hl : dval l s < best l g s
          · exact absurd ⟨hg, hk, .inr hl⟩ c
          · omega
        · exact h3 s (by omega) hg

/-- No state is good: best stays -1. -/
theorem best_none {l : List Nd} {g : Nat → Bool} {n : Nat} (h : (List.range n).any g = false) (hd : ∀ s, s < n → 0 ≤ dval l s) : best l g n = -1 := by
  rcases best_inv l g n hd with ⟨h1, _⟩ | ⟨_, ⟨s, h4, h5, _⟩, _⟩
  · exact h1
  · have := List.any_eq_false.1 h s (List.mem_range.2 h4)
    exact absurd h5 this

/-- The first good node's depth is what the law's loop finds. -/
theorem best_is {n i q : Nat} {os : Nat → List Nat} {g : Nat → Bool} {x : Nd} (K : Kept n os q) (hq : (run os q).length ≤ q) (hch : ∀ s, s + 1 < n → s + 1 ∈ os s) (hx : (run os i)[i]? = some x) (hno : ∀ j d, j < i → (run os i)[j]? = some d → g d.st = false) (hg : g x.st = true) :
    best (run os q) g n = (x.dp : Int) := by
  have hall := all_states K hq hch
  have hil := (List.getElem?_eq_some_iff.1 hx).1
  have hiq : i < q := by
    apply Classical.byContradiction
    intro hc
    have := run_dry hq (i - q)
    rw [show q + (i - q) = i by omega] at this
    rw [this] at hil
    omega
  have hup : ∀ j y, (run os i)[j]? = some y → (run os q)[j]? = some y := fun j y h => by
    have := run_get' h (q - i)
    rw [show i + (q - i) = q by omega] at this
    exact this
  have hxq := hup i x hx
  have hnear := first_near K.inv (good := g) hxq (fun j d hj hd => by
    have h1 : (run os i)[j]? = some (run os i)[j] := List.getElem?_eq_getElem (by omega)
    have h2 := hup j _ h1
    rw [hd] at h2
    injection h2 with h2
    exact hno j d hj (by rw [h2]; exact h1))
  have hxm := List.mem_of_getElem? hxq
  have hdx := dval_mem K.inv hxm
  have hxn := K.inv.lt x hxm
  rcases best_inv (run os q) g n (fun s hs => dval_has (hall s hs)) with ⟨_, h2⟩ | ⟨_, ⟨s, h4, h5, h6⟩, h3⟩
  · rw [h2 _ hxn] at hg; cases hg
  · have h7 := h3 _ hxn hg
    obtain ⟨d, hd, rfl⟩ := holds_iff.1 (hall s h4)
    have h8 := hnear d hd h5
    have h9 := dval_mem K.inv hd
    omega
end Go.Proofs.Ybulkauxo
