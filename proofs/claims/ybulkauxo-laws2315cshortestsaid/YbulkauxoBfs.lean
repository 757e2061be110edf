import Derived.WalkKit
namespace Go.Proofs.Ybulkauxo

/-! ### Plain: the search's nodes, and what holds of them -/
structure Nd where
  st : Nat
  fr : Int
  ac : Nat
  oc : Nat
  dp : Nat

def holds (NL : List Nd) (t : Nat) : Bool := NL.any fun x => x.st == t
def visit (NL : List Nd) (d : Nd) : List Nd := if holds NL d.st = true then NL else NL ++ [d]
def kid (os : Nat → List Nat) (i : Nat) (x : Nd) (c : Nat) : Nd := ⟨(os x.st).getD c 0, i, x.st, c, x.dp + 1⟩
def expn (os : Nat → List Nat) (NL : List Nd) (i : Nat) (x : Nd) : Nat → List Nd
  | 0 => NL
  | c + 1 => visit (expn os NL i x c) (kid os i x c)
def root : Nd := ⟨0, -1, 0, 0, 0⟩
def step (os : Nat → List Nat) (NL : List Nd) (i : Nat) : Option Nd → List Nd
  | none => NL
  | some x => expn os NL i x (os x.st).length
def run (os : Nat → List Nat) : Nat → List Nd
  | 0 => [root]
  | i + 1 => step os (run os i) i (run os i)[i]?

theorem holds_iff {NL : List Nd} {t : Nat} : holds NL t = true ↔ ∃ d ∈ NL, d.st = t := by
  unfold holds
  simp
theorem holds_not {NL : List Nd} {t : Nat} (h : holds NL t = false) : ∀ d ∈ NL, d.st ≠ t := by
  intro d hd e
  have := holds_iff.2 ⟨d, hd, e⟩
  rw [h] at this
  cases this

structure Inv (n : Nat) (os : Nat → List Nat) (NL : List Nd) : Prop where
  nd : (NL.map Nd.st).Nodup
  lt : ∀ d ∈ NL, d.st < n
  hd : NL[0]? = some root
  par : ∀ j d, 0 < j → NL[j]? = some d → ∃ p y, d.fr = ((p : Nat) : Int) ∧ p < j ∧ NL[p]? = some y ∧ d.ac = y.st ∧ (os y.st)[d.oc]? = some d.st ∧ d.dp = y.dp + 1
  mono : NL.Pairwise fun a b => a.dp ≤ b.dp

theorem visit_get {NL : List Nd} {d : Nd} {j : Nat} {x : Nd} (h : NL[j]? = some x) : (visit NL d)[j]? = some x := by
  unfold visit
  split
  · exact h
  · rw [List.getElem?_append_left (List.getElem?_eq_some_iff.1 h).1]; exact h
theorem visit_holds (NL : List Nd) (d : Nd) : holds (visit NL d) d.st = true := by
  unfold visit
  split
  · assumption
  · exact holds_iff.2 ⟨d, by simp, rfl⟩
theorem visit_mem {NL : List Nd} {d x : Nd} (h : x ∈ visit NL d) : x ∈ NL ∨ x = d := by
  unfold visit at h
  split at h
  · exact .inl h
  · simpa using h
theorem visit_sub {NL : List Nd} {d x : Nd} (h : x ∈ NL) : x ∈ visit NL d := by
  unfold visit
  split
  · exact h
  · simp [h]

theorem visit_inv {n : Nat} {os : Nat → List Nat} {NL : List Nd} {i c : Nat} {x : Nd} (I : Inv n os NL) (hx : NL[i]? = some x) (hb : ∀ d ∈ NL, d.dp ≤ x.dp + 1) (hc : c < (os x.st).length)
    (hos : ∀ u ∈ os x.st, u < n) : Inv n os (visit NL (kid os i x c)) ∧ ∀ d ∈ visit NL (kid os i x c), d.dp ≤ x.dp + 1 := by
  refine ⟨?_, fun d hd => ?_⟩
  · unfold visit
    cases hh : holds NL (kid os i x c).st with
    | true => simpa using I
    | false =>
      rw [if_neg (by simp)]
      have hget : (os x.st)[c]? = some (kid os i x c).st := by
        show _ = some ((os x.st).getD c 0)
        rw [List.getD_eq_getElem?_getD, List.getElem?_eq_getElem hc]
        rfl
      refine ⟨?_, fun d hd => ?_, ?_, fun j d hj hd => ?_, ?_⟩
      · rw [List.map_append, List.nodup_append]
        refine ⟨I.nd, by simp, fun a ha b hb e => ?_⟩
        obtain ⟨d, hd, rfl⟩ := List.mem_map.1 ha
        simp at hb
        subst hb
        exact holds_not hh d hd e
      · rcases List.mem_append.1 hd with h | h
        · exact I.lt d h
        · simp at h
          subst h
          exact hos _ (List.mem_of_getElem? hget)
      · rw [List.getElem?_append_left (List.getElem?_eq_some_iff.1 I.hd).1]; exact I.hd
      · by_cases hl : j < NL.length
        · rw [List.getElem?_append_left hl] at hd
          obtain ⟨p, y, h1, h2, h3, h4⟩ := I.par j d hj hd
          exact ⟨p, y, h1, h2, by rw [List.getElem?_append_left (List.getElem?_eq_some_iff.1 h3).1]; exact h3, h4⟩
        · have hjl : j = NL.length := by
            have := (List.getElem?_eq_some_iff.1 hd).1
            simp at this
            omega
          subst hjl
          rw [List.getElem?_append_right (Nat.le_refl _)] at hd
          simp at hd
          subst hd
          have hil := (List.getElem?_eq_some_iff.1 hx).1
          exact ⟨i, x, rfl, hil, by rw [List.getElem?_append_left hil]; exact hx, rfl, hget, rfl⟩
      · rw [List.pairwise_append]
        refine ⟨I.mono, by simp, fun a ha b hb' => ?_⟩
        simp at hb'
        subst hb'
        exact hb a ha
  · rcases visit_mem hd with h | rfl
    · exact hb d h
    · exact Nat.le_refl _

theorem expn_inv {n : Nat} {os : Nat → List Nat} {NL : List Nd} {i : Nat} {x : Nd} (I : Inv n os NL) (hx : NL[i]? = some x) (hb : ∀ d ∈ NL, d.dp ≤ x.dp + 1) (hos : ∀ u ∈ os x.st, u < n) :
    ∀ c, c ≤ (os x.st).length → Inv n os (expn os NL i x c) ∧ (∀ d ∈ expn os NL i x c, d.dp ≤ x.dp + 1) ∧ (∀ (j : Nat) (y : Nd), NL[j]? = some y → (expn os NL i x c)[j]? = some y) ∧
      ∀ u, u < c → holds (expn os NL i x c) ((os x.st).getD u 0) = true
  | 0, _ => ⟨I, hb, fun _ _ h => h, fun u hu => absurd hu (Nat.not_lt_zero u)⟩
  | c + 1, hc => by
    obtain ⟨h1, h2, h3, h4⟩ := expn_inv I hx hb hos c (by omega)
    obtain ⟨g1, g2⟩ := visit_inv (c := c) h1 (h3 i x hx) h2 (by omega) hos
    refine ⟨g1, g2, fun j y h => visit_get (h3 j y h), fun u hu => ?_⟩
    by_cases e : u = c
    · subst e
      exact visit_holds _ (kid os i x u)
    · obtain ⟨d, hd, e⟩ := holds_iff.1 (h4 u (by omega))
      exact holds_iff.2 ⟨d, visit_sub hd, e⟩

theorem root_inv (n : Nat) (os : Nat → List Nat) (hn : 0 < n) : Inv n os [root] := by
  refine ⟨by simp, fun d hd => ?_, rfl, fun j d hj hd => ?_, by simp⟩
  · simp at hd
    subst hd
    exact hn
  · have := (List.getElem?_eq_some_iff.1 hd).1
    simp at this
    omega

theorem run_succ {os : Nat → List Nat} {i : Nat} {x : Nd} (h : (run os i)[i]? = some x) : run os (i + 1) = expn os (run os i) i x (os x.st).length := by
  show step os (run os i) i (run os i)[i]? = _
  rw [h]
  rfl

/-- All that is kept from round to round. -/
structure Kept (n : Nat) (os : Nat → List Nat) (i : Nat) : Prop where
  inv : Inv n os (run os i)
  top : ∀ x, (run os i)[i]? = some x → ∀ d ∈ run os i, d.dp ≤ x.dp + 1
  shut : ∀ p x, p < i → (run os i)[p]? = some x → ∀ u ∈ os x.st, holds (run os i) u = true

theorem kept_zero (n : Nat) (os : Nat → List Nat) (hn : 0 < n) : Kept n os 0 :=
  ⟨root_inv n os hn, fun x hx d hd => by
    have h : (run os 0) = [root] := rfl
    rw [h] at hx hd
    simp at hx hd
    subst hx hd
    omega, fun p x hp => absurd hp (Nat.not_lt_zero p)⟩

theorem kept_succ {n : Nat} {os : Nat → List Nat} {i : Nat} {x : Nd} (hos : ∀ s, s < n → ∀ u ∈ os s, u < n) (K : Kept n os i) (hx : (run os i)[i]? = some x) : Kept n os (i + 1) := by
  have hxn := K.inv.lt x (List.mem_of_getElem? hx)
  obtain ⟨h1, h2, h3, h4⟩ := expn_inv K.inv hx (K.top x hx) (hos _ hxn) _ (Nat.le_refl _)
  rw [← run_succ hx] at h1 h2 h3 h4
  refine ⟨h1, fun y hy d hd => ?_, fun p y hp hy u hu => ?_⟩
  · have hxi := h3 i x hx
    have hm := (List.pairwise_iff_getElem.1 h1.mono) i (i + 1) (List.getElem?_eq_some_iff.1 hxi).1 (List.getElem?_eq_some_iff.1 hy).1 (by omega)
    rw [(List.getElem?_eq_some_iff.1 hxi).2, (List.getElem?_eq_some_iff.1 hy).2] at hm
    have := h2 d hd
    omega
  · by_cases e : p = i
    · subst e
      rw [h3 p x hx] at hy
      simp at hy
      subst hy
      obtain ⟨c, hc, rfl⟩ := List.getElem_of_mem hu
      have := h4 c hc
      rw [List.getD_eq_getElem?_getD, List.getElem?_eq_getElem hc] at this
      exact this
    · have hil := (List.getElem?_eq_some_iff.1 hx).1
      have hpl : p < (run os i).length := by omega
      have hy' := h3 p _ (List.getElem?_eq_getElem hpl)
      rw [hy] at hy'
      simp at hy'
      have := K.shut p y (by omega) (by rw [hy']; exact List.getElem?_eq_getElem hpl) u hu
      obtain ⟨d, hd, e⟩ := holds_iff.1 this
      obtain ⟨j, hj, rfl⟩ := List.getElem_of_mem hd
      exact holds_iff.2 ⟨_, List.mem_of_getElem? (h3 j _ (List.getElem?_eq_getElem hj)), e⟩

/-! ### No more nodes than states -/
theorem drop_one (a : Nat) : ∀ l : List Nat, l.Nodup → l.length ≤ (l.filter fun x => x != a).length + 1
  | [], _ => by simp
  | b :: l, h => by
    rw [List.nodup_cons] at h
    by_cases e : b = a
    · subst e
      have : (l.filter fun x => x != b) = l := List.filter_eq_self.2 fun x hx => by
        have : x ≠ b := fun e => h.1 (e ▸ hx)
        simpa using this
      rw [List.filter_cons_of_neg (by simp), this]
      simp
    · rw [List.filter_cons_of_pos (by simpa using e)]
      have := drop_one a l h.2
      simp
      omega
theorem nodup_le : ∀ (n : Nat) (l : List Nat), l.Nodup → (∀ x ∈ l, x < n) → l.length ≤ n
  | 0, l, _, h => by
    cases l with
    | nil => simp
    | cons a l => exact absurd (h a (by simp)) (Nat.not_lt_zero a)
  | n + 1, l, hd, h => by
    have h1 := drop_one n l hd
    have h2 := nodup_le n (l.filter fun x => x != n) (hd.sublist List.filter_sublist) (fun x hx => by
      rw [List.mem_filter] at hx
      have := h x hx.1
      have h3 : x ≠ n := by simpa using hx.2
      omega)
    omega
theorem Inv.le {n : Nat} {os : Nat → List Nat} {NL : List Nd} (I : Inv n os NL) : NL.length ≤ n := by
  have := nodup_le n (NL.map Nd.st) I.nd (fun x hx => by
    obtain ⟨d, hd, rfl⟩ := List.mem_map.1 hx
    exact I.lt d hd)
  simpa using this

/-! ### When the search has run dry every state is there -/
theorem all_states {n : Nat} {os : Nat → List Nat} {i : Nat} (K : Kept n os i) (hi : (run os i).length ≤ i) (hch : ∀ s, s + 1 < n → s + 1 ∈ os s) : ∀ s, s < n → holds (run os i) s = true
  | 0, _ => holds_iff.2 ⟨root, List.mem_of_getElem? K.inv.hd, rfl⟩
  | s + 1, h => by
    obtain ⟨d, hd, e⟩ := holds_iff.1 (all_states K hi hch s (by omega))
    obtain ⟨p, hp, rfl⟩ := List.getElem_of_mem hd
    refine K.shut p _ (by omega) (List.getElem?_eq_getElem hp) (s + 1) ?_
    rw [e]
    exact hch s h

/-! ### One node a state -/
theorem Inv.one {n : Nat} {os : Nat → List Nat} {NL : List Nd} (I : Inv n os NL) {d d' : Nd} (h : d ∈ NL) (h' : d' ∈ NL) (e : d.st = d'.st) : d = d' := by
  obtain ⟨i, hi, rfl⟩ := List.getElem_of_mem h
  obtain ⟨j, hj, rfl⟩ := List.getElem_of_mem h'
  have hn := List.pairwise_iff_getElem.1 I.nd
  rcases Nat.lt_trichotomy i j with hl | hl | hl
  · have := hn i j (by simpa using hi) (by simpa using hj) hl
    simp at this
    exact absurd e this
  · subst hl; rfl
  · have := hn j i (by simpa using hj) (by simpa using hi) hl
    simp at this
    exact absurd e.symm this

/-! ### The path to a node -/
def up (NL : List Nd) : Nat → Nat → List Nd
  | 0, _ => []
  | f + 1, j => match NL[j]? with
    | none => []
    | some d => if d.fr < 0 then [] else d :: up NL f d.fr.toNat
theorem up_zero {n : Nat} {os : Nat → List Nat} {NL : List Nd} (I : Inv n os NL) : ∀ f, up NL f 0 = []
  | 0 => rfl
  | f + 1 => by
    unfold up
    rw [I.hd]
    rfl
theorem up_step {n : Nat} {os : Nat → List Nat} {NL : List Nd} (_I : Inv n os NL) {f j p : Nat} {d : Nd} (hd : NL[j]? = some d) (hp : d.fr = (p : Int)) : up NL (f + 1) j = d :: up NL f p := by
  show (match NL[j]? with | none => [] | some d => if d.fr < 0 then [] else d :: up NL f d.fr.toNat) = _
  rw [hd]
  show (if d.fr < 0 then [] else d :: up NL f d.fr.toNat) = _
  rw [if_neg (by omega), hp]
  rfl
/-- The state from which move k of the path starts. -/
def atCur (ch : List Nd) : Nat → Nat
  | 0 => 0
  | k + 1 => ((ch[k]?).map Nd.st).getD 0
theorem atCur_succ (ch : List Nd) (k : Nat) : atCur ch (k + 1) = ((ch[k]?).map Nd.st).getD 0 := rfl
theorem up_law {n : Nat} {os : Nat → List Nat} {NL : List Nd} (I : Inv n os NL) : ∀ (f j : Nat) (x : Nd), j ≤ f → NL[j]? = some x →
    (up NL f j).length = x.dp ∧ atCur (up NL f j).reverse (up NL f j).length = x.st ∧
    ∀ (k : Nat) (d : Nd), (up NL f j).reverse[k]? = some d → d.ac = atCur (up NL f j).reverse k ∧ (os d.ac)[d.oc]? = some d.st ∧ ∃ (p : Nat) (y : Nd), d.fr = (p : Int) ∧ NL[p]? = some y ∧ y.st = d.ac := by
  intro f
  induction f with
  | zero =>
    intro j x hj hx
    obtain rfl : j = 0 := by omega
    rw [I.hd] at hx
    simp at hx
    subst hx
    exact ⟨rfl, rfl, fun k d h => by simp [up] at h⟩
  | succ f ih =>
    intro j x hj hx
    by_cases h0 : j = 0
    · subst h0
      rw [I.hd] at hx
      simp at hx
      subst hx
      rw [up_zero I]
      exact ⟨rfl, rfl, fun k d h => by simp at h⟩
    · obtain ⟨p, y, h1, h2, h3, h4, h5, h6⟩ := I.par j x (by omega) hx
      obtain ⟨g1, g2, g3⟩ := ih p y (by omega) h3
      rw [up_step I hx h1]
      have hat : ∀ k, k ≤ (up NL f p).length → atCur ((up NL f p).reverse ++ [x]) k = atCur (up NL f p).reverse k := fun k hk => by
        cases k with
        | zero => rfl
        | succ k =>
          rw [atCur_succ, atCur_succ, List.getElem?_append_left (by rw [List.length_reverse]; omega)]
      rw [List.reverse_cons]
      refine ⟨by rw [List.length_cons, g1, h6], ?_, fun k d hd => ?_⟩
      · rw [List.length_cons]
        rw [atCur_succ, List.getElem?_append_right (by rw [List.length_reverse]; exact Nat.le_refl _)]
        simp
      · by_cases hk : k < (up NL f p).length
        · rw [List.getElem?_append_left (by rw [List.length_reverse]; exact hk)] at hd
          rw [hat k (by omega)]
          exact g3 k d hd
        · have hkl : k = (up NL f p).length := by
            have := (List.getElem?_eq_some_iff.1 hd).1
            simp at this
            omega
          subst hkl
          rw [List.getElem?_append_right (by simp)] at hd
          simp at hd
          subst hd
          rw [hat _ (Nat.le_refl _), g2, h4]
          exact ⟨rfl, h5, p, y, h1, h3, rfl⟩

/-! ### The first good node lies nearest -/
theorem first_near {n : Nat} {os : Nat → List Nat} {NL : List Nd} (I : Inv n os NL) {good : Nat → Bool} {i : Nat} {x : Nd} (hx : NL[i]? = some x) (hno : ∀ j d, j < i → NL[j]? = some d → good d.st = false) :
    ∀ d ∈ NL, good d.st = true → x.dp ≤ d.dp := by
  intro d hd hg
  obtain ⟨j, hj, rfl⟩ := List.getElem_of_mem hd
  by_cases h : j < i
  · have := hno j _ h (List.getElem?_eq_getElem hj)
    rw [hg] at this
    cases this
  · by_cases e : j = i
    · subst e
      rw [List.getElem?_eq_getElem hj] at hx
      simp at hx
      rw [hx]
      exact Nat.le_refl _
    · have := List.pairwise_iff_getElem.1 I.mono i j (List.getElem?_eq_some_iff.1 hx).1 hj (by omega)
      rw [(List.getElem?_eq_some_iff.1 hx).2] at this
      exact this
end Go.Proofs.Ybulkauxo
