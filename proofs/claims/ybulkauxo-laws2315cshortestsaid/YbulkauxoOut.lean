import Derived.Test.YbulkauxoAdd
namespace Go.Proofs.Ybulkauxo
open Go.RowKit

/-- The targets of state s, the first k entries of extra taken in. -/
def outL (n : Nat) (e : Nat → Nat) (k s : Nat) : List Nat := (if s + 1 < n then [s + 1] else []) ++ ((List.range k).filter fun j => j % n == s).map fun j => e j % n
theorem outL_succ (n : Nat) (e : Nat → Nat) (k s : Nat) : outL n e (k + 1) s = if s = k % n then outL n e k s ++ [e k % n] else outL n e k s := by
  unfold outL
  rw [List.range_succ, List.filter_append, List.map_append]
  by_cases h : s = k % n
  · rw [if_pos h]
    subst h
    simp
  · rw [if_neg h]
    have : (k % n == s) = false := by simpa using fun h' => h h'.symm
    simp [this]
theorem outL_lt {n : Nat} {e : Nat → Nat} {k s : Nat} (hn : 0 < n) : ∀ u ∈ outL n e k s, u < n := by
  intro u hu
  unfold outL at hu
  rcases List.mem_append.1 hu with h | h
  · split at h
    · simp at h; omega
    · simp at h
  · obtain ⟨j, _, rfl⟩ := List.mem_map.1 h
    exact Nat.mod_lt _ hn
theorem outL_chain {n : Nat} {e : Nat → Nat} {k s : Nat} (h : s + 1 < n) : s + 1 ∈ outL n e k s := by
  unfold outL
  rw [if_pos h]
  simp
theorem outL_len (n : Nat) (e : Nat → Nat) (k s : Nat) : (outL n e k s).length ≤ k + 1 := by
  unfold outL
  rw [List.length_append, List.length_map]
  have h1 : ((List.range k).filter fun j => j % n == s).length ≤ k := Nat.le_trans (List.length_filter_le _ _) (by simp)
  split <;> simp <;> omega

def i32s (l : List Nat) : List Value := l.map fun u : Nat => .int .i32 (u : Int)
theorem i32s_len (l : List Nat) : (i32s l).length = l.length := by unfold i32s; rw [List.length_map]
/-- The rows of targets: each its own. -/
structure OutS (base : Nat) (w : World) (ob n : Nat) (L : Nat → List Nat) (oa : Nat → Option Addr) (oc : Nat → Nat) : Prop where
  row : w.rowIs ob 34 n fun s => .slice (oa s) (L s).length (oc s)
  own : ∀ s, s < n → w.ownsRow base 21 1 (.slice (oa s) (L s).length (oc s)) (L s).length (i32s (L s))
  dif : ∀ s s', s < n → s' < n → s ≠ s' → ∀ k, (oa s).map Addr.block = some k → (oa s').map Addr.block ≠ some k
  ge : base ≤ ob
  nil : ∀ s, s < n → L s = [] → oa s = none
theorem ob' (a : Option Addr) (n c : Nat) : Value.ownBlock (.slice a n c) = a.map Addr.block := by cases a <;> rfl

/-- One append into row s, and the store of what it answered. -/
theorem out_step {base : Nat} {w w1 w4 : World} {ob n s u g cap : Nat} {L : Nat → List Nat} {oa : Nat → Option Addr} {oc : Nat → Nat} (h : OutS base w ob n L oa oc) (hs : s < n) (F : Fr (fun _ => False) w w1)
    (ho : w4.ownsRow base 21 1 (.slice (some ⟨g, 0, none⟩) ((L s).length + 1) cap) ((L s).length + 1) (i32s (L s) ++ [.int .i32 (u : Int)])) (hg : w1.grownBy w4 (Value.slice (oa s) (L s).length (oc s)).ownBlock)
    (hat : (Value.slice (oa s) (L s).length (oc s)).ownBlock = some g ∨ w.heap.size ≤ g) :
    ∃ oa' oc', OutS base (w4.setCell ⟨ob, s, none⟩ (.slice (some ⟨g, 0, none⟩) ((L s).length + 1) cap)) ob n (fun x => if x = s then L s ++ [u] else L x) oa' oc' ∧
      Fr (fun k => k = ob ∨ (oa s).map Addr.block = some k) w (w4.setCell ⟨ob, s, none⟩ (.slice (some ⟨g, 0, none⟩) ((L s).length + 1) cap)) := by
  rw [ob'] at hg hat
  have F4 : Fr (fun k => (oa s).map Addr.block = some k) w w4 := (F.mono (fun _ _ e => e.elim)).grown hg (fun k _ e => e)
  obtain ⟨cs0, hb0, _⟩ := h.row
  have nob : ∀ x, x < n → (oa x).map Addr.block ≠ some ob := fun x hx => by have := own_ne (h.own x hx) hb0 (by decide); rw [ob'] at this; exact this
  have hr4 : w4.rowIs ob 34 n fun s => .slice (oa s) (L s).length (oc s) := F4.rowIs h.row (nob s hs)
  obtain ⟨cs4, hb4, _⟩ := id hr4
  have gob : g ≠ ob := fun e => own_ne ho hb4 (by decide) (by rw [e]; rfl)
  have FS : Fr (fun k => k = ob) w4 (w4.setCell ⟨ob, s, none⟩ (.slice (some ⟨g, 0, none⟩) ((L s).length + 1) cap)) := (Fr.refl (fun k => k = ob) w4).setCell (p := ⟨ob, s, none⟩) (fun _ => rfl) _
  have hold : ∀ x, x < n → x ≠ s → (oa x).map Addr.block ≠ some g := fun x hx hxs e => by
    rcases hat with h1 | h1
    · exact h.dif x s hx hs hxs g e h1
    · have := (own_lt (h.own x hx) (by rw [ob']; exact e)).2
      omega
  refine ⟨fun x => if x = s then some ⟨g, 0, none⟩ else oa x, fun x => if x = s then cap else oc x, ⟨?_, fun x hx => ?_, fun x y hx hy hxy k hk => ?_, h.ge, fun x hx hl => ?_⟩, (F4.mono (fun _ _ e => .inr e)).trans FS (fun _ _ e => .inl e)⟩
  · refine (hr4.set s _).congr fun x _ => ?_
    by_cases e : x = s
    · subst e
      simp
    · simp only [if_neg e]
  · by_cases e : x = s
    · subst e
      simp only [if_true, List.length_append, List.length_singleton]
      have : i32s (L x ++ [u]) = i32s (L x) ++ [.int .i32 (u : Int)] := by unfold i32s; rw [List.map_append]; rfl
      rw [this]
      exact FS.own ho (fun k hk e => by simp [Value.ownBlock] at hk; omega)
    · simp only [if_neg e]
      refine FS.own (F4.own (h.own x hx) (fun k hk e2 => ?_)) (fun k hk e2 => ?_)
      · rw [ob'] at hk
        exact h.dif x s hx hs e k hk e2
      · rw [ob'] at hk
        exact nob x hx (by rw [← e2]; exact hk)
  · by_cases e : x = s
    · subst e
      simp only [if_true] at hk
      rw [if_neg (fun h => hxy h.symm)]
      have hk' : g = k := by simpa using hk
      subst hk'
      exact hold y hy (fun h => hxy h.symm)
    · simp only [if_neg e] at hk
      by_cases e2 : y = s
      · subst e2
        simp only [if_true]
        intro h2
        have h2' : g = k := by simpa using h2
        subst h2'
        exact hold x hx e hk
      · rw [if_neg e2]
        exact h.dif x y hx hy hxy k hk
  · by_cases e : x = s
    · rw [if_pos e] at hl
      simp at hl
    · rw [if_neg e] at hl ⊢
      exact h.nil x hx hl
end Go.Proofs.Ybulkauxo
