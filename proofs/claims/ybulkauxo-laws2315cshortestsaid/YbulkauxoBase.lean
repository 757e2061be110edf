import Derived.Test.YbulkauxoLocal
import Derived.Deep.AppendLies
import Derived.Laws.IdiomStrings
namespace Go.Proofs.Ybulkauxo
open Go.RowKit

theorem Yba.info3 : (Yba.prog.info? 3).map (fun i => (i.zero, i.size, i.bytes)) = some (some (.int .i64 0), 1, 8) := by kernel_rfl
theorem Yba.info21 : (Yba.prog.info? 21).map (fun i => (i.zero, i.size, i.bytes)) = some (some (.int .i32 0), 1, 4) := by kernel_rfl
theorem Yba.info5 : (Yba.prog.info? 5).map (fun i => (i.zero, i.size, i.bytes)) = some (some (.int .u8 0), 1, 1) := by kernel_rfl
theorem Yba.info65 : (Yba.prog.info? 65).map (fun i => (i.zero, i.size, i.bytes)) = some (some (.int .u32 0), 1, 4) := by kernel_rfl
theorem Yba.info56 : (Yba.prog.info? 56).map (fun i => (i.zero, i.size, i.bytes)) = some (some (.agg #[.int .i32 0, .int .i32 0, .int .i32 0, .int .i32 0, .int .i32 0]), 5, 20) := by kernel_rfl
theorem Yba.info36 : (Yba.prog.info? 36).map (fun i => (i.zero, i.size, i.bytes)) = some (some (.agg #[.int .i64 0, .int .i64 0, .bool false]), 3, 24) := by kernel_rfl
theorem Yba.info53 : (Yba.prog.info? 53).map (fun i => (i.zero, i.size, i.bytes)) = some (some (.agg #[.int .i64 0, .bool false]), 2, 16) := by kernel_rfl
theorem Yba.info29 : (Yba.prog.info? 29).map (fun i => (i.zero, i.size, i.bytes)) = some (some (.slice none 0 0), 1, 24) := by kernel_rfl
theorem Yba.info34 : (Yba.prog.info? 34).map (fun i => (i.zero, i.size, i.bytes)) = some (some (.slice none 0 0), 1, 24) := by kernel_rfl

/-- All is as it was but the blocks of S, and what is new. -/
structure Fr (S : Nat → Prop) (w w' : World) : Prop where
  os : w'.os = w.os
  tape : w'.tape = w.tape
  output : w'.output = w.output
  size : w.heap.size ≤ w'.heap.size
  block : ∀ k, k < w.heap.size → ¬ S k → w'.heap[k]? = w.heap[k]?
namespace Fr
variable {S S' : Nat → Prop} {a w w' : World}
theorem refl (S : Nat → Prop) (w : World) : Fr S w w := ⟨rfl, rfl, rfl, Nat.le_refl _, fun _ _ _ => rfl⟩
theorem trans (h : Fr S a w) (k : Fr S' w w') (hS : ∀ j, j < a.heap.size → S' j → S j) : Fr S a w' :=
  ⟨k.os.trans h.os, k.tape.trans h.tape, k.output.trans h.output, Nat.le_trans h.size k.size, fun i hi h1 => (k.block i (Nat.lt_of_lt_of_le hi h.size) (fun e => h1 (hS i hi e))).trans (h.block i hi h1)⟩
theorem mono (h : Fr S a w) (hS : ∀ j, j < a.heap.size → S j → S' j) : Fr S' a w := ⟨h.os, h.tape, h.output, h.size, fun i hi h1 => h.block i hi (fun e => h1 (hS i hi e))⟩
theorem drewN (h : Fr S a w) (n : Nat) : Fr S a (w.drewN n) := ⟨h.os, h.tape, h.output, h.size, h.block⟩
theorem drew (h : Fr S a w) : Fr S a w.drew := ⟨h.os, h.tape, h.output, h.size, h.block⟩
theorem alloc (h : Fr S a w) (o : Obj) : Fr S a (w.alloc o) :=
  h.trans (S' := fun _ => False) ⟨rfl, rfl, rfl, by simp, fun k hk _ => Below.heap_alloc _ _ _ hk⟩ (fun _ _ e => e.elim)
theorem setCell (h : Fr S a w) {p : Addr} (hp : p.block < a.heap.size → S p.block) (u : Value) : Fr S a (w.setCell p u) :=
  h.trans (S' := fun k => k = p.block) ⟨rfl, rfl, rfl, by simp [World.setCell], fun k _ h1 => Below.heap_setCell _ _ _ _ h1⟩ (fun j hj e => by subst e; exact hp hj)
theorem grown {row : Option Nat} (h : Fr S a w) (hg : w.grownBy w' row) (hr : ∀ k, k < a.heap.size → row = some k → S k) : Fr S a w' :=
  h.trans (S' := fun k => row = some k) ⟨hg.os, hg.tape, hg.output, hg.size, fun k hk h1 => hg.block k hk (fun e => h1 e.symm)⟩ hr
theorem below {B : Nat} (h : Fr S a w) (hB : B ≤ a.heap.size) (hS : ∀ k, S k → B ≤ k) : Below B a w :=
  ⟨h.os, h.tape, h.output, h.size, fun k hk => h.block k (Nat.lt_of_lt_of_le hk hB) (fun e => by have := hS k e; omega)⟩
theorem of_below {B : Nat} (h : Below B a w) : Fr (fun k => B ≤ k) a w := ⟨h.os, h.tape, h.output, h.size, fun k _ h1 => h.block k (by omega)⟩
theorem cell (h : Fr S a w) {p : Addr} (hp : p.block < a.heap.size) (h1 : ¬ S p.block) : w.cell? p = a.cell? p := World.cell?_of_block (w := a) (h.block p.block hp h1)
theorem own (h : Fr S a w) {base : Nat} {e : TypeId} {size : Nat} {v : Value} {n : Nat} {xs : List Value} (ho : a.ownsRow base e size v n xs) (hv : ∀ k, v.ownBlock = some k → ¬ S k) : w.ownsRow base e size v n xs := by
  refine ⟨ho.1, ?_⟩
  rcases ho.2 with h1 | ⟨g, cap, cur, h1, h2, h3, h4⟩
  · exact .inl h1
  · exact .inr ⟨g, cap, cur, h1, h2, (h.block g (lt_of_block h3) (hv g (by rw [h1]; rfl))).trans h3, h4⟩
theorem rowIs (h : Fr S a w) {b : Nat} {t : TypeId} {n : Nat} {f : Nat → Value} (ho : a.rowIs b t n f) (hv : ¬ S b) : w.rowIs b t n f := ho.of_block (h.block b ho.lt hv)
end Fr

theorem own_form {w : World} {base : Nat} {e : TypeId} {size : Nat} {v : Value} {n : Nat} {xs : List Value} (h : w.ownsRow base e size v n xs) : ∃ a c, v = .slice a n c := by
  rcases h.2 with ⟨rfl, rfl⟩ | ⟨g, cap, cur, rfl, _⟩
  · exact ⟨_, _, rfl⟩
  · exact ⟨_, _, rfl⟩
theorem own_lt {w : World} {base : Nat} {e : TypeId} {size : Nat} {v : Value} {n : Nat} {xs : List Value} (h : w.ownsRow base e size v n xs) {k : Nat} (hk : v.ownBlock = some k) : base ≤ k ∧ k < w.heap.size := by
  rcases h.2 with ⟨rfl, _⟩ | ⟨g, cap, cur, rfl, h1, hg, _⟩
  · simp [Value.ownBlock] at hk
  · simp [Value.ownBlock] at hk
    subst hk
    exact ⟨h1, lt_of_block hg⟩
/-- A row of type t and a block of another type are two. -/
theorem own_ne {w : World} {base : Nat} {e : TypeId} {size : Nat} {v : Value} {n : Nat} {xs : List Value} (h : w.ownsRow base e size v n xs) {b : Nat} {cs : Array Value} {t : TypeId} {fr : Nat × Nat} (hb : w.heap[b]? = some (.cells cs t fr)) (ht : t ≠ e) : v.ownBlock ≠ some b := by
  intro e1
  rcases h.2 with ⟨rfl, _⟩ | ⟨g, cap, cur, rfl, _, hg, _⟩
  · simp [Value.ownBlock] at e1
  · simp [Value.ownBlock] at e1
    subst e1
    rw [hg] at hb
    simp at hb
    exact ht hb.2.1.symm
theorem own_cells {w : World} {base : Nat} {e : TypeId} {size n c : Nat} {a : Option Addr} {xs : List Value} (h : w.ownsRow base e size (.slice a n c) n xs) (hn : 0 < n) :
    ∃ g, a = some ⟨g, 0, none⟩ ∧ base ≤ g ∧ g < w.heap.size ∧ n ≤ c ∧ ∀ p, p < n * size → w.cell? ⟨g, p, none⟩ = xs[p]? := by
  rcases h.2 with ⟨_, h0⟩ | ⟨g, cap, cur, hv, hb, hg, hle, _, _, ht⟩
  · omega
  · injection hv with h1 h2 h3
    subst h1 h3
    refine ⟨g, rfl, hb, (Array.getElem?_eq_some_iff.1 hg).1, hle, fun p hp => ?_⟩
    rw [← ht, List.getElem?_take_of_lt hp, Array.getElem?_toList]
    simp [World.cell?, hg]
/-- 's[:0]' of a row that is owned. -/
theorem own_cut {w : World} {base : Nat} {e : TypeId} {size n c : Nat} {a : Option Addr} {xs : List Value} (h : w.ownsRow base e size (.slice a n c) n xs) : w.ownsRow base e size (.slice a 0 c) 0 [] := by
  refine ⟨by simp, ?_⟩
  rcases h.2 with ⟨h1, h0⟩ | ⟨g, cap, cur, h1, h2, h3, h4, h5, h6, h7⟩
  · injection h1 with e1 e2 e3
    subst e1 e3
    exact .inl ⟨rfl, rfl⟩
  · injection h1 with e1 e2 e3
    subst e1 e3
    exact .inr ⟨g, c, cur, rfl, h2, h3, Nat.zero_le _, h5, h6, by simp⟩
theorem new_cells (W : World) (cs : Array Value) (t : TypeId) (b : Nat) (hb : b = W.heap.size) (j : Nat) (u : Value) (h : cs.toList[j]? = some u) : (W.alloc (.cells cs t)).cell? ((⟨b, 0, none⟩ : Addr).add j) = some u := by
  have hadd : (⟨b, 0, none⟩ : Addr).add j = ⟨b, j, none⟩ := by unfold Addr.add; split <;> simp_all
  rw [hadd, hb]
  have hj : j < cs.size := by
    have := List.getElem?_eq_some_iff.1 h
    simpa using this.1
  have hr := World.rowIs_alloc W cs t (fun i => cs.toList[i]?.getD u) (fun i hi => by simp [hi])
  rw [hr.cell hj, h]
  rfl
/-- v' lies where v lay, or in a block that is new since w. -/
def Kin (H : Nat) (v v' : Value) : Prop := v'.ownBlock = v.ownBlock ∨ ∃ g, v'.ownBlock = some g ∧ H ≤ g

/-- What each state has returned. -/
def setOf (vs : Nat → Nat) (s : Nat) : List Value := if vs s % 5 ≠ 0 then [.int .i64 ((vs s % 3 : Nat) : Int)] else []
def ResAt (w : World) (M n : Nat) (vs : Nat → Nat) : Prop := ∃ rb rc, w.cell? ⟨M, 15, none⟩ = some (.slice (some ⟨rb, 0, none⟩) n rc) ∧
  ∀ s, s < n → w.cell? ⟨rb, s * 2, none⟩ = some (.int .i64 ((vs s % 3 : Nat) : Int)) ∧ w.cell? ⟨rb, s * 2 + 1, none⟩ = some (.bool (decide (vs s % 5 ≠ 0)))

theorem local_fr (M n s ib : Nat) (v : Value) (w : World) (hn : n ≤ 1024) (hs : s < n) (hk : KeysAt w M n) (hi : w.rowIs ib 21 1 fun _ => v) :
    Calls Yba.prog 16 #[.pointer (some ⟨M, 0, none⟩), .int .i64 (s : Int), .slice (some ⟨ib, 0, none⟩) 1 1] w fun e w' => e = .returned (.slice (some ⟨ib, 0, none⟩) 1 1) ∧ (w'.rowIs ib 21 1 fun _ => .int .i32 s) ∧ Fr (fun k => k = ib) w w' := by
  refine (local_any M n s ib v w hn hs hk hi).mono ?_
  rintro e w' ⟨rfl, q, rfl⟩
  exact ⟨rfl, ((rowIs_drewN q hi).set 0 _).congr (fun i hi => by simp; omega), ((Fr.refl (fun k => k = ib) w).drewN q).setCell (p := ⟨ib, 0, none⟩) (fun _ => rfl) _⟩

set_option maxRecDepth 100000 in
set_option maxHeartbeats 1000000 in
theorem retvals0 (M n s ib rb rc : Nat) (a : Option Addr) (c : Nat) (v : Value) (w : World) (hn : n ≤ 1024) (hs : s < n) (hk : KeysAt w M n) (r0 : w.cell? ⟨M, 15, none⟩ = some (.slice (some ⟨rb, 0, none⟩) n rc)) (r2 : w.cell? ⟨rb, s * 2 + 1, none⟩ = some (.bool false)) (hi : w.rowIs ib 21 1 fun _ => v) (hM : M ≠ ib) (hR : rb ≠ ib) :
    Calls Yba.prog 12 #[.pointer (some ⟨M, 0, none⟩), .int .i64 (s : Int), .slice (some ⟨ib, 0, none⟩) 1 1, .slice a 0 c] w fun e w' => e = .returned (.slice a 0 c) ∧ (w'.rowIs ib 21 1 fun _ => .int .i32 s) ∧ Fr (fun k => k = ib) w w' := by
  have C := local_fr M n s ib v w hn hs hk hi
  have hMl := World.block_lt_of_cell? _ _ r0
  have hRl := World.block_lt_of_cell? _ _ r2
  clear hi hk
  go_enter Yba.func12, Yba.ntmps12
  go_wp2_with (go_at_call 16; refine C.mono ?_; rintro e w1 ⟨rfl, hr1, hf1⟩; rw [← hf1.cell hMl hM] at r0; rw [← hf1.cell hRl hR] at r2; have ci := hr1.cell (show 0 < 1 by omega); have HR1 : Hid (w1.rowIs ib 21 1 fun _ => .int .i32 s) := hr1; have HF1 : Hid (Fr (fun k => k = ib) w w1) := hf1; clear hr1 hf1)
  refine wp_loop_rounds 2 ?_
  rw [rounds_succ]
  go_wp2
  rw [rounds_succ]
  go_wp2
  go_ret
  exact ⟨rfl, HR1.out, HF1.out⟩

set_option maxRecDepth 100000 in
set_option maxHeartbeats 1000000 in
theorem retvals1 (base M n s ib rb rc x : Nat) (a : Option Addr) (c : Nat) (v : Value) (w : World) (hn : n ≤ 1024) (hs : s < n) (hk : KeysAt w M n) (r0 : w.cell? ⟨M, 15, none⟩ = some (.slice (some ⟨rb, 0, none⟩) n rc)) (r1 : w.cell? ⟨rb, s * 2, none⟩ = some (.int .i64 (x : Int))) (r2 : w.cell? ⟨rb, s * 2 + 1, none⟩ = some (.bool true)) (hi : w.rowIs ib 21 1 fun _ => v) (hM : M ≠ ib) (hR : rb ≠ ib)
    (hb : base ≤ w.heap.size) (ho : w.ownsRow base 3 1 (.slice a 0 c) 0 []) :
    Calls Yba.prog 12 #[.pointer (some ⟨M, 0, none⟩), .int .i64 (s : Int), .slice (some ⟨ib, 0, none⟩) 1 1, .slice a 0 c] w fun e w' => ∃ g c', e = .returned (.slice (some ⟨g, 0, none⟩) 1 c') ∧ w'.ownsRow base 3 1 (.slice (some ⟨g, 0, none⟩) 1 c') 1 [.int .i64 (x : Int)] ∧
      Kin w.heap.size (.slice a 0 c) (.slice (some ⟨g, 0, none⟩) 1 c') ∧ (w'.rowIs ib 21 1 fun _ => .int .i32 s) ∧ Fr (fun k => k = ib ∨ Value.ownBlock (.slice a 0 c) = some k) w w' := by
  have C := local_fr M n s ib v w hn hs hk hi
  have hMl := World.block_lt_of_cell? _ _ r0
  have hRl := World.block_lt_of_cell? _ _ r2
  obtain ⟨i0, hi0, hz0, hz1, hz2⟩ := info_parts Yba.info3
  have HNE : Hid (Value.ownBlock (.slice a 0 c) ≠ some ib) := by
    obtain ⟨cc, h1, _⟩ := hi
    exact own_ne ho h1 (by decide)
  have HO : Hid (w.ownsRow base 3 1 (.slice a 0 c) 0 []) := ho
  clear hi hk ho
  go_enter Yba.func12, Yba.ntmps12
  go_wp2_with (go_at_call 16; refine C.mono ?_; rintro e w1 ⟨rfl, hr1, hf1⟩; rw [← hf1.cell hMl hM] at r0; rw [← hf1.cell hRl hR] at r1 r2; have ci := hr1.cell (show 0 < 1 by omega); have hMl1 : M < w1.heap.size := Nat.lt_of_lt_of_le hMl hf1.size; have hRl1 : rb < w1.heap.size := Nat.lt_of_lt_of_le hRl hf1.size; have HR1 : Hid (w1.rowIs ib 21 1 fun _ => .int .i32 s) := hr1; have HF1 : Hid (Fr (fun k => k = ib) w w1) := hf1; clear hr1 hf1)
  refine wp_loop_rounds 2 ?_
  rw [rounds_succ]
  have hown : ∀ o, (w1.alloc o).ownsRow base 3 1 (.slice a 0 c) 0 [] := fun o => (HF1.out.own HO.out (fun k hk e => HNE.out (by rw [hk, e]))).alloc o
  have HW : Hid (w.heap.size ≤ w1.heap.size) := HF1.out.size
  go_wp2_with (at_builtin; go_must (refine wpList_append_lies _ rfl (.tmp 32) (.tmp 41) 29 rfl base 3 i0 (.int .i64 0) 1 8 Yba.underlying29 hi0 hz0 hz1 hz2 rfl (by decide) (.slice a 0 c) 0 [] rfl (hown _) ⟨w1.heap.size, 0, none⟩ 1 1 [.int .i64 (x : Int)] rfl rfl ?d1 ?d2 ?d3 ?d4 ?d5 ?d6 (w1.heap.size + 1) ?d7 ?d8))
  case d1 => exact fun j u hj => new_cells _ _ 3 _ (by simp) j u hj
  case d2 => exact fun u hu => by simp at hu; subst hu; rfl
  case d3 => omega
  case d4 => unfold maxLen; omega
  case d5 => omega
  case d6 => have := HW.out; simp; omega
  case d7 => simp
  case d8 =>
    intro g cap w4 ho4 hg4 hat hlt4
    have HO4 : Hid (w4.ownsRow base 3 1 (.slice (some ⟨g, 0, none⟩) 1 cap) 1 [.int .i64 (x : Int)]) := ho4
    have R1 : Hid (Fr (fun k => k = ib ∨ Value.ownBlock (.slice a 0 c) = some k) w w4) := ((HF1.out.mono (fun _ _ e => .inl e)).alloc _).grown hg4 (fun k _ e => .inr e)
    have R2 : Hid (Kin w.heap.size (.slice a 0 c) (.slice (some ⟨g, 0, none⟩) 1 cap)) := by
      rcases hat with h | h
      · exact .inl (by rw [h]; rfl)
      · exact .inr ⟨g, rfl, by have := HW.out; omega⟩
    have R3 : Hid (w4.rowIs ib 21 1 fun _ => .int .i32 s) := (HR1.out.alloc _).of_block (hg4.block _ (by have := HR1.out.lt; simp; omega) (fun e => HNE.out e.symm))
    clear ho4 hg4 hat hown
    go_wp2
    rw [rounds_succ]
    go_wp2
    go_ret
    exact ⟨_, _, rfl, HO4.out, R2.out, R3.out, R1.out⟩
end Go.Proofs.Ybulkauxo
