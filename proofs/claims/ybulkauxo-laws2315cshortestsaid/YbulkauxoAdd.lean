import Derived.Test.YbulkauxoAppend
import Derived.Deep.RegionLaw
namespace Go.Proofs.Ybulkauxo
open Go.RowKit

theorem own_own_ne {w : World} {base base' : Nat} {e e' : TypeId} {size size' : Nat} {v v' : Value} {n n' : Nat} {xs xs' : List Value} (h : w.ownsRow base e size v n xs) (h' : w.ownsRow base' e' size' v' n' xs') (he : e' ≠ e) {k : Nat} (hk : v'.ownBlock = some k) : v.ownBlock ≠ some k := by
  rcases h'.2 with ⟨rfl, _⟩ | ⟨g, cap, cur, rfl, _, hg, _⟩
  · simp [Value.ownBlock] at hk
  · simp [Value.ownBlock] at hk
    subst hk
    exact own_ne h hg he
theorem news_at {w : World} {g : Nat} {ys : List Value} (h : ∀ j u, ys[j]? = some u → w.cell? ⟨g, j, none⟩ = some u) : ∀ j u, ys[j]? = some u → w.cell? ((⟨g, 0, none⟩ : Addr).add j) = some u := fun j u hj => by
  have hadd : (⟨g, 0, none⟩ : Addr).add j = ⟨g, j, none⟩ := by unfold Addr.add; split <;> simp_all
  rw [hadd]
  exact h j u hj

set_option maxRecDepth 100000 in
set_option maxHeartbeats 2000000 in
theorem add_any (base M g m c bn bc en ec : Nat) (f : Nat → Value) (ba ea : Option Addr) (bx ex ys : List Value) (w : World) (hM : w.rowIs M 48 21 f) (hf12 : f 12 = .slice ba bn bc) (hf13 : f 13 = .slice ea en ec)
    (hob : w.ownsRow base 5 1 (.slice ba bn bc) bn bx) (hoe : w.ownsRow base 65 1 (.slice ea en ec) en ex) (hy : ys.length = m) (hm : 0 < m) (hys : ∀ j u, ys[j]? = some u → w.cell? ⟨g, j, none⟩ = some u) (hy1 : ∀ u ∈ ys, u.oneCell' = true)
    (hbn : bn + m ≤ 4096) (hen : en ≤ 2048) (hb : base ≤ w.heap.size) :
    Calls Yba.prog 9 #[.pointer (some ⟨M, 12, none⟩), .slice (some ⟨g, 0, none⟩) m c] w fun e w' => e = .returned (.tuple #[]) ∧ ∃ b1 c1 e1 c2,
      (w'.rowIs M 48 21 fun j => if j = 13 then .slice (some ⟨e1, 0, none⟩) (en + 1) c2 else if j = 12 then .slice (some ⟨b1, 0, none⟩) (bn + m) c1 else f j) ∧
      w'.ownsRow base 5 1 (.slice (some ⟨b1, 0, none⟩) (bn + m) c1) (bn + m) (bx ++ ys) ∧ w'.ownsRow base 65 1 (.slice (some ⟨e1, 0, none⟩) (en + 1) c2) (en + 1) (ex ++ [.int .u32 ((bn + m : Nat) : Int)]) ∧
      Kin w.heap.size (.slice ba bn bc) (.slice (some ⟨b1, 0, none⟩) (bn + m) c1) ∧ Kin w.heap.size (.slice ea en ec) (.slice (some ⟨e1, 0, none⟩) (en + 1) c2) ∧
      Fr (fun k => k = M ∨ Value.ownBlock (.slice ba bn bc) = some k ∨ Value.ownBlock (.slice ea en ec) = some k) w w' := by
  obtain ⟨i0, hi0, hz0, hz1, hz2⟩ := info_parts Yba.info5
  obtain ⟨i1, hi1, hy0, hyy1, hy2⟩ := info_parts Yba.info65
  have c12 := hM.cell (show 12 < 21 by omega)
  have hMl := hM.lt
  rw [hf12] at c12
  have HM : Hid (w.rowIs M 48 21 f) := hM
  have n1 : Value.ownBlock (.slice ba bn bc) ≠ some M := by obtain ⟨cs, h, _⟩ := hM; exact own_ne hob h (by decide)
  have n2 : Value.ownBlock (.slice ea en ec) ≠ some M := by obtain ⟨cs, h, _⟩ := hM; exact own_ne hoe h (by decide)
  have n3 : ∀ k, Value.ownBlock (.slice ea en ec) = some k → Value.ownBlock (.slice ba bn bc) ≠ some k := fun k hk => own_own_ne hob hoe (by decide) hk
  have N1 : Hid _ := n1
  have N2 : Hid _ := n2
  have N3 : Hid (∀ k, Value.ownBlock (.slice ea en ec) = some k → Value.ownBlock (.slice ba bn bc) ≠ some k) := n3
  have HOE : Hid (w.ownsRow base 65 1 (.slice ea en ec) en ex) := hoe
  have HOB : Hid (w.ownsRow base 5 1 (.slice ba bn bc) bn bx) := hob
  have HYS : Hid _ := news_at hys
  have HY1 : Hid _ := hy1
  have HF13 : Hid (f 13 = .slice ea en ec) := hf13
  clear hM hob hoe n1 n2 n3 hys hy1 hf12 hf13
  go_enter Yba.func9, Yba.ntmps9
  go_wp2_with (at_builtin; go_must (refine wpList_append_lies _ rfl (.tmp 8) (.tmp 9) 22 rfl base 5 i0 (.int .u8 0) 1 1 Yba.underlying22 hi0 hz0 hz1 hz2 rfl (by decide) (.slice ba bn bc) bn bx rfl HOB.out ⟨g, 0, none⟩ m c ys rfl ?d0 HYS.out HY1.out hm ?d4 ?d5 hb w.heap.size rfl ?d8))
  case d0 => omega
  case d4 => unfold maxLen; omega
  case d5 => omega
  case d8 =>
    intro b1 c1 w4 ho4 hg4 hat hlt4
    have F4 : Fr (fun k => Value.ownBlock (.slice ba bn bc) = some k) w w4 := (Fr.refl _ w).grown hg4 (fun k _ e => e)
    have hM4 : w4.rowIs M 48 21 f := F4.rowIs HM.out N1.out
    have hE4 : w4.ownsRow base 65 1 (.slice ea en ec) en ex := F4.own HOE.out (fun k hk e => N3.out k hk e)
    have k12 := hM4.cell (show 12 < 21 by omega)
    have f12 := hM4.frozen 12
    have bM : b1 ≠ M := fun e => by
      obtain ⟨cs, h, _⟩ := hM4
      exact own_ne ho4 h (by decide) (by rw [e]; rfl)
    have KB : Hid (Kin w.heap.size (.slice ba bn bc) (.slice (some ⟨b1, 0, none⟩) (bn + m) c1)) := by
      rcases hat with h | h
      · exact .inl (by rw [h]; rfl)
      · exact .inr ⟨b1, rfl, by omega⟩
    have HM5 : Hid ((w4.setCell ⟨M, 12, none⟩ (.slice (some ⟨b1, 0, none⟩) (bn + m) c1)).rowIs M 48 21 fun j => if j = 12 then .slice (some ⟨b1, 0, none⟩) (bn + m) c1 else f j) := hM4.set 12 _
    have FS : Fr (fun k => k = M) w4 (w4.setCell ⟨M, 12, none⟩ (.slice (some ⟨b1, 0, none⟩) (bn + m) c1)) := (Fr.refl (fun k => k = M) w4).setCell (p := ⟨M, 12, none⟩) (fun _ => rfl) _
    have HB5 : Hid ((w4.setCell ⟨M, 12, none⟩ (.slice (some ⟨b1, 0, none⟩) (bn + m) c1)).ownsRow base 5 1 (.slice (some ⟨b1, 0, none⟩) (bn + m) c1) (bn + m) (bx ++ ys)) := FS.own ho4 (fun k hk e => by simp [Value.ownBlock] at hk; omega)
    have HE5 : Hid ((w4.setCell ⟨M, 12, none⟩ (.slice (some ⟨b1, 0, none⟩) (bn + m) c1)).ownsRow base 65 1 (.slice ea en ec) en ex) := FS.own hE4 (fun k hk e => N2.out (by rw [← e]; exact hk))
    have HF5 : Hid (Fr (fun k => k = M ∨ Value.ownBlock (.slice ba bn bc) = some k) w (w4.setCell ⟨M, 12, none⟩ (.slice (some ⟨b1, 0, none⟩) (bn + m) c1))) := (F4.mono (fun _ _ e => .inr e)).trans FS (fun _ _ e => .inl e)
    clear ho4 hg4 hat F4 hM4 hE4 FS
    go_wp2_with fail
    generalize w4.setCell ⟨M, 12, none⟩ (.slice (some ⟨b1, 0, none⟩) (bn + m) c1) = w5 at *
    have g12 : w5.cell? ⟨M, 12, none⟩ = some (.slice (some ⟨b1, 0, none⟩) (bn + m) c1) := HM5.out.cell (show 12 < 21 by omega)
    have g13 : w5.cell? ⟨M, 13, none⟩ = some (.slice ea en ec) := by
      have := HM5.out.cell (show 13 < 21 by omega)
      rw [if_neg (by omega), HF13.out] at this
      exact this
    have hM5l := HM5.out.lt
    have hs5 := HF5.out.size
    have hown5 : ∀ o, (w5.alloc o).ownsRow base 65 1 (.slice ea en ec) en ex := fun o => HE5.out.alloc o
    have K6 : Hid (∀ o w6, ((w5.alloc o).drew).grownBy w6 (Value.slice ea en ec).ownBlock → w6.cell? ⟨M, 13, none⟩ = some (.slice ea en ec) ∧ w6.frozen? ⟨M, 13, none⟩ = false) := fun o w6 hg => by
      have hb : w6.heap[M]? = w5.heap[M]? := (hg.block M (by show M < (w5.alloc o).heap.size; simp; omega) (fun e => N2.out e.symm)).trans (Below.heap_alloc _ _ _ hM5l)
      exact ⟨(World.cell?_of_block (w := w5) (a := ⟨M, 13, none⟩) hb).trans g13, (World.frozen?_of_block (w := w5) (a := ⟨M, 13, none⟩) hb).trans (HM5.out.frozen 13)⟩
    clear c12 k12 f12
    have FIN : Hid (∀ (V : Int) e1 c2 w6, V = ((bn + m : Nat) : Int) → w6.ownsRow base 65 1 (.slice (some ⟨e1, 0, none⟩) (en + 1) c2) (en + 1) (ex ++ [.int .u32 V]) → ((w5.alloc (.cells #[.int .u32 V] 65)).drew).grownBy w6 (Value.slice ea en ec).ownBlock → ((Value.slice ea en ec).ownBlock = some e1 ∨ e1 = w5.heap.size + 1) →
        ∃ b1 c1 e1' c2',
        ((w6.setCell ⟨M, 13, none⟩ (.slice (some ⟨e1, 0, none⟩) (en + 1) c2)).rowIs M 48 21 fun j => if j = 13 then .slice (some ⟨e1', 0, none⟩) (en + 1) c2' else if j = 12 then .slice (some ⟨b1, 0, none⟩) (bn + m) c1 else f j) ∧
        (w6.setCell ⟨M, 13, none⟩ (.slice (some ⟨e1, 0, none⟩) (en + 1) c2)).ownsRow base 5 1 (.slice (some ⟨b1, 0, none⟩) (bn + m) c1) (bn + m) (bx ++ ys) ∧ (w6.setCell ⟨M, 13, none⟩ (.slice (some ⟨e1, 0, none⟩) (en + 1) c2)).ownsRow base 65 1 (.slice (some ⟨e1', 0, none⟩) (en + 1) c2') (en + 1) (ex ++ [.int .u32 ((bn + m : Nat) : Int)]) ∧
        Kin w.heap.size (.slice ba bn bc) (.slice (some ⟨b1, 0, none⟩) (bn + m) c1) ∧ Kin w.heap.size (.slice ea en ec) (.slice (some ⟨e1', 0, none⟩) (en + 1) c2') ∧
        Fr (fun k => k = M ∨ Value.ownBlock (.slice ba bn bc) = some k ∨ Value.ownBlock (.slice ea en ec) = some k) w (w6.setCell ⟨M, 13, none⟩ (.slice (some ⟨e1, 0, none⟩) (en + 1) c2))) := by
      intro V e1 c2 w6 hV ho6 hg6 hat6
      subst hV
      have F6 : Fr (fun k => Value.ownBlock (.slice ea en ec) = some k) w5 w6 := (((Fr.refl _ w5).alloc _).drew).grown hg6 (fun k _ e => e)
      have hM6 := F6.rowIs HM5.out N2.out
      have hB6 := F6.own HB5.out (fun k hk e => own_own_ne HE5.out HB5.out (by decide) hk e)
      have FS : Fr (fun k => k = M) w6 (w6.setCell ⟨M, 13, none⟩ (.slice (some ⟨e1, 0, none⟩) (en + 1) c2)) := (Fr.refl (fun k => k = M) w6).setCell (p := ⟨M, 13, none⟩) (fun _ => rfl) _
      have eM : e1 ≠ M := fun e => by
        obtain ⟨cs, h, _⟩ := hM6
        exact own_ne ho6 h (by decide) (by rw [e]; rfl)
      refine ⟨b1, c1, e1, c2, hM6.set 13 _, FS.own hB6 (fun k hk e => by simp [Value.ownBlock] at hk; omega), FS.own ho6 (fun k hk e => by simp [Value.ownBlock] at hk; omega), KB.out, ?_, ?_⟩
      · rcases hat6 with h | h
        · exact .inl (by rw [h]; rfl)
        · exact .inr ⟨e1, rfl, by omega⟩
      · exact ((HF5.out.mono (fun _ _ e => e.elim .inl (fun e => .inr (.inl e)))).trans F6 (fun _ _ e => .inr (.inr e))).trans FS (fun _ _ e => .inl e)
    go_region_law (first
      | (refine step_append_lies _ (by rfl) (.tmp 17) (.tmp 24) 41 (by rfl) base 65 i1 (.int .u32 0) 1 4 Yba.underlying41 hi1 hy0 hyy1 hy2 rfl (by omega) (.slice ea en ec) en ex (by rfl) (hown5 _) ⟨w5.heap.size, 0, none⟩ 1 1 [.int .u32 (IntKind.u32.wrap ((bn : Int) + (m : Int)))] (by rfl) (by rfl) (World.news_of_block (cs := #[.int .u32 (IntKind.u32.wrap ((bn : Int) + (m : Int)))]) (t := 65) (fr := (0, 0)) (heap_alloc_new w5 _)) (by simp [Value.oneCell']) (by omega) (by unfold maxLen; omega) (by omega) (show base ≤ (w5.alloc (.cells #[.int .u32 (IntKind.u32.wrap ((bn : Int) + (m : Int)))] 65)).heap.size by simp; omega) (w5.heap.size + 1) (show (w5.alloc (.cells #[.int .u32 (IntKind.u32.wrap ((bn : Int) + (m : Int)))] 65)).heap.size = w5.heap.size + 1 by simp) ?_; intro e1 c2 w6 ho6 hg6 hat6 hlt6; have q6 := K6.out _ w6 hg6)
      | (refine step_append_lies _ (by rfl) (.tmp 17) (.tmp 24) 41 (by rfl) base 65 i1 (.int .u32 0) 1 4 Yba.underlying41 hi1 hy0 hyy1 hy2 rfl (by omega) (.slice ea en ec) en ex (by rfl) (hown5 _) ⟨w5.heap.size, 0, none⟩ 1 1 [.int .u32 ((bn : Int) + (m : Int))] (by rfl) (by rfl) (World.news_of_block (cs := #[.int .u32 ((bn : Int) + (m : Int))]) (t := 65) (fr := (0, 0)) (heap_alloc_new w5 _)) (by simp [Value.oneCell']) (by omega) (by unfold maxLen; omega) (by omega) (show base ≤ (w5.alloc (.cells #[.int .u32 ((bn : Int) + (m : Int))] 65)).heap.size by simp; omega) (w5.heap.size + 1) (show (w5.alloc (.cells #[.int .u32 ((bn : Int) + (m : Int))] 65)).heap.size = w5.heap.size + 1 by simp) ?_; intro e1 c2 w6 ho6 hg6 hat6 hlt6; have q6 := K6.out _ w6 hg6)
      | fail)
    all_goals go_wp2_with fail
    all_goals go_end0
    all_goals (refine ⟨rfl, FIN.out _ e1 c2 w6 ?_ ho6 hg6 hat6⟩)
    all_goals first
      | (rw [IntKind.wrap_u32]; omega)
      | omega
end Go.Proofs.Ybulkauxo
