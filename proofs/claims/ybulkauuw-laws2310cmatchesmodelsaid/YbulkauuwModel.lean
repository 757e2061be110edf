import Derived.Test.YbulkauuwCodes
namespace Go.Proofs.Ybulkauuw
open Go.RowKit

/-- The model's history: cell j of h. -/
def hAt (ts : Nat → Int) (j : Nat) : Int := if j = 0 then 1 else lastAt ts j
def hist (ts : Nat → Int) (k : Nat) : List Value := (List.range k).map fun j => Value.int .i64 (hAt ts j)

theorem hist_len (ts : Nat → Int) (k : Nat) : (hist ts k).length = k := by simp [hist]
theorem hist_get (ts : Nat → Int) (k j : Nat) (h : j < k) : (hist ts k)[j]? = some (.int .i64 (hAt ts j)) := by simp [hist, h]
theorem hist_succ (ts : Nat → Int) (k : Nat) : hist ts (k + 1) = hist ts k ++ [.int .i64 (hAt ts k)] := by simp [hist, List.range_succ]
theorem hist_two (ts : Nat → Int) : hist ts 2 = [.int .i64 1, .int .i64 0] := rfl
theorem hAt_last (ts : Nat → Int) (k : Nat) (h : 1 ≤ k) : hAt ts k = lastAt ts k := if_neg (by omega)
theorem hAt_second (ts : Nat → Int) (k : Nat) (h : 1 ≤ k) : hAt ts (k - 1) = secondAt ts k := by
  unfold hAt secondAt
  by_cases e : k ≤ 1
  · rw [if_pos (by omega), if_pos e]
  · rw [if_neg (by omega), if_neg e]
theorem next_eq (n L : Int) (h0 : 0 ≤ L) (h1 : L < n) : (L + 1) % n = if n ≤ L + 1 then 0 else L + 1 := by
  split
  · have : L + 1 = n := by omega
    rw [this]; exact Int.emod_self
  · exact Int.emod_eq_of_lt (by omega) (by omega)

theorem make_h (len : Nat) (hlen : len ≤ 1024) (w : World) :
    (Instr.makeSlice 36 (.int .i64 0) (.int .i64 ((len : Int) + 1))).run Yba.prog w = .ok (.slice (some ⟨w.heap.size, 0, none⟩) 0 (len + 1)) (w.alloc (.cells (madeCells #[.int .i64 0] (len + 1)) 3)) := by
  obtain ⟨i0, hi, hz0, hz1, hz2⟩ := info_parts Yba.info3
  have h := run_make (P := Yba.prog) w 36 3 i0 (.int .i64 0) Yba.underlying36 hi hz0 .i64 .i64 0 ((len : Int) + 1) (by omega) (by omega) (by rw [hz2]; omega) (by omega)
  rw [h, hz1]
  have e : ((len : Int) + 1).toNat = len + 1 := by omega
  rw [e, Nat.mul_one]
  rfl

theorem new_cells (W : World) (cs : Array Value) (t : TypeId) (b : Nat) (hb : b = W.heap.size) (j : Nat) (u : Value) (h : cs.toList[j]? = some u) : (W.alloc (.cells cs t)).cell? ((⟨b, 0, none⟩ : Addr).add j) = some u := by
  have hadd : (⟨b, 0, none⟩ : Addr).add j = ⟨b, j, none⟩ := by unfold Addr.add; split <;> simp_all
  rw [hadd, hb]
  have hj : j < cs.size := by
    have := List.getElem?_eq_some_iff.1 h
    simpa using this.1
  have hr := World.rowIs_alloc W cs t (fun i => cs.toList[i]?.getD u) (fun i hi => by simp [hi])
  rw [hr.cell hj, h]
  rfl

set_option maxHeartbeats 1000000 in
theorem model_any (ta : Option Addr) (len cap : Nat) (n : Int) (ts : Nat → Int) (w : World) (hn : 1 ≤ n) (hn2 : n ≤ 16) (hlen : len ≤ 1024)
    (hts : ∀ j, j < len → 0 ≤ ts j ∧ ts j < n)
    (hta : 0 < len → ∃ tb to, ta = some ⟨tb, to, none⟩ ∧ tb < w.heap.size ∧ ∀ k, k < len → w.cell? ⟨tb, to + k, none⟩ = some (.int .u8 (ts k))) :
    Calls Yba.prog 14 #[.int .i64 n, .slice ta len cap] w fun e w' =>
      e = .returned (.slice (some ⟨w.heap.size, 0, none⟩) len len) ∧ w'.rowIs w.heap.size 3 len (fun j => .int .i64 (codeAt n ts j)) ∧ Below w.heap.size w w' := by
  obtain ⟨i0, hi, hz0, hz1, hz2⟩ := info_parts Yba.info3
  have hmk := run_make_row' (P := Yba.prog) 36 3 (.int .i64 0) 8 Yba.underlying36 Yba.info3 rfl .i64 .i64 len (by omega) (by omega)
  have hmk2 := make_h len hlen
  have hrow0 := World.rowIs_made w (.int .i64 0) len 3
  generalize hW0 : w.alloc (.cells (madeCells #[.int .i64 0] len) 3) = W0 at hrow0
  have hs0 : W0.heap.size = w.heap.size + 1 := by rw [← hW0]; simp
  have hown0 := World.ownsRow_made (base := w.heap.size + 1) (e := 3) (size := 1) W0 (madeCells #[.int .i64 0] (len + 1)) (len + 1) (by omega) (by unfold maxLen; omega) (by simp [size_madeCells])
  have hb0 : Below w.heap.size w W0 := by rw [← hW0]; exact (Below.refl _ _).alloc (Nat.le_refl _) _
  rw [hs0] at hown0
  have HS0 : Hid (W0.heap.size = w.heap.size + 1) := hs0
  clear hs0
  subst hW0
  go_enter Yba.func14, Yba.ntmps14
  go_wp2_with (first
    | (at_builtin; refine wpList_append_own _ rfl (.tmp 19) (.tmp 20) 36 rfl (w.heap.size + 1) 3 i0 (.int .i64 0) 1 8 Yba.underlying36 hi hz0 hz1 hz2 rfl (by decide) _ 0 [] rfl (hown0.alloc _) ⟨w.heap.size + 1 + 1, 0, none⟩ 2 2 [.int .i64 1, .int .i64 0] rfl rfl ?c1 ?c2 ?c3 ?c4 ?c5 ?c6))
  case c1 => exact fun j u hj => new_cells _ _ 3 _ (by simp) j u hj
  case c2 => exact fun u hu => by simp at hu; rcases hu with rfl | rfl <;> rfl
  case c3 => unfold maxLen; omega
  case c4 => omega
  case c5 => simp
  case c6 =>
    intro v1 w1 hown1 hg1 _
    have hbl1 : Below w.heap.size w w1 := ((hb0.alloc (by have := HS0.out; omega) _).alloc (by simp; omega) _).grown hg1 (by simp; omega) (fun k hk => by simp [Value.ownBlock] at hk; omega)
    have hrow1 : w1.rowIs w.heap.size 3 len (fun _ => .int .i64 0) := ((hrow0.alloc _).alloc _).of_block (hg1.block _ (by simp; omega) (by simp [Value.ownBlock]))
    clear hmk hmk2 hg1 hrow0 hown0 hb0 HS0
    go_wp2_with fail
    go_loopw [6, 7] (fun v i wr => ∃ k : Nat, 1 ≤ k ∧ (k ≤ len ∨ k = 1) ∧ i = .int .i64 k ∧ wr.ownsRow (w.heap.size + 1) 3 1 v (k + 1) (hist ts (k + 1)) ∧
        wr.rowIs w.heap.size 3 len (fun j => .int .i64 (if j < k then codeAt n ts j else 0)) ∧ Below w.heap.size w wr) (fun _ i _ => len + 1 - (intOf i).toNat)
    case atStart =>
      refine ⟨1, Nat.le_refl _, Or.inr rfl, rfl, hown1, ?_, hbl1⟩
      refine hrow1.congr fun j _ => ?_
      by_cases e : j < 1
      · obtain rfl : j = 0 := by omega
        rfl
      · rw [if_neg e]
    case round =>
      obtain ⟨k, hk1, hk, rfl, hown, hrow, hbel⟩ := hrel
      by_cases hlt : k < len
      · obtain ⟨tb, to, rfl, htb, hcell⟩ := hta (by omega)
        have d2 : wr.cell? ⟨tb, to + k, none⟩ = some (.int .u8 (ts k)) := (hbel.cell htb).trans (hcell k hlt)
        have hfz := hrow.frozen k
        have hck := hrow.cell hlt
        have hbt := hts k hlt
        have hbl := lastAt_bd n ts len k hn hts (by omega)
        obtain ⟨g, capv, cur, rfl, hg0, hgb, hg2, hg3, hg4, hg5⟩ : ∃ g cap cur, _ := (hown.2.resolve_left (by omega))
        have c1 : wr.cell? ⟨g, k, none⟩ = some (.int .i64 (lastAt ts k)) := by rw [hown.cellAt k (by omega), hist_get _ _ _ (by omega), hAt_last _ _ hk1]
        have c2 : wr.cell? ⟨g, k - 1, none⟩ = some (.int .i64 (secondAt ts k)) := by rw [hown.cellAt (k - 1) (by omega), hist_get _ _ _ (by omega), hAt_second _ _ hk1]
        have HC : Hid (codeAt n ts k = if ts k = (if n ≤ lastAt ts k + 1 then 0 else lastAt ts k + 1) then 1 else if ts k = secondAt ts k then 0 else ts k + 2) := by
          rw [← next_eq n _ hbl.1 hbl.2]; unfold codeAt; exact if_neg (by omega)
        have HH : Hid (hist ts (k + 1 + 1) = hist ts (k + 1) ++ [.int .i64 (ts k)]) := by
          have := hist_succ ts (k + 1)
          rw [hAt_last _ _ (by omega), lastAt_succ _ _ hk1] at this
          exact this
        clear hg0 hgb hg2 hg3 hg4 hg5 hts hcell hta
        generalize hT : ts k = T at *
        generalize hLL : lastAt ts k = L at *
        generalize hSS : secondAt ts k = S at *
        have HT : Hid (ts k = T) := hT
        have HLL : Hid (lastAt ts k = L) := hLL
        have HSS : Hid (secondAt ts k = S) := hSS
        clear hT hLL hSS
        have HR : Hid (wr.rowIs w.heap.size 3 len (fun j => .int .i64 (if j < k then codeAt n ts j else 0))) := hrow
        have hgs : g < wr.heap.size := (hown.lt g rfl).2
        have hgw : w.heap.size + 1 ≤ g := (hown.lt g rfl).1
        clear hrow
        have fin : ∀ (c : Int) (v' : Value) (w2 : World), c = codeAt n ts k → w2.ownsRow (w.heap.size + 1) 3 1 v' (k + 1 + 1) (hist ts (k + 1) ++ [.int .i64 T]) →
            ((wr.setCell ⟨w.heap.size, k, none⟩ (.int .i64 c)).alloc (.cells #[.int .i64 T] 3)).grownBy w2 (some g) →
            (∃ k' : Nat, 1 ≤ k' ∧ (k' ≤ len ∨ k' = 1) ∧ Value.int .i64 ((k : Int) + 1) = .int .i64 k' ∧ w2.ownsRow (w.heap.size + 1) 3 1 v' (k' + 1) (hist ts (k' + 1)) ∧
              w2.rowIs w.heap.size 3 len (fun j => .int .i64 (if j < k' then codeAt n ts j else 0)) ∧ Below w.heap.size w w2) := fun c v' w2 hc ho hg =>
          ⟨k + 1, by omega, Or.inl (by omega), by go_num, by rw [HH.out]; exact ho,
            ((codes_step HR.out hc).alloc _).of_block (hg.block _ (by simp; omega) (by simp; omega)),
            ((hbel.setCell (Nat.le_refl _) _).alloc (by simp; omega) _).grown hg (by simp; omega) (fun j hj => by cases hj; omega)⟩
        have FIN : Hid _ := fin
        clear fin
        have own2 : ∀ c : Int, ((wr.setCell ⟨w.heap.size, k, none⟩ (.int .i64 c)).alloc (.cells #[.int .i64 T] 3)).ownsRow (w.heap.size + 1) 3 1 (.slice (some ⟨g, 0, none⟩) (k + 1) capv) (k + 1) (hist ts (k + 1)) := fun c =>
          (ownsRow_setCell_below hown (by simp) _).alloc _
        have OWN2 : Hid _ := own2
        clear own2 hown hbel
        by_cases hN : n ≤ L + 1
        · have HC2 : codeAt n ts k = if T = 0 then 1 else if T = S then 0 else T + 2 := by rw [HC.out, if_pos hN]
          have HD : Hid (codeAt n ts k = if T = 0 then 1 else if T = S then 0 else T + 2) := HC2
          clear HC2
          have hN2 : n ≤ L + 1 := hN
          by_cases e1 : T = 0
          · have b1 : (T == 0) = true := by simpa using e1
            have e2 := True.intro
            have H1 : Hid (codeAt n ts k = 1) := HD.out.trans (if_pos e1)
            clear HC e1 e2 hN
            go_wp2_with (at_builtin; refine wpList_append_own _ rfl (.tmp 64) (.tmp 66) 36 rfl (w.heap.size + 1) 3 i0 (.int .i64 0) 1 8 Yba.underlying36 hi hz0 hz1 hz2 rfl (by decide) _ (k + 1) (hist ts (k + 1)) rfl (OWN2.out (1)) ⟨wr.heap.size, 0, none⟩ 1 1 [.int .i64 T] rfl rfl ?d1 ?d2 ?d3 ?d4 ?d5 ?d6)
            case d1 => exact fun j u hj => new_cells _ _ 3 _ (by simp) j u hj
            case d2 => exact fun u hu => by simp at hu; subst hu; rfl
            case d3 => unfold maxLen; omega
            case d4 => omega
            case d5 => simp; omega
            case d6 =>
              intro v' w2 ho hgr _
              have R := FIN.out (1) v' w2 H1.out.symm ho hgr
              clear ho hgr OWN2 FIN
              go_wp2
              go_roundw
              case rel => exact R
              case measure => simp [intOf]; omega
          · have b1 : (T == 0) = false := by simpa using e1
            by_cases e2 : T = S
            · have b2 : (T == S) = true := by simpa using e2
              have H1 : Hid (codeAt n ts k = 0) := HD.out.trans ((if_neg e1).trans (if_pos e2))
              clear HC e1 e2 hN
              go_wp2_with (at_builtin; refine wpList_append_own _ rfl (.tmp 64) (.tmp 66) 36 rfl (w.heap.size + 1) 3 i0 (.int .i64 0) 1 8 Yba.underlying36 hi hz0 hz1 hz2 rfl (by decide) _ (k + 1) (hist ts (k + 1)) rfl (OWN2.out (0)) ⟨wr.heap.size, 0, none⟩ 1 1 [.int .i64 T] rfl rfl ?d1 ?d2 ?d3 ?d4 ?d5 ?d6)
              case d1 => exact fun j u hj => new_cells _ _ 3 _ (by simp) j u hj
              case d2 => exact fun u hu => by simp at hu; subst hu; rfl
              case d3 => unfold maxLen; omega
              case d4 => omega
              case d5 => simp; omega
              case d6 =>
                intro v' w2 ho hgr _
                have R := FIN.out (0) v' w2 H1.out.symm ho hgr
                clear ho hgr OWN2 FIN
                go_wp2
                go_roundw
                case rel => exact R
                case measure => simp [intOf]; omega
            · have b2 : (T == S) = false := by simpa using e2
              have H1 : Hid (codeAt n ts k = T + 2) := HD.out.trans ((if_neg e1).trans (if_neg e2))
              clear HC e1 e2 hN
              go_wp2_with (at_builtin; refine wpList_append_own _ rfl (.tmp 64) (.tmp 66) 36 rfl (w.heap.size + 1) 3 i0 (.int .i64 0) 1 8 Yba.underlying36 hi hz0 hz1 hz2 rfl (by decide) _ (k + 1) (hist ts (k + 1)) rfl (OWN2.out (T + 2)) ⟨wr.heap.size, 0, none⟩ 1 1 [.int .i64 T] rfl rfl ?d1 ?d2 ?d3 ?d4 ?d5 ?d6)
              case d1 => exact fun j u hj => new_cells _ _ 3 _ (by simp) j u hj
              case d2 => exact fun u hu => by simp at hu; subst hu; rfl
              case d3 => unfold maxLen; omega
              case d4 => omega
              case d5 => simp; omega
              case d6 =>
                intro v' w2 ho hgr _
                have R := FIN.out (T + 2) v' w2 H1.out.symm ho hgr
                clear ho hgr OWN2 FIN
                go_wp2
                go_roundw
                case rel => exact R
                case measure => simp [intOf]; omega
        · have HC2 : codeAt n ts k = if T = L + 1 then 1 else if T = S then 0 else T + 2 := by rw [HC.out, if_neg hN]
          have HD : Hid (codeAt n ts k = if T = L + 1 then 1 else if T = S then 0 else T + 2) := HC2
          clear HC2
          have hN2 : L + 1 < n := by omega
          by_cases e1 : T = L + 1
          · have b1 : (T == L + 1) = true := by simpa using e1
            have e2 := True.intro
            have H1 : Hid (codeAt n ts k = 1) := HD.out.trans (if_pos e1)
            clear HC e1 e2 hN
            go_wp2_with (at_builtin; refine wpList_append_own _ rfl (.tmp 64) (.tmp 66) 36 rfl (w.heap.size + 1) 3 i0 (.int .i64 0) 1 8 Yba.underlying36 hi hz0 hz1 hz2 rfl (by decide) _ (k + 1) (hist ts (k + 1)) rfl (OWN2.out (1)) ⟨wr.heap.size, 0, none⟩ 1 1 [.int .i64 T] rfl rfl ?d1 ?d2 ?d3 ?d4 ?d5 ?d6)
            case d1 => exact fun j u hj => new_cells _ _ 3 _ (by simp) j u hj
            case d2 => exact fun u hu => by simp at hu; subst hu; rfl
            case d3 => unfold maxLen; omega
            case d4 => omega
            case d5 => simp; omega
            case d6 =>
              intro v' w2 ho hgr _
              have R := FIN.out (1) v' w2 H1.out.symm ho hgr
              clear ho hgr OWN2 FIN
              go_wp2
              go_roundw
              case rel => exact R
              case measure => simp [intOf]; omega
          · have b1 : (T == L + 1) = false := by simpa using e1
            by_cases e2 : T = S
            · have b2 : (T == S) = true := by simpa using e2
              have H1 : Hid (codeAt n ts k = 0) := HD.out.trans ((if_neg e1).trans (if_pos e2))
              clear HC e1 e2 hN
              go_wp2_with (at_builtin; refine wpList_append_own _ rfl (.tmp 64) (.tmp 66) 36 rfl (w.heap.size + 1) 3 i0 (.int .i64 0) 1 8 Yba.underlying36 hi hz0 hz1 hz2 rfl (by decide) _ (k + 1) (hist ts (k + 1)) rfl (OWN2.out (0)) ⟨wr.heap.size, 0, none⟩ 1 1 [.int .i64 T] rfl rfl ?d1 ?d2 ?d3 ?d4 ?d5 ?d6)
              case d1 => exact fun j u hj => new_cells _ _ 3 _ (by simp) j u hj
              case d2 => exact fun u hu => by simp at hu; subst hu; rfl
              case d3 => unfold maxLen; omega
              case d4 => omega
              case d5 => simp; omega
              case d6 =>
                intro v' w2 ho hgr _
                have R := FIN.out (0) v' w2 H1.out.symm ho hgr
                clear ho hgr OWN2 FIN
                go_wp2
                go_roundw
                case rel => exact R
                case measure => simp [intOf]; omega
            · have b2 : (T == S) = false := by simpa using e2
              have H1 : Hid (codeAt n ts k = T + 2) := HD.out.trans ((if_neg e1).trans (if_neg e2))
              clear HC e1 e2 hN
              go_wp2_with (at_builtin; refine wpList_append_own _ rfl (.tmp 64) (.tmp 66) 36 rfl (w.heap.size + 1) 3 i0 (.int .i64 0) 1 8 Yba.underlying36 hi hz0 hz1 hz2 rfl (by decide) _ (k + 1) (hist ts (k + 1)) rfl (OWN2.out (T + 2)) ⟨wr.heap.size, 0, none⟩ 1 1 [.int .i64 T] rfl rfl ?d1 ?d2 ?d3 ?d4 ?d5 ?d6)
              case d1 => exact fun j u hj => new_cells _ _ 3 _ (by simp) j u hj
              case d2 => exact fun u hu => by simp at hu; subst hu; rfl
              case d3 => unfold maxLen; omega
              case d4 => omega
              case d5 => simp; omega
              case d6 =>
                intro v' w2 ho hgr _
                have R := FIN.out (T + 2) v' w2 H1.out.symm ho hgr
                clear ho hgr OWN2 FIN
                go_wp2
                go_roundw
                case rel => exact R
                case measure => simp [intOf]; omega
      · go_wp2
        go_ret
        refine ⟨rfl, hrow.congr fun j hj => ?_, hbel⟩
        rw [if_pos (by omega)]
end Go.Proofs.Ybulkauuw
