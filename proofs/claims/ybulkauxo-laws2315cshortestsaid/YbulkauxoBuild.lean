import Derived.Test.YbulkauxoRes
import Derived.Lib.JoinLaws
import Derived.Deep.DeepCutAuto
namespace Go.Proofs.Ybulkauxo
open Go.RowKit

/-- The cells of a slice of small numbers that came in. -/
def NumsAt (k : IntKind) (w : World) (a : Option Addr) (n : Nat) (vs : Nat → Nat) : Prop := 0 < n → ∃ b o, a = some ⟨b, o, none⟩ ∧ b < w.heap.size ∧ ∀ i, i < n → w.cell? ⟨b, o + i, none⟩ = some (.int k (vs i : Int))

def o1 (k s : Nat) : List Nat := if s < k then [s + 1] else []
theorem o1_succ (k : Nat) : (fun x => if x = k then o1 k k ++ [k + 1] else o1 k x) = o1 (k + 1) := by
  funext x
  unfold o1
  by_cases e : x = k
  · subst e
    simp
  · rw [if_neg e]
    by_cases h : x < k
    · rw [if_pos h, if_pos (by omega)]
    · rw [if_neg h, if_neg (by omega)]

set_option maxRecDepth 100000 in
set_option maxHeartbeats 4000000 in
theorem model_any (a0 a1 : Option Addr) (n c0 k c1 : Nat) (vs e : Nat → Nat) (w : World) (hn : n ≤ 1024) (hn0 : 0 < n) (hk : k ≤ 1024) (hv : NumsAt .u8 w a0 n vs) (he : NumsAt .u16 w a1 k e) (hvb : ∀ i, i < n → vs i < 256) (heb : ∀ i, i < k → e i < 65536) :
    Calls Yba.prog 4 #[.slice a0 n c0, .slice a1 k c1] w fun en w' => ∃ M ob oa oc, en = .returned (.tuple #[.pointer (some ⟨M, 0, none⟩), .slice (some ⟨ob, 0, none⟩) n n]) ∧ ModelAt w' M n vs (outL n e k) ∧ OutS w.heap.size w' ob n (outL n e k) oa oc ∧ Below w.heap.size w w' := by
  obtain ⟨i1, hi1, hy0, hy1, hy2⟩ := info_parts Yba.info21
  have hmk := make_any 25 34 (.slice none 0 0) 1 24 Yba.underlying25 Yba.info34 n (by omega) (by omega)
  go_enter Yba.func4, Yba.ntmps4
  go_wp2_with fail
  have HST : Hid (∃ oa oc, OutS w.heap.size (w.alloc (.cells (madeCells #[.slice none 0 0] n) 34)) w.heap.size n (o1 0) oa oc) := by
    refine ⟨fun _ => none, fun _ => 0, ?_, fun s hs => World.ownsRow_nil _ _ _ _, fun s s' _ _ _ j hj => by simp at hj, Nat.le_refl _, fun _ _ _ => rfl⟩
    refine (made_row w 34 #[.slice none 0 0] n (by decide)).congr fun p _ => ?_
    have hz : p % #[Value.slice none 0 0].size = 0 := by
      show p % 1 = 0
      omega
    rw [hz]
    rfl
  clear hmk
  go_loopw [8] (fun j wr => ∃ s : Nat, s < n ∧ j = .int .i64 s ∧ (∃ oa oc, OutS w.heap.size wr w.heap.size n (o1 s) oa oc) ∧ Below w.heap.size w wr) (fun j _ => n - (intOf j).toNat)
  case atStart => exact ⟨0, hn0, rfl, HST.out, (Below.refl _ _).alloc (Nat.le_refl _) _⟩
  case round =>
    obtain ⟨s, hs, rfl, ⟨oa, oc, hO⟩, hbel⟩ := hrel
    have HO : Hid (OutS w.heap.size wr w.heap.size n (o1 s) oa oc) := hO
    have cs := hO.row.cell hs
    have fs := hO.row.frozen s
    have hobl := hO.row.lt
    have hsz := hbel.size
    by_cases hlt : s + 1 < n
    · have e0 : o1 s s = [] := if_neg (by omega)
      rw [e0] at cs
      have hown : ∀ o, (wr.alloc o).ownsRow w.heap.size 21 1 (.slice (oa s) 0 (oc s)) 0 [] := fun o => by
        have := (hO.own s hs).alloc o
        rw [e0] at this
        exact this
      have nob : Value.ownBlock (.slice (oa s) 0 (oc s)) ≠ some w.heap.size := by
        obtain ⟨cc, h1, _⟩ := hO.row
        have := own_ne (hO.own s hs) h1 (by decide)
        rw [e0] at this
        exact this
      have NOB : Hid _ := nob
      clear hO nob
      go_wp2_with (at_builtin; go_must (refine wpList_append_lies _ rfl (.tmp 32) (.tmp 36) 34 rfl w.heap.size 21 i1 (.int .i32 0) 1 4 Yba.underlying34 hi1 hy0 hy1 hy2 rfl (by decide) (.slice (oa s) 0 (oc s)) 0 [] rfl (hown _) ⟨wr.heap.size, 0, none⟩ 1 1 [.int .i32 ((s : Int) + 1)] rfl rfl ?d1 ?d2 ?d3 ?d4 ?d5 ?d6 (wr.heap.size + 1) ?d7 ?d8))
      case d1 => exact fun j u hj => new_cells _ _ 21 _ (by simp) j u hj
      case d2 => exact fun u hu => by simp at hu; subst hu; rfl
      case d3 => omega
      case d4 => unfold maxLen; omega
      case d5 => omega
      case d6 => simp; omega
      case d7 => simp
      case d8 =>
        intro g cap w4 ho4 hg4 hat hlt4
        have hob4 : w4.heap[w.heap.size]? = wr.heap[w.heap.size]? := (hg4.block w.heap.size (by simp; omega) (fun e => NOB.out e.symm)).trans (Below.heap_alloc _ _ _ hobl)
        have cs4 : w4.cell? ⟨w.heap.size, s, none⟩ = some (.slice (oa s) 0 (oc s)) := (World.cell?_of_block (w := wr) (a := ⟨w.heap.size, s, none⟩) hob4).trans cs
        have fs4 : w4.frozen? ⟨w.heap.size, s, none⟩ = false := (World.frozen?_of_block (w := wr) (a := ⟨w.heap.size, s, none⟩) hob4).trans fs
        have HX : Hid (∃ oa' oc', OutS w.heap.size (w4.setCell ⟨w.heap.size, s, none⟩ (.slice (some ⟨g, 0, none⟩) 1 cap)) w.heap.size n (o1 (s + 1)) oa' oc' ∧ Below w.heap.size w (w4.setCell ⟨w.heap.size, s, none⟩ (.slice (some ⟨g, 0, none⟩) 1 cap))) := by
          have h1 := out_step (u := s + 1) (w1 := wr.alloc (.cells #[.int .i32 ((s : Int) + 1)] 21)) (w4 := w4) (g := g) (cap := cap) HO.out hs ((Fr.refl (fun _ => False) wr).alloc _) (by rw [e0]; exact ho4) (by rw [e0]; exact hg4) (by rw [e0]; exact hat.elim .inl (fun h => .inr (by omega)))
          rw [o1_succ, e0] at h1
          obtain ⟨oa', oc', h2, h3⟩ := h1
          refine ⟨oa', oc', h2, hbel.trans (h3.below hsz (fun j hj => ?_))⟩
          rcases hj with rfl | hj
          · exact Nat.le_refl _
          · exact (own_lt (HO.out.own s hs) (by rw [ob']; exact hj)).1
        clear ho4 hg4 hat hown hob4 cs fs
        go_wp2_with fail
        go_roundw
        case rel =>
          obtain ⟨oa', oc', h2, h3⟩ := HX.out
          exact ⟨s + 1, by omega, by go_num, ⟨oa', oc', h2⟩, h3⟩
        case measure => simp [intOf]; omega
    · obtain ⟨wo, rfl⟩ : ∃ wo, wo = wr := ⟨_, rfl⟩
      have HO0 : Hid (∃ oa oc, OutS w.heap.size wo w.heap.size n (outL n e 0) oa oc) := by
        have he : ∀ x, x < n → o1 s x = outL n e 0 x := fun x hx => by
          unfold o1 outL
          by_cases h : x < s
          · rw [if_pos h, if_pos (by omega)]; rfl
          · rw [if_neg h, if_neg (by omega)]; rfl
        refine ⟨oa, oc, hO.row.congr (fun x hx => by rw [he x hx]), fun x hx => by rw [← he x hx]; exact hO.own x hx, hO.dif, hO.ge, fun x hx hl => hO.nil x hx (by rw [he x hx]; exact hl)⟩
      have HB : Hid (Below w.heap.size w wo) := hbel
      clear hO HO cs fs hbel HST
      go_wp2_with fail
      go_loopw [41] (fun j wr => ∃ m : Nat, m ≤ k ∧ j = .int .i64 m ∧ (∃ oa oc, OutS w.heap.size wr w.heap.size n (outL n e m) oa oc) ∧ Below w.heap.size w wr) (fun j _ => k - (intOf j).toNat)
      case atStart => exact ⟨0, Nat.zero_le _, rfl, HO0.out, HB.out⟩
      case round =>
        obtain ⟨m, hm, rfl, ⟨oa, oc, hO⟩, hbel⟩ := hrel
        by_cases hlt2 : m < k
        · obtain ⟨eb, eo, rfl, heb0, hec⟩ := he (by omega)
          have ce := hec m hlt2
          rw [← hbel.cell heb0] at ce
          have hsn : m % n < n := Nat.mod_lt _ hn0
          have cs := hO.row.cell hsn
          have fs := hO.row.frozen (m % n)
          have hobl := hO.row.lt
          have hsz := hbel.size
          have hLl := outL_len n e m (m % n)
          have heb2 := heb m hlt2
          have HO : Hid (OutS w.heap.size wr w.heap.size n (outL n e m) oa oc) := hO
          clear hec hO
          have hmod : ((m : Int) % (n : Int)) = ((m % n : Nat) : Int) := rfl
          go_wp2_with fail
          rw [hmod]
          have HS : Hid (OutS w.heap.size wr w.heap.size n (outL n e m) oa oc ∧ outL n e (m + 1) = fun x => if x = m % n then outL n e m (m % n) ++ [e m % n] else outL n e m x) := ⟨HO.out, by
            funext x
            rw [outL_succ]
            by_cases h : x = m % n
            · rw [if_pos h, if_pos h, h]
            · rw [if_neg h, if_neg h]⟩
          clear hmod HO
          generalize m % n = S at *
          generalize hLS : outL n e m S = LS at *
          have HLS : Hid (outL n e m S = LS) := hLS
          clear hLS
          have hown : ∀ o, (wr.alloc o).ownsRow w.heap.size 21 1 (.slice (oa S) LS.length (oc S)) LS.length (i32s LS) := fun o => by
            have := (HS.out.1.own S hsn).alloc o
            rw [HLS.out] at this
            exact this
          have hne : ¬ n = 0 := by omega
          have hUl : e m % n < n := Nat.mod_lt _ hn0
          have hw1 : IntKind.i64.wrap (e m : Int) = (e m : Int) := by rw [IntKind.wrap_i64]; omega
          have hw2 : ((e m : Nat) : Int).tmod (n : Int) = ((e m % n : Nat) : Int) := rfl
          generalize e m % n = U at *
          have hw3 : IntKind.i32.wrap (U : Int) = (U : Int) := by rw [IntKind.wrap_i32]; omega
          have K6 : Hid (∀ w6, ((wr.alloc (.cells #[.int .i32 (U : Int)] 21)).drew).grownBy w6 (Value.slice (oa S) LS.length (oc S)).ownBlock → w6.cell? ⟨w.heap.size, S, none⟩ = some (.slice (oa S) LS.length (oc S)) ∧ w6.frozen? ⟨w.heap.size, S, none⟩ = false) := fun w6 hg => by
            obtain ⟨cc, h1, _⟩ := HS.out.1.row
            have nob := own_ne (HS.out.1.own S hsn) h1 (by decide)
            rw [HLS.out] at nob
            have hb : w6.heap[w.heap.size]? = wr.heap[w.heap.size]? := (hg.block w.heap.size (by show w.heap.size < (wr.alloc (.cells #[.int .i32 (U : Int)] 21)).heap.size; simp; omega) (fun e => nob e.symm)).trans (Below.heap_alloc _ _ _ hobl)
            exact ⟨(World.cell?_of_block (w := wr) (a := ⟨w.heap.size, S, none⟩) hb).trans cs, (World.frozen?_of_block (w := wr) (a := ⟨w.heap.size, S, none⟩) hb).trans fs⟩
          have FIN : Hid (∀ g cap w6, w6.ownsRow w.heap.size 21 1 (.slice (some ⟨g, 0, none⟩) (LS.length + 1) cap) (LS.length + 1) (i32s LS ++ [.int .i32 (U : Int)]) → ((wr.alloc (.cells #[.int .i32 (U : Int)] 21)).drew).grownBy w6 (Value.slice (oa S) LS.length (oc S)).ownBlock → ((Value.slice (oa S) LS.length (oc S)).ownBlock = some g ∨ g = wr.heap.size + 1) →
              (∃ oa' oc', OutS w.heap.size (w6.setCell ⟨w.heap.size, S, none⟩ (.slice (some ⟨g, 0, none⟩) (LS.length + 1) cap)) w.heap.size n (outL n e (m + 1)) oa' oc') ∧ Below w.heap.size w (w6.setCell ⟨w.heap.size, S, none⟩ (.slice (some ⟨g, 0, none⟩) (LS.length + 1) cap))) := fun g cap w6 ho hg hat => by
            have h1 := out_step (u := U) (w1 := (wr.alloc (.cells #[.int .i32 (U : Int)] 21)).drew) (w4 := w6) (g := g) (cap := cap) HS.out.1 hsn (((Fr.refl (fun _ => False) wr).alloc _).drew) (by rw [HLS.out]; exact ho) (by rw [HLS.out]; exact hg) (by rw [HLS.out]; exact hat.elim .inl (fun h => .inr (by omega)))
            rw [HLS.out] at h1
            obtain ⟨oa', oc', h2, h3⟩ := h1
            refine ⟨⟨oa', oc', by rw [HS.out.2]; exact h2⟩, hbel.trans (h3.below hsz (fun j hj => ?_))⟩
            rcases hj with rfl | hj
            · exact Nat.le_refl _
            · exact (own_lt (HS.out.1.own S hsn) (by rw [ob']; exact hj)).1
          have hl32 := i32s_len LS
          go_region_law (first
            | (refine step_append_lies _ (by rfl) (.tmp 54) (.tmp 60) 34 (by rfl) w.heap.size 21 i1 (.int .i32 0) 1 4 Yba.underlying34 hi1 hy0 hy1 hy2 rfl (by omega) (.slice (oa S) LS.length (oc S)) LS.length (i32s LS) (by rfl) (hown _) ⟨wr.heap.size, 0, none⟩ 1 1 [.int .i32 (U : Int)] (by rfl) (by rfl) (World.news_of_block (cs := #[.int .i32 (U : Int)]) (t := 21) (fr := (0, 0)) (heap_alloc_new wr _)) (by simp [Value.oneCell']) (by omega) (by unfold maxLen; omega) (by omega) (show w.heap.size ≤ (wr.alloc (.cells #[.int .i32 (U : Int)] 21)).heap.size by simp; omega) (wr.heap.size + 1) (show (wr.alloc (.cells #[.int .i32 (U : Int)] 21)).heap.size = wr.heap.size + 1 by simp) ?_; intro g4 cap4 w6 ho6 hg6 hat6 hlt6; have q6 := K6.out w6 hg6)
            | fail)
          all_goals (have HF := FIN.out g4 cap4 w6 ho6 hg6 hat6)
          all_goals (have HFF : Hid _ := HF)
          all_goals clear HF ho6 hg6 hat6 hown
          all_goals go_wp2_with fail
          all_goals go_roundw
          all_goals first
            | exact ⟨m + 1, by omega, by go_num, HFF.out.1, HFF.out.2⟩
            | (simp [intOf]; omega)
        · obtain rfl : m = k := by omega
          obtain ⟨wp, rfl⟩ : ∃ wp, wp = wr := ⟨_, rfl⟩
          have HO : Hid (OutS w.heap.size wp w.heap.size n (outL n e m) oa oc) := hO
          have HBE : Hid (Below w.heap.size w wp) := hbel
          have hmA : ∀ W : World, (Instr.makeSlice 34 (.int .i64 ((n : Int) + 1)) (.int .i64 ((n : Int) + 1))).run Yba.prog W = .ok (.slice (some ⟨W.heap.size, 0, none⟩) (n + 1) (n + 1)) (W.alloc (.cells (madeCells #[.int .i32 0] (n + 1)) 21)) := fun W => run_make_row' 34 21 (.int .i32 0) 4 Yba.underlying34 Yba.info21 rfl .i64 .i64 (n + 1) (by omega) (by omega) W
          have hmM : ∀ W : World, (Instr.makeSlice 34 (.int .i64 0) (.int .i64 ((n : Int) + 1))).run Yba.prog W = .ok (.slice (some ⟨W.heap.size, 0, none⟩) 0 (n + 1)) (W.alloc (.cells (madeCells #[.int .i32 0] (n + 1)) 21)) := fun W => run_make_room 34 21 (.int .i32 0) 4 Yba.underlying34 Yba.info21 rfl .i64 .i64 (n + 1) (by omega) (by omega) W
          have hmX := run_make_row' (P := Yba.prog) 34 21 (.int .i32 0) 4 Yba.underlying34 Yba.info21 rfl .i64 .i64 n (by omega) (by omega)
          have hmR := make_any 44 53 (.agg #[.int .i64 0, .bool false]) 2 16 Yba.underlying44 Yba.info53 n (by omega) (by omega)
          have hmQ := run_make_row' (P := Yba.prog) 45 29 (.slice none 0 0) 24 Yba.underlying45 Yba.info29 rfl .i64 .i64 n (by omega) (by omega)
          have hmd : (madeCells #[Value.int IntKind.i32 0] (n + 1))[0]? = some (.int .i32 0) := by simp [madeCells]
          clear hO hbel he HO0 HB
          go_wp2_with fail
          clear hmA hmM hmX hmR hmQ hmd
          generalize hW0 : (((((((wp.alloc (.cells #[.slice (some ⟨wp.heap.size + 1, 0, none⟩) (n + 1) (n + 1), .slice (some ⟨wp.heap.size + 1 + 1, 0, none⟩) 1 (n + 1), .slice none 0 0, .slice none 0 0, .slice (some ⟨wp.heap.size + 1 + 1 + 1 + 1, 0, none⟩) n n, .slice none 0 0, .slice none 0 0, .slice none 0 0, .int .i64 0, .bool false, .slice none 0 0, .slice none 0 0, .slice none 0 0, .slice none 0 0,
            .slice (some ⟨wp.heap.size + 1 + 1 + 1 + 1 + 1, 0, none⟩) 1 1, .slice (some ⟨wp.heap.size + 1 + 1 + 1 + 1 + 1 + 1, 0, none⟩) n n, .slice (some ⟨wp.heap.size + 1 + 1 + 1 + 1 + 1 + 1 + 1, 0, none⟩) n n, .bool false, .float .f64 0, .bool false, .int .i64 0] 48)).alloc
            (.cells (madeCells #[.int .i32 0] (n + 1)) 21)).alloc (.cells ((madeCells #[.int .i32 0] (n + 1)).setIfInBounds 0 (.int .i32 0)) 21)).alloc (.cells #[.int .i32 0] 21)).alloc (.cells (madeCells #[.int .i32 0] n) 21)).alloc (.cells #[.int .i32 0] 21)).alloc (.cells (madeCells #[.int .i64 0, .bool false] (n * 2)) 53)).alloc (.cells (madeCells #[.slice none 0 0] n) 29) = W0
          have HBS : Hid (BS w wp.heap.size n vs (outL n e m) oa oc 0 0 0 0 0 0 ⟨wp.heap.size + 1 + 1, n + 1, none, 0, none, 0, none, 0, none, 0, 0, fun _ => none, fun _ => 0⟩ W0) := bs_start hn HO.out HBE.out hW0.symm
          clear hW0 HO HBE
          generalize wp.heap.size = H at *
          go_loopw [13, 14] (fun kv j wr => ∃ (x : Nat) (D : BD), x ≤ n ∧ j = .int .i64 x ∧ kv = .slice D.ka D.kn D.kc ∧ BS w H n vs (outL n e m) oa oc x x x x x x D wr) (fun _ j _ => n - (intOf j).toNat)
          case atStart => exact ⟨0, _, Nat.zero_le _, rfl, rfl, HBS.out⟩
          case round =>
            obtain ⟨x, D, hx, rfl, rfl, hBS⟩ := hrel
            by_cases hlt3 : x < n
            · have ca := hBS.act.cell (show x + 1 < n + 1 by omega)
              have fa := hBS.act.frozen (x + 1)
              have c0' : wr.cell? ⟨H, 0, none⟩ = some (.slice (some ⟨H + 1, 0, none⟩) (n + 1) (n + 1)) := hBS.mrow.cell (show 0 < 21 by omega)
              have hHl := hBS.mrow.lt
              have HB1 : Hid (BS w H n vs (outL n e m) oa oc (x + 1) x x x x x D (wr.setCell ⟨H + 1, x + 1, none⟩ (.int .i32 ((x : Int) + 1)))) := hBS.set_act
              clear hBS HBS
              go_upto_region 26 with fail
              generalize wr.setCell ⟨H + 1, x + 1, none⟩ (.int .i32 ((x : Int) + 1)) = wA at *
              have hps0 : psum (outL n e m) (x + 1) ≤ 2048 := Nat.le_trans (psum_outL n e (x + 1) m) (by omega)
              go_cut [] (fun wx => ∃ ta tc, BS w H n vs (outL n e m) oa oc (x + 1) (x + 1) x x x x { D with ta := ta, tc := tc } wx)
              case first =>
                have d2 : wA.cell? ⟨H, 2, none⟩ = some (.slice D.ta (psum (outL n e m) x) D.tc) := HB1.out.mrow.cell (show 2 < 21 by omega)
                have f2 := HB1.out.mrow.frozen 2
                have do' := HB1.out.out.row.cell hlt3
                have hobA := HB1.out.out.row.lt
                have hHA := HB1.out.mrow.lt
                have hszA := HB1.out.bel.size
                by_cases hem : outL n e m x = []
                · have ho0 := HB1.out.out.nil x hlt3 hem
                  have hoc0 : oc x = 0 := by
                    have := HB1.out.out.own x hlt3
                    rw [ho0] at this
                    rcases this.2 with ⟨h1, _⟩ | ⟨g, cap, cur, h1, _⟩
                    · injection h1
                    · injection h1 with h1; cases h1
                  rw [ho0, hem, hoc0] at do'
                  have HTO : Hid (wA.ownsRow w.heap.size 21 1 (.slice D.ta (psum (outL n e m) x) D.tc) (psum (outL n e m) x) (tl (outL n e m) x)) := HB1.out.to
                  go_region_law (first
                    | (refine step_append_none (by rfl) (.tmp 125) (.tmp 129) 34 (by rfl) w.heap.size 21 i1 1 Yba.underlying34 hi1 (.slice D.ta (psum (outL n e m) x) D.tc) (psum (outL n e m) x) (tl (outL n e m) x) (by rfl) HTO.out (by rfl) ?_)
                    | fail)
                  all_goals go_wp2_with fail
                  all_goals go_meet
                  all_goals (
                    have hB2 : BS w H n vs (outL n e m) oa oc (x + 1) (x + 1) x x x x { D with ta := D.ta, tc := D.tc } (wA.setCell ⟨H, 2, none⟩ (.slice D.ta (psum (outL n e m) (x + 1)) D.tc)) := HB1.out.set_to (by
                      have e1 : psum (outL n e m) (x + 1) = psum (outL n e m) x := by show psum (outL n e m) x + (outL n e m x).length = _; rw [hem]; rfl
                      rw [e1, tl_succ, hem]
                      show wA.ownsRow w.heap.size 21 1 _ _ (tl (outL n e m) x ++ [])
                      rw [List.append_nil]
                      exact HTO.out) (Fr.refl _ _) (fun b hb => .inl hb)
                    have e1 : psum (outL n e m) (x + 1) = psum (outL n e m) x := by show psum (outL n e m) x + (outL n e m x).length = _; rw [hem]; rfl
                    rw [e1] at hB2
                    exact ⟨_, _, hB2.frame ((Fr.refl _ _).drew)⟩)
                · have hLp : 0 < (outL n e m x).length := by
                    cases h : outL n e m x with
                    | nil => exact absurd h hem
                    | cons u l => simp
                  obtain ⟨b3, e3, -, hb3, hc3, hcell⟩ := own_cells (HB1.out.out.own x hlt3) hLp
                  rw [e3] at do'
                  have HNW : Hid (∀ j u, (i32s (outL n e m x))[j]? = some u → wA.cell? ((⟨b3, 0, none⟩ : Addr).add j) = some u) := news_at (fun j u hj => by
                    have hjl := (List.getElem?_eq_some_iff.1 hj).1
                    rw [i32s_len] at hjl
                    rw [hcell j (by omega), hj])
                  have HN1 : Hid (∀ u ∈ i32s (outL n e m x), u.oneCell' = true) := fun u hu => by
                    obtain ⟨y, _, rfl⟩ := List.mem_map.1 hu
                    rfl
                  have HTO : Hid (wA.ownsRow w.heap.size 21 1 (.slice D.ta (psum (outL n e m) x) D.tc) (psum (outL n e m) x) (tl (outL n e m) x)) := HB1.out.to
                  have K6 : Hid (∀ w6, (wA.drew).grownBy w6 (Value.slice D.ta (psum (outL n e m) x) D.tc).ownBlock → w6.cell? ⟨H, 2, none⟩ = some (.slice D.ta (psum (outL n e m) x) D.tc) ∧ w6.frozen? ⟨H, 2, none⟩ = false) := fun w6 hg => by
                    have nob := own_row_ne HTO.out HB1.out.mrow (by decide)
                    have hb : w6.heap[H]? = wA.heap[H]? := hg.block H hHA (fun e => nob e.symm)
                    exact ⟨(World.cell?_of_block (w := wA) (a := ⟨H, 2, none⟩) hb).trans d2, (World.frozen?_of_block (w := wA) (a := ⟨H, 2, none⟩) hb).trans f2⟩
                  have FIN : Hid (∀ g cap w6, w6.ownsRow w.heap.size 21 1 (.slice (some ⟨g, 0, none⟩) (psum (outL n e m) x + (outL n e m x).length) cap) (psum (outL n e m) x + (outL n e m x).length) (tl (outL n e m) x ++ i32s (outL n e m x)) → (wA.drew).grownBy w6 (Value.slice D.ta (psum (outL n e m) x) D.tc).ownBlock → ((Value.slice D.ta (psum (outL n e m) x) D.tc).ownBlock = some g ∨ g = wA.heap.size) →
                      ∃ ta tc, BS w H n vs (outL n e m) oa oc (x + 1) (x + 1) x x x x { D with ta := ta, tc := tc } (w6.setCell ⟨H, 2, none⟩ (.slice (some ⟨g, 0, none⟩) (psum (outL n e m) x + (outL n e m x).length) cap))) := fun g cap w6 ho hg hat => by
                    rw [ob'] at hg hat
                    rw [← tl_succ] at ho
                    refine ⟨some ⟨g, 0, none⟩, cap, HB1.out.set_to ho (((Fr.refl _ wA).drew).grown hg (fun k _ e => e)) (fun b hb => ?_)⟩
                    have hb' : g = b := by simpa using hb
                    subst hb'
                    exact hat.elim .inl (fun h => .inr (by omega))
                  have hl32 := i32s_len (outL n e m x)
                  have hps1 : psum (outL n e m) x + (outL n e m x).length ≤ 2048 := hps0
                  go_region_law (first
                    | (refine step_append_lies _ (by rfl) (.tmp 125) (.tmp 129) 34 (by rfl) w.heap.size 21 i1 (.int .i32 0) 1 4 Yba.underlying34 hi1 hy0 hy1 hy2 rfl (by omega) (.slice D.ta (psum (outL n e m) x) D.tc) (psum (outL n e m) x) (tl (outL n e m) x) (by rfl) HTO.out ⟨b3, 0, none⟩ (outL n e m x).length (oc x) (i32s (outL n e m x)) (by rfl) (by omega) HNW.out HN1.out hLp (by unfold maxLen; omega) (by omega) hszA wA.heap.size (by rfl) ?_; intro g4 cap4 w6 ho6 hg6 hat6 hlt6; have q6 := K6.out w6 hg6)
                    | fail)
                  all_goals (have HF : Hid _ := FIN.out g4 cap4 w6 ho6 hg6 hat6)
                  all_goals clear ho6 hg6 hat6
                  all_goals go_wp2_with fail
                  all_goals go_meet
                  all_goals exact HF.out
              case rest =>
              obtain ⟨ta', tc', hB2⟩ := hcut
              have HB2 : Hid (BS w H n vs (outL n e m) oa oc (x + 1) (x + 1) x x x x { D with ta := ta', tc := tc' } wc) := hB2
              clear hB2 HB1 ca fa c0' hHl
              go_upto_region 27 with fail
              go_cut [] (fun wx => ∃ ta tc ma mc, BS w H n vs (outL n e m) oa oc (x + 1) (x + 1) (x + 1) x x x { D with ta := ta, tc := tc, ma := ma, mc := mc } wx)
              case first =>
                have d1 : wc.cell? ⟨H, 1, none⟩ = some (.slice (some ⟨D.ma, 0, none⟩) (x + 1) D.mc) := HB2.out.mrow.cell (show 1 < 21 by omega)
                have f1 := HB2.out.mrow.frozen 1
                have d2 : wc.cell? ⟨H, 2, none⟩ = some (.slice ta' (psum (outL n e m) (x + 1)) tc') := HB2.out.mrow.cell (show 2 < 21 by omega)
                have hHA := HB2.out.mrow.lt
                have hszA := HB2.out.bel.size
                have HMO : Hid (wc.ownsRow w.heap.size 21 1 (.slice (some ⟨D.ma, 0, none⟩) (x + 1) D.mc) (x + 1) (pl (outL n e m) x)) := HB2.out.mov
                have hown : ∀ o, (wc.alloc o).ownsRow w.heap.size 21 1 (.slice (some ⟨D.ma, 0, none⟩) (x + 1) D.mc) (x + 1) (pl (outL n e m) x) := fun o => HMO.out.alloc o
                have FIN : Hid (∀ g cap w6, w6.ownsRow w.heap.size 21 1 (.slice (some ⟨g, 0, none⟩) (x + 1 + 1) cap) (x + 1 + 1) (pl (outL n e m) x ++ [.int .i32 (psum (outL n e m) (x + 1) : Int)]) → ((wc.alloc (.cells #[.int .i32 (psum (outL n e m) (x + 1) : Int)] 21)).drew).grownBy w6 (Value.slice (some ⟨D.ma, 0, none⟩) (x + 1) D.mc).ownBlock → ((Value.slice (some ⟨D.ma, 0, none⟩) (x + 1) D.mc).ownBlock = some g ∨ g = wc.heap.size + 1) →
                    ∃ ta tc ma mc, BS w H n vs (outL n e m) oa oc (x + 1) (x + 1) (x + 1) x x x { D with ta := ta, tc := tc, ma := ma, mc := mc } (w6.setCell ⟨H, 1, none⟩ (.slice (some ⟨g, 0, none⟩) (x + 1 + 1) cap))) := fun g cap w6 ho hg hat => by
                  rw [← pl_succ] at ho
                  refine ⟨ta', tc', g, cap, HB2.out.set_mov ho ((((Fr.refl _ wc).alloc _).drew).grown hg (fun k _ e => ?_)) ?_⟩
                  · have e' : D.ma = k := by simpa [Value.ownBlock] using e
                    exact e'.symm
                  · rcases hat with h | h
                    · have h' : D.ma = g := by simpa [Value.ownBlock] using h
                      exact .inl h'.symm
                    · exact .inr (by omega)
                generalize psum (outL n e m) (x + 1) = P1 at *
                have hw3 : IntKind.i32.wrap (P1 : Int) = (P1 : Int) := by rw [IntKind.wrap_i32]; omega
                have K6 : Hid (∀ w6, ((wc.alloc (.cells #[.int .i32 (P1 : Int)] 21)).drew).grownBy w6 (Value.slice (some ⟨D.ma, 0, none⟩) (x + 1) D.mc).ownBlock → w6.cell? ⟨H, 1, none⟩ = some (.slice (some ⟨D.ma, 0, none⟩) (x + 1) D.mc) ∧ w6.frozen? ⟨H, 1, none⟩ = false) := fun w6 hg => by
                  have nob := own_row_ne HMO.out HB2.out.mrow (by decide)
                  have hb : w6.heap[H]? = wc.heap[H]? := (hg.block H (by show H < (wc.alloc (.cells #[.int .i32 (P1 : Int)] 21)).heap.size; simp; omega) (fun e => nob e.symm)).trans (Below.heap_alloc _ _ _ hHA)
                  exact ⟨(World.cell?_of_block (w := wc) (a := ⟨H, 1, none⟩) hb).trans d1, (World.frozen?_of_block (w := wc) (a := ⟨H, 1, none⟩) hb).trans f1⟩
                go_region_law (first
                  | (refine step_append_lies _ (by rfl) (.tmp 137) (.tmp 144) 34 (by rfl) w.heap.size 21 i1 (.int .i32 0) 1 4 Yba.underlying34 hi1 hy0 hy1 hy2 rfl (by omega) (.slice (some ⟨D.ma, 0, none⟩) (x + 1) D.mc) (x + 1) (pl (outL n e m) x) (by rfl) (hown _) ⟨wc.heap.size, 0, none⟩ 1 1 [.int .i32 (P1 : Int)] (by rfl) (by rfl) (World.news_of_block (cs := #[.int .i32 (P1 : Int)]) (t := 21) (fr := (0, 0)) (heap_alloc_new wc _)) (by simp [Value.oneCell']) (by omega) (by unfold maxLen; omega) (by omega) (show w.heap.size ≤ (wc.alloc (.cells #[.int .i32 (P1 : Int)] 21)).heap.size by simp; omega) (wc.heap.size + 1) (show (wc.alloc (.cells #[.int .i32 (P1 : Int)] 21)).heap.size = wc.heap.size + 1 by simp) ?_; intro g4 cap4 w6 ho6 hg6 hat6 hlt6; have q6 := K6.out w6 hg6)
                  | fail)
                all_goals (have HF : Hid _ := FIN.out g4 cap4 w6 ho6 hg6 hat6)
                all_goals clear ho6 hg6 hat6
                all_goals go_wp2_with fail
                all_goals go_meet
                all_goals exact HF.out
              case rest =>
              obtain ⟨ta2, tc2, ma2, mc2, hB3⟩ := hcut
              obtain ⟨D3, hka, hkn, hkc, hB4⟩ : ∃ D3 : BD, D3.ka = D.ka ∧ D3.kn = D.kn ∧ D3.kc = D.kc ∧ BS w H n vs (outL n e m) oa oc (x + 1) (x + 1) (x + 1) x x x D3 wc := ⟨{ D with ta := ta2, tc := tc2, ma := ma2, mc := mc2 }, rfl, rfl, rfl, hB3⟩
              rw [← hka, ← hkn, ← hkc]
              clear hka hkn hkc hB3 HB2
              have HB3 : Hid (BS w H n vs (outL n e m) oa oc (x + 1) (x + 1) (x + 1) x x x D3 wc) := hB4
              clear hB4
              have HKC : Hid (∃ xs, wc.ownsRow w.heap.size 5 1 (.slice D3.ka D3.kn D3.kc) D3.kn xs) := HB3.out.key
              have hszc := HB3.out.bel.size
              have CU : Hid (Calls Yba.prog 8 #[.slice D3.ka 0 D3.kc, .int .u64 ((x : Int) + 1)] wc fun e w' => ∃ g c', e = .returned (.slice (some ⟨g, 0, none⟩) (ubytes (x + 1)).length c') ∧ w'.ownsRow w.heap.size 5 1 (.slice (some ⟨g, 0, none⟩) (ubytes (x + 1)).length c') (ubytes (x + 1)).length (ubytes (x + 1)) ∧
                  Kin wc.heap.size (.slice D3.ka 0 D3.kc) (.slice (some ⟨g, 0, none⟩) (ubytes (x + 1)).length c') ∧ Fr (fun k => Value.ownBlock (.slice D3.ka 0 D3.kc) = some k) wc w') := by
                obtain ⟨xs, hk⟩ := HKC.out
                exact uv w.heap.size (x + 1) D3.ka D3.kc wc (by omega) hszc (own_cut hk)
              go_upto_region 29 with (go_at_call 8; refine Calls.mono CU.out ?_; rintro e1 w1 ⟨g, kc', rfl, ho1, hk1, hf1⟩)
              obtain ⟨D4, hka, hkn, hkc, hB4⟩ : ∃ D4 : BD, D4.ka = some ⟨g, 0, none⟩ ∧ D4.kn = (ubytes (x + 1)).length ∧ D4.kc = kc' ∧ BS w H n vs (outL n e m) oa oc (x + 1) (x + 1) (x + 1) x x x D4 w1 := by
                refine ⟨{ D3 with ka := some ⟨g, 0, none⟩, kn := (ubytes (x + 1)).length, kc := kc' }, rfl, rfl, rfl, HB3.out.set_key ho1 (hf1.mono (fun k _ e => by rw [ob'] at e; exact e)) (fun b hb => ?_)⟩
                have hb' : g = b := by simpa using hb
                subst hb'
                rcases hk1 with h | ⟨g', h, hl⟩
                · rw [ob', ob'] at h
                  exact .inl (by rw [← h]; rfl)
                · have h' : g = g' := by simpa [Value.ownBlock] using h
                  exact .inr (by omega)
              have HB4 : Hid (BS w H n vs (outL n e m) oa oc (x + 1) (x + 1) (x + 1) x x x D4 w1) := hB4
              have hul : 0 < (ubytes (x + 1)).length := by
                unfold ubytes
                split <;> simp
              have CA : Hid (Calls Yba.prog 9 #[.pointer (some ⟨H, 12, none⟩), .slice (some ⟨g, 0, none⟩) (ubytes (x + 1)).length kc'] w1 fun en w' => en = .returned (.tuple #[]) ∧ ∃ D5, BS w H n vs (outL n e m) oa oc (x + 1) (x + 1) (x + 1) (x + 1) x x D5 w' ∧ D5.ka = some ⟨g, 0, none⟩ ∧ D5.kn = (ubytes (x + 1)).length ∧ D5.kc = kc') := by
                have hke := kend_succ x
                have hkb : kend (x + 1) ≤ 4096 := by unfold kend; omega
                obtain ⟨g', e1, -, -, -, hcell⟩ := own_cells ho1 hul
                have e1' : g = g' := by simpa using e1
                subst e1'
                refine (add_any w.heap.size H g (ubytes (x + 1)).length kc' (kend x) D4.bc x D4.ec (mf H n (outL n e m) (x + 1) (x + 1) x D4) D4.ba D4.ea (bl x) (el x) (ubytes (x + 1)) w1 hB4.mrow rfl rfl hB4.byt hB4.ends rfl hul (fun j u hj => ?_) (fun u hu => ?_) (by omega) (by omega) hB4.bel.size).mono ?_
                · have := (List.getElem?_eq_some_iff.1 hj).1
                  rw [hcell j (by omega), hj]
                · unfold ubytes at hu
                  split at hu
                  · simp at hu; subst hu; rfl
                  · simp at hu
                    rcases hu with rfl | rfl <;> rfl
                · rintro en w' ⟨rfl, b1, c1, e1, c2, hm1, ho1, ho2, kb, ke, hf⟩
                  rw [hke] at hm1 ho1 ho2 kb
                  rw [← bl_succ] at ho1
                  rw [← el_succ] at ho2
                  have kin : ∀ {A : Option Addr} {N C G N' C' : Nat}, Kin w1.heap.size (.slice A N C) (.slice (some ⟨G, 0, none⟩) N' C') → A.map Addr.block = some G ∨ w1.heap.size ≤ G := fun {A N C G N' C'} h => by
                    rcases h with h | ⟨g', h, hl⟩
                    · rw [ob', ob'] at h
                      exact .inl (by rw [← h]; rfl)
                    · have h' : G = g' := by simpa [Value.ownBlock] using h
                      exact .inr (by omega)
                  exact ⟨rfl, _, hB4.set_add hm1 ho1 ho2 (kin kb) (kin ke) (hf.mono (fun k _ e => by rw [ob', ob'] at e; exact e)), hka, hkn, hkc⟩
              clear hB4 HB3 ho1 hk1 hf1 CU HKC hszc
              go_upto_region 30 with (go_at_call 9; refine Calls.mono CA.out ?_; rintro e2 w2 ⟨rfl, D5, hB5, ka5, kn5, kc5⟩)
              clear CA HB4 hka hkn hkc
              rw [← ka5, ← kn5, ← kc5]
              have HB5 : Hid (BS w H n vs (outL n e m) oa oc (x + 1) (x + 1) (x + 1) (x + 1) x x D5 w2) := hB5
              clear ka5 kn5 kc5 hB5
              obtain ⟨vb, vo, rfl, hvb0, hvc⟩ := hv hn0
              have cv : w2.cell? ⟨vb, vo + x, none⟩ = some (.int .u8 (vs x : Int)) := (HB5.out.bel.cell hvb0).trans (hvc x hlt3)
              clear hvc
              have c15 : w2.cell? ⟨H, 15, none⟩ = some (.slice (some ⟨H + 1 + 1 + 1 + 1 + 1 + 1, 0, none⟩) n n) := HB5.out.mrow.cell (show 15 < 21 by omega)
              have c16 : w2.cell? ⟨H, 16, none⟩ = some (.slice (some ⟨H + 1 + 1 + 1 + 1 + 1 + 1 + 1, 0, none⟩) n n) := HB5.out.mrow.cell (show 16 < 21 by omega)
              have cr0 := HB5.out.res.cell (show x * 2 < n * 2 by omega)
              have cr1 := HB5.out.res.cell (show x * 2 + 1 < n * 2 by omega)
              have fr0 := HB5.out.res.frozen (x * 2)
              have fr1 := HB5.out.res.frozen (x * 2 + 1)
              have cq := HB5.out.ret.cell hlt3
              have fq := HB5.out.ret.frozen x
              have hszd := HB5.out.sz
              have e5 : ((vs x : Int).tmod 5) = ((vs x % 5 : Nat) : Int) := rfl
              have e3 : ((vs x : Int).tmod 3) = ((vs x % 3 : Nat) : Int) := rfl
              have l3 : vs x % 3 < 3 := Nat.mod_lt _ (by decide)
              have l5 : vs x % 5 < 5 := Nat.mod_lt _ (by decide)
              have hw3 : IntKind.i64.wrap ((vs x % 3 : Nat) : Int) = ((vs x % 3 : Nat) : Int) := by rw [IntKind.wrap_i64]; omega
              by_cases h5 : vs x % 5 = 0
              · rw [h5] at e5
                have HB6 : Hid (BS w H n vs (outL n e m) oa oc (x + 1) (x + 1) (x + 1) (x + 1) (x + 1) x D5 ((w2.setCell ⟨H + 1 + 1 + 1 + 1 + 1 + 1, x * 2, none⟩ (.int .i64 ((vs x : Int) % 3))).setCell ⟨H + 1 + 1 + 1 + 1 + 1 + 1, x * 2 + 1, none⟩ (.bool false))) := by
                  have := HB5.out.set_res
                  rw [decide_eq_false (by simpa using h5)] at this
                  exact this
                go_upto_region 33 with fail
                generalize (w2.setCell ⟨H + 1 + 1 + 1 + 1 + 1 + 1, x * 2, none⟩ (.int .i64 ((vs x : Int) % 3))).setCell ⟨H + 1 + 1 + 1 + 1 + 1 + 1, x * 2 + 1, none⟩ (.bool false) = w3 at *
                have k16 : w3.cell? ⟨H, 16, none⟩ = some (.slice (some ⟨H + 1 + 1 + 1 + 1 + 1 + 1 + 1, 0, none⟩) n n) := HB6.out.mrow.cell (show 16 < 21 by omega)
                have kq := HB6.out.ret.cell hlt3
                have kf := HB6.out.ret.frozen x
                have kl := HB6.out.ret.lt
                have hszd := HB6.out.sz
                clear c15 c16 cr0 cr1 fr0 fr1 cq fq cv HB5
                go_wp2_with fail
                have e0 : (setOf vs x).length = 0 := by unfold setOf; rw [if_neg (by simpa using h5)]; rfl
                have hB7 := HB6.out.set_ret (A := some ⟨w3.heap.size, 0, none⟩) (c := 0) (((Fr.refl (fun b => b = H + 1 + 1 + 1 + 1 + 1 + 1 + 1) w3).setCell (p := ⟨H + 1 + 1 + 1 + 1 + 1 + 1 + 1, x, none⟩) (fun _ => rfl) (.slice (some ⟨w3.heap.size, 0, none⟩) 0 0)).alloc (.cells #[] 3)) (by rw [e0]; exact (HB6.out.ret.set x _).alloc _) (fun h => absurd h5 h)
                exact ⟨⟨x + 1, { D5 with qa := fun j => if j = x then some ⟨w3.heap.size, 0, none⟩ else D5.qa j, qc := fun j => if j = x then 0 else D5.qc j }, by omega, by go_num, rfl, hB7⟩, by simp [intOf]; omega⟩
              · have h5' : ((vs x : Int) % 5 != 0) = true := by
                  have : ¬ ((vs x : Int) % 5 = 0) := by omega
                  simpa using this
                have HB6 : Hid (BS w H n vs (outL n e m) oa oc (x + 1) (x + 1) (x + 1) (x + 1) (x + 1) x D5 ((w2.setCell ⟨H + 1 + 1 + 1 + 1 + 1 + 1, x * 2, none⟩ (.int .i64 ((vs x : Int) % 3))).setCell ⟨H + 1 + 1 + 1 + 1 + 1 + 1, x * 2 + 1, none⟩ (.bool true))) := by
                  have := HB5.out.set_res
                  rw [decide_eq_true (show vs x % 5 ≠ 0 from h5)] at this
                  exact this
                go_upto_region 33 with fail
                generalize (w2.setCell ⟨H + 1 + 1 + 1 + 1 + 1 + 1, x * 2, none⟩ (.int .i64 ((vs x : Int) % 3))).setCell ⟨H + 1 + 1 + 1 + 1 + 1 + 1, x * 2 + 1, none⟩ (.bool true) = w3 at *
                have k16 : w3.cell? ⟨H, 16, none⟩ = some (.slice (some ⟨H + 1 + 1 + 1 + 1 + 1 + 1 + 1, 0, none⟩) n n) := HB6.out.mrow.cell (show 16 < 21 by omega)
                have kq := HB6.out.ret.cell hlt3
                have kf := HB6.out.ret.frozen x
                have kl := HB6.out.ret.lt
                have hszd := HB6.out.sz
                clear c15 c16 cr0 cr1 fr0 fr1 cq fq cv HB5
                go_wp2_with fail
                have e0 : (setOf vs x).length = 1 := by unfold setOf; rw [if_pos (show vs x % 5 ≠ 0 from h5)]; rfl
                have hB7 := HB6.out.set_ret (A := some ⟨w3.heap.size, 0, none⟩) (c := 1) (((Fr.refl (fun b => b = H + 1 + 1 + 1 + 1 + 1 + 1 + 1) w3).setCell (p := ⟨H + 1 + 1 + 1 + 1 + 1 + 1 + 1, x, none⟩) (fun _ => rfl) (.slice (some ⟨w3.heap.size, 0, none⟩) 1 1)).alloc (.cells #[.int .i64 ((vs x : Int) % 3)] 3)) (by rw [e0]; exact (HB6.out.ret.set x _).alloc _) (fun _ => ⟨w3.heap.size, #[.int .i64 ((vs x : Int) % 3)], rfl, by
                  have := heap_alloc_new (w3.setCell ⟨H + 1 + 1 + 1 + 1 + 1 + 1 + 1, x, none⟩ (.slice (some ⟨w3.heap.size, 0, none⟩) 1 1)) (.cells #[.int .i64 ((vs x : Int) % 3)] 3)
                  simpa [World.setCell] using this, rfl⟩)
                exact ⟨⟨x + 1, { D5 with qa := fun j => if j = x then some ⟨w3.heap.size, 0, none⟩ else D5.qa j, qc := fun j => if j = x then 1 else D5.qc j }, by omega, by go_num, rfl, hB7⟩, by simp [intOf]; omega⟩
            · obtain rfl : x = n := by omega
              have HB : Hid (BS w H x vs (outL x e m) oa oc x x x x x x D wr) := hBS
              clear hBS HBS
              go_wp2_with fail
              go_ret2
              exact ⟨H, w.heap.size, oa, oc, rfl, bs_model hn0 HB.out, HB.out.out, HB.out.bel⟩
end Go.Proofs.Ybulkauxo
