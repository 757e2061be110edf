import Derived.Test.YbulkauxoVisit
namespace Go.Proofs.Ybulkauxo
open Go.RowKit

theorem make_any (t e : TypeId) (z : Value) (size bytes : Nat) (ht : Yba.prog.underlying t = some (.slice e)) (hinfo : (Yba.prog.info? e).map (fun i => (i.zero, i.size, i.bytes)) = some (some z, size, bytes)) (n : Nat) (hb : bytes * n ≤ 281474976710656) (h63 : n ≤ 9223372036854775807) (w : World) :
    (Instr.makeSlice t (.int .i64 (n : Int)) (.int .i64 (n : Int))).run Yba.prog w = .ok (.slice (some ⟨w.heap.size, 0, none⟩) n n) (w.alloc (.cells (madeCells z.cells (n * size)) e)) := by
  obtain ⟨i, hi, h1, h2, h3⟩ := info_parts hinfo
  subst h2
  have hb' : (i.bytes : Int) * (n : Int) ≤ 281474976710656 := by
    have h : ((i.bytes * n : Nat) : Int) ≤ 281474976710656 := by rw [h3]; omega
    rwa [Int.natCast_mul] at h
  have hr := run_make (P := Yba.prog) w t e i z ht hi h1 .i64 .i64 n n (by omega) (Int.le_refl _) hb' (by omega)
  simp only [Int.toNat_natCast] at hr
  exact hr
theorem made_row (w : World) (e : TypeId) (cs : Array Value) (m : Nat) (hc : 0 < cs.size) : (w.alloc (.cells (madeCells cs m) e)).rowIs w.heap.size e m fun p => cs.getD (p % cs.size) undef := by
  have h := World.rowIs_alloc w (madeCells cs m) e (fun p => cs.getD (p % cs.size) undef) (fun p hp => by
    rw [size_madeCells] at hp
    have : p % cs.size < cs.size := Nat.mod_lt _ hc
    simp [madeCells, hp, Array.getD, this])
  rwa [size_madeCells] at h

theorem one_row (w : World) (t : TypeId) (v : Value) : (w.alloc (.cells #[v] t)).rowIs w.heap.size t 1 fun _ => v :=
  World.rowIs_alloc w #[v] t (fun _ => v) fun i hi => by
    have h1 : i < 1 := hi
    obtain rfl : i = 0 := by omega
    rfl

theorem up_len (NL : List Nd) : ∀ f j, (up NL f j).length ≤ f
  | 0, _ => Nat.le_refl _
  | f + 1, j => by
    unfold up
    split
    · simp
    · split
      · simp
      · have := up_len NL f (Int.toNat (Nd.fr ‹_›))
        simp
        omega

/-- The cells of the row of nodes. -/
def NodesAt (w : World) (g : Nat) (NL : List Nd) : Prop := ∀ p d, NL[p]? = some d → w.cell? ⟨g, p * 5, none⟩ = some (.int .i32 (d.st : Int)) ∧ w.cell? ⟨g, p * 5 + 1, none⟩ = some (.int .i32 0) ∧ w.cell? ⟨g, p * 5 + 2, none⟩ = some (.int .i32 d.fr) ∧
  w.cell? ⟨g, p * 5 + 3, none⟩ = some (.int .i32 (d.ac : Int)) ∧ w.cell? ⟨g, p * 5 + 4, none⟩ = some (.int .i32 (d.oc : Int))
theorem nodes_own {w : World} {base g c : Nat} {NL : List Nd} (h : w.ownsRow base 56 5 (.slice (some ⟨g, 0, none⟩) NL.length c) NL.length (nflat NL)) : NodesAt w g NL := by
  intro p d hd
  have hp := (List.getElem?_eq_some_iff.1 hd).1
  obtain ⟨g', e1, _, _, _, hc⟩ := own_cells h (by omega)
  injection e1 with e1
  injection e1 with e1 _ _
  subst e1
  refine ⟨?_, ?_, ?_, ?_, ?_⟩
  · rw [hc _ (by omega), show p * 5 = p * 5 + 0 from rfl, nflat_get NL p 0 d hd (by omega)]; rfl
  · rw [hc _ (by omega), nflat_get NL p 1 d hd (by omega)]; rfl
  · rw [hc _ (by omega), nflat_get NL p 2 d hd (by omega)]; rfl
  · rw [hc _ (by omega), nflat_get NL p 3 d hd (by omega)]; rfl
  · rw [hc _ (by omega), nflat_get NL p 4 d hd (by omega)]; rfl
theorem Below.keep {w w' : World} (hb : Below w.heap.size w w') {a : Addr} {v : Value} (h : w.cell? a = some v) : w'.cell? a = some v := (hb.cell (World.block_lt_of_cell? _ _ h)).trans h
theorem NodesAt.below {w w' : World} {g : Nat} {NL : List Nd} (h : NodesAt w g NL) (hb : Below w.heap.size w w') : NodesAt w' g NL := fun p d hd => by
  obtain ⟨h0, h1, h2, h3, h4⟩ := h p d hd
  exact ⟨Below.keep hb h0, Below.keep hb h1, Below.keep hb h2, Below.keep hb h3, Below.keep hb h4⟩
theorem KeysAt.below {w w' : World} {M n : Nat} (h : KeysAt w M n) (hb : Below w.heap.size w w') : KeysAt w' M n := by
  obtain ⟨kb, eb, kcap, ecap, h1, h2, h3, h4, h5⟩ := h
  have t : ∀ {a : Addr} {v : Value}, w.cell? a = some v → w'.cell? a = some v := Below.keep hb
  exact ⟨kb, eb, kcap, ecap, t h1, t h2, h3, fun s hs => t (h4 s hs), fun s hs => ⟨fun h => t ((h5 s hs).1 h), fun h => ⟨t ((h5 s hs).2 h).1, t ((h5 s hs).2 h).2⟩⟩⟩

/-- The moves of a run. -/
def MovesAt (w : World) (rb : Nat) (ch : List Nd) : Prop := ∀ k d, ch[k]? = some d → w.cell? ⟨rb, k * 3, none⟩ = some (.int .i64 0) ∧ w.cell? ⟨rb, k * 3 + 1, none⟩ = some (.int .i64 (d.oc : Int)) ∧ w.cell? ⟨rb, k * 3 + 2, none⟩ = some (.bool false)

def mvs (ch : List Nd) (k p : Nat) : Value := if p / 3 < k then (if p % 3 = 0 then .int .i64 0 else if p % 3 = 1 then .int .i64 (((ch[p / 3]?).map Nd.oc).getD 0 : Nat) else .bool false) else (if p % 3 = 2 then .bool false else .int .i64 0)

def LocAt (w : World) (lb : Nat) (v : Value) : Prop := ∃ cs, w.heap[lb]? = some (.cells cs 21 (0, 0)) ∧ cs[0]? = some v
theorem LocAt.cell {w : World} {lb : Nat} {v : Value} (h : LocAt w lb v) : w.cell? ⟨lb, 0, none⟩ = some v ∧ w.frozen? ⟨lb, 0, none⟩ = false ∧ lb < w.heap.size := by
  obtain ⟨cs, h1, h2⟩ := h
  exact ⟨by simp [World.cell?, h1, h2], by simp [World.frozen?, h1], lt_of_block h1⟩
theorem LocAt.set {w : World} {lb : Nat} {v : Value} (h : LocAt w lb v) (u : Value) : LocAt (w.setCell ⟨lb, 0, none⟩ u) lb u := by
  obtain ⟨cs, h1, h2⟩ := h
  have hl : 0 < cs.size := (Array.getElem?_eq_some_iff.1 h2).1
  exact ⟨cs.setIfInBounds 0 u, by simp [World.setCell, Array.getElem?_modify, h1], by simp [hl]⟩
theorem LocAt.of_block {w w' : World} {lb : Nat} {v : Value} (h : LocAt w lb v) (e : w'.heap[lb]? = w.heap[lb]?) : LocAt w' lb v := by
  obtain ⟨cs, h1, h2⟩ := h
  exact ⟨cs, e.trans h1, h2⟩
/-- What replay's second loop keeps. -/
structure RS (w5 : World) (lb : Nat) (P : List Nd) (k : Nat) (wr : World) : Prop where
  fr : ∃ v, wr.rowIs w5.heap.size 21 1 fun _ => v
  to : ∃ v, wr.rowIs (w5.heap.size + 1) 21 1 fun _ => v
  run : wr.rowIs (w5.heap.size + 2) 36 (P.length * 3) (mvs P.reverse k)
  loc : LocAt wr lb (.int .i32 (atCur P.reverse k : Nat))
  keep : Fr (fun j => j = lb ∨ w5.heap.size ≤ j) w5 wr
theorem mvs_zero (ch : List Nd) (p : Nat) : #[Value.int .i64 0, .int .i64 0, .bool false].getD (p % 3) undef = mvs ch 0 p := by
  unfold mvs
  rw [if_neg (by omega)]
  have h : p % 3 < 3 := Nat.mod_lt _ (by decide)
  rcases (show p % 3 = 0 ∨ p % 3 = 1 ∨ p % 3 = 2 by omega) with h | h | h <;> rw [h] <;> rfl

theorem mvs_step (ch : List Nd) (k p O : Nat) (ho : ((ch[k]?).map Nd.oc).getD 0 = O) :
    (if p = k * 3 + 2 then Value.bool false else if p = k * 3 + 1 then Value.int .i64 (O : Int) else if p = k * 3 then Value.int .i64 0 else mvs ch k p) = mvs ch (k + 1) p := by
  by_cases h2 : p = k * 3 + 2
  · subst h2
    rw [if_pos rfl]
    unfold mvs
    rw [if_pos (by omega), if_neg (by omega), if_neg (by omega)]
  · rw [if_neg h2]
    by_cases h1 : p = k * 3 + 1
    · subst h1
      rw [if_pos rfl]
      unfold mvs
      rw [if_pos (by omega), if_neg (by omega), if_pos (by omega), show (k * 3 + 1) / 3 = k by omega, ho]
    · rw [if_neg h1]
      by_cases h0 : p = k * 3
      · subst h0
        rw [if_pos rfl]
        unfold mvs
        rw [if_pos (by omega), if_pos (by omega)]
      · rw [if_neg h0]
        unfold mvs
        have e : (p / 3 < k + 1) = (p / 3 < k) := propext ⟨by omega, by omega⟩
        simp only [e]
theorem RS_step {w5 w8 : World} {lb k T O q : Nat} {P : List Nd} {v v5 v6 : Value} (h5 : w8.rowIs w5.heap.size 21 1 fun _ => v5) (h6 : w8.rowIs (w5.heap.size + 1) 21 1 fun _ => v6) (run : w8.rowIs (w5.heap.size + 2) 36 (P.length * 3) (mvs P.reverse k))
    (loc : LocAt w8 lb v) (keep : Fr (fun j => j = lb ∨ w5.heap.size ≤ j) w5 w8) (hlb : lb < w5.heap.size) (h1 : atCur P.reverse (k + 1) = T) (ho : ((P.reverse[k]?).map Nd.oc).getD 0 = O) :
    RS w5 lb P (k + 1) (((((w8.drewN q).setCell ⟨lb, 0, none⟩ (.int .i32 (T : Int))).setCell ⟨w5.heap.size + 1 + 1, k * 3, none⟩ (.int .i64 0)).setCell ⟨w5.heap.size + 1 + 1, k * 3 + 1, none⟩ (.int .i64 (O : Int))).setCell ⟨w5.heap.size + 1 + 1, k * 3 + 2, none⟩ (.bool false)) := by
  have h5' : (w8.drewN q).rowIs w5.heap.size 21 1 fun _ => v5 := h5
  have h6' : (w8.drewN q).rowIs (w5.heap.size + 1) 21 1 fun _ => v6 := h6
  have run' : (w8.drewN q).rowIs (w5.heap.size + 1 + 1) 36 (P.length * 3) (mvs P.reverse k) := run
  have loc' : LocAt (w8.drewN q) lb v := loc
  refine ⟨⟨v5, ?_⟩, ⟨v6, ?_⟩, ?_, ?_, ?_⟩
  · exact (((h5'.setOther (by simp; omega) _).setOther (by simp; omega) _).setOther (by simp; omega) _).setOther (by simp; omega) _
  · exact (((h6'.setOther (by simp; omega) _).setOther (by simp) _).setOther (by simp) _).setOther (by simp) _
  · exact ((((run'.setOther (by simp; omega) _).set (k * 3) (.int .i64 0)).set (k * 3 + 1) (.int .i64 (O : Int))).set (k * 3 + 2) (.bool false)).congr (fun p _ => mvs_step P.reverse k p O ho)
  · rw [h1]
    exact (loc'.set _).of_block (by rw [Below.heap_setCell _ _ _ _ (by simp; omega), Below.heap_setCell _ _ _ _ (by simp; omega), Below.heap_setCell _ _ _ _ (by simp; omega)])
  · exact ((((keep.drewN q).setCell (p := ⟨lb, 0, none⟩) (fun _ => .inl rfl) _).setCell (p := ⟨w5.heap.size + 1 + 1, k * 3, none⟩) (fun h => .inr (by simp; omega)) _).setCell (p := ⟨w5.heap.size + 1 + 1, k * 3 + 1, none⟩) (fun h => .inr (by simp; omega)) _).setCell (p := ⟨w5.heap.size + 1 + 1, k * 3 + 2, none⟩) (fun h => .inr (by simp; omega)) _
theorem wrap_zero : IntKind.i64.wrap 0 = 0 := by decide
set_option maxRecDepth 100000 in
set_option maxHeartbeats 4000000 in
theorem replay_any (M n g cap i xb xc sb sc : Nat) (os : Nat → List Nat) (NL : List Nd) (w : World) (hn : n ≤ 1024) (hl : NL.length ≤ 1024) (hi : i < NL.length) (I : Inv n os NL) (hoc : ∀ s, s < n → (os s).length ≤ 1025) (hosn : ∀ s, s < n → ∀ u ∈ os s, u < n)
    (hk : KeysAt w M n) (hx : w.cell? ⟨M, 4, none⟩ = some (.slice (some ⟨xb, 0, none⟩) n xc)) (hx0 : ∀ s, s < n → w.cell? ⟨xb, s, none⟩ = some (.int .i32 0)) (hs : w.cell? ⟨M, 14, none⟩ = some (.slice (some ⟨sb, 0, none⟩) 1 sc)) (hs0 : w.cell? ⟨sb, 0, none⟩ = some (.int .i32 0))
    (hN : NodesAt w g NL) :
    Calls Yba.prog 14 #[.pointer (some ⟨M, 0, none⟩), .slice (some ⟨g, 0, none⟩) NL.length cap, .int .i64 (i : Int)] w
      fun e w' => ∃ rb, e = .returned (.slice (some ⟨rb, 0, none⟩) (up NL i i).length (up NL i i).length) ∧ MovesAt w' rb (up NL i i).reverse ∧ Below w.heap.size w w' := by
  obtain ⟨i0, hi0, hz0, hz1, hz2⟩ := info_parts Yba.info56
  have HI : Hid (Inv n os NL) := I
  have HK : Hid (KeysAt w M n) := hk
  have HN : Hid (NodesAt w g NL) := hN
  clear I hk hN
  go_enter Yba.func14, Yba.ntmps14
  go_wp2_with fail
  go_loopw [7, 2] (fun v j wr => ∃ (P : List Nd) (k f : Nat), j = .int .i64 k ∧ k ≤ f ∧ P ++ up NL f k = up NL i i ∧ k < NL.length ∧ wr.ownsRow w.heap.size 56 5 v P.length (nflat P) ∧ Below w.heap.size w wr) (fun _ j _ => (intOf j).toNat)
  case atStart => exact ⟨[], i, i, rfl, Nat.le_refl _, rfl, hi, World.ownsRow_nil _ _ _ _, Below.refl _ _⟩
  case round =>
    obtain ⟨P, k, f, rfl, hkf, hup, hkl, hown, hbel⟩ := hrel
    have hPl : P.length ≤ 1024 := by
      have h1 := congrArg List.length hup
      have h2 := up_len NL i i
      rw [List.length_append] at h1
      omega
    obtain ⟨d, hd⟩ : ∃ d, NL[k]? = some d := ⟨_, List.getElem?_eq_getElem hkl⟩
    have hgl := World.block_lt_of_cell? _ _ (HN.out k d hd).1
    obtain ⟨c0, c1, c2, c3, c4⟩ := HN.out.below hbel k d hd
    by_cases h0 : 0 < k
    · obtain ⟨p, y, hp, hpk, hy, hac, hos, hdp⟩ := HI.out.par k d h0 hd
      rw [hp] at c2
      obtain ⟨f', rfl⟩ : ∃ f', f = f' + 1 := ⟨f - 1, by omega⟩
      have HUP : Hid ((P ++ [d]) ++ up NL f' p = up NL i i) := by
        rw [up_step HI.out hd hp] at hup
        show _ = _
        simpa using hup
      obtain ⟨va, vc, rfl⟩ := own_form hown
      have hsz := hbel.size
      have hgw : g < wr.heap.size := Nat.lt_of_lt_of_le hgl hsz
      have hown3 : ∀ o, (wr.alloc o).ownsRow w.heap.size 56 5 (.slice va P.length vc) P.length (nflat P) := fun o => hown.alloc o
      have HLT : Hid (∀ j, Value.ownBlock (.slice va P.length vc) = some j → w.heap.size ≤ j) := fun j hj => (own_lt hown hj).1
      clear hup hown hy hac hos hdp
      go_wp2_with (at_builtin; go_must (refine wpList_append_lies _ rfl (.tmp 27) (.tmp 32) 57 rfl w.heap.size 56 i0 (.agg #[.int .i32 0, .int .i32 0, .int .i32 0, .int .i32 0, .int .i32 0]) 5 20 Yba.underlying57 hi0 hz0 hz1 hz2 rfl (by decide) (.slice va P.length vc) P.length (nflat P) rfl (hown3 _) ⟨wr.heap.size, 0, none⟩ 1 1 [.int .i32 (d.st : Int), .int .i32 0, .int .i32 (p : Int), .int .i32 (d.ac : Int), .int .i32 (d.oc : Int)] rfl rfl ?d1 ?d2 ?d3 ?d4 ?d5 ?d6 (wr.heap.size + 1) ?d7 ?d8))
      case d2 => exact ⟨rfl, rfl, rfl, rfl, rfl⟩
      case d4 => unfold maxLen; omega
      case d5 => omega
      case d6 => omega
      case d8 =>
        intro g4 cap4 w4 ho4 hg4 hat hlt4
        have HB4 : Hid (Below w.heap.size w w4) := (hbel.alloc hsz _).grown hg4 (by simp; omega) (fun j hj => HLT.out j hj)
        have HO4 : Hid (w4.ownsRow w.heap.size 56 5 (.slice (some ⟨g4, 0, none⟩) (P.length + 1) cap4) (P ++ [d]).length (nflat (P ++ [d]))) := by
          have e1 : nflat (P ++ [d]) = nflat P ++ [.int .i32 (d.st : Int), .int .i32 0, .int .i32 (p : Int), .int .i32 (d.ac : Int), .int .i32 (d.oc : Int)] := by
            unfold nflat
            rw [List.flatMap_append]
            show _ ++ (ncells d ++ []) = _
            unfold ncells
            rw [hp]
            rfl
          rw [e1, List.length_append]
          exact ho4
        have cc2 : w4.cell? ⟨g, k * 5 + 2, none⟩ = some (.int .i32 (p : Int)) := by
          have := (HN.out.below HB4.out k d hd).2.2.1
          rwa [hp] at this
        clear ho4 hg4 hat hown3 c0 c1 c2 c3 c4
        go_wp2
        go_roundw
        case rel => exact ⟨P ++ [d], p, f', rfl, by omega, HUP.out, by omega, HO4.out, HB4.out⟩
        case measure => simp [intOf]; omega
    · obtain rfl : k = 0 := by omega
      have hfr : d.fr = -1 := by
        rw [HI.out.hd] at hd
        injection hd with hd
        rw [← hd]
        rfl
      rw [hfr] at c2
      rw [up_zero HI.out, List.append_nil] at hup
      obtain ⟨x, hx1⟩ : ∃ x, NL[i]? = some x := ⟨_, List.getElem?_eq_getElem hi⟩
      have HUL : Hid _ := up_law HI.out i i x (Nat.le_refl _) hx1
      rw [← hup] at HUL
      have HUP : Hid (P = up NL i i) := hup
      obtain ⟨wo, rfl⟩ : ∃ wo, wo = wr := ⟨_, rfl⟩
      have hs' := Below.keep hbel hs
      have hs0' := Below.keep hbel hs0
      obtain ⟨va, vc, rfl⟩ := own_form hown
      have HPO : Hid (wo.ownsRow w.heap.size 56 5 (.slice va P.length vc) P.length (nflat P)) := hown
      obtain ⟨i1, hi1, hy0, hy1, hy2⟩ := info_parts Yba.info21
      have hmk1 : ∀ W : World, (Instr.makeSlice 34 (.int .i64 1) (.int .i64 1)).run Yba.prog W = .ok (.slice (some ⟨W.heap.size, 0, none⟩) 1 1) (W.alloc (.cells #[.int .i32 0] 21)) := fun W => by kernel_rfl
      have hmk2 := make_any 31 36 (.agg #[.int .i64 0, .int .i64 0, .bool false]) 3 24 Yba.underlying31 Yba.info36 P.length (by omega) (by omega)
      have hsz := hbel.size
      clear hup hown hd hx1 hfr
      go_wp2_with (at_builtin; go_must (refine wpList_append_lies _ rfl (.const (.slice none 0 0)) (.tmp 37) 34 rfl w.heap.size 21 i1 (.int .i32 0) 1 4 Yba.underlying34 hi1 hy0 hy1 hy2 rfl (by decide) (.slice none 0 0) 0 [] rfl (World.ownsRow_nil _ _ _ _) ⟨sb, 0, none⟩ 1 sc [.int .i32 0] rfl rfl ?e1 ?e2 ?e3 ?e4 ?e5 ?e6 wo.heap.size ?e7 ?e8))
      case e1 =>
        intro j u hj
        have hj0 : j = 0 := by
          have := (List.getElem?_eq_some_iff.1 hj).1
          simp at this
          exact this
        subst hj0
        rw [hs0']
        exact hj
      case e2 => rfl
      case e4 => unfold maxLen; omega
      case e7 => rfl
      case e8 =>
        intro lb lcap w5 ho5 hg5 hat hlt5
        have hlb : lb = wo.heap.size := hat.elim (fun h => by simp [Value.ownBlock] at h) id
        have HB5 : Hid (Below w.heap.size w w5) := hbel.grown hg5 hsz (fun j hj => by simp [Value.ownBlock] at hj)
        have HP5 : Hid (w5.ownsRow w.heap.size 56 5 (.slice va P.length vc) P.length (nflat P)) := ((Fr.refl (fun _ => False) wo).grown hg5 (fun j _ hj => by simp [Value.ownBlock] at hj)).own HPO.out (fun _ _ => id)
        have HPL : Hid (∀ j, Value.ownBlock (.slice va P.length vc) = some j → j < lb) := fun j hj => by
          have := (own_lt HPO.out hj).2
          omega
        have HLO : Hid (LocAt w5 lb (.int .i32 (atCur P.reverse 0 : Nat))) := by
          rcases ho5.2 with ⟨h1, _⟩ | ⟨g', cap', cur, h1, _, h3, h4, _, h6, h7⟩
          · injection h1 with h1
            cases h1
          · injection h1 with h1 h2 h3'
            injection h1 with h1
            injection h1 with h1
            subst h1 h3'
            refine ⟨cur, h3, ?_⟩
            have : (cur.toList.take (1 * 1))[0]? = some (.int .i32 0) := by rw [h7]; rfl
            rw [List.getElem?_take_of_lt (by omega), Array.getElem?_toList] at this
            exact this
        have HLW : Hid (w.heap.size ≤ lb) := by
          show _ ≤ _
          omega
        clear ho5 hg5 hat hlb hs' hs0' HPO
        go_wp2_with fail
        have HRS : Hid (RS w5 lb P 0 (((w5.alloc (.cells #[.int .i32 0] 21)).alloc (.cells #[.int .i32 0] 21)).alloc (.cells (madeCells #[.int .i64 0, .int .i64 0, .bool false] (P.length * 3)) 36))) := by
          have ha := one_row w5 21 (.int .i32 0)
          have hb := one_row (w5.alloc (.cells #[.int .i32 0] 21)) 21 (.int .i32 0)
          have hc := made_row ((w5.alloc (.cells #[.int .i32 0] 21)).alloc (.cells #[.int .i32 0] 21)) 36 #[.int .i64 0, .int .i64 0, .bool false] (P.length * 3) (by simp)
          have s1 : (w5.alloc (.cells #[.int .i32 0] 21)).heap.size = w5.heap.size + 1 := by simp
          have s2 : ((w5.alloc (.cells #[.int .i32 0] 21)).alloc (.cells #[.int .i32 0] 21)).heap.size = w5.heap.size + 2 := by simp
          rw [s1] at hb
          rw [s2] at hc
          exact ⟨⟨_, (ha.alloc _).alloc _⟩, ⟨_, hb.alloc _⟩, hc.congr (fun p _ => mvs_zero _ p), HLO.out.of_block (by rw [Below.heap_alloc _ _ _ (by simp; omega), Below.heap_alloc _ _ _ (by simp; omega), Below.heap_alloc _ _ _ hlt5]), (((Fr.refl _ w5).alloc _).alloc _).alloc _⟩
        go_loopw [50] (fun j wr => ∃ k : Nat, k ≤ P.length ∧ j = .int .i64 k ∧ RS w5 lb P k wr) (fun j _ => P.length - (intOf j).toNat)
        case atStart => exact ⟨0, Nat.zero_le _, rfl, HRS.out⟩
        case round =>
          obtain ⟨k, hk, rfl, hRS⟩ := hrel
          have hB : Below w.heap.size w wr := HB5.out.trans (hRS.keep.below HB5.out.size (fun j hj => by
            have h1 := HLW.out
            have h2 := HB5.out.size
            omega))
          by_cases hlt : k < P.length
          · obtain ⟨d, hd⟩ : ∃ d, P.reverse[k]? = some d := ⟨_, List.getElem?_eq_getElem (by simpa using hlt)⟩
            obtain ⟨hac, hosd, p, y, hfr, hy, hyst⟩ := HUL.out.2.2 k d hd
            have hPd : P[P.length - 1 - k]? = some d := by
              rw [List.getElem?_reverse hlt] at hd
              exact hd
            obtain ⟨gp, rfl, _, hgp, _, _⟩ := own_cells HP5.out (by omega)
            have hgl2 : gp < lb := HPL.out gp rfl
            have PN : NodesAt wr gp P := fun q e he => by
              obtain ⟨h0, h1, h2, h3, h4⟩ := nodes_own HP5.out q e he
              have t : ∀ {a : Addr} {v : Value}, a.block = gp → w5.cell? a = some v → wr.cell? a = some v := fun {a v} e1 h => (hRS.keep.cell (by omega) (by omega)).trans h
              exact ⟨t rfl h0, t rfl h1, t rfl h2, t rfl h3, t rfl h4⟩
            obtain ⟨c0, c1, c2, c3, c4⟩ := PN _ d hPd
            obtain ⟨y0, _⟩ := HN.out.below hB p y hy
            rw [hyst] at y0
            rw [hfr] at c2
            have hpl := (List.getElem?_eq_some_iff.1 hy).1
            have hacn : d.ac < n := by rw [← hyst]; exact HI.out.lt y (List.mem_of_getElem? hy)
            have hocl : d.oc < (os d.ac).length := (List.getElem?_eq_some_iff.1 hosd).1
            have hocb := hoc d.ac hacn
            have hstn : d.st < n := hosn d.ac hacn d.st (List.mem_of_getElem? hosd)
            have hx' := Below.keep hB hx
            have hxa := Below.keep hB (hx0 d.ac hacn)
            have hMl := World.block_lt_of_cell? _ _ hx'
            have hxl := World.block_lt_of_cell? _ _ hxa
            have hMw := World.block_lt_of_cell? _ _ hx
            have hxw := World.block_lt_of_cell? _ _ (hx0 d.ac hacn)
            have hgr := World.block_lt_of_cell? _ _ y0
            have hgpr := World.block_lt_of_cell? _ _ c0
            have HK1 : Hid (atCur P.reverse (k + 1) = d.st) := by
              show atCur P.reverse (k + 1) = d.st
              rw [atCur_succ, hd]
              rfl
            have HKO : Hid (((P.reverse[k]?).map Nd.oc).getD 0 = d.oc) := by
              show ((P.reverse[k]?).map Nd.oc).getD 0 = d.oc
              rw [hd]
              rfl
            have hloc := hRS.loc
            rw [← hac] at hloc
            obtain ⟨v5, hr5⟩ := hRS.fr
            obtain ⟨v6, hr6⟩ := hRS.to
            have hrun := hRS.run
            have HKEEP : Hid _ := hRS.keep
            have hlw := HLW.out
            have hw5 := HB5.out.size
            have hw5r := hRS.keep.size
            have hr6l := hr6.lt
            have hr7l := hrun.lt
            obtain ⟨l0, l1, l2⟩ := hloc.cell
            have HLOC : Hid (LocAt wr lb (.int .i32 (d.ac : Int))) := hloc
            have HRUN : Hid (wr.rowIs (w5.heap.size + 2) 36 (P.length * 3) (mvs P.reverse k)) := hrun
            clear hRS hac hosd hfr hy hyst hd hPd PN hloc hrun
            generalize d.ac = A at *
            generalize d.oc = O at *
            generalize d.st = T at *
            have C1 : ∀ N, Calls Yba.prog 16 #[.pointer (some ⟨M, 0, none⟩), .int .i64 (A : Int), .slice (some ⟨w5.heap.size, 0, none⟩) 1 1] (wr.alloc N) fun e w' => e = .returned (.slice (some ⟨w5.heap.size, 0, none⟩) 1 1) ∧ (w'.rowIs w5.heap.size 21 1 fun _ => .int .i32 A) ∧ Fr (fun k => k = w5.heap.size) (wr.alloc N) w' := fun N =>
              local_fr M n A w5.heap.size v5 (wr.alloc N) hn hacn (HK.out.below (hB.alloc hB.size N)) (hr5.alloc N)
            have HC1 : Hid _ := C1
            clear C1
            go_wp2_with fail
            refine (HC1.out _).mono ?_
            rintro e w7 ⟨rfl, r7, f7⟩
            have nd7 : w7.cell? ⟨wr.heap.size, 0, none⟩ = some (.int .i32 (T : Int)) := (f7.cell (by simp) (by simp; omega)).trans (by simp [World.cell?_alloc_new])
            have hB7 : Below w.heap.size w w7 := (hB.alloc hB.size _).trans (f7.below (by simp; omega) (fun k e => by omega))
            have C2 := local_fr M n T (w5.heap.size + 1) v6 w7 hn hstn (HK.out.below hB7) (f7.rowIs (hr6.alloc _) (by omega))
            have HR7 : Hid (w7.rowIs w5.heap.size 21 1 fun _ => .int .i32 A) := r7
            have hn7 : wr.heap.size < w7.heap.size := by have := f7.size; simp at this; omega
            generalize hN : Obj.cells #[Value.int IntKind.i32 ↑T, Value.int IntKind.i32 0, Value.int IntKind.i32 ↑p, Value.int IntKind.i32 ↑A, Value.int IntKind.i32 ↑O] 56 = N at *
            have HNN : Hid _ := hN
            have HF7 : Hid (Fr (fun k => k = w5.heap.size) (wr.alloc N) w7) := f7
            clear f7 r7 hN
            go_wp2_with fail
            refine C2.mono ?_
            rintro e w8 ⟨rfl, r8, f8⟩
            have FK : Fr (fun j => j = w5.heap.size ∨ j = w5.heap.size + 1) (wr.alloc N) w8 := (HF7.out.mono (fun _ _ e => .inl e)).trans f8 (fun _ _ e => .inr e)
            have K8 : ∀ {a : Addr} {v : Value}, wr.cell? a = some v → a.block ≠ w5.heap.size → a.block ≠ w5.heap.size + 1 → w8.cell? a = some v := fun {a v} h h1 h2 => by
              have h3 := Below.keep ((Below.refl wr.heap.size wr).alloc (Nat.le_refl _) N) h
              exact (FK.cell (World.block_lt_of_cell? _ _ h3) (by omega)).trans h3
            have m4 := K8 hx' (by simp; omega) (by simp; omega)
            have xa8 := K8 hxa (by simp; omega) (by simp; omega)
            have LOC8 : LocAt w8 lb (.int .i32 (A : Int)) := HLOC.out.of_block ((FK.block lb (by simp; omega) (by omega)).trans (Below.heap_alloc _ _ _ l2))
            obtain ⟨l08, l18, l28⟩ := LOC8.cell
            have r78 := f8.rowIs HR7.out (by omega)
            have cf := r78.cell (show 0 < 1 by omega)
            have ct := r8.cell (show 0 < 1 by omega)
            have nd3 : w8.cell? ⟨wr.heap.size, 3, none⟩ = some (.int .i32 (A : Int)) := (FK.cell (by simp) (by simp; omega)).trans (by rw [← HNN.out]; simp [World.cell?_alloc_new])
            have nd4 : w8.cell? ⟨wr.heap.size, 4, none⟩ = some (.int .i32 (O : Int)) := (FK.cell (by simp) (by simp; omega)).trans (by rw [← HNN.out]; simp [World.cell?_alloc_new])
            have RUN8 : Hid (w8.rowIs (w5.heap.size + 2) 36 (P.length * 3) (mvs P.reverse k)) := FK.rowIs (HRUN.out.alloc _) (by omega)
            have HL8 : Hid (LocAt w8 lb (.int .i32 (A : Int))) := LOC8
            have HR5 : Hid (w8.rowIs w5.heap.size 21 1 fun _ => .int .i32 A) := r78
            have HR6 : Hid (w8.rowIs (w5.heap.size + 1) 21 1 fun _ => .int .i32 T) := r8
            have HFK : Hid (Fr (fun j => j = w5.heap.size ∨ j = w5.heap.size + 1) (wr.alloc N) w8) := FK
            have hn8 := Nat.lt_of_lt_of_le hn7 f8.size
            clear K8 FK LOC8 r78 r8 f8 hx' hxa l0 l1 l2 nd7 hr5 hr6 C2 c0 c1 c2 c3 c4 y0
            go_wp2_with fail
            refine wp_loop_rounds 1 ?_
            rw [rounds_succ]
            go_wp2_with fail
            go_quiet (fail)
            go_wp2_with fail
            have C19 : ∀ q : Nat, Calls Yba.prog 19 #[.slice (some ⟨w5.heap.size, 0, none⟩) 1 1, .slice (some ⟨w5.heap.size + 1, 0, none⟩) 1 1, .int .i64 0] (w8.drewN q) fun e w' => e = .returned (.int .i32 (T : Int)) ∧ w' = w8.drewN q := fun q => moved_any _ _ A T (w8.drewN q) cf ct
            have HC19 : Hid _ := C19
            clear C19
            obtain ⟨z0, rc0⟩ : ∃ z, w8.cell? ⟨w5.heap.size + 1 + 1, k * 3, none⟩ = some z := ⟨_, RUN8.out.cell (by omega)⟩
            obtain ⟨z1, rc1⟩ : ∃ z, w8.cell? ⟨w5.heap.size + 1 + 1, k * 3 + 1, none⟩ = some z := ⟨_, RUN8.out.cell (by omega)⟩
            obtain ⟨z2, rc2⟩ : ∃ z, w8.cell? ⟨w5.heap.size + 1 + 1, k * 3 + 2, none⟩ = some z := ⟨_, RUN8.out.cell (by omega)⟩
            have rf0 : w8.frozen? ⟨w5.heap.size + 1 + 1, k * 3, none⟩ = false := RUN8.out.frozen _
            have rf1 : w8.frozen? ⟨w5.heap.size + 1 + 1, k * 3 + 1, none⟩ = false := RUN8.out.frozen _
            have rf2 : w8.frozen? ⟨w5.heap.size + 1 + 1, k * 3 + 2, none⟩ = false := RUN8.out.frozen _
            have hlbr := HLOC.out.cell.2.2
            have hO : ¬ ((O : Int) = -1) := by omega
            have hO2 : O ≤ 1025 := by omega
            go_region_with (go_at_call 19; go_must (rw [wrap_zero]; refine (HC19.out _).mono ?_; rintro e w9 ⟨rfl, rfl⟩))
            all_goals go_wp2_with fail
            all_goals (refine ⟨⟨k + 1, by omega, by go_num, RS_step HR5.out HR6.out RUN8.out HL8.out ?_ hlt5 HK1.out HKO.out⟩, by simp [intOf]; omega⟩)
            all_goals exact (HKEEP.out.alloc N).trans HFK.out (fun j hj e => .inr (by omega))
          · obtain rfl : k = P.length := by omega
            go_wp2
            go_ret
            refine ⟨w5.heap.size + 2, by rw [← HUP.out]; rfl, ?_, hB⟩
            rw [← HUP.out]
            intro j d hd
            have hj : j < P.length := by
              have := (List.getElem?_eq_some_iff.1 hd).1
              simpa using this
            refine ⟨?_, ?_, ?_⟩
            · rw [hRS.run.cell (by omega)]
              unfold mvs
              rw [if_pos (by omega), if_pos (by omega)]
            · rw [hRS.run.cell (by omega)]
              unfold mvs
              rw [if_pos (by omega), if_neg (by omega), if_pos (by omega), show (j * 3 + 1) / 3 = j by omega, hd]
              rfl
            · rw [hRS.run.cell (by omega)]
              unfold mvs
              rw [if_pos (by omega), if_neg (by omega), if_neg (by omega)]
end Go.Proofs.Ybulkauxo
