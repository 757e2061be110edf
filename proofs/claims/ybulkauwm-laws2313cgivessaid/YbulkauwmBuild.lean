import Derived.Test.YbulkauwmSmall
import Derived.Laws.IdiomStrings
import Derived.Deep.AppendLies
namespace Go.Proofs.Ybulkauwm
open Go.RowKit

theorem Yba.info57 : (Yba.prog.info? 57).map (fun i => (i.zero, i.size, i.bytes)) = some (some (.agg #[.int .u64 0, .slice none 0 0, .int .i64 0]), 3, 40) := by kernel_rfl
theorem Yba.info39 : (Yba.prog.info? 39).map (fun i => (i.zero, i.size, i.bytes)) = some (some (.int .u64 0), 1, 8) := by kernel_rfl
theorem Yba.info52 : (Yba.prog.info? 52).map (fun i => (i.zero, i.size, i.bytes)) = some (some (.agg #[.int .u64 0, .int .u32 0, .slice none 0 0]), 3, 40) := by kernel_rfl

/-- An entry of the table: its id, the place of the held rumor that it was made of, the block and the capacity of its text. -/
structure Ent where
  id : Nat
  k : Nat
  blk : Nat
  cap : Nat

def Ent.cells (hborn : Nat → Int) (htxt : Nat → ByteArray) (e : Ent) : List Value := [.int .u64 e.id, .slice (some ⟨e.blk, 0, none⟩) (htxt e.k).size e.cap, .int .i64 (hborn e.k)]
def flat (hborn : Nat → Int) (htxt : Nat → ByteArray) (L : List Ent) : List Value := L.flatMap (Ent.cells hborn htxt)
/-- The table's ids below m, each with the place of its first held rumor. -/
def tab (hid : Nat → Int) (n m : Nat) : List (Nat × Nat) := (List.range m).filterMap fun id : Nat => (firstOf hid n (id : Int)).map fun k => (id, k)
/-- A string's bytes, in a block of their own. -/
def TextIn (w : World) (b : Nat) (s : ByteArray) : Prop := ∃ cs fr, w.heap[b]? = some (.cells cs 5 fr) ∧ ∀ j (hj : j < s.data.toList.length), cs[j]? = some (.int .u8 (s.data.toList[j].toNat : Int))

theorem tab_succ_some {hid : Nat → Int} {n m k : Nat} (h : firstOf hid n m = some k) : tab hid n (m + 1) = tab hid n m ++ [(m, k)] := by
  unfold tab
  rw [List.range_succ, List.filterMap_append]
  simp [h]
theorem tab_succ_none {hid : Nat → Int} {n m : Nat} (h : firstOf hid n m = none) : tab hid n (m + 1) = tab hid n m := by
  unfold tab
  rw [List.range_succ, List.filterMap_append]
  simp [h]
theorem tab_len (hid : Nat → Int) (n m : Nat) : (tab hid n m).length ≤ m := by
  unfold tab
  exact Nat.le_trans (List.length_filterMap_le _ _) (by simp)
theorem flat_len (hborn : Nat → Int) (htxt : Nat → ByteArray) (L : List Ent) : (flat hborn htxt L).length = L.length * 3 := by
  induction L with
  | nil => rfl
  | cons e L ih => simp [flat, Ent.cells] at *; omega
theorem flat_snoc (hborn : Nat → Int) (htxt : Nat → ByteArray) (L : List Ent) (e : Ent) : flat hborn htxt (L ++ [e]) = flat hborn htxt L ++ e.cells hborn htxt := by simp [flat]
theorem firstOf_lt {hid : Nat → Int} {n k : Nat} {id : Int} (h : firstOf hid n id = some k) : k < n ∧ hid k = id := by
  unfold firstOf at h
  exact ⟨List.mem_range.1 (List.mem_of_find?_eq_some h), by simpa using List.find?_some h⟩

/-- The text's block stays. -/
theorem TextIn.keep {w w' : World} {b : Nat} {s : ByteArray} (h : TextIn w b s) (e : w'.heap[b]? = w.heap[b]?) : TextIn w' b s := by
  obtain ⟨cs, fr, h1, h2⟩ := h
  exact ⟨cs, fr, e.trans h1, h2⟩
theorem TextIn.lt {w : World} {b : Nat} {s : ByteArray} (h : TextIn w b s) : b < w.heap.size := by
  obtain ⟨cs, fr, h1, _⟩ := h
  exact (Array.getElem?_eq_some_iff.1 h1).1
theorem TextIn.below {w w' : World} {b B : Nat} {s : ByteArray} (h : TextIn w b s) (hb : Below B w w') (hB : w.heap.size ≤ B) : TextIn w' b s := h.keep (hb.block _ (Nat.lt_of_lt_of_le h.lt hB))

/-- '[]byte(s)', its capacity and its block under names of their own. -/
theorem bytes_of (s : ByteArray) : ∃ (capf : World → Nat) (objf : World → Obj),
    (∀ W : World, (convert 9 27 (.string s)).run Yba.prog W = .ok (.slice (some ⟨W.heap.size, 0, none⟩) s.size (capf W)) ((W.alloc (objf W)).drew)) ∧
    ∀ W : World, TextIn (W.alloc (objf W)) W.heap.size s := by
  refine ⟨fun W => grownCap W s.size 0 5, fun W => .cells (bytesRow s (grownCap W s.size 0 5)) 5 ((bytesRow s (grownCap W s.size 0 5)).size, (bytesRow s (grownCap W s.size 0 5)).size + 1), fun W => ?_, fun W => ?_⟩
  · exact run_bytes_of_string (P := Yba.prog) W 9 27 5 s Yba.underlying9 Yba.underlying27 Yba.underlying5
  · refine ⟨_, _, heap_alloc_new W _, fun j hj => ?_⟩
    have hj' : j < s.data.size := by simpa using hj
    unfold bytesRow
    rw [Array.getElem?_append_left (by simpa using hj')]
    simp
    exact ⟨_, Array.getElem?_eq_getElem hj', rfl⟩

theorem below_grown {w w' : World} (h : Below w.heap.size w w') : w.grownBy w' none := ⟨h.os, h.tape, h.output, h.size, fun k hk _ => h.block k hk⟩
theorem own_below {w w' : World} {base : Nat} {e : TypeId} {size : Nat} {v : Value} {n : Nat} {xs : List Value} (h : w.ownsRow base e size v n xs) (hb : Below w.heap.size w w') : w'.ownsRow base e size v n xs :=
  h.kept (below_grown hb) (by cases v.ownBlock <;> simp)
/-- A row of type t and a block of another type are two. -/
theorem own_ne {w : World} {base : Nat} {e : TypeId} {size : Nat} {v : Value} {n : Nat} {xs : List Value} (h : w.ownsRow base e size v n xs) {b : Nat} {cs : Array Value} {t : TypeId} {fr : Nat × Nat} (hb : w.heap[b]? = some (.cells cs t fr)) (ht : t ≠ e) : some b ≠ v.ownBlock := by
  intro e1
  rcases h.2 with ⟨rfl, _⟩ | ⟨g, cap, cur, rfl, _, hg, _⟩
  · simp [Value.ownBlock] at e1
  · simp [Value.ownBlock] at e1
    subst e1
    rw [hg] at hb
    simp at hb
    exact ht hb.2.1.symm

theorem new_cells (W : World) (cs : Array Value) (t : TypeId) (b : Nat) (hb : b = W.heap.size) (j : Nat) (u : Value) (h : cs.toList[j]? = some u) : (W.alloc (.cells cs t)).cell? ((⟨b, 0, none⟩ : Addr).add j) = some u := by
  have hadd : (⟨b, 0, none⟩ : Addr).add j = ⟨b, j, none⟩ := by unfold Addr.add; split <;> simp_all
  rw [hadd, hb]
  have hj : j < cs.size := by
    have := List.getElem?_eq_some_iff.1 h
    simpa using this.1
  have hr := World.rowIs_alloc W cs t (fun i => cs.toList[i]?.getD u) (fun i hi => by simp [hi])
  rw [hr.cell hj, h]
  rfl
theorem own_form {w : World} {base : Nat} {e : TypeId} {size : Nat} {v : Value} {n : Nat} {xs : List Value} (h : w.ownsRow base e size v n xs) : ∃ a c, v = .slice a n c := by
  rcases h.2 with ⟨rfl, rfl⟩ | ⟨g, cap, cur, rfl, _⟩
  · exact ⟨_, _, rfl⟩
  · exact ⟨_, _, rfl⟩
theorem row_step {w : World} {B len k : Nat} {f : Nat → Int} {c : Int}
    (h : w.rowIs B 39 len (fun j => .int .u64 (if j < k then f j else 0))) (hc : c = f k) :
    (w.setCell ⟨B, k, none⟩ (.int .u64 c)).rowIs B 39 len (fun j => .int .u64 (if j < k + 1 then f j else 0)) := by
  refine (h.set k (.int .u64 c)).congr fun j _ => ?_
  show (if j = k then Value.int .u64 c else _) = _
  by_cases e : j = k
  · rw [if_pos e, if_pos (by omega), e, hc]
  · rw [if_neg e]
    by_cases e2 : j < k
    · rw [if_pos e2, if_pos (by omega)]
    · rw [if_neg e2, if_neg (by omega)]

theorem HeldAt.below {w w' : World} {ha : Option Addr} {n : Nat} {hid hborn : Nat → Int} {htxt : Nat → ByteArray} (h : HeldAt w ha n hid hborn htxt) {B : Nat} (hb : Below B w w') (hB : w.heap.size ≤ B) : HeldAt w' ha n hid hborn htxt := by
  obtain ⟨h1, h2⟩ := h
  refine ⟨fun hp => ?_, h2⟩
  obtain ⟨b, o, e, hl, hc⟩ := h1 hp
  refine ⟨b, o, e, Nat.lt_of_lt_of_le hl hb.size, fun k hk => ?_⟩
  have := hc k hk
  rw [hb.cell (Nat.lt_of_lt_of_le hl hB), hb.cell (Nat.lt_of_lt_of_le hl hB), hb.cell (Nat.lt_of_lt_of_le hl hB)]
  exact this

/-- What zzs2313cbuild leaves. -/
structure Built (w w' : World) (n len : Nat) (hid hborn : Nat → Int) (htxt : Nat → ByteArray) (sp : Nat → Int) (iv : Int) (eb wb ib : Nat) (ta : Option Addr) (tc : Nat) (L : List Ent) : Prop where
  key : L.map (fun e => (e.id, e.k)) = tab hid n 256
  c0 : w'.cell? ⟨eb, 0, none⟩ = some (.int .i64 iv)
  c5 : w'.cell? ⟨eb, 5, none⟩ = some (.slice ta L.length tc)
  hwb : w'.heap[wb]? = some (.cells #[.slice (some ⟨ib, 0, none⟩) len len, .slice none 0 0, .slice none 0 0, .slice none 0 0, .slice none 0 0, .slice none 0 0] 46 (0, 0))
  row : w'.rowIs ib 39 len (fun j => .int .u64 (sp j))
  own : w'.ownsRow w.heap.size 57 3 (.slice ta L.length tc) L.length (flat hborn htxt L)
  txt : ∀ e ∈ L, w.heap.size ≤ e.blk ∧ TextIn w' e.blk (htxt e.k)
  bel : Below w.heap.size w w'
  ge : w.heap.size ≤ eb ∧ w.heap.size ≤ wb ∧ w.heap.size ≤ ib
  ne : eb ≠ wb ∧ eb ≠ ib ∧ wb ≠ ib

set_option maxRecDepth 100000 in
set_option maxHeartbeats 1000000 in
theorem build_any (ha ra : Option Addr) (n hcap len rcap : Nat) (hid hborn : Nat → Int) (htxt : Nat → ByteArray) (sp : Nat → Int) (iv : Int) (w : World) (hn : n ≤ 256) (hlen : len ≤ 1024)
    (hh : HeldAt w ha n hid hborn htxt) (hr : 0 < len → ∃ rb ro, ra = some ⟨rb, ro, none⟩ ∧ rb < w.heap.size ∧ ∀ k, k < len → w.cell? ⟨rb, ro + k, none⟩ = some (.int .u8 (sp k)))
    (hz : ∀ k, k < len → 0 ≤ sp k ∧ sp k ≤ 255) (hiv : -2147483648 ≤ iv ∧ iv ≤ 2147483647) :
    Calls Yba.prog 9 #[.slice ha n hcap, .slice ra len rcap, .int .i32 iv] w fun e w' => ∃ eb wb ib ta tc L, e = .returned (.tuple #[.pointer (some ⟨eb, 0, none⟩), .pointer (some ⟨wb, 0, none⟩)]) ∧
      Built w w' n len hid hborn htxt sp iv eb wb ib ta tc L := by
  obtain ⟨i0, hi, hz0, hz1, hz2⟩ := info_parts Yba.info57
  go_enter Yba.func9, Yba.ntmps9
  go_wp2_with fail
  go_loopw [8, 9] (fun v i wr => ∃ (m : Nat) (L : List Ent), m ≤ 256 ∧ i = .int .i64 m ∧ L.map (fun e => (e.id, e.k)) = tab hid n m ∧ wr.ownsRow w.heap.size 57 3 v L.length (flat hborn htxt L) ∧
      (∀ e ∈ L, w.heap.size ≤ e.blk ∧ TextIn wr e.blk (htxt e.k)) ∧ Below w.heap.size w wr) (fun _ i _ => 256 - (intOf i).toNat)
  case atStart => exact ⟨0, [], Nat.zero_le _, rfl, rfl, World.ownsRow_nil _ _ _ _, fun e he => absurd he (by simp), Below.refl _ _⟩
  case round =>
    obtain ⟨m, L, hm, rfl, hL, hown, htx, hbel⟩ := hrel
    by_cases hlt : m < 256
    · have C := first_any ha n hcap hid hborn htxt (m : Int) wr hn (hh.below hbel (Nat.le_refl _))
      cases hf : firstOf hid n (m : Int) with
      | none =>
        rw [hf] at C
        have HF : Hid (firstOf hid n (m : Int) = none) := hf
        have HL : Hid (L.map (fun e => (e.id, e.k)) = tab hid n m) := hL
        clear hf hL
        unfold firstVal at C
        have fin : ∀ w1 o, Below wr.heap.size wr w1 → ∃ (m' : Nat) (L' : List Ent), m' ≤ 256 ∧ Value.int .i64 ((m : Int) + 1) = .int .i64 m' ∧ L'.map (fun e => (e.id, e.k)) = tab hid n m' ∧
            (w1.alloc o).ownsRow w.heap.size 57 3 u8 L'.length (flat hborn htxt L') ∧ (∀ e ∈ L', w.heap.size ≤ e.blk ∧ TextIn (w1.alloc o) e.blk (htxt e.k)) ∧ Below w.heap.size w (w1.alloc o) := fun w1 o hb1 =>
          ⟨m + 1, L, by omega, by go_num, by rw [tab_succ_none HF.out]; exact HL.out, (own_below hown hb1).alloc _,
            fun e he => ⟨(htx e he).1, ((htx e he).2.below hb1 (Nat.le_refl _)).keep (Below.heap_alloc _ _ _ ((htx e he).2.below hb1 (Nat.le_refl _)).lt)⟩,
            (hbel.trans (hb1.mono hbel.size)).alloc (Nat.le_trans hbel.size hb1.size) _⟩
        have FIN : Hid _ := fin
        clear fin hown htx
        go_wp2_with (go_at_call 11; refine C.mono ?_; rintro e w1 ⟨rfl, hb1⟩)
        go_roundw
        case rel => exact FIN.out w1 _ hb1
        case measure => simp [intOf]; omega
      | some k =>
        rw [hf] at C
        have HF : Hid (firstOf hid n (m : Int) = some k) := hf
        have HL : Hid (L.map (fun e => (e.id, e.k)) = tab hid n m) := hL
        clear hf hL
        unfold firstVal at C
        have hkb := (hh.2 k (firstOf_lt HF.out).1).2
        obtain ⟨capf, objf, hcv, htn⟩ := bytes_of (htxt k)
        have HTN : Hid (∀ W : World, TextIn (W.alloc (objf W)) W.heap.size (htxt k)) := htn
        have HSZ : Hid _ := hbel.size
        clear htn
        have fin : ∀ (w1 : World) (v' : Value) (w2 : World) (A E : Obj) (c : Nat), Below wr.heap.size wr w1 →
            w2.ownsRow w.heap.size 57 3 v' (L.length + 1) (flat hborn htxt L ++ [.int .u64 m, .slice (some ⟨w1.heap.size + 1, 0, none⟩) (htxt k).size c, .int .i64 (hborn k)]) →
            ((((w1.alloc A).alloc (objf (w1.alloc A))).alloc E).drew).grownBy w2 u8.ownBlock → u8.ownBlock ≠ some (w1.heap.size + 1) →
            ∃ (m' : Nat) (L' : List Ent), m' ≤ 256 ∧ Value.int .i64 ((m : Int) + 1) = .int .i64 m' ∧ L'.map (fun e => (e.id, e.k)) = tab hid n m' ∧
            w2.ownsRow w.heap.size 57 3 v' L'.length (flat hborn htxt L') ∧ (∀ e ∈ L', w.heap.size ≤ e.blk ∧ TextIn w2 e.blk (htxt e.k)) ∧ Below w.heap.size w w2 := by
          intro w1 v' w2 A E c hb1 ho hg hne
          have hs1 := hb1.size
          have hbw1 : Below w.heap.size w w1 := hbel.trans (hb1.mono hbel.size)
          have hown1 := own_below hown hb1
          refine ⟨m + 1, L ++ [⟨m, k, w1.heap.size + 1, c⟩], by omega, by go_num, ?_, ?_, ?_, ?_⟩
          · rw [tab_succ_some HF.out, ← HL.out]; simp
          · rw [flat_snoc]; simpa [Ent.cells] using ho
          · intro e he
            rcases List.mem_append.1 he with he | he
            · refine ⟨(htx e he).1, ?_⟩
              have h1 := (htx e he).2.below hb1 (Nat.le_refl _)
              have hl := h1.lt
              have h2 : TextIn ((((w1.alloc A).alloc (objf (w1.alloc A))).alloc E).drew) e.blk (htxt e.k) := h1.keep (by
                show ((((w1.alloc A).alloc (objf (w1.alloc A))).alloc E)).heap[e.blk]? = _
                rw [Below.heap_alloc _ _ _ (by simp; omega), Below.heap_alloc _ _ _ (by simp; omega), Below.heap_alloc _ _ _ hl])
              obtain ⟨cs, fr, hx, _⟩ := h2
              exact h1.keep ((hg.block _ (by simp; omega) (own_ne ((((hown1.alloc A).alloc (objf (w1.alloc A))).alloc E).drew) hx (by decide))).trans (by
                show ((((w1.alloc A).alloc (objf (w1.alloc A))).alloc E)).heap[e.blk]? = _
                rw [Below.heap_alloc _ _ _ (by simp; omega), Below.heap_alloc _ _ _ (by simp; omega), Below.heap_alloc _ _ _ hl]))
            · simp at he
              subst he
              refine ⟨by have := hbel.size; simp; omega, ?_⟩
              have h1 := HTN.out (w1.alloc A)
              refine (show TextIn _ (w1.heap.size + 1) _ by simpa using h1).keep ?_
              rw [hg.block _ (by simp) (Ne.symm hne)]
              show ((((w1.alloc A).alloc (objf (w1.alloc A))).alloc E)).heap[w1.heap.size + 1]? = _
              rw [Below.heap_alloc _ _ _ (by simp)]
          · exact ((((hbw1.alloc (by have := hbel.size; omega) A).alloc (by have := hbel.size; simp; omega) _).alloc (by have := hbel.size; simp; omega) E).drew).grown hg (by have := hbel.size; simp; omega) (fun j hj => (hown1.lt j hj).1)
        have FIN : Hid _ := fin
        have hll : L.length ≤ 256 := by
          have := tab_len hid n m
          rw [← HL.out] at this
          simp at this
          omega
        have HOW : Hid (∀ w1, Below wr.heap.size wr w1 → w1.ownsRow w.heap.size 57 3 u8 L.length (flat hborn htxt L)) := fun w1 h => own_below hown h
        clear fin hown htx hbel
        go_wp2_with fail
        refine C.mono ?_
        rintro e w1 ⟨rfl, hb1⟩
        have hown3 := fun A O E => ((((HOW.out w1 hb1).alloc A).alloc O).alloc E).drew
        go_wp2_with (at_builtin; go_must (refine wpList_append_own _ rfl (.tmp 28) (.tmp 38) 55 rfl w.heap.size 57 i0 (.agg #[.int .u64 0, .slice none 0 0, .int .i64 0]) 3 40 Yba.underlying55 hi hz0 hz1 hz2 rfl (by decide) u8 L.length (flat hborn htxt L) rfl (hown3 _ _ _) ⟨w1.heap.size + 1 + 1, 0, none⟩ 1 1 [.int .u64 m, .slice (some ⟨w1.heap.size + 1, 0, none⟩) (htxt k).size (capf (w1.alloc (.cells #[.int .u8 (hid k), .int .i32 (hborn k), .string (htxt k)] 36))), .int .i64 (hborn k)] rfl rfl ?d1 ?d2 ?d3 ?d4 ?d5 ?d6))
        case d1 => exact fun j u hj => new_cells _ _ 57 _ (by simp) j u hj
        case d2 => exact fun u hu => by simp at hu; rcases hu with rfl | rfl | rfl <;> rfl
        case d3 => unfold maxLen; omega
        case d4 => omega
        case d5 => have := HSZ.out; have := hb1.size; simp; omega
        case d6 =>
          intro v' w2 ho hg _
          have R := FIN.out w1 v' w2 _ _ _ hb1 ho hg (by
            intro e1
            have := ((HOW.out w1 hb1).lt _ e1).2
            omega)
          clear ho hg hown3 FIN HOW hcv
          go_wp2
          go_roundw
          case rel => exact R
          case measure => simp [intOf]; omega
    · obtain rfl : m = 256 := by omega
      obtain ⟨wo, rfl⟩ : ∃ wo, wo = wr := ⟨_, rfl⟩
      obtain ⟨ta, tc, rfl⟩ := own_form hown
      have hmk := run_make_row' (P := Yba.prog) 34 39 (.int .u64 0) 8 Yba.underlying34 Yba.info39 rfl .i64 .i64 len (by omega) (by omega)
      have hbs := hbel.size
      have HB : Hid (Below w.heap.size w wo) := hbel
      have HO : Hid (wo.ownsRow w.heap.size 57 3 (.slice ta L.length tc) L.length (flat hborn htxt L)) := hown
      have HT : Hid (∀ e ∈ L, w.heap.size ≤ e.blk ∧ TextIn wo e.blk (htxt e.k)) := htx
      have HL : Hid (L.map (fun e => (e.id, e.k)) = tab hid n 256) := hL
      clear hbel hown htx hL hh
      go_wp2_with fail
      clear hmk
      go_loopw [45] (fun i wx => ∃ k : Nat, k ≤ len ∧ i = .int .i64 k ∧ wx.rowIs wo.heap.size 39 len (fun j => .int .u64 (if j < k then sp j else 0)) ∧ Below wo.heap.size wo wx) (fun i _ => len - (intOf i).toNat)
      case atStart => exact ⟨0, Nat.zero_le _, rfl, World.rowIs_made wo (.int .u64 0) len 39, (Below.refl _ _).alloc (Nat.le_refl _) _⟩
      case round =>
        obtain ⟨k, hk, rfl, hrow, hbx⟩ := hrel
        by_cases hlt2 : k < len
        · obtain ⟨rb, ro, rfl, hrb, hc⟩ := hr (by omega)
          have c := hc k hlt2
          rw [← HB.out.cell hrb, ← hbx.cell (by exact Nat.lt_of_lt_of_le hrb hbs)] at c
          have hfz := hrow.frozen k
          have hck := hrow.cell hlt2
          have hbk := hz k hlt2
          have HR : Hid _ := hrow
          clear hrow hc hr hz
          go_wp2
          go_roundw
          case rel => exact ⟨k + 1, by omega, by go_num, row_step HR.out rfl, hbx.setCell (Nat.le_refl _) _⟩
          case measure => simp [intOf]; omega
        · obtain rfl : k = len := by omega
          have hl := hrow.lt
          have hrow2 : wr.rowIs wo.heap.size 39 k (fun j => .int .u64 (sp j)) := hrow.congr fun j hj => by rw [if_pos hj]
          have fin : ∀ A Bo, wr.heap.size < wr.heap.size + 1 →
              (wr.alloc (.cells #[.int .i64 iv, .nilFunc, .pointer none, .int .i32 0, .int .u32 0, .slice ta L.length tc, .pointer none, .int .i32 0, .int .u32 0, .int .u32 0] 72)) = A →
              (A.alloc (.cells #[.slice (some ⟨wo.heap.size, 0, none⟩) k k, .slice none 0 0, .slice none 0 0, .slice none 0 0, .slice none 0 0, .slice none 0 0] 46)) = Bo →
              Built w Bo n k hid hborn htxt sp iv wr.heap.size (wr.heap.size + 1) wo.heap.size ta tc L := by
            intro A Bo _ hA hBo
            have sA : A.heap.size = wr.heap.size + 1 := by rw [← hA]; simp
            have bA : ∀ j, j < wr.heap.size → Bo.heap[j]? = wr.heap[j]? := fun j hj => by
              rw [← hBo, Below.heap_alloc _ _ _ (by omega), ← hA, Below.heap_alloc _ _ _ hj]
            have eA : Bo.heap[wr.heap.size]? = some (.cells #[.int .i64 iv, .nilFunc, .pointer none, .int .i32 0, .int .u32 0, .slice ta L.length tc, .pointer none, .int .i32 0, .int .u32 0, .int .u32 0] 72 (0, 0)) := by
              rw [← hBo, Below.heap_alloc _ _ _ (by omega), ← hA]; exact heap_alloc_new _ _
            refine ⟨HL.out, by simp [World.cell?, eA], by simp [World.cell?, eA], ?_, hrow2.of_block (bA _ hl), ?_, fun e he => ⟨(HT.out e he).1, ?_⟩, ?_, ⟨by omega, by omega, hbs⟩, ⟨by omega, by omega, by omega⟩⟩
            · rw [← hBo, ← sA]; exact heap_alloc_new _ _
            · rw [← hBo, ← hA]; exact ((own_below HO.out hbx).alloc _).alloc _
            · exact ((HT.out e he).2.below hbx (Nat.le_refl _)).keep (bA _ ((HT.out e he).2.below hbx (Nat.le_refl _)).lt)
            · rw [← hBo, ← hA]; exact ((HB.out.trans (hbx.mono hbs)).alloc (by omega) _).alloc (by simp; omega) _
          have FIN : Hid _ := fin
          clear fin hrow hrow2
          go_wp2
          go_ret2
          exact ⟨_, _, _, ta, tc, L, rfl, FIN.out _ _ (by omega) rfl rfl⟩
end Go.Proofs.Ybulkauwm
