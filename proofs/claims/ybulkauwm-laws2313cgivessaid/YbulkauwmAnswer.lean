import Derived.Test.YbulkauwmKeeps
import Derived.Deep.RegionLaw
namespace Go.Proofs.Ybulkauwm
open Go.RowKit

/-- What the peer asks for, of the first k ids of the opening. -/
def asks (tid sp : Nat → Int) (n k : Nat) : List Int := ((List.range k).filter fun j => !isIn tid n (sp j)).map sp
/-- Which of the first m rumors of the table it gives. -/
def gives (tid tborn sp : Nat → Int) (iv now : Int) (len m : Nat) : List Nat := (List.range m).filter fun j => decide (now - tborn j < 50 * iv) && !isIn sp len (tid j)
def gcells (tid tborn : Nat → Int) (xa : Nat → Option Addr) (xn xc : Nat → Nat) (now : Int) (j : Nat) : List Value := [.int .u64 (tid j), .int .u32 (ageOf (now - tborn j)), .slice (xa j) (xn j) (xc j)]
def gflat (tid tborn : Nat → Int) (xa : Nat → Option Addr) (xn xc : Nat → Nat) (now : Int) (G : List Nat) : List Value := G.flatMap (gcells tid tborn xa xn xc now)

theorem asks_len (tid sp : Nat → Int) (n k : Nat) : (asks tid sp n k).length ≤ k := by
  unfold asks
  rw [List.length_map]
  exact Nat.le_trans (List.length_filter_le _ _) (by simp)
theorem asks_yes {tid sp : Nat → Int} {n k : Nat} (h : isIn tid n (sp k) = false) : asks tid sp n (k + 1) = asks tid sp n k ++ [sp k] := by
  unfold asks
  rw [List.range_succ, List.filter_append, List.map_append]
  simp [h]
theorem asks_no {tid sp : Nat → Int} {n k : Nat} (h : isIn tid n (sp k) = true) : asks tid sp n (k + 1) = asks tid sp n k := by
  unfold asks
  rw [List.range_succ, List.filter_append, List.map_append]
  simp [h]
theorem gives_len (tid tborn sp : Nat → Int) (iv now : Int) (len m : Nat) : (gives tid tborn sp iv now len m).length ≤ m := by
  unfold gives
  exact Nat.le_trans (List.length_filter_le _ _) (by simp)
theorem gives_yes {tid tborn sp : Nat → Int} {iv now : Int} {len m : Nat} (h : (decide (now - tborn m < 50 * iv) && !isIn sp len (tid m)) = true) : gives tid tborn sp iv now len (m + 1) = gives tid tborn sp iv now len m ++ [m] := by
  unfold gives
  rw [List.range_succ, List.filter_append]
  simp only [List.filter_cons, List.filter_nil]
  rw [if_pos h]
theorem gives_no {tid tborn sp : Nat → Int} {iv now : Int} {len m : Nat} (h : (decide (now - tborn m < 50 * iv) && !isIn sp len (tid m)) = false) : gives tid tborn sp iv now len (m + 1) = gives tid tborn sp iv now len m := by
  unfold gives
  rw [List.range_succ, List.filter_append]
  simp only [List.filter_cons, List.filter_nil]
  rw [if_neg (by rw [h]; simp)]
  simp
theorem gflat_snoc (tid tborn : Nat → Int) (xa : Nat → Option Addr) (xn xc : Nat → Nat) (now : Int) (G : List Nat) (j : Nat) : gflat tid tborn xa xn xc now (G ++ [j]) = gflat tid tborn xa xn xc now G ++ gcells tid tborn xa xn xc now j := by simp [gflat]

theorem TabAt.keeps {w w' : World} {ta : Option Addr} {n : Nat} {tid tborn : Nat → Int} {xa : Nat → Option Addr} {xn xc : Nat → Nat} (h : TabAt w ta n tid tborn xa xn xc) {wb ib : Nat} (hne : ∀ b o, ta = some ⟨b, o, none⟩ → 0 < n → b ≠ wb ∧ b ≠ ib) (hk : Keeps w.heap.size wb ib w w') : TabAt w' ta n tid tborn xa xn xc := by
  intro hp
  obtain ⟨tb, to, e, hl, hc⟩ := h hp
  have hn := hne tb to e hp
  refine ⟨tb, to, e, Nat.lt_of_lt_of_le hl hk.size, fun k hkn => ?_⟩
  rw [hk.cell hl hn.1 hn.2, hk.cell hl hn.1 hn.2, hk.cell hl hn.1 hn.2]
  exact hc k hkn

/-- The state of answer's first loop. -/
structure St1 (w wr : World) (wb ib n len k : Nat) (tid sp : Nat → Int) (v : Value) : Prop where
  work : workAt wr wb (.slice (some ⟨ib, 0, none⟩) len len) v (.slice none 0 0)
  own : wr.ownsRow w.heap.size 39 1 v (asks tid sp n k).length ((asks tid sp n k).map (Value.int .u64))
  row : wr.rowIs ib 39 len (fun j => .int .u64 (sp j))
  keep : Keeps w.heap.size wb ib w wr

theorem St1.below {w wr w1 : World} {wb ib n len k : Nat} {tid sp : Nat → Int} {v : Value} (h : St1 w wr wb ib n len k tid sp v) (hb : Below wr.heap.size wr w1) : St1 w w1 wb ib n len k tid sp v :=
  ⟨h.work.of_block (hb.block _ h.work.lt), own_below h.own hb, h.row.of_block (hb.block _ h.row.lt), h.keep.below hb h.keep.size⟩
theorem St1.alloc {w wr : World} {wb ib n len k : Nat} {tid sp : Nat → Int} {v : Value} (h : St1 w wr wb ib n len k tid sp v) (o : Obj) : St1 w (wr.alloc o) wb ib n len k tid sp v :=
  ⟨h.work.of_block (Below.heap_alloc _ _ _ h.work.lt), h.own.alloc _, h.row.alloc _, h.keep.alloc h.keep.size _⟩

/-- What an append and the store of its slice make of the state. -/
theorem St1.step {w w1 w2 : World} {wb ib n len k g cap : Nat} {tid sp : Nat → Int} {v : Value} {o : Obj} (h : St1 w w1 wb ib n len k tid sp v) (hwb : wb < w.heap.size) (hib : ib < w.heap.size) (ne3 : wb ≠ ib) (hin : isIn tid n (sp k) = false)
    (ho : w2.ownsRow w.heap.size 39 1 (.slice (some ⟨g, 0, none⟩) ((asks tid sp n k).length + 1) cap) ((asks tid sp n k).length + 1) ((asks tid sp n k).map (Value.int .u64) ++ [.int .u64 (sp k)]))
    (hg : (w1.alloc o).grownBy w2 v.ownBlock) : St1 w (w2.setCell ⟨wb, 2, none⟩ (.slice (some ⟨g, 0, none⟩) ((asks tid sp n k).length + 1) cap)) wb ib n len (k + 1) tid sp (.slice (some ⟨g, 0, none⟩) ((asks tid sp n k).length + 1) cap) := by
  have ha := h.alloc o
  have hlow : ∀ b, b < w.heap.size → some b ≠ v.ownBlock := fun b hb e => by
    have := (h.own.lt b e.symm).1
    omega
  have hsz := ha.keep.size
  refine ⟨(ha.work.of_block (hg.block _ ha.work.lt (hlow _ hwb))).set2 _, ?_, (ha.row.of_block (hg.block _ ha.row.lt (hlow _ hib))).setOther (fun e => ne3 e.symm) _, ?_⟩
  · rw [asks_yes hin]
    refine own_set (a := ⟨wb, 2, none⟩) ?_ hwb _
    simpa using ho
  · exact (ha.keep.grown hg hsz (fun b hb => Or.inl (h.own.lt b hb).1)).setCell (Or.inr (Or.inl rfl)) _

/-- The state of answer's second loop; ws: the world behind the sort. -/
structure St2 (w ws wr : World) (wb ib n len m : Nat) (tid tborn sp : Nat → Int) (xa : Nat → Option Addr) (xn xc : Nat → Nat) (iv now : Int) (v2 v3 : Value) : Prop where
  work : workAt wr wb (.slice (some ⟨ib, 0, none⟩) len len) v2 v3
  own2 : wr.ownsRow w.heap.size 39 1 v2 (asks tid sp n len).length ((asks tid sp n len).map (Value.int .u64))
  own3 : wr.ownsRow w.heap.size 52 3 v3 (gives tid tborn sp iv now len m).length (gflat tid tborn xa xn xc now (gives tid tborn sp iv now len m))
  ids : wr.heap[ib]? = ws.heap[ib]?
  keep : Keeps w.heap.size wb ib w wr

section
variable {w ws wr w1 w2 : World} {wb ib n len m : Nat} {tid tborn sp : Nat → Int} {xa : Nat → Option Addr} {xn xc : Nat → Nat} {iv now : Int} {v2 v3 : Value}
theorem St2.below (h : St2 w ws wr wb ib n len m tid tborn sp xa xn xc iv now v2 v3) (hib : ib < w.heap.size) (hb : Below wr.heap.size wr w1) : St2 w ws w1 wb ib n len m tid tborn sp xa xn xc iv now v2 v3 :=
  ⟨h.work.of_block (hb.block _ h.work.lt), own_below h.own2 hb, own_below h.own3 hb, (hb.block _ (Nat.lt_of_lt_of_le hib h.keep.size)).trans h.ids, h.keep.below hb h.keep.size⟩
theorem St2.alloc (h : St2 w ws wr wb ib n len m tid tborn sp xa xn xc iv now v2 v3) (hib : ib < w.heap.size) (o : Obj) : St2 w ws (wr.alloc o) wb ib n len m tid tborn sp xa xn xc iv now v2 v3 :=
  h.below hib ((Below.refl _ _).alloc (Nat.le_refl _) o)
theorem St2.drew (h : St2 w ws wr wb ib n len m tid tborn sp xa xn xc iv now v2 v3) : St2 w ws wr.drew wb ib n len m tid tborn sp xa xn xc iv now v2 v3 :=
  ⟨h.work, h.own2, h.own3, h.ids, h.keep.drew⟩
theorem St2.skip (h : St2 w ws wr wb ib n len m tid tborn sp xa xn xc iv now v2 v3) (e : (decide (now - tborn m < 50 * iv) && !isIn sp len (tid m)) = false) : St2 w ws wr wb ib n len (m + 1) tid tborn sp xa xn xc iv now v2 v3 :=
  ⟨h.work, h.own2, by rw [gives_no e]; exact h.own3, h.ids, h.keep⟩
/-- Two rows of different element types are two. -/
theorem own_own {base e e' size size' : Nat} {u v : Value} {n' m' : Nat} {xs ys : List Value} (h : w.ownsRow base e size u n' xs) (k : w.ownsRow base e' size' v m' ys) (hne : e ≠ e') : u.ownBlock = none ∨ u.ownBlock ≠ v.ownBlock := by
  rcases h.2 with ⟨rfl, _⟩ | ⟨g, cap, cur, rfl, _, hg, _⟩
  · exact Or.inl rfl
  · exact Or.inr (fun e1 => own_ne k hg hne e1)
theorem St2.step {g cap : Nat} {o : Obj} (h : St2 w ws w1 wb ib n len m tid tborn sp xa xn xc iv now v2 v3) (hwb : wb < w.heap.size) (hib : ib < w.heap.size) (ne3 : wb ≠ ib)
    (e : (decide (now - tborn m < 50 * iv) && !isIn sp len (tid m)) = true)
    (ho : w2.ownsRow w.heap.size 52 3 (.slice (some ⟨g, 0, none⟩) ((gives tid tborn sp iv now len m).length + 1) cap) ((gives tid tborn sp iv now len m).length + 1) (gflat tid tborn xa xn xc now (gives tid tborn sp iv now len m) ++ gcells tid tborn xa xn xc now m))
    (hg : (w1.alloc o).grownBy w2 v3.ownBlock) : St2 w ws (w2.setCell ⟨wb, 3, none⟩ (.slice (some ⟨g, 0, none⟩) ((gives tid tborn sp iv now len m).length + 1) cap)) wb ib n len (m + 1) tid tborn sp xa xn xc iv now v2 (.slice (some ⟨g, 0, none⟩) ((gives tid tborn sp iv now len m).length + 1) cap) := by
  have ha := h.alloc hib o
  have hlow : ∀ b, b < w.heap.size → some b ≠ v3.ownBlock := fun b hb e => by
    have := (h.own3.lt b e.symm).1
    omega
  have hsz := ha.keep.size
  refine ⟨(ha.work.of_block (hg.block _ ha.work.lt (hlow _ hwb))).set3 _, own_set (a := ⟨wb, 3, none⟩) (ha.own2.kept hg (own_own ha.own2 ha.own3 (by decide))) hwb _, ?_, ?_, ?_⟩
  · rw [gives_yes e, gflat_snoc]
    refine own_set (a := ⟨wb, 3, none⟩) ?_ hwb _
    simpa using ho
  · rw [Below.heap_setCell _ _ _ _ (fun e => ne3 e.symm), hg.block _ (by omega) (hlow _ hib)]
    exact ha.ids
  · exact (ha.keep.grown hg hsz (fun b hb => Or.inl (h.own3.lt b hb).1)).setCell (Or.inr (Or.inl rfl)) _
end

theorem isIn_perm {f g : Nat → Int} {len : Nat} (h : (listOf g len).Perm (listOf f len)) (y : Int) : isIn g len y = isIn f len y := by
  have e : ∀ f : Nat → Int, isIn f len y = (listOf f len).any (· == y) := fun f => by
    unfold isIn listOf
    rw [List.any_map]
    rfl
  rw [e, e, Bool.eq_iff_iff, List.any_eq_true, List.any_eq_true]
  constructor
  · rintro ⟨x, hx, e⟩; exact ⟨x, h.mem_iff.1 hx, e⟩
  · rintro ⟨x, hx, e⟩; exact ⟨x, h.mem_iff.2 hx, e⟩

/-- What answer leaves. -/
structure Answered (w w' : World) (wb ib n len : Nat) (tid tborn sp g : Nat → Int) (xa : Nat → Option Addr) (xn xc : Nat → Nat) (iv now : Int) (v2 v3 : Value) : Prop where
  work : workAt w' wb (.slice (some ⟨ib, 0, none⟩) len len) v2 v3
  own2 : w'.ownsRow w.heap.size 39 1 v2 (asks tid sp n len).length ((asks tid sp n len).map (Value.int .u64))
  own3 : w'.ownsRow w.heap.size 52 3 v3 (gives tid tborn sp iv now len n).length (gflat tid tborn xa xn xc now (gives tid tborn sp iv now len n))
  sorted : ∀ a b, a ≤ b → b < len → g a ≤ g b
  perm : (listOf g len).Perm (listOf sp len)
  ids : ∀ j, j < len → w'.cell? ⟨ib, j, none⟩ = some (.int .u64 (g j))
  keep : Keeps w.heap.size wb ib w w'

set_option maxRecDepth 100000 in
set_option maxHeartbeats 2000000 in
theorem answer_any (eb wb ib : Nat) (ta : Option Addr) (n tc len : Nat) (tid tborn : Nat → Int) (xa : Nat → Option Addr) (xn xc : Nat → Nat) (sp : Nat → Int) (iv now : Int) (w : World)
    (hn : n ≤ 256) (hlen : len ≤ 1024) (hiv : -2147483648 ≤ iv ∧ iv ≤ 2147483647) (hnow : -2147483648 ≤ now ∧ now ≤ 2147483647) (hbn : ∀ j, j < n → -2147483648 ≤ tborn j ∧ tborn j ≤ 2147483647)
    (heb : eb < w.heap.size) (ne1 : eb ≠ wb) (ne2 : eb ≠ ib) (ne3 : wb ≠ ib)
    (c0 : w.cell? ⟨eb, 0, none⟩ = some (.int .i64 iv)) (c5 : w.cell? ⟨eb, 5, none⟩ = some (.slice ta n tc))
    (hw : workAt w wb (.slice (some ⟨ib, 0, none⟩) len len) (.slice none 0 0) (.slice none 0 0)) (hrow : w.rowIs ib 39 len (fun j => .int .u64 (sp j)))
    (ht : TabAt w ta n tid tborn xa xn xc) (htn : ∀ b o, ta = some ⟨b, o, none⟩ → 0 < n → b ≠ wb ∧ b ≠ ib) (hs : ∀ a b, a ≤ b → b < n → tid a ≤ tid b) :
    Calls Yba.prog 10 #[.pointer (some ⟨eb, 0, none⟩), .pointer (some ⟨wb, 0, none⟩), .int .i64 now] w fun e w' => e = .returned (.tuple #[]) ∧
      ∃ g v2 v3, Answered w w' wb ib n len tid tborn sp g xa xn xc iv now v2 v3 := by
  obtain ⟨i0, hi, hz0, hz1, hz2⟩ := info_parts Yba.info39
  obtain ⟨i1, hy, hy0, hy1, hy2⟩ := info_parts Yba.info52
  have hws := hw.cells
  go_enter Yba.func10, Yba.ntmps10
  go_wp2_with fail
  clear hws
  go_loopw [24] (fun i wr => ∃ (k : Nat) (v : Value), k ≤ len ∧ i = .int .i64 k ∧ St1 w wr wb ib n len k tid sp v) (fun i _ => len - (intOf i).toNat)
  case atStart => exact ⟨0, _, Nat.zero_le _, rfl, ⟨hw, World.ownsRow_nil _ _ _ _, hrow, Keeps.refl _ _ _ _⟩⟩
  case round =>
    obtain ⟨k, v, hk, rfl, hst⟩ := hrel
    by_cases hlt : k < len
    · have d0 := hst.row.cell hlt
      have d5 : wr.cell? ⟨eb, 5, none⟩ = some (.slice ta n tc) := (hst.keep.cell heb ne1 ne2).trans c5
      have CH := has_any ta n tc tid tborn xa xn xc (sp k) wr (by omega) (ht.keeps htn hst.keep) hs
      have HST : Hid (St1 w wr wb ib n len k tid sp v) := hst
      clear hst
      cases hin : isIn tid n (sp k) with
      | true =>
        rw [hin] at CH
        have HIN : Hid (isIn tid n (sp k) = true) := hin
        clear hin
        go_wp2_with (first
          | (go_at_call 16; refine CH.mono ?_; rintro e w1 ⟨rfl, hb1⟩)
          | (go_at_call 15; refine (contact_any _ _ _).mono ?_; rintro e w2 ⟨rfl, rfl⟩))
        go_roundw
        case rel =>
          have h1 := HST.out.below hb1
          exact ⟨k + 1, v, by omega, by go_num, ⟨h1.work, by rw [asks_no HIN.out]; exact h1.own, h1.row, h1.keep⟩⟩
        case measure => simp [intOf]; omega
      | false =>
        rw [hin] at CH
        have HIN : Hid (isIn tid n (sp k) = false) := hin
        clear hin
        obtain ⟨va, vc, rfl⟩ := own_form HST.out.own
        have hal := asks_len tid sp n k
        go_wp2_with fail
        refine CH.mono ?_
        rintro e w1 ⟨rfl, hb1⟩
        have h1 := HST.out.below hb1
        obtain ⟨e0, e2, e3, f2, f3⟩ := h1.work.cells
        have H1 : Hid _ := h1
        clear h1 HST CH
        go_wp2_with fail
        refine (contact_any _ _ _).mono ?_
        rintro e w1 ⟨rfl, rfl⟩
        have hown3 := fun A => (H1.out.own).alloc A
        have hsz1 := H1.out.keep.size
        go_wp2_with (at_builtin; go_must (refine wpList_append_lies _ rfl (.tmp 43) (.tmp 45) 34 rfl w.heap.size 39 i0 (.int .u64 0) 1 8 Yba.underlying34 hi hz0 hz1 hz2 rfl (by decide) (.slice va (asks tid sp n k).length vc) (asks tid sp n k).length ((asks tid sp n k).map (Value.int .u64)) rfl (hown3 _) ⟨w1.heap.size, 0, none⟩ 1 1 [.int .u64 (sp k)] rfl rfl ?d1 ?d2 (by decide) ?d3 ?d4 ?d5 (w1.heap.size + 1) ?d7 ?d6))
        case d1 => exact fun j u hj => new_cells _ _ 39 _ (by simp) j u hj
        case d2 => exact fun u hu => by simp at hu; subst hu; rfl
        case d3 => unfold maxLen; omega
        case d4 => omega
        case d5 => simp; omega
        case d7 => simp
        case d6 =>
          intro g cap w2 ho hg _ _
          have R := H1.out.step hw.lt hrow.lt ne3 HIN.out ho hg
          have q1 := (H1.out.alloc (.cells #[.int .u64 (sp k)] 39)).work
          have q2 := (q1.of_block (hg.block _ q1.lt (fun e => by have := (H1.out.own.lt _ e.symm).1; have := hw.lt; omega))).cells
          clear ho hg hown3 q1 H1
          go_wp2
          go_roundw
          case rel => exact ⟨k + 1, _, by omega, by go_num, R⟩
          case measure => simp [intOf]; omega
    · obtain rfl : k = len := by omega
      have CS := sort_any ib k k sp wr hlen hst.row
      have HST : Hid (St1 w wr wb ib n k k tid sp v) := hst
      clear hst
      go_wp2_with fail
      refine CS.mono ?_
      rintro e ws ⟨rfl, g, hgs, hgp, hgc, hgw⟩
      have hibl := hrow.lt
      have hlow : ∀ b, b < w.heap.size → some b ≠ v.ownBlock := fun b hb e => by
        have := (HST.out.own.lt b e.symm).1
        omega
      have h2 : St2 w ws ws wb ib n k 0 tid tborn sp xa xn xc iv now v (.slice none 0 0) :=
        ⟨HST.out.work.of_block (hgw.block _ HST.out.work.lt (by simp; exact ne3)), HST.out.own.kept hgw (Or.inr (fun e => hlow _ hibl e.symm)), World.ownsRow_nil _ _ _ _, rfl,
          HST.out.keep.grown hgw HST.out.keep.size (fun b hb => by cases hb; exact Or.inr (Or.inr rfl))⟩
      have d5 : ws.cell? ⟨eb, 5, none⟩ = some (.slice ta n tc) := (h2.keep.cell heb ne1 ne2).trans c5
      have HH : Hid ((∀ a b, a ≤ b → b < k → g a ≤ g b) ∧ (listOf g k).Perm (listOf sp k) ∧ ∀ j, j < k → ws.cell? ⟨ib, j, none⟩ = some (.int .u64 (g j))) := ⟨hgs, hgp, hgc⟩
      have H2 : Hid _ := h2
      clear hgs hgp hgc hgw hlow HST CS h2
      go_wp2_with fail
      go_loopw [57] (fun i wr => ∃ (m : Nat) (v3 : Value), m ≤ n ∧ i = .int .i64 m ∧ St2 w ws wr wb ib n k m tid tborn sp xa xn xc iv now v v3) (fun i _ => n - (intOf i).toNat)
      case atStart => exact ⟨0, _, Nat.zero_le _, rfl, H2.out⟩
      case round =>
        obtain ⟨m, v3, hm, rfl, hst⟩ := hrel
        by_cases hltm : m < n
        · obtain ⟨tb, to, rfl, htb, htc⟩ := ht (by omega)
          have hnn := htn tb to rfl (by omega)
          obtain ⟨t0, t1, t2⟩ := htc m hltm
          rw [← hst.keep.cell htb hnn.1 hnn.2] at t0 t1 t2
          have hbm := hbn m hltm
          have hebr : eb < wr.heap.size := Nat.lt_of_lt_of_le heb hst.keep.size
          have d0 : wr.cell? ⟨eb, 0, none⟩ = some (.int .i64 iv) := (hst.keep.cell heb ne1 ne2).trans c0
          have CSP := fun o => spreads_any eb iv now (tid m) (tborn m) (xa m) (xn m) (xc m) (wr.alloc o) hiv.1 hiv.2 hnow.1 hnow.2 hbm.1 hbm.2 (by simp; omega) ((World.cell?_alloc_lt _ _ _ hebr).trans d0)
          have HST : Hid _ := hst
          clear hst htc ht
          by_cases hsp : now - tborn m < 50 * iv
          · rw [decide_eq_true hsp] at CSP
            go_wp2_with fail
            refine (CSP _).mono ?_
            rintro e w1 ⟨rfl, hb1⟩
            have k0 : w1.cell? ⟨wr.heap.size, 0, none⟩ = some (.int .u64 (tid m)) := (hb1.cell (by simp)).trans (by simp)
            have k1 : w1.cell? ⟨wr.heap.size, 1, none⟩ = some (.slice (xa m) (xn m) (xc m)) := (hb1.cell (by simp)).trans (by simp)
            have k2 : w1.cell? ⟨wr.heap.size, 2, none⟩ = some (.int .i64 (tborn m)) := (hb1.cell (by simp)).trans (by simp)
            have hblk57 : w1.heap[wr.heap.size]? = some (.cells #[.int .u64 (tid m), .slice (xa m) (xn m) (xc m), .int .i64 (tborn m)] 57 (0, 0)) := (hb1.block _ (by simp)).trans (heap_alloc_new _ _)
            have hlt1 : wr.heap.size < w1.heap.size := by have := hb1.size; simp at this; omega
            have h1 := (HST.out.alloc hibl _).below hibl hb1
            have hU : U64At w1 (some ⟨ib, 0, none⟩) k g := fun _ => ⟨ib, 0, rfl, fun j hj => by
              rw [Nat.zero_add, World.cell?_of_block (a := ⟨ib, j, none⟩) h1.ids]; exact HH.out.2.2 j hj⟩
            have CB := bsearch_any (some ⟨ib, 0, none⟩) k k g (tid m) w1 hlen hU HH.out.1
            rw [isIn_perm HH.out.2.1] at CB
            have H1 : Hid _ := h1
            clear h1 hU CSP HST hb1 t0 t1 t2 d0
            cases hli : isIn sp k (tid m) with
            | true =>
              rw [hli] at CB
              have HE : Hid ((decide (now - tborn m < 50 * iv) && !isIn sp k (tid m)) = false) := by
                show _ = _
                rw [hli]; simp
              clear hli
              go_wp2_with (first
                | (go_at_call 19; refine CB.mono ?_; rintro e w2 ⟨⟨pos, rfl⟩, rfl⟩)
                | (go_at_call 15; refine (contact_any _ _ _).mono ?_; rintro e w2 ⟨rfl, rfl⟩))
              go_roundw
              case rel => exact ⟨m + 1, v3, by omega, by go_num, H1.out.skip HE.out⟩
              case measure => simp [intOf]; omega
            | false =>
              rw [hli] at CB
              have HE : Hid ((decide (now - tborn m < 50 * iv) && !isIn sp k (tid m)) = true) := by
                show _ = _
                rw [hli, decide_eq_true hsp]; rfl
              clear hli
              obtain ⟨va, vc, rfl⟩ := own_form H1.out.own3
              obtain ⟨e0, e2, e3, f2, f3⟩ := H1.out.work.cells
              go_wp2_with (first
                | (go_at_call 19; refine CB.mono ?_; rintro e w2 ⟨⟨pos, rfl⟩, rfl⟩)
                | (go_at_call 15; refine (contact_any _ _ _).mono ?_; rintro e w2 ⟨rfl, rfl⟩))
              have hgl := gives_len tid tborn sp iv now k m
              have hs2 := H1.out.keep.size
              have hwbl := hw.lt
              have KC : Hid (∀ w3, Below w2.heap.size w2.drew w3 → w3.cell? ⟨wb, 3, none⟩ = some (.slice va (gives tid tborn sp iv now k m).length vc) ∧ w3.frozen? ⟨wb, 3, none⟩ = false ∧ w3.cell? ⟨wr.heap.size, 0, none⟩ = some (.int .u64 (tid m)) ∧
                  w3.cell? ⟨wr.heap.size, 1, none⟩ = some (.slice (xa m) (xn m) (xc m)) ∧ w3.cell? ⟨wr.heap.size, 2, none⟩ = some (.int .i64 (tborn m))) := fun w3 hb3 =>
                ⟨(hb3.cell (show wb < w2.heap.size by omega)).trans e3, (hb3.frozen (show wb < w2.heap.size by omega)).trans f3, (hb3.cell (show wr.heap.size < w2.heap.size by omega)).trans k0,
                  (hb3.cell (show wr.heap.size < w2.heap.size by omega)).trans k1, (hb3.cell (show wr.heap.size < w2.heap.size by omega)).trans k2⟩
              have KO : Hid (∀ w3 o, Below w2.heap.size w2.drew w3 → (w3.alloc o).ownsRow w.heap.size 52 3 (.slice va (gives tid tborn sp iv now k m).length vc) (gives tid tborn sp iv now k m).length (gflat tid tborn xa xn xc now (gives tid tborn sp iv now k m))) := fun w3 o hb3 =>
                (own_below (w := w2.drew) H1.out.own3 hb3).alloc o
              have KA : Hid (∀ w3 w4 o, Below w2.heap.size w2.drew w3 → (w3.alloc o).grownBy w4 (Value.slice va (gives tid tborn sp iv now k m).length vc).ownBlock → w4.cell? ⟨wb, 3, none⟩ = some (.slice va (gives tid tborn sp iv now k m).length vc) ∧ w4.frozen? ⟨wb, 3, none⟩ = false ∧ w4.cell? ⟨wr.heap.size, 0, none⟩ = some (.int .u64 (tid m)) ∧
                  w4.cell? ⟨wr.heap.size, 1, none⟩ = some (.slice (xa m) (xn m) (xc m)) ∧ w4.cell? ⟨wr.heap.size, 2, none⟩ = some (.int .i64 (tborn m))) := by
                intro w3 w4 o hb3 hg
                have h3 := KC.out w3 hb3
                have hs3 : w2.heap.size ≤ w3.heap.size := hb3.size
                have nb : ∀ b, b < w2.heap.size → (some b ≠ (Value.slice va (gives tid tborn sp iv now k m).length vc).ownBlock) → ∀ i, w4.cell? ⟨b, i, none⟩ = w3.cell? ⟨b, i, none⟩ := fun b hb hne i => by
                  rw [hg.cell_far ⟨b, i, none⟩ (show b < (w3.alloc o).heap.size by simp; omega) hne, World.cell?_alloc_lt _ _ _ (show b < w3.heap.size by omega)]
                have n1 : some wb ≠ (Value.slice va (gives tid tborn sp iv now k m).length vc).ownBlock := fun e => by have := (H1.out.own3.lt _ e.symm).1; omega
                have n2 : some wr.heap.size ≠ (Value.slice va (gives tid tborn sp iv now k m).length vc).ownBlock := own_ne H1.out.own3 hblk57 (by decide)
                rw [nb wb (by omega) n1, nb wr.heap.size (by omega) n2, nb wr.heap.size (by omega) n2, nb wr.heap.size (by omega) n2, hg.frozen_far ⟨wb, 3, none⟩ (show wb < (w3.alloc o).heap.size by simp; omega) n1, World.frozen?_of_block (w := w3) (a := ⟨wb, 3, none⟩) (Below.heap_alloc _ _ _ (show wb < w3.heap.size by omega))]
                exact h3
              clear e0 e2 f2
              go_region_law (first
                  | (refine step_append_lies _ (by rfl) (.tmp 83) (.tmp 87) 41 (by rfl) w.heap.size 52 i1 (.agg #[.int .u64 0, .int .u32 0, .slice none 0 0]) 3 40 Yba.underlying41 hy hy0 hy1 hy2 rfl (by omega) (.slice va (gives tid tborn sp iv now k m).length vc) (gives tid tborn sp iv now k m).length (gflat tid tborn xa xn xc now (gives tid tborn sp iv now k m)) (by rfl) (KO.out w3 _ hb3) ⟨w3.heap.size, 0, none⟩ 1 1 (gcells tid tborn xa xn xc now m) (by rfl) (by rfl) (World.news_of_block (cs := #[.int .u64 (tid m), .int .u32 (ageOf (now - tborn m)), .slice (xa m) (xn m) (xc m)]) (t := 52) (fr := (0, 0)) (heap_alloc_new w3 _)) (by simp [gcells, Value.oneCell']) (by omega) (by unfold maxLen; omega) (by omega) (by have := hb3.size; simp at this ⊢; omega) (w3.heap.size + 1) (by simp) ?_; intro gg cap w4 ho hg hat hlt4; have q4 := KA.out w3 w4 _ hb3 hg)
                  | (go_simp; go_at_call 20; refine (wireOf_any (tid m) (tborn m) now (xa m) (xn m) (xc m) _ hnow.1 hnow.2 hbm.1 hbm.2).mono ?_; rintro e w3 ⟨rfl, hb3⟩; have q3 := KC.out w3 hb3; have q5 : wb < w3.heap.size := Nat.lt_of_lt_of_le (show wb < w2.heap.size by omega) hb3.size)
                  | fail)
              all_goals
                go_wp2
                go_roundw
                case rel => exact ⟨m + 1, _, by omega, by go_num, (H1.out.drew.below hibl hb3).step hwbl hibl ne3 HE.out ho hg⟩
                case measure => simp [intOf]; omega
          · rw [decide_eq_false hsp] at CSP
            have HE : Hid ((decide (now - tborn m < 50 * iv) && !isIn sp k (tid m)) = false) := by
              show _ = _
              rw [decide_eq_false hsp]; rfl
            go_wp2_with (first
              | (go_at_call 18; refine (CSP _).mono ?_; rintro e w1 ⟨rfl, hb1⟩))
            go_roundw
            case rel => exact ⟨m + 1, v3, by omega, by go_num, ((HST.out.alloc hibl _).below hibl hb1).skip HE.out⟩
            case measure => simp [intOf]; omega
        · obtain rfl : m = n := by omega
          have hA : Answered w wr wb ib m k tid tborn sp g xa xn xc iv now v v3 :=
            ⟨hst.work, hst.own2, hst.own3, HH.out.1, HH.out.2.1, fun j hj => by rw [World.cell?_of_block (a := ⟨ib, j, none⟩) hst.ids]; exact HH.out.2.2 j hj, hst.keep⟩
          have HA : Hid _ := hA
          clear hA hst
          go_wp2
          go_end0
          exact ⟨rfl, g, v, v3, HA.out⟩
end Go.Proofs.Ybulkauwm
