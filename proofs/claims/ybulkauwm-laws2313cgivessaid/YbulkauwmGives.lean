import Derived.Test.YbulkauwmAsks
namespace Go.Proofs.Ybulkauwm
open Go.RowKit

/-! ### Plain: the place of an element in a sorted list -/
theorem place_of {α : Type} (f : α → Int) : ∀ (l : List α) (x : α), l.Pairwise (fun a b => f a < f b) → x ∈ l → l[(l.filter fun a => decide (f a < f x)).length]? = some x
  | [], x, _, hx => absurd hx (by simp)
  | a :: t, x, hp, hx => by
    rw [List.pairwise_cons] at hp
    by_cases e : f a < f x
    · have hx' : x ∈ t := by
        rcases List.mem_cons.1 hx with rfl | h
        · omega
        · exact h
      rw [List.filter_cons_of_pos (by simpa using e), List.length_cons, List.getElem?_cons_succ]
      exact place_of f t x hp.2 hx'
    · have hxa : x = a := by
        rcases List.mem_cons.1 hx with h | h
        · exact h
        · exact absurd (hp.1 x h) e
      subst hxa
      have : (x :: t).filter (fun a => decide (f a < f x)) = [] := by
        rw [List.filter_eq_nil_iff]
        intro b hb
        rcases List.mem_cons.1 hb with rfl | h
        · simp
        · have := hp.1 b h
          simp; omega
      rw [this]
      rfl
/-- How many elements come before key m; one more where an element bears m. -/
def cntBelow {α : Type} (f : α → Int) (l : List α) (m : Int) : Nat := (l.filter fun a => decide (f a < m)).length
theorem cntBelow_succ_some {α : Type} (f : α → Int) : ∀ (l : List α) (x : α), l.Pairwise (fun a b => f a < f b) → x ∈ l → cntBelow f l (f x + 1) = cntBelow f l (f x) + 1
  | [], x, _, hx => absurd hx (by simp)
  | a :: t, x, hp, hx => by
    rw [List.pairwise_cons] at hp
    unfold cntBelow
    by_cases e : f a < f x
    · have hx' : x ∈ t := by
        rcases List.mem_cons.1 hx with rfl | h
        · omega
        · exact h
      have := cntBelow_succ_some f t x hp.2 hx'
      unfold cntBelow at this
      rw [List.filter_cons_of_pos (by simp; omega), List.filter_cons_of_pos (by simpa using e), List.length_cons, List.length_cons, this]
    · have hxa : x = a := by
        rcases List.mem_cons.1 hx with h | h
        · exact h
        · exact absurd (hp.1 x h) e
      subst hxa
      have h1 : t.filter (fun a => decide (f a < f x)) = [] := by
        rw [List.filter_eq_nil_iff]
        intro b hb
        have := hp.1 b hb
        simp; omega
      have h2 : t.filter (fun a => decide (f a < f x + 1)) = [] := by
        rw [List.filter_eq_nil_iff]
        intro b hb
        have := hp.1 b hb
        simp; omega
      rw [List.filter_cons_of_pos (by simp; omega), List.filter_cons_of_neg (by simp), h1, h2]
      rfl
theorem cntBelow_succ_none {α : Type} (f : α → Int) (l : List α) (m : Int) (h : ∀ x ∈ l, f x ≠ m) : cntBelow f l (m + 1) = cntBelow f l m := by
  unfold cntBelow
  congr 1
  refine List.filter_congr fun x hx => ?_
  have := h x hx
  rw [decide_eq_decide]
  omega
theorem cntBelow_all {α : Type} (f : α → Int) (l : List α) (m : Int) (h : ∀ x ∈ l, f x < m) : cntBelow f l m = l.length := by
  unfold cntBelow
  rw [List.filter_eq_self.2 (fun x hx => by simpa using h x hx)]
theorem cntBelow_zero {α : Type} (f : α → Int) (l : List α) (h : ∀ x ∈ l, 0 ≤ f x) : cntBelow f l 0 = 0 := by
  unfold cntBelow
  rw [List.length_eq_zero_iff, List.filter_eq_nil_iff]
  intro x hx
  have := h x hx
  simp; omega

theorem gives_sorted {hid tborn sp : Nat → Int} {n : Nat} {L : List Ent} (hk : L.map (fun e => (e.id, e.k)) = tab hid n 256) (iv now : Int) (len : Nat) :
    (gives (eid L) tborn sp iv now len L.length).Pairwise (fun a b => eid L a < eid L b) := by
  unfold gives
  have h0 : (List.range L.length).Pairwise (fun a b => eid L a < eid L b) := by
    rw [List.pairwise_iff_getElem]
    intro i j hi hj hij
    simp at hi hj ⊢
    exact eid_sorted hk i j hij hj
  exact h0.sublist (List.filter_sublist)
theorem gives_mem {tid tborn sp : Nat → Int} {iv now : Int} {len m j : Nat} : j ∈ gives tid tborn sp iv now len m ↔ j < m ∧ now - tborn j < 50 * iv ∧ isIn sp len (tid j) = false := by
  unfold gives
  rw [List.mem_filter]
  simp
theorem gflat_get (tid tborn : Nat → Int) (xa : Nat → Option Addr) (xn xc : Nat → Nat) (now : Int) : ∀ (G : List Nat) (p i j : Nat), G[p]? = some j → i < 3 → (gflat tid tborn xa xn xc now G)[p * 3 + i]? = (gcells tid tborn xa xn xc now j)[i]?
  | [], p, i, j, h, _ => by simp at h
  | a :: G, p, i, j, h, hi => by
    have hc : (gcells tid tborn xa xn xc now a).length = 3 := rfl
    show ((gcells tid tborn xa xn xc now a) ++ gflat tid tborn xa xn xc now G)[p * 3 + i]? = _
    cases p with
    | zero =>
      simp at h
      subst h
      rw [List.getElem?_append_left (by omega)]
      simp
    | succ p =>
      rw [List.getElem?_append_right (by omega), show (p + 1) * 3 + i - (gcells tid tborn xa xn xc now a).length = p * 3 + i by omega]
      exact gflat_get tid tborn xa xn xc now G p i j (by simpa using h) hi
/-- The entry of an id. -/
theorem ent_of {hid : Nat → Int} {n q m : Nat} {L : List Ent} (hk : L.map (fun e => (e.id, e.k)) = tab hid n 256) (hm : m < 256) (h : firstOf hid n (m : Int) = some q) : ∃ j, j < L.length ∧ (ent L j).id = m ∧ (ent L j).k = q := by
  have hmem : (m, q) ∈ tab hid n 256 := tab_mem.2 ⟨hm, h⟩
  rw [← hk] at hmem
  obtain ⟨e, he, heq⟩ := List.mem_map.1 hmem
  obtain ⟨j, hj, rfl⟩ := List.getElem_of_mem he
  refine ⟨j, hj, ?_⟩
  unfold ent
  rw [List.getD_eq_getElem?_getD, List.getElem?_eq_getElem hj]
  simpa using heq
theorem ent_mem {L : List Ent} {j : Nat} (hj : j < L.length) : ent L j ∈ L := by
  unfold ent
  rw [List.getD_eq_getElem?_getD, List.getElem?_eq_getElem hj]
  exact List.getElem_mem hj

theorem own_cells {w : World} {base : Nat} {e : TypeId} {size n c : Nat} {a : Option Addr} {xs : List Value} (h : w.ownsRow base e size (.slice a n c) n xs) (hn : 0 < n) :
    ∃ g, a = some ⟨g, 0, none⟩ ∧ g < w.heap.size ∧ n ≤ c ∧ ∀ p, p < n * size → w.cell? ⟨g, p, none⟩ = xs[p]? := by
  rcases h.2 with ⟨_, h0⟩ | ⟨g, cap, cur, hv, _, hg, hle, _, _, ht⟩
  · omega
  · injection hv with h1 h2 h3
    subst h1 h3
    refine ⟨g, rfl, (Array.getElem?_eq_some_iff.1 hg).1, hle, fun p hp => ?_⟩
    rw [← ht, List.getElem?_take_of_lt hp, Array.getElem?_toList]
    simp [World.cell?, hg]

/-- bytes.Equal at two texts that are one. -/
theorem beq_any (b1 b2 c1 c2 : Nat) (s : ByteArray) (w : World) (h1 : TextIn w b1 s) (h2 : TextIn w b2 s) :
    Calls Yba.prog 14 #[.slice (some ⟨b1, 0, none⟩) s.size c1, .slice (some ⟨b2, 0, none⟩) s.size c2] w fun e w' => e = .returned (.bool true) ∧ w' = w := by
  have hcv : ∀ b c, TextIn w b s → (convert 27 9 (.slice (some ⟨b, 0, none⟩) s.size c)).run Yba.prog w = .ok (.string s) w := by
    intro b c h
    obtain ⟨cs, fr, hb, hc⟩ := h
    have := run_convert_bytes_back (P := Yba.prog) w 27 9 5 ⟨b, 0, none⟩ c s.data.toList Yba.underlying27 Yba.underlying5 Yba.underlying9 (fun j hj => by
      have hadd : (⟨b, 0, none⟩ : Addr).add j = ⟨b, j, none⟩ := by unfold Addr.add; split <;> simp_all
      rw [hadd]
      simp [World.cell?, hb, hc j hj])
    have e1 : s.data.toList.length = s.size := Array.length_toList
    rw [e1] at this
    rw [this]
  have g1 := hcv b1 c1 h1
  have g2 := hcv b2 c2 h2
  clear hcv h1 h2
  go_enter Yba.func14, Yba.ntmps14
  go_wp2
  go_ret
  exact ⟨by simp, rfl⟩

set_option maxRecDepth 100000 in
set_option maxHeartbeats 4000000 in
theorem gives_core (ha ra : Option Addr) (n hcap len rcap : Nat) (hid hborn : Nat → Int) (htxt : Nat → ByteArray) (sp : Nat → Int) (iv now : Int) (w : World) (hn : n ≤ 256) (hlen : len ≤ 1024)
    (hh : HeldAt w ha n hid hborn htxt) (hr : BytesAt w ra len sp) (hiv : -2147483648 ≤ iv ∧ iv ≤ 2147483647) (hnow : -2147483648 ≤ now ∧ now ≤ 2147483647) :
    Calls Yba.prog 6 #[.slice ha n hcap, .slice ra len rcap, .int .i32 iv, .int .i32 now] w fun e w' => e = .returned (.bool true) ∧ Below w.heap.size w w' := by
  have CB := build_any ha ra n hcap len rcap hid hborn htxt sp iv w hn hlen hh hr.1 hr.2 hiv
  go_enter Yba.func6, Yba.ntmps6
  go_wp2_with fail
  refine CB.mono ?_
  rintro e w1 ⟨eb, wb, ib, ta, tc, L, rfl, hB⟩
  have CA := answer_built (now := now) hB hlen hiv hnow (fun k hk => (hh.2 k hk).2)
  have HB : Hid (Built w w1 n len hid hborn htxt sp iv eb wb ib ta tc L) := hB
  clear hB CB
  go_wp2_with fail
  refine CA.mono ?_
  rintro e w2 ⟨rfl, g, v2, v3, hA⟩
  have hb2 : Below w.heap.size w w2 := HB.out.bel.trans (hA.keep.to_below HB.out.bel.size HB.out.ge.2.1 HB.out.ge.2.2)
  obtain ⟨a3, c3, rfl⟩ := own_form hA.own3
  have HGL : Hid (∀ j, j < L.length → TextIn w2 (ent L j).blk (htxt (ent L j).k)) := fun j hj => by
    have ht := (HB.out.txt _ (ent_mem hj)).2
    obtain ⟨cs, fr, hx, hy⟩ := ht
    have n1 : (ent L j).blk ≠ wb := fun e => by rw [e, HB.out.hwb] at hx; simp at hx
    have n2 : (ent L j).blk ≠ ib := fun e => by
      obtain ⟨c, hc, _⟩ := HB.out.row
      rw [e, hc] at hx; simp at hx
    exact TextIn.keep ⟨cs, fr, hx, hy⟩ (hA.keep.block _ (Array.getElem?_eq_some_iff.1 hx).1 n1 n2)
  have hgl := gives_len (eid L) (eborn hborn L) sp iv now len L.length
  have hll := L_len HB.out.key
  have HS : Hid _ := gives_sorted (tborn := eborn hborn L) (sp := sp) HB.out.key iv now len
  have HE0 : Hid (∀ x ∈ gives (eid L) (eborn hborn L) sp iv now len L.length, 0 ≤ eid L x) := fun x _ => by unfold eid; omega
  have HE1 : Hid (∀ x ∈ gives (eid L) (eborn hborn L) sp iv now len L.length, eid L x < 256) := fun x hx => by
    have := (tab_mem.1 (key_get HB.out.key (gives_mem.1 hx).1)).1
    unfold eid
    simp only [] at this
    omega
  have HK : Hid _ := HB.out.key
  have e3 := hA.work.cells.2.2.1
  have hwb := hA.work.lt
  have HOW3 : Hid _ := hA.own3
  clear hA CA HB
  generalize hG : gives (eid L) (eborn hborn L) sp iv now len L.length = G at *
  have HG : Hid (gives (eid L) (eborn hborn L) sp iv now len L.length = G) := hG
  clear hG
  go_wp2_with fail
  go_loopw [11, 12] (fun vk vi wr => ∃ m : Nat, m ≤ 256 ∧ vi = .int .i64 m ∧ vk = .int .i64 (cntBelow (eid L) G m) ∧ Below w2.heap.size w2 wr) (fun _ i _ => 256 - (intOf i).toNat)
  case atStart => exact ⟨0, Nat.zero_le _, rfl, by rw [show cntBelow (eid L) G ((0 : Nat) : Int) = 0 from cntBelow_zero _ _ HE0.out]; rfl, Below.refl _ _⟩
  case round =>
    obtain ⟨m, hm, rfl, rfl, hbel⟩ := hrel
    have hb3 := hb2.trans (hbel.mono hb2.size)
    have e3r : wr.cell? ⟨wb, 3, none⟩ = some (.slice a3 G.length c3) := (hbel.cell hwb).trans e3
    by_cases hlt : m < 256
    · have C := first_any ha n hcap hid hborn htxt (m : Int) wr hn (hh.below hb3 (Nat.le_refl _))
      cases hf : firstOf hid n (m : Int) with
      | none =>
        rw [hf] at C
        unfold firstVal at C
        have HC : Hid (cntBelow (eid L) G ((m : Int) + 1) = cntBelow (eid L) G m) := cntBelow_succ_none _ _ _ (fun x hx e => by
          rw [← HG.out] at hx
          have := (tab_mem.1 (key_get HK.out (gives_mem.1 hx).1)).2
          simp only [] at this
          unfold eid at e
          rw [e, hf] at this
          cases this)
        clear hf
        go_wp2_with (go_at_call 11; refine C.mono ?_; rintro e w3 ⟨rfl, hb4⟩)
        go_roundw
        case rel => exact ⟨m + 1, by omega, by go_num, by rw [show ((m + 1 : Nat) : Int) = (m : Int) + 1 by omega, HC.out], (hbel.trans (hb4.mono hbel.size)).alloc (Nat.le_trans hbel.size hb4.size) _⟩
        case measure => simp [intOf]; omega
      | some q =>
        rw [hf] at C
        unfold firstVal at C
        have hqb := (hh.2 q (firstOf_lt hf).1).2
        obtain ⟨j, hj, hji, hjk⟩ := ent_of HK.out hlt hf
        have hjm : eid L j = (m : Int) := by unfold eid; rw [hji]
        have hjb : eborn hborn L j = hborn q := by unfold eborn; rw [hjk]
        have huniq : ∀ x, x < L.length → eid L x = (m : Int) → x = j := fun x hx e => by
          rcases Nat.lt_trichotomy x j with h | h | h
          · have := eid_sorted HK.out x j h hj; omega
          · exact h
          · have := eid_sorted HK.out j x h hx; omega
        have skip : ¬ (now - hborn q < 50 * iv ∧ isIn sp len (m : Int) = false) → cntBelow (eid L) G ((m : Int) + 1) = cntBelow (eid L) G m := fun hno =>
          cntBelow_succ_none _ _ _ (fun x hx e => by
            rw [← HG.out] at hx
            have hx' := gives_mem.1 hx
            have := huniq x hx'.1 e
            subst this
            rw [hjb, hjm] at hx'
            exact hno hx'.2)
        have SKIP : Hid _ := skip
        clear skip
        by_cases hd : now - hborn q < 50 * iv
        · cases hl : isIn sp len (m : Int) with
          | true =>
            have HC : Hid (cntBelow (eid L) G ((m : Int) + 1) = cntBelow (eid L) G m) := SKIP.out (fun h => by rw [hl] at h; cases h.2)
            clear SKIP huniq hjm hjb hji hjk hf
            have CL : ∀ w', Below w.heap.size w w' → Calls Yba.prog 13 #[.slice ra len rcap, .int .i64 (m : Int)] w' fun e w'' => e = .returned (.bool true) ∧ w'' = w' := fun w' hbw => by
              have := listed_any ra len rcap sp (m : Int) w' hlen hr.2 (fun hp => by
                obtain ⟨rb, ro, e, hrb, hc⟩ := hr.1 hp
                exact ⟨rb, ro, e, fun k hk => (hbw.cell hrb).trans (hc k hk)⟩)
              rw [show ((List.range len).any fun k => sp k == (m : Int)) = true from hl] at this
              exact this
            have HCL : Hid _ := CL
            clear CL hl
            go_wp2_with (first
              | (go_at_call 11; refine C.mono ?_; rintro e w3 ⟨rfl, hb4⟩)
              | (go_at_call 13; refine (HCL.out _ ((hb3.trans (hb4.mono hb3.size)).alloc (Nat.le_trans hb3.size hb4.size) _)).mono ?_; rintro e w5 ⟨rfl, rfl⟩))
            go_roundw
            case rel => exact ⟨m + 1, by omega, by go_num, by rw [show ((m + 1 : Nat) : Int) = (m : Int) + 1 by omega, HC.out], (hbel.trans (hb4.mono hbel.size)).alloc (Nat.le_trans hbel.size hb4.size) _⟩
            case measure => simp [intOf]; omega
          | false =>
            have hjG : j ∈ G := by rw [← HG.out]; exact gives_mem.2 ⟨hj, by rw [hjb]; exact hd, by rw [hjm]; exact hl⟩
            have hpl : G[cntBelow (eid L) G (m : Int)]? = some j := by
              have := place_of (eid L) G j HS.out hjG
              rw [hjm] at this
              exact this
            have hkl : cntBelow (eid L) G (m : Int) < G.length := (List.getElem?_eq_some_iff.1 hpl).1
            have hcs := cntBelow_succ_some (eid L) G j HS.out hjG
            rw [hjm] at hcs
            have HC : Hid (cntBelow (eid L) G ((m : Int) + 1) = cntBelow (eid L) G (m : Int) + 1) := hcs
            obtain ⟨g3, rfl, hg3, hc3, hcell⟩ := own_cells HOW3.out (by omega)
            have T1 : TextIn w2 (ent L j).blk (htxt q) := by
              have := HGL.out j hj
              rw [hjk] at this
              exact this
            have cc : ∀ i, i < 3 → wr.cell? ⟨g3, cntBelow (eid L) G (m : Int) * 3 + i, none⟩ = (gcells (eid L) (eborn hborn L) (exa L) (exn htxt L) (exc L) now j)[i]? := fun i hi => by
              rw [hbel.cell hg3, hcell _ (by omega), gflat_get _ _ _ _ _ _ _ _ _ _ hpl hi]
            have k0 : wr.cell? ⟨g3, cntBelow (eid L) G (m : Int) * 3, none⟩ = some (.int .u64 (m : Int)) := by
              have := cc 0 (by omega)
              rw [gcells, hjm] at this
              simpa using this
            have k1 : wr.cell? ⟨g3, cntBelow (eid L) G (m : Int) * 3 + 1, none⟩ = some (.int .u32 (ageOf (now - hborn q))) := by
              have := cc 1 (by omega)
              rw [gcells, hjb] at this
              simpa using this
            have k2 : wr.cell? ⟨g3, cntBelow (eid L) G (m : Int) * 3 + 2, none⟩ = some (.slice (some ⟨(ent L j).blk, 0, none⟩) (htxt q).size (ent L j).cap) := by
              have := cc 2 (by omega)
              unfold gcells exa exn exc at this
              rw [hjk] at this
              simpa using this
            clear cc hcell hcs hpl hjG
            have CL : ∀ w', Below w.heap.size w w' → Calls Yba.prog 13 #[.slice ra len rcap, .int .i64 (m : Int)] w' fun e w'' => e = .returned (.bool false) ∧ w'' = w' := fun w' hbw => by
              have := listed_any ra len rcap sp (m : Int) w' hlen hr.2 (fun hp => by
                obtain ⟨rb, ro, e, hrb, hc⟩ := hr.1 hp
                exact ⟨rb, ro, e, fun k hk => (hbw.cell hrb).trans (hc k hk)⟩)
              rw [show ((List.range len).any fun k => sp k == (m : Int)) = false from hl] at this
              exact this
            have HCL : Hid _ := CL
            obtain ⟨capf, objf, hcv, htn⟩ := bytes_of (htxt q)
            have HTN : Hid (∀ W : World, TextIn (W.alloc (objf W)) W.heap.size (htxt q)) := htn
            have HT1 : Hid _ := T1
            clear CL hl htn T1 SKIP huniq hjm hjb hji hjk hf HOW3 HGL HE0 HE1 HK HG HS
            have hab := age_bd (now - hborn q) (by omega)
            have hg3r : g3 < wr.heap.size := Nat.lt_of_lt_of_le hg3 hbel.size
            have hwbr : wb < wr.heap.size := Nat.lt_of_lt_of_le hwb hbel.size
            generalize cntBelow (eid L) G (m : Int) = kk at *
            generalize (ent L j).blk = tb at *
            generalize (ent L j).cap = tcap at *
            have KB : Hid (∀ (w3 : World) (A E : Obj), Below wr.heap.size wr w3 → Below w2.heap.size w2 ((((w3.alloc A).alloc E).alloc (objf ((w3.alloc A).alloc E))).drew)) := fun w3 A E hb4 => by
              have hc : Below w2.heap.size w2 w3 := hbel.trans (hb4.mono hbel.size)
              have hs := hc.size
              have h3 := ((hc.alloc hc.size A).alloc (by simp; omega) E).alloc (by simp; omega) (objf ((w3.alloc A).alloc E))
              exact ⟨h3.os, h3.tape, h3.output, h3.size, h3.block⟩
            have K14 : Hid (∀ (w3 : World) (A E : Obj) (c : Nat), Below wr.heap.size wr w3 →
                Calls Yba.prog 14 #[.slice (some ⟨tb, 0, none⟩) (htxt q).size tcap, .slice (some ⟨w3.heap.size + 1 + 1, 0, none⟩) (htxt q).size c] ((((w3.alloc A).alloc E).alloc (objf ((w3.alloc A).alloc E))).drew)
                  fun e w' => e = .returned (.bool true) ∧ w' = ((((w3.alloc A).alloc E).alloc (objf ((w3.alloc A).alloc E))).drew)) := fun w3 A E c hb4 => by
              have t1 := TextIn.below HT1.out (KB.out w3 A E hb4) (Nat.le_refl _)
              have t2 := HTN.out ((w3.alloc A).alloc E)
              have hsz : ((w3.alloc A).alloc E).heap.size = w3.heap.size + 1 + 1 := by simp
              rw [hsz] at t2
              exact beq_any tb (w3.heap.size + 1 + 1) tcap c (htxt q) _ t1 t2
            by_cases h0 : 0 < now - hborn q
            · have ea : ageOf (now - hborn q) = (now - hborn q) / 1000000 := if_pos h0
              rw [ea] at k1 hab
              clear ea
              go_wp2_with (first
                | (go_at_call 11; refine C.mono ?_; rintro e w3 ⟨rfl, hb4⟩; rw [← hb4.cell hg3r] at k0 k1 k2; rw [← hb4.cell hwbr] at e3r; have hwb5 : wb < w3.heap.size := Nat.lt_of_lt_of_le hwbr hb4.size; have hg5 : g3 < w3.heap.size := Nat.lt_of_lt_of_le hg3r hb4.size)
                | (go_at_call 13; refine (HCL.out _ ((hb3.trans (hb4.mono hb3.size)).alloc (Nat.le_trans hb3.size hb4.size) _)).mono ?_; rintro e w5 ⟨rfl, rfl⟩)
                | (go_at_call 14; refine (K14.out w3 _ _ _ hb4).mono ?_; rintro e w5 ⟨rfl, rfl⟩)
                | fail)
              go_roundw
              case rel => exact ⟨m + 1, by omega, by go_num, by rw [show ((m + 1 : Nat) : Int) = (m : Int) + 1 by omega, HC.out]; rfl, KB.out w3 _ _ hb4⟩
              case measure => simp [intOf]; omega
            · have ea : ageOf (now - hborn q) = 0 := if_neg h0
              rw [ea] at k1 hab
              clear ea
              go_wp2_with (first
                | (go_at_call 11; refine C.mono ?_; rintro e w3 ⟨rfl, hb4⟩; rw [← hb4.cell hg3r] at k0 k1 k2; rw [← hb4.cell hwbr] at e3r; have hwb5 : wb < w3.heap.size := Nat.lt_of_lt_of_le hwbr hb4.size; have hg5 : g3 < w3.heap.size := Nat.lt_of_lt_of_le hg3r hb4.size)
                | (go_at_call 13; refine (HCL.out _ ((hb3.trans (hb4.mono hb3.size)).alloc (Nat.le_trans hb3.size hb4.size) _)).mono ?_; rintro e w5 ⟨rfl, rfl⟩)
                | (go_at_call 14; refine (K14.out w3 _ _ _ hb4).mono ?_; rintro e w5 ⟨rfl, rfl⟩)
                | fail)
              go_roundw
              case rel => exact ⟨m + 1, by omega, by go_num, by rw [show ((m + 1 : Nat) : Int) = (m : Int) + 1 by omega, HC.out]; rfl, KB.out w3 _ _ hb4⟩
              case measure => simp [intOf]; omega
        · have HC : Hid (cntBelow (eid L) G ((m : Int) + 1) = cntBelow (eid L) G m) := SKIP.out (fun h => hd h.1)
          clear SKIP huniq hjm hjb hji hjk hf
          go_wp2_with (go_at_call 11; refine C.mono ?_; rintro e w3 ⟨rfl, hb4⟩)
          go_roundw
          case rel => exact ⟨m + 1, by omega, by go_num, by rw [show ((m + 1 : Nat) : Int) = (m : Int) + 1 by omega, HC.out], (hbel.trans (hb4.mono hbel.size)).alloc (Nat.le_trans hbel.size hb4.size) _⟩
          case measure => simp [intOf]; omega
    · obtain rfl : m = 256 := by omega
      have HC : Hid (cntBelow (eid L) G ((256 : Nat) : Int) = G.length) := cntBelow_all _ _ _ HE1.out
      rw [HC.out]
      have hgl2 : G.length ≤ 256 := Nat.le_trans hgl hll
      clear HC
      go_wp2
      go_ret
      exact ⟨rfl, hb3⟩
end Go.Proofs.Ybulkauwm
