import Derived.Test.YbulkauwmBridge
namespace Go.Proofs.Ybulkauwm
open Go.RowKit

/-- What the walks are told of the bytes that came in. -/
def BytesAt (w : World) (ra : Option Addr) (len : Nat) (sp : Nat → Int) : Prop :=
  (0 < len → ∃ rb ro, ra = some ⟨rb, ro, none⟩ ∧ rb < w.heap.size ∧ ∀ k, k < len → w.cell? ⟨rb, ro + k, none⟩ = some (.int .u8 (sp k))) ∧ ∀ k, k < len → 0 ≤ sp k ∧ sp k ≤ 255

/-- What the law itself wants: the bytes whose id no held rumor bears. -/
def wants (hid : Nat → Int) (n : Nat) (sp : Nat → Int) (k : Nat) : List Int := ((List.range k).filter fun j => (firstOf hid n (sp j)).isNone).map sp
theorem wants_len (hid : Nat → Int) (n : Nat) (sp : Nat → Int) (k : Nat) : (wants hid n sp k).length ≤ k := by
  unfold wants
  rw [List.length_map]
  exact Nat.le_trans (List.length_filter_le _ _) (by simp)
theorem wants_yes {hid : Nat → Int} {n : Nat} {sp : Nat → Int} {k : Nat} (h : firstOf hid n (sp k) = none) : wants hid n sp (k + 1) = wants hid n sp k ++ [sp k] := by
  unfold wants
  rw [List.range_succ, List.filter_append, List.map_append]
  simp [h]
theorem wants_no {hid : Nat → Int} {n : Nat} {sp : Nat → Int} {k q : Nat} (h : firstOf hid n (sp k) = some q) : wants hid n sp (k + 1) = wants hid n sp k := by
  unfold wants
  rw [List.range_succ, List.filter_append, List.map_append]
  simp [h]
theorem wants_asks {hid : Nat → Int} {n : Nat} {sp : Nat → Int} {L : List Ent} (hk : L.map (fun e => (e.id, e.k)) = tab hid n 256) (len : Nat) (hz : ∀ k, k < len → 0 ≤ sp k ∧ sp k ≤ 255) : wants hid n sp len = asks (eid L) sp L.length len := by
  unfold wants asks
  congr 1
  refine List.filter_congr fun j hj => ?_
  have := hz j (List.mem_range.1 hj)
  rw [isIn_first hk _ this.1 this.2]
  cases firstOf hid n (sp j) <;> rfl

/-- The cells of an owned row of uint64s. -/
theorem u64_own {w : World} {base : Nat} {a : Option Addr} {c : Nat} {l : List Int} (h : w.ownsRow base 39 1 (.slice a l.length c) l.length (l.map (Value.int .u64))) : U64At w a l.length (fun j => l.getD j 0) := by
  intro hp
  rcases h.2 with ⟨e1, e2⟩ | ⟨g, cap, cur, e1, _, hg, _⟩
  · omega
  · simp at e1
    obtain ⟨rfl, rfl⟩ := e1
    refine ⟨g, 0, rfl, fun k hk => ?_⟩
    rw [Nat.zero_add, h.cellAt _ (by omega)]
    simp [hk]

/-- How often j is among the first m. -/
def cnt (f : Nat → Int) (m : Nat) (j : Nat) : Int := ((listOf f m).count (j : Int) : Nat)
theorem cnt_succ (f : Nat → Int) (m j : Nat) : cnt f (m + 1) j = cnt f m j + if j = (f m).toNat ∧ 0 ≤ f m then 1 else 0 := by
  unfold cnt listOf
  rw [List.range_succ, List.map_append, List.count_append]
  by_cases h : f m = (j : Int)
  · rw [if_pos (by omega)]
    simp [h]
  · rw [if_neg (by omega)]
    simp [h]
theorem cnt_bd (f : Nat → Int) (m j : Nat) : 0 ≤ cnt f m j ∧ cnt f m j ≤ m := by
  unfold cnt
  have := List.count_le_length (a := (j : Int)) (l := listOf f m)
  rw [listOf_len] at this
  omega
theorem cnt_perm {f g : Nat → Int} {m : Nat} (h : (listOf g m).Perm (listOf f m)) (j : Nat) : cnt g m j = cnt f m j := by
  unfold cnt
  rw [h.count_eq]
theorem cnt_mono (f : Nat → Int) (m n j : Nat) (h : m ≤ n) : cnt f m j ≤ cnt f n j := by
  unfold cnt listOf
  have : List.range n = List.range m ++ (List.range (n - m)).map (m + ·) := by
    rw [← List.range_add]; congr 1; omega
  rw [this, List.map_append, List.count_append]
  omega
theorem perm_bd {f g : Nat → Int} {m : Nat} (h : (listOf g m).Perm (listOf f m)) (hz : ∀ k, k < m → 0 ≤ f k ∧ f k ≤ 255) : ∀ k, k < m → 0 ≤ g k ∧ g k ≤ 255 := by
  intro k hk
  have : g k ∈ listOf g m := by
    unfold listOf
    exact List.mem_map.2 ⟨k, List.mem_range.2 hk, rfl⟩
  rw [h.mem_iff] at this
  unfold listOf at this
  obtain ⟨j, hj, e⟩ := List.mem_map.1 this
  rw [← e]
  exact hz j (List.mem_range.1 hj)

theorem Yba.zero47 : (Yba.prog.info? 47).map (fun i => i.zero) = some (some (.agg (Array.replicate 256 (.int .i64 0)))) := by kernel_rfl
theorem zeros47 : ∃ zs : Array Value, (∀ W, (zeroValue 47).run Yba.prog W = .ok (.agg zs) W) ∧ zs.size = 256 ∧ ∀ i, i < zs.size → zs[i]? = some (.int .i64 0) := by
  refine ⟨Array.replicate 256 (.int .i64 0), fun W => ?_, by simp, fun i hi => ?_⟩
  · obtain ⟨i, h1, h2⟩ := Option.map_eq_some_iff.1 Yba.zero47
    simp [zeroValue, typeInfo, h1, h2]
  · have hi : i < 256 := by simpa using hi
    simp [hi]

set_option maxRecDepth 100000 in
set_option maxHeartbeats 2000000 in
theorem asks_core (ha ra : Option Addr) (n hcap len rcap : Nat) (hid hborn : Nat → Int) (htxt : Nat → ByteArray) (sp : Nat → Int) (iv now : Int) (w : World) (hn : n ≤ 256) (hlen : len ≤ 1024)
    (hh : HeldAt w ha n hid hborn htxt) (hr : BytesAt w ra len sp) (hiv : -2147483648 ≤ iv ∧ iv ≤ 2147483647) (hnow : -2147483648 ≤ now ∧ now ≤ 2147483647) :
    Calls Yba.prog 5 #[.slice ha n hcap, .slice ra len rcap, .int .i32 iv, .int .i32 now] w fun e w' => e = .returned (.bool true) ∧ Below w.heap.size w w' := by
  obtain ⟨i0, hi, hz0, hz1, hz2⟩ := info_parts Yba.info39
  have CB := build_any ha ra n hcap len rcap hid hborn htxt sp iv w hn hlen hh hr.1 hr.2 hiv
  go_enter Yba.func5, Yba.ntmps5
  go_wp2_with fail
  refine CB.mono ?_
  rintro e w1 ⟨eb, wb, ib, ta, tc, L, rfl, hB⟩
  have CA := answer_built (now := now) hB hlen hiv hnow (fun k hk => (hh.2 k hk).2)
  have HB : Hid (Built w w1 n len hid hborn htxt sp iv eb wb ib ta tc L) := hB
  clear hB CB
  go_wp2_with fail
  refine CA.mono ?_
  rintro e w2 ⟨rfl, g, v2, v3, hA⟩
  have HA : Hid (Answered w1 w2 wb ib L.length len (eid L) (eborn hborn L) sp g (exa L) (exn htxt L) (exc L) iv now v2 v3) := hA
  have hb2 : Below w.heap.size w w2 := HB.out.bel.trans (hA.keep.to_below HB.out.bel.size HB.out.ge.2.1 HB.out.ge.2.2)
  clear hA CA
  go_wp2_with fail
  go_loopw [11, 44] (fun v i wr => ∃ k : Nat, k ≤ len ∧ i = .int .i64 k ∧ wr.ownsRow w2.heap.size 39 1 v (wants hid n sp k).length ((wants hid n sp k).map (Value.int .u64)) ∧ Below w2.heap.size w2 wr) (fun _ i _ => len - (intOf i).toNat)
  case atStart => exact ⟨0, Nat.zero_le _, rfl, World.ownsRow_nil _ _ _ _, Below.refl _ _⟩
  case round =>
    obtain ⟨k, hk, rfl, hown, hbel⟩ := hrel
    by_cases hlt : k < len
    · obtain ⟨rb, ro, rfl, hrb, hc⟩ := hr.1 (by omega)
      have c := hc k hlt
      have hsb := hr.2 k hlt
      have hb3 := hb2.trans (hbel.mono hb2.size)
      rw [← hb3.cell hrb] at c
      have C := first_any ha n hcap hid hborn htxt (sp k) wr hn (hh.below hb3 (Nat.le_refl _))
      have hwl := wants_len hid n sp k
      clear hc hr hh
      cases hf : firstOf hid n (sp k) with
      | some q =>
        rw [hf] at C
        have HF : Hid (firstOf hid n (sp k) = some q) := hf
        clear hf
        unfold firstVal at C
        have HO : Hid _ := hown
        clear hown
        go_wp2_with (go_at_call 11; refine C.mono ?_; rintro e w3 ⟨rfl, hb4⟩)
        go_roundw
        case rel => exact ⟨k + 1, by omega, by go_num, by rw [wants_no HF.out]; exact (own_below HO.out hb4).alloc _, (hbel.trans (hb4.mono hbel.size)).alloc (Nat.le_trans hbel.size hb4.size) _⟩
        case measure => simp [intOf]; omega
      | none =>
        rw [hf] at C
        have HF : Hid (firstOf hid n (sp k) = none) := hf
        clear hf
        unfold firstVal at C
        obtain ⟨va, vc, rfl⟩ := own_form hown
        have HO : Hid _ := hown
        clear hown
        go_wp2_with fail
        refine C.mono ?_
        rintro e w3 ⟨rfl, hb4⟩
        have hown3 := fun A E => ((own_below HO.out hb4).alloc A).alloc E
        have hsz3 := Nat.le_trans hbel.size hb4.size
        have hbel3 : Hid (Below w2.heap.size w2 w3) := hbel.trans (hb4.mono hbel.size)
        clear HO C hbel
        go_wp2_with (at_builtin; go_must (refine wpList_append_own _ rfl (.tmp 57) (.tmp 60) 34 rfl w2.heap.size 39 i0 (.int .u64 0) 1 8 Yba.underlying34 hi hz0 hz1 hz2 rfl (by decide) (.slice va (wants hid n sp k).length vc) (wants hid n sp k).length ((wants hid n sp k).map (Value.int .u64)) rfl (hown3 _ _) ⟨w3.heap.size + 1, 0, none⟩ 1 1 [.int .u64 (sp k)] rfl rfl ?d1 ?d2 ?d3 ?d4 ?d5 ?d6))
        case d1 => exact fun j u hj => new_cells _ _ 39 _ (by simp) j u hj
        case d2 => exact fun u hu => by simp at hu; subst hu; rfl
        case d3 => unfold maxLen; omega
        case d4 => omega
        case d5 => simp; omega
        case d6 =>
          intro v' w4 ho hg _
          have R : w4.ownsRow w2.heap.size 39 1 v' (wants hid n sp (k + 1)).length ((wants hid n sp (k + 1)).map (Value.int .u64)) := by
            rw [wants_yes HF.out]; simpa using ho
          have R2 : Below w2.heap.size w2 w4 := ((hbel3.out.alloc hsz3 _).alloc (by simp; omega) _).grown hg (by simp; omega) (fun j hj => ((hown3 (.cells #[] 0) (.cells #[] 0)).lt j hj).1)
          have HR : Hid _ := R
          clear ho hg hown3 R
          go_wp2
          go_roundw
          case rel => exact ⟨k + 1, by omega, by go_num, HR.out, R2⟩
          case measure => simp [intOf]; omega
    · obtain rfl : k = len := by omega
      have hwa := wants_asks (n := n) HB.out.key k hr.2
      rw [hwa] at hown
      obtain ⟨va, vc, rfl⟩ := own_form hown
      obtain ⟨v2a, v2c, rfl⟩ := own_form HA.out.own2
      have hal := asks_len (eid L) sp L.length k
      have hb3 := hb2.trans (hbel.mono hb2.size)
      have CE := equal_any v2a va _ v2c vc _ wr (by omega) (u64_own (own_below HA.out.own2 hbel)) (u64_own hown)
      have hwk := (HA.out.work.of_block (hbel.block _ HA.out.work.lt)).cells
      obtain ⟨e0, e2, _, _, _⟩ := hwk
      have HBEL : Hid (Below w2.heap.size w2 wr) := hbel
      clear hown hwa hbel
      go_wp2_with fail
      refine CE.mono ?_
      rintro e w3 ⟨rfl, q, rfl⟩
      obtain ⟨zs, hzv, hzn, hzc⟩ := zeros47
      obtain ⟨wo, rfl⟩ : ∃ wo, wo = wr := ⟨_, rfl⟩
      have hrow0 := World.rowIs_alloc (wo.drewN q) zs 47 (fun _ => .int .i64 0) hzc
      rw [hzn] at hrow0
      have hbq : Below w.heap.size w (wo.drewN q) := ⟨hb3.os, hb3.tape, hb3.output, hb3.size, hb3.block⟩
      generalize hwq : wo.drewN q = wq at *
      have e0q : wq.cell? ⟨wb, 0, none⟩ = some (.slice (some ⟨ib, 0, none⟩) k k) := by rw [← hwq]; exact e0
      have HID : Hid (∀ j, j < k → wq.cell? ⟨ib, j, none⟩ = some (.int .u64 (g j))) := fun j hj => by
        rw [← hwq]; exact (HBEL.out.cell (World.block_lt_of_cell? _ _ (HA.out.ids j hj))).trans (HA.out.ids j hj)
      have hwbl : wb < wq.heap.size := World.block_lt_of_cell? _ _ e0q
      have hpm := HA.out.perm
      have hgb := perm_bd hpm hr.2
      have hgs := HA.out.sorted
      have HG : Hid ((∀ j, j < k → 0 ≤ g j ∧ g j ≤ 255) ∧ (∀ a b, a ≤ b → b < k → g a ≤ g b) ∧ ∀ j, cnt g k j = cnt sp k j) := ⟨hgb, hgs, fun j => cnt_perm hpm j⟩
      clear hpm hgb hgs HBEL HA CE e0 e2 hb3 hb2 HB hwq
      go_wp2_with fail
      go_loopw [81] (fun i wx => ∃ m : Nat, m ≤ k ∧ i = .int .i64 m ∧ wx.rowIs wq.heap.size 47 256 (fun j => .int .i64 (cnt sp m j)) ∧ Below wq.heap.size wq wx) (fun i _ => k - (intOf i).toNat)
      case atStart => exact ⟨0, Nat.zero_le _, rfl, hrow0, (Below.refl _ _).alloc (Nat.le_refl _) _⟩
      case round =>
        obtain ⟨m, hm, rfl, hrow, hbx⟩ := hrel
        by_cases hlt2 : m < k
        · obtain ⟨rb, ro, rfl, hrb, hc⟩ := hr.1 (by omega)
          have c := hc m hlt2
          rw [← hbq.cell hrb, ← hbx.cell (show rb < wq.heap.size from Nat.lt_of_lt_of_le hrb hbq.size)] at c
          obtain ⟨x, hx⟩ := Int.eq_ofNat_of_zero_le (hr.2 m hlt2).1
          have hx2 := (hr.2 m hlt2).2
          rw [hx] at c hx2
          have hx3 : x < 256 := by omega
          have cx := hrow.cell hx3
          have fx := hrow.frozen x
          have hcb := cnt_bd sp m x
          have R : Hid ((wr.setCell ⟨wq.heap.size, x, none⟩ (.int .i64 (cnt sp m x + 1))).rowIs wq.heap.size 47 256 (fun j => .int .i64 (cnt sp (m + 1) j))) :=
            (hrow.set x (.int .i64 (cnt sp m x + 1))).congr fun j _ => by
              show (if j = x then _ else _) = _
              rw [cnt_succ]
              by_cases e : j = x
              · rw [if_pos e, if_pos (by rw [hx]; omega), e]
              · rw [if_neg e, if_neg (by rw [hx]; omega), Int.add_zero]
          have hxk : (x : Int) ≤ 255 := hx2
          clear hx hx2 hrow hc hr HID HG hrow0
          generalize cnt sp m x = y at *
          go_wp2
          go_roundw
          case rel => exact ⟨m + 1, by omega, by go_num, R.out, hbx.setCell (Nat.le_refl _) _⟩
          case measure => simp [intOf]; omega
        · obtain rfl : m = k := by omega
          obtain ⟨wz, rfl⟩ : ∃ wz, wz = wr := ⟨_, rfl⟩
          have e0z : wz.cell? ⟨wb, 0, none⟩ = some (.slice (some ⟨ib, 0, none⟩) m m) := (hbx.cell hwbl).trans e0q
          have HROW : Hid (wz.rowIs wq.heap.size 47 256 (fun j => .int .i64 (cnt sp m j))) := hrow
          have HBX : Hid (Below wq.heap.size wq wz) := hbx
          have HR : Hid (BytesAt w ra m sp) := hr
          clear hrow hbx hrow0 hr hzv hzc
          go_wp2_with fail
          go_loopw [97] (fun i wx => ∃ j : Nat, j ≤ m ∧ i = .int .i64 j ∧ wx.rowIs wq.heap.size 47 256 (fun x => .int .i64 (cnt sp m x - cnt g j x)) ∧ Below wq.heap.size wq wx) (fun i _ => m - (intOf i).toNat)
          case atStart => exact ⟨0, Nat.zero_le _, rfl, HROW.out.congr fun x _ => by simp [cnt, listOf], HBX.out⟩
          case round =>
            obtain ⟨j, hj, rfl, hrow, hbx⟩ := hrel
            by_cases hlt3 : j < m
            · have c0 := HID.out j hlt3
              rw [← hbx.cell (show ib < wq.heap.size from World.block_lt_of_cell? _ _ c0)] at c0
              have e0x : wr.cell? ⟨wb, 0, none⟩ = some (.slice (some ⟨ib, 0, none⟩) m m) := (hbx.cell hwbl).trans e0q
              obtain ⟨x, hx⟩ := Int.eq_ofNat_of_zero_le (HG.out.1 j hlt3).1
              have hx2 := (HG.out.1 j hlt3).2
              rw [hx] at c0 hx2
              have hx3 : x < 256 := by omega
              have cx := hrow.cell hx3
              have fx := hrow.frozen x
              have hc1 := cnt_bd sp m x
              have hc2 := cnt_bd g j x
              have R : Hid ((wr.setCell ⟨wq.heap.size, x, none⟩ (.int .i64 (cnt sp m x - cnt g j x - 1))).rowIs wq.heap.size 47 256 (fun y => .int .i64 (cnt sp m y - cnt g (j + 1) y))) :=
                (hrow.set x (.int .i64 (cnt sp m x - cnt g j x - 1))).congr fun y _ => by
                  show (if y = x then _ else _) = _
                  rw [cnt_succ]
                  by_cases e : y = x
                  · rw [if_pos e, if_pos (by rw [hx]; omega), e]; congr 1; omega
                  · rw [if_neg e, if_neg (by rw [hx]; omega), Int.add_zero]
              have hxk : (x : Int) ≤ 255 := hx2
              clear hrow e0z
              by_cases h0 : 0 < j
              · have c1 := HID.out (j - 1) (by omega)
                rw [← hbx.cell (show ib < wq.heap.size from World.block_lt_of_cell? _ _ c1)] at c1
                have hle := HG.out.2.1 (j - 1) j (by omega) hlt3
                rw [hx] at hle
                generalize g (j - 1) = y at *
                clear hx hx2
                generalize cnt sp m x = a at *
                generalize cnt g j x = b at *
                go_wp2
                go_roundw
                case rel => exact ⟨j + 1, by omega, by go_num, R.out, hbx.setCell (Nat.le_refl _) _⟩
                case measure => simp [intOf]; omega
              · obtain rfl : j = 0 := by omega
                clear hx hx2
                generalize cnt sp m x = a at *
                generalize cnt g 0 x = b at *
                go_wp2
                go_roundw
                case rel => exact ⟨0 + 1, by omega, by go_num, R.out, hbx.setCell (Nat.le_refl _) _⟩
                case measure => simp [intOf]; omega
            · obtain rfl : j = m := by omega
              have hrow4 : wr.rowIs wq.heap.size 47 256 (fun _ => .int .i64 0) := hrow.congr fun x _ => by rw [HG.out.2.2 x, Int.sub_self]
              have HB4 : Hid (Below w.heap.size w wr) := hbq.trans (hbx.mono (hbq.size))
              clear hrow hbx e0z HROW HBX HID HG
              go_wp2_with fail
              go_loop [21] (fun i => ∃ y : Nat, y ≤ 256 ∧ i = .int .i64 y) (fun i => 256 - (intOf i).toNat)
              case atStart => exact ⟨0, Nat.zero_le _, rfl⟩
              case round =>
                obtain ⟨y, hy, rfl⟩ := hrel
                by_cases hlt4 : y < 256
                · have cy := hrow4.cell hlt4
                  clear hrow4
                  go_wp2
                  go_round
                  case rel => exact ⟨y + 1, by omega, by go_num⟩
                  case measure => simp [intOf]; omega
                · go_wp2
                  go_ret
                  exact ⟨rfl, HB4.out⟩
end Go.Proofs.Ybulkauwm
