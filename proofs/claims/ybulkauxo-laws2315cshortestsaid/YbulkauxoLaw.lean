import Derived.Test.YbulkauxoBuild
import Derived.Test.YbulkauxoReach
import Derived.Test.YbulkauxoGood
import Derived.Test.YbulkauxoLs
namespace Go.Proofs.Ybulkauxo
open Go.RowKit

theorem NumsAt.below {k : IntKind} {w w' : World} {a : Option Addr} {n : Nat} {vs : Nat → Nat} (h : NumsAt k w a n vs) (hb : Below w.heap.size w w') : NumsAt k w' a n vs := fun hp => by
  obtain ⟨b, o, e, hl, hc⟩ := h hp
  exact ⟨b, o, e, Nat.lt_of_lt_of_le hl hb.size, fun i hi => Below.keep hb (hc i hi)⟩

/-- All that the law reads, behind the model's builder and the target's cell. -/
structure Set3 (w : World) (M ob tb : Nat) (a0 : Option Addr) (n c0 t : Nat) (vs : Nat → Nat) (os : Nat → List Nat) (w3 : World) : Prop where
  model : ModelAt w3 M n vs os
  out : OutC w3 ob n os
  nums : NumsAt .u8 w3 a0 n vs
  box : w3.cell? ⟨w.heap.size, 0, none⟩ = some (.slice a0 n c0)
  tar : w3.cell? ⟨tb, 0, none⟩ = some (.int .i64 (t : Int))
  bel : Below w.heap.size w w3
theorem Set3.below {w : World} {M ob tb : Nat} {a0 : Option Addr} {n c0 t : Nat} {vs : Nat → Nat} {os : Nat → List Nat} {w3 w4 : World} (h : Set3 w M ob tb a0 n c0 t vs os w3) (hb : Below w3.heap.size w3 w4) : Set3 w M ob tb a0 n c0 t vs os w4 :=
  ⟨h.model.below hb, h.out.below hb, h.nums.below hb, Below.keep hb h.box, Below.keep hb h.tar, h.bel.trans (hb.mono h.bel.size)⟩

theorem up_le (NL : List Nd) : ∀ f j, (up NL f j).length ≤ f
  | 0, _ => Nat.le_refl _
  | f + 1, j => by
    unfold up
    split
    · simp
    · split
      · simp
      · have := up_le NL f
        simp
        exact this _
theorem Inv.deep {n : Nat} {os : Nat → List Nat} {NL : List Nd} (I : Inv n os NL) {j : Nat} {x : Nd} (h : NL[j]? = some x) : x.dp ≤ j := by
  have h1 := (up_law I j j x (Nat.le_refl _) h).1
  have h2 := up_le NL j j
  omega
theorem getD_mem {l : List Nat} {c : Nat} (h : c < l.length) : l.getD c 0 ∈ l := by
  rw [List.getD_eq_getElem?_getD, List.getElem?_eq_getElem h]
  exact List.getElem_mem h

set_option maxRecDepth 100000 in
set_option maxHeartbeats 4000000 in
theorem law_any (a0 a1 : Option Addr) (n c0 k c1 tv : Nat) (vs e : Nat → Nat) (w : World) (hn : n ≤ 1024) (hn0 : 0 < n) (hk : k ≤ 1024) (hv : NumsAt .u8 w a0 n vs) (he : NumsAt .u16 w a1 k e) (hvb : ∀ i, i < n → vs i < 256) (heb : ∀ i, i < k → e i < 65536) :
    Calls Yba.prog 3 #[.slice a0 n c0, .slice a1 k c1, .int .u8 (tv : Int)] w fun en w' => en = .returned (.bool true) ∧ Below w.heap.size w w' := by
  have HB1 : Hid (Below w.heap.size w (w.alloc (.cells #[.slice a0 n c0] 22))) := (Below.refl _ _).alloc (Nat.le_refl _) _
  have hb1 : (w.alloc (.cells #[.slice a0 n c0] 22)).heap.size = w.heap.size + 1 := by simp
  have CM : Hid (Calls Yba.prog 4 #[.slice a0 n c0, .slice a1 k c1] (w.alloc (.cells #[.slice a0 n c0] 22)) fun en w' => ∃ M ob, en = .returned (.tuple #[.pointer (some ⟨M, 0, none⟩), .slice (some ⟨ob, 0, none⟩) n n]) ∧ ModelAt w' M n vs (outL n e k) ∧ OutC w' ob n (outL n e k) ∧ Below (w.alloc (.cells #[.slice a0 n c0] 22)).heap.size (w.alloc (.cells #[.slice a0 n c0] 22)) w') := by
    refine (model_any a0 a1 n c0 k c1 vs e _ hn hn0 hk (hv.below HB1.out) (he.below HB1.out) hvb heb).mono ?_
    rintro en w' ⟨M, ob, oa, oc, rfl, h1, h2, h3⟩
    exact ⟨M, ob, rfl, h1, h2.cells, h3⟩
  have HBX : Hid ((w.alloc (.cells #[.slice a0 n c0] 22)).cell? ⟨w.heap.size, 0, none⟩ = some (.slice a0 n c0)) := new_cells w #[.slice a0 n c0] 22 w.heap.size rfl 0 _ rfl
  obtain ⟨i0, hi0, hz0, hz1, hz2⟩ := info_parts Yba.info3
  have hmk := run_make_row' (P := Yba.prog) 29 3 (.int .i64 0) 8 Yba.underlying29 Yba.info3 rfl .i64 .i64 n (by omega) (by omega)
  have e3 : ((tv : Int).tmod 3) = ((tv % 3 : Nat) : Int) := rfl
  have HV : Hid (NumsAt .u8 w a0 n vs) := hv
  clear hv he hvb heb
  go_enter Yba.func3, Yba.ntmps3
  go_upto_region 10 with (go_at_call 4; refine Calls.mono CM.out ?_; rintro e1 w2 ⟨M, ob, rfl, hM, hO, hB2⟩)
  have HS3 : Hid (Set3 w M ob w2.heap.size a0 n c0 (tv % 3) vs (outL n e k) (w2.alloc (.cells #[.int .i64 ((tv : Int) % 3)] 3))) := by
    have hb3 : Below w2.heap.size w2 (w2.alloc (.cells #[.int .i64 ((tv : Int) % 3)] 3)) := (Below.refl _ _).alloc (Nat.le_refl _) _
    exact ⟨hM.below hb3, hO.below hb3, ((HV.out.below HB1.out).below hB2).below hb3, Below.keep hb3 (Below.keep hB2 HBX.out), new_cells w2 #[.int .i64 ((tv : Int) % 3)] 3 w2.heap.size rfl 0 _ rfl, (HB1.out.trans (hB2.mono HB1.out.size)).trans (hb3.mono (Nat.le_trans HB1.out.size hB2.size))⟩
  clear hM hO hB2 HBX HV HB1 CM hb1 e3
  generalize w2.alloc (.cells #[.int .i64 ((tv : Int) % 3)] 3) = w3 at *
  generalize w2.heap.size = tb at *
  have hosn : ∀ s, s < n → ∀ u ∈ outL n e k s, u < n := fun s _ => outL_lt hn0
  have hch : ∀ s, s + 1 < n → s + 1 ∈ outL n e k s := fun s hs => outL_chain hs
  have hoc : ∀ s, s < n → (outL n e k s).length ≤ 1025 := fun s _ => Nat.le_trans (outL_len n e k s) (by omega)
  have hps : psum (outL n e k) n ≤ 4096 := Nat.le_trans (psum_outL n e n k) (by omega)
  have CR : Hid (Calls Yba.prog 7 #[.pointer (some ⟨M, 0, none⟩), .func (.func 6) #[] #[.pointer (some ⟨tb, 0, none⟩)]] w3 fun en w' => ∃ ra rl okb, en = .returned (.tuple #[.slice ra rl rl, .bool okb]) ∧ RR n vs (tv % 3) (outL n e k) w' ra rl okb ∧ Below w3.heap.size w3 w') :=
    (reach_any M n (tv % 3) tb vs (outL n e k) w3 hn hn0 HS3.out.model HS3.out.tar hoc hosn hch hps).mono (fun en w' h => h.parts)
  have HOS : Hid ((∀ s, s < n → ∀ u ∈ outL n e k s, u < n) ∧ (∀ s, s + 1 < n → s + 1 ∈ outL n e k s) ∧ ∀ s, s < n → (outL n e k s).length ≤ 1025) := ⟨hosn, hch, hoc⟩
  clear hosn hch hoc hps
  generalize outL n e k = os at *
  go_upto_region 11 with (go_at_call 7; refine Calls.mono CR.out ?_; rintro e2 W ⟨ra, rl, okb, rfl, hR, hB4⟩)
  have HS : Hid (Set3 w M ob tb a0 n c0 (tv % 3) vs os W) := HS3.out.below hB4
  have HR : Hid (RR n vs (tv % 3) os W ra rl okb) := hR
  clear HS3 hR hB4 CR
  generalize tv % 3 = t at *
  go_wp2_with fail
  clear hmk
  go_loopw [61] (fun j wr => ∃ i : Nat, i ≤ n ∧ j = .int .i64 i ∧ (wr.rowIs W.heap.size 3 n fun u => .int .i64 (if u < i then -1 else 0)) ∧ Below W.heap.size W wr) (fun j _ => n - (intOf j).toNat)
  case atStart =>
    refine ⟨0, Nat.zero_le _, rfl, (made_row W 3 #[.int .i64 0] n (by decide)).congr fun p _ => ?_, (Below.refl _ _).alloc (Nat.le_refl _) _⟩
    have hz : p % #[Value.int .i64 0].size = 0 := by
      show p % 1 = 0
      omega
    rw [hz]
    rfl
  case round =>
    obtain ⟨i, hi, rfl, hrow, hbel⟩ := hrel
    by_cases hlt : i < n
    · have c1 := hrow.cell hlt
      have f1 := hrow.frozen i
      have HN : Hid ((wr.setCell ⟨W.heap.size, i, none⟩ (.int .i64 (-1))).rowIs W.heap.size 3 n fun u => .int .i64 (if u < i + 1 then -1 else 0)) := (hrow.set i _).congr (fun u _ => by
        by_cases e1 : u = i
        · rw [if_pos e1, if_pos (by omega)]
        · rw [if_neg e1]
          by_cases e2 : u < i
          · rw [if_pos e2, if_pos (by omega)]
          · rw [if_neg e2, if_neg (by omega)])
      clear hrow
      go_wp2_with fail
      go_roundw
      case rel => exact ⟨i + 1, by omega, by go_num, HN.out, hbel.setCell (by simp) _⟩
      case measure => simp [intOf]; omega
    · obtain rfl : n = i := by omega
      have hrow2 : wr.rowIs W.heap.size 3 n fun _ => .int .i64 (-1) := hrow.congr (fun u hu => by rw [if_pos hu])
      have c1 := hrow2.cell hn0
      have f1 := hrow2.frozen 0
      have HL0 : Hid (LS W n [root] (some ⟨wr.heap.size, 0, none⟩) 1 ((wr.setCell ⟨W.heap.size, 0, none⟩ (.int .i64 0)).alloc (.cells #[.int .i64 0] 3))) := LS.start hrow2 hbel
      clear hrow hrow2 hbel
      go_wp2_with fail
      generalize (wr.setCell ⟨W.heap.size, 0, none⟩ (.int .i64 0)).alloc (.cells #[.int .i64 0] 3) = w5 at *
      clear c1 f1
      go_loopw [17, 18] (fun kv j wr => ∃ (q : Nat) (qa : Option Addr) (qc : Nat), kv = .slice qa (run os q).length qc ∧ j = .int .i64 q ∧ q ≤ (run os q).length ∧ Kept n os q ∧ LS W n (run os q) qa qc wr) (fun _ j _ => n + 1 - (intOf j).toNat)
      case atStart => exact ⟨0, _, _, rfl, rfl, Nat.zero_le _, kept_zero n os hn0, HL0.out⟩
      case round =>
        obtain ⟨q, qa, qc, rfl, rfl, hq, hK, hL⟩ := hrel
        have hle := hK.inv.le
        by_cases hlt2 : q < (run os q).length
        · obtain ⟨x, hx⟩ : ∃ x, (run os q)[q]? = some x := ⟨_, List.getElem?_eq_getElem hlt2⟩
          have hxn := hK.inv.lt x (List.mem_of_getElem? hx)
          have hxd := hK.inv.deep hx
          obtain ⟨g, rfl, -, hgl, hgc, hcell⟩ := own_cells hL.que (by omega)
          have cq : wr.cell? ⟨g, q, none⟩ = some (.int .i64 (x.st : Int)) := by
            rw [hcell q (by omega), List.getElem?_map, hx]
            rfl
          obtain ⟨oa, oc, ho1, ho2⟩ := HS.out.out x.st hxn
          have co := Below.keep hL.bel ho1
          have HL : Hid (LS W n (run os q) (some ⟨g, 0, none⟩) qc wr) := hL
          have HO2 : Hid (0 < (os x.st).length → ∃ g, oa = some ⟨g, 0, none⟩ ∧ ∀ j, j < (os x.st).length → W.cell? ⟨g, j, none⟩ = some (.int .i32 ((os x.st).getD j 0 : Int))) := ho2
          have HRS : Hid (run os (q + 1) = expn os (run os q) q x (os x.st).length) := run_succ hx
          have HEX : Hid _ := expn_inv hK.inv hx (hK.top x hx) (HOS.out.1 _ hxn)
          have HKS : Hid (Kept n os (q + 1)) := kept_succ HOS.out.1 hK hx
          have HX : Hid ((run os q)[q]? = some x) := hx
          have hol := HOS.out.2.2 _ hxn
          clear hL hK hx hcell ho1 ho2
          go_wp2_with fail
          go_loopw [17, 86] (fun kv j wr => ∃ (c : Nat) (qa : Option Addr) (qc : Nat), c ≤ (os x.st).length ∧ kv = .slice qa (expn os (run os q) q x c).length qc ∧ j = .int .i64 c ∧ LS W n (expn os (run os q) q x c) qa qc wr) (fun _ j _ => (os x.st).length - (intOf j).toNat)
          case atStart => exact ⟨0, _, _, Nat.zero_le _, rfl, rfl, HL.out⟩
          case round =>
            obtain ⟨c, qa, qc2, hc, rfl, rfl, hL2⟩ := hrel
            by_cases hlt3 : c < (os x.st).length
            · obtain ⟨I, -, hget, -⟩ := HEX.out c hc
              have hEl := I.le
              obtain ⟨g2, rfl, ho3⟩ := HO2.out (by omega)
              have cu := Below.keep hL2.bel (ho3 c hlt3)
              have hun : (os x.st).getD c 0 < n := HOS.out.1 _ hxn _ (getD_mem hlt3)
              have cd := hL2.dist.cell hun
              have cx := hL2.dist.cell hxn
              have hdx : dval (expn os (run os q) q x c) x.st = (x.dp : Int) := dval_mem I (List.mem_of_getElem? (hget q x HX.out))
              rw [hdx] at cx
              have HSE : Hid (expn os (run os q) q x (c + 1) = visit (expn os (run os q) q x c) (kid os q x c)) := rfl
              cases hh : holds (expn os (run os q) q x c) ((os x.st).getD c 0) with
              | true =>
                have HNX : Hid (expn os (run os q) q x (c + 1) = expn os (run os q) q x c) := HSE.out.trans (if_pos hh)
                obtain ⟨dn, hdn⟩ : ∃ dn : Nat, dval (expn os (run os q) q x c) ((os x.st).getD c 0) = (dn : Int) := ⟨(dval (expn os (run os q) q x c) ((os x.st).getD c 0)).toNat, by have := dval_has hh; omega⟩
                rw [hdn] at cd
                have HL2 : Hid (LS W n (expn os (run os q) q x c) qa qc2 wr) := hL2
                clear hL2 I hget ho3 hdn hh cx hdx
                generalize (os x.st).getD c 0 = u at *
                go_wp2_with fail
                go_roundw
                case rel => exact ⟨c + 1, qa, qc2, by omega, by rw [HNX.out], by go_num, by rw [HNX.out]; exact HL2.out⟩
                case measure => simp [intOf]; omega
              | false =>
                have hdm : dval (expn os (run os q) q x c) ((os x.st).getD c 0) = -1 := dval_not hh
                rw [hdm] at cd
                have fd := hL2.dist.frozen ((os x.st).getD c 0)
                have hdl := hL2.dist.lt
                have hown : ∀ v o, ((wr.setCell ⟨W.heap.size, (os x.st).getD c 0, none⟩ v).alloc o).ownsRow W.heap.size 3 1 (.slice qa (expn os (run os q) q x c).length qc2) (expn os (run os q) q x c).length ((expn os (run os q) q x c).map fun d => .int .i64 (d.st : Int)) := fun v o =>
                  (((Fr.refl (fun k => k = W.heap.size) wr).setCell (p := ⟨W.heap.size, (os x.st).getD c 0, none⟩) (fun _ => rfl) v).own hL2.que (fun k hk e => hL2.dif (by rw [ob'] at hk; rw [← e]; exact hk))).alloc o
                have FIN : Hid (∀ g cap w6 o, w6.ownsRow W.heap.size 3 1 (.slice (some ⟨g, 0, none⟩) ((expn os (run os q) q x c).length + 1) cap) ((expn os (run os q) q x c).length + 1) (((expn os (run os q) q x c).map fun d => .int .i64 (d.st : Int)) ++ [.int .i64 ((os x.st).getD c 0 : Int)]) →
                    ((wr.setCell ⟨W.heap.size, (os x.st).getD c 0, none⟩ (.int .i64 ((x.dp : Int) + 1))).alloc o).grownBy w6 (Value.slice qa (expn os (run os q) q x c).length qc2).ownBlock → ((Value.slice qa (expn os (run os q) q x c).length qc2).ownBlock = some g ∨ g = wr.heap.size + 1) →
                    LS W n (expn os (run os q) q x (c + 1)) (some ⟨g, 0, none⟩) cap w6 ∧ (expn os (run os q) q x (c + 1)).length = (expn os (run os q) q x c).length + 1) := fun g cap w6 o ho hg hat => by
                  refine ⟨LS.step (d := kid os q x c) hL2 hh ho hg hat, ?_⟩
                  have e1 : expn os (run os q) q x (c + 1) = expn os (run os q) q x c ++ [kid os q x c] := HSE.out.trans (if_neg (by
                    show ¬ holds (expn os (run os q) q x c) ((os x.st).getD c 0) = true
                    rw [hh]
                    exact Bool.false_ne_true))
                  rw [e1, List.length_append]
                  rfl
                clear hL2 I hget ho3 hh hdx hdm HSE
                generalize (os x.st).getD c 0 = u at *
                generalize hEL : (expn os (run os q) q x c).length = EL at *
                have hwu : IntKind.i64.wrap (u : Int) = (u : Int) := by rw [IntKind.wrap_i64]; omega
                go_wp2_with (at_builtin; go_must (refine wpList_append_lies _ rfl (.tmp 103) (.tmp 106) 29 rfl W.heap.size 3 i0 (.int .i64 0) 1 8 Yba.underlying29 hi0 hz0 hz1 hz2 rfl (by decide) (.slice qa EL qc2) EL ((expn os (run os q) q x c).map fun d => .int .i64 (d.st : Int)) rfl (hown _ _) ⟨wr.heap.size, 0, none⟩ 1 1 [.int .i64 (u : Int)] rfl rfl ?d1 ?d2 ?d3 ?d4 ?d5 ?d6 (wr.heap.size + 1) ?d7 ?d8))
                case d1 => exact fun j u hj => new_cells _ _ 3 _ (by simp [World.setCell]) j u hj
                case d2 => exact fun u hu => by simp at hu; subst hu; rfl
                case d3 => omega
                case d4 => unfold maxLen; omega
                case d5 => omega
                case d6 => simp [World.setCell]; omega
                case d7 => simp [World.setCell]
                case d8 =>
                  intro g4 cap4 w6 ho6 hg6 hat6 hlt6
                  have HF : Hid _ := FIN.out g4 cap4 w6 _ ho6 hg6 hat6
                  clear ho6 hg6 hat6 hown FIN
                  go_wp2_with fail
                  go_roundw
                  case rel => exact ⟨c + 1, _, _, by omega, by rw [HF.out.2], by go_num, HF.out.1⟩
                  case measure => simp [intOf]; omega
            · obtain rfl : c = (os x.st).length := by omega
              have HL2 : Hid (LS W n (expn os (run os q) q x (os x.st).length) qa qc2 wr) := hL2
              have HQ1 : Hid (q + 1 ≤ (run os (q + 1)).length) := by
                have := (List.getElem?_eq_some_iff.1 ((HEX.out _ (Nat.le_refl _)).2.2.1 q x HX.out)).1
                rw [HRS.out]
                exact this
              clear hL2
              go_wp2_with fail
              exact ⟨⟨q + 1, qa, qc2, by rw [HRS.out], by go_num, HQ1.out, HKS.out, by rw [HRS.out]; exact HL2.out⟩, by simp [intOf]; omega⟩
        · have HQE : Hid ((run os q).length ≤ q) := Nat.le_of_not_lt hlt2
          have HK : Hid (Kept n os q) := hK
          have HL : Hid (LS W n (run os q) qa qc wr) := hL
          have HALL : Hid (∀ s, s < n → holds (run os q) s = true) := all_states hK HQE.out HOS.out.2.1
          clear hL hK
          go_wp2_with fail
          go_loopw [22, 23] (fun b j wr => ∃ s : Nat, s ≤ n ∧ b = .int .i64 (best (run os q) (good vs t) s) ∧ j = .int .i64 s ∧ LS W n (run os q) qa qc wr) (fun _ j _ => n - (intOf j).toNat)
          case atStart => exact ⟨0, Nat.zero_le _, rfl, rfl, HL.out⟩
          case round =>
            obtain ⟨s, hs, rfl, rfl, hL⟩ := hrel
            by_cases hlt3 : s < n
            · have cd := hL.dist.cell hlt3
              have hdp := dval_has (HALL.out s hlt3)
              obtain ⟨vb, vo, ea, hvl, hvc⟩ := HS.out.nums hn0
              have CG : Hid (Calls Yba.prog 5 #[.int .i64 (s : Int), .pointer (some ⟨w.heap.size, 0, none⟩), .pointer (some ⟨tb, 0, none⟩)] wr fun en w' => en = .returned (.bool (good vs t s)) ∧ ∃ p, w' = wr.drewN p) :=
                good_any vs n s t vb vo c0 w.heap.size tb wr hlt3 (by rw [← ea]; exact Below.keep hL.bel HS.out.box) (Below.keep hL.bel (hvc s hlt3)) (Below.keep hL.bel HS.out.tar)
              have HBS : Hid (best (run os q) (good vs t) (s + 1) = if good vs t s = true ∧ 0 ≤ dval (run os q) s ∧ (best (run os q) (good vs t) s < 0 ∨ dval (run os q) s < best (run os q) (good vs t) s) then dval (run os q) s else best (run os q) (good vs t) s) := rfl
              have HLB : Hid (LS W n (run os q) qa qc wr) := hL
              clear hL hvc hvl ea
              generalize best (run os q) (good vs t) s = b at *
              generalize dval (run os q) s = d at *
              obtain ⟨dn, rfl⟩ : ∃ dn : Nat, d = (dn : Int) := ⟨d.toNat, by omega⟩
              cases hg : good vs t s with
              | false =>
                rw [hg] at CG HBS
                have HNB : Hid (best (run os q) (good vs t) (s + 1) = b) := by show _ = _; rw [HBS.out, if_neg (by simp)]
                clear hg HBS
                go_wp2_with (go_at_call 5; refine Calls.mono CG.out ?_; rintro e3 w6 ⟨rfl, p, rfl⟩)
                exact ⟨⟨s + 1, by omega, by rw [HNB.out], by go_num, HLB.out.drewN p⟩, by simp [intOf]; omega⟩
              | true =>
                rw [hg] at CG HBS
                clear hg
                by_cases hb : b < 0
                · have HNB : Hid (best (run os q) (good vs t) (s + 1) = (dn : Int)) := by show _ = _; rw [HBS.out, if_pos ⟨rfl, hdp, .inl hb⟩]
                  clear HBS
                  go_wp2_with (go_at_call 5; refine Calls.mono CG.out ?_; rintro e3 w6 ⟨rfl, p, rfl⟩)
                  exact ⟨⟨s + 1, by omega, by rw [HNB.out], by go_num, HLB.out.drewN p⟩, by simp [intOf]; omega⟩
                · by_cases hb2 : (dn : Int) < b
                  · have HNB : Hid (best (run os q) (good vs t) (s + 1) = (dn : Int)) := by show _ = _; rw [HBS.out, if_pos ⟨rfl, hdp, .inr hb2⟩]
                    clear HBS
                    go_wp2_with (go_at_call 5; refine Calls.mono CG.out ?_; rintro e3 w6 ⟨rfl, p, rfl⟩)
                    exact ⟨⟨s + 1, by omega, by rw [HNB.out], by go_num, HLB.out.drewN p⟩, by simp [intOf]; omega⟩
                  · have HNB : Hid (best (run os q) (good vs t) (s + 1) = b) := by show _ = _; rw [HBS.out, if_neg (by omega)]
                    clear HBS
                    go_wp2_with (go_at_call 5; refine Calls.mono CG.out ?_; rintro e3 w6 ⟨rfl, p, rfl⟩)
                    exact ⟨⟨s + 1, by omega, by rw [HNB.out], by go_num, HLB.out.drewN p⟩, by simp [intOf]; omega⟩
            · obtain rfl : n = s := by omega
              have HBE : Hid (Below w.heap.size w wr) := HS.out.bel.trans (hL.bel.mono HS.out.bel.size)
              rcases HR.out with ⟨hany, rfl, rfl, rfl⟩ | ⟨i, x, rb, K, hx, hno, hgx, rfl, hrl, rfl, hmv⟩
              · have hbe : best (run os q) (good vs t) n = -1 := best_none hany (fun s hs => dval_has (HALL.out s hs))
                rw [hbe]
                clear hbe hL hany HR
                have hnil : ∀ W : World, (binOp .eql 31 (.slice none 0 0) (.slice none 0 0)).run Yba.prog W = .ok (.bool true) W := fun W => by kernel_rfl
                go_wp2_with fail
                go_ret
                exact ⟨rfl, HBE.out⟩
              · have hbe : best (run os q) (good vs t) n = (x.dp : Int) := best_is HK.out HQE.out HOS.out.2.1 hx hno hgx
                obtain ⟨hul, huc, hum⟩ := up_law K.inv i i x (Nat.le_refl _) hx
                have hxl := K.inv.deep hx
                have hil := (List.getElem?_eq_some_iff.1 hx).1
                have hkl := K.inv.le
                rw [hul] at hrl huc
                obtain rfl : rl = x.dp := hrl
                rw [hbe]
                have HLK : Hid (∀ y ∈ run os i, y.st < n) := K.inv.lt
                have HXN : Hid (x.st < n) := K.inv.lt x (List.mem_of_getElem? hx)
                have HG : Hid (good vs t x.st = true) := hgx
                have HM : Hid (MovesAt W rb (up (run os i) i i).reverse) := hmv
                have HUC : Hid (atCur (up (run os i) i i).reverse x.dp = x.st) := huc
                have HUM : Hid _ := hum
                have HUL : Hid ((up (run os i) i i).reverse.length = x.dp) := by
                  show _ = _
                  rw [List.length_reverse, hul]
                have HLW : Hid (Below W.heap.size W wr) := hL.bel
                clear hbe hL HR K hx hno hgx hmv huc hum hul HALL HK HQE HL
                generalize (up (run os i) i i).reverse = ch at *
                go_wp2_with fail
                go_loopw [24, 158] (fun cv j wr => ∃ p : Nat, p ≤ x.dp ∧ cv = .int .i64 (atCur ch p : Int) ∧ j = .int .i64 p ∧ Below W.heap.size W wr) (fun _ j _ => x.dp - (intOf j).toNat)
                case atStart => exact ⟨0, Nat.zero_le _, rfl, rfl, HLW.out⟩
                case round =>
                  obtain ⟨p, hp, rfl, rfl, hb⟩ := hrel
                  by_cases hlt4 : p < x.dp
                  · obtain ⟨d, hd⟩ : ∃ d, ch[p]? = some d := ⟨_, List.getElem?_eq_getElem (by have := HUL.out; omega)⟩
                    obtain ⟨m0, m1, m2⟩ := HM.out p d hd
                    obtain ⟨u1, u2, pp, y, -, u4, u5⟩ := HUM.out p d hd
                    have hcn : atCur ch p < n := by
                      rw [← u1, ← u5]
                      exact HLK.out y (List.mem_of_getElem? u4)
                    obtain ⟨oa, oc, ho1, ho2⟩ := HS.out.out (atCur ch p) hcn
                    rw [u1] at u2
                    have hol : d.oc < (os (atCur ch p)).length := (List.getElem?_eq_some_iff.1 u2).1
                    obtain ⟨g2, rfl, ho3⟩ := ho2 (by omega)
                    have co := Below.keep hb ho1
                    have cc := Below.keep hb (ho3 d.oc hol)
                    have hst : (os (atCur ch p)).getD d.oc 0 = d.st := by
                      rw [List.getD_eq_getElem?_getD, u2]
                      rfl
                    rw [hst] at cc
                    have k0 := Below.keep hb m0
                    have k1 := Below.keep hb m1
                    have k2 := Below.keep hb m2
                    have hdn : d.st < n := HOS.out.1 _ hcn _ (List.mem_of_getElem? u2)
                    have HAT : Hid (atCur ch (p + 1) = d.st) := by
                      show _ = _
                      rw [atCur_succ, hd]
                      rfl
                    have hol2 := HOS.out.2.2 _ hcn
                    have hobl := World.block_lt_of_cell? _ _ co
                    have hgl := World.block_lt_of_cell? _ _ cc
                    have HBW : Hid (Below W.heap.size W wr) := hb
                    clear hd m0 m1 m2 u1 u2 u4 u5 ho1 ho2 ho3 hst hb
                    generalize (os (atCur ch p)).length = ol at *
                    generalize atCur ch p = cu at *
                    generalize d.oc = c at *
                    generalize d.st = st at *
                    have g1 : decide ((c : Int) < 0) = false := decide_eq_false (by omega)
                    have g2' : decide ((ol : Int) ≤ (c : Int)) = false := decide_eq_false (by omega)
                    have hws : IntKind.i64.wrap (st : Int) = (st : Int) := by rw [IntKind.wrap_i64]; omega
                    go_upto_region 44 with fail
                    go_quiet (fail)
                    go_upto_region 46 with fail
                    go_quiet (fail)
                    go_wp2_with fail
                    exact ⟨⟨p + 1, by omega, by rw [HAT.out], by go_num, below_drewN (HBW.out.alloc HBW.out.size _) _⟩, by simp [intOf]; omega⟩
                  · obtain rfl : p = x.dp := by omega
                    rw [HUC.out]
                    obtain ⟨vb, vo, ea, hvl, hvc⟩ := HS.out.nums hn0
                    have CG : Hid (Calls Yba.prog 5 #[.int .i64 (x.st : Int), .pointer (some ⟨w.heap.size, 0, none⟩), .pointer (some ⟨tb, 0, none⟩)] wr fun en w' => en = .returned (.bool (good vs t x.st)) ∧ ∃ p, w' = wr.drewN p) :=
                      good_any vs n x.st t vb vo c0 w.heap.size tb wr HXN.out (by rw [← ea]; exact Below.keep hb HS.out.box) (Below.keep hb (hvc x.st HXN.out)) (Below.keep hb HS.out.tar)
                    rw [HG.out] at CG
                    have HBF : Hid (Below w.heap.size w wr) := HS.out.bel.trans (hb.mono HS.out.bel.size)
                    clear hb hvc hvl ea
                    go_wp2_with (go_at_call 5; refine Calls.mono CG.out ?_; rintro e3 w6 ⟨rfl, p, rfl⟩)
                    go_ret
                    exact ⟨rfl, below_drewN HBF.out p⟩
end Go.Proofs.Ybulkauxo
