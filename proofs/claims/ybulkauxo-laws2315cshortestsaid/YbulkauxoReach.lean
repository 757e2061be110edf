import Derived.Test.YbulkauxoSearch
import Derived.StillTailTactics
namespace Go.Proofs.Ybulkauxo
open Go.RowKit

set_option maxRecDepth 100000 in
set_option maxHeartbeats 4000000 in
theorem reach_any (M n t tb : Nat) (vs : Nat → Nat) (os : Nat → List Nat) (w : World) (hn : n ≤ 1024) (hn0 : 0 < n) (hm : ModelAt w M n vs os) (ht : w.cell? ⟨tb, 0, none⟩ = some (.int .i64 (t : Int)))
    (hoc : ∀ s, s < n → (os s).length ≤ 1025) (hosn : ∀ s, s < n → ∀ u ∈ os s, u < n) (hch : ∀ s, s + 1 < n → s + 1 ∈ os s) (hps : psum os n ≤ 4096) :
    Calls Yba.prog 7 #[.pointer (some ⟨M, 0, none⟩), .func (.func 6) #[] #[.pointer (some ⟨tb, 0, none⟩)]] w fun e w' => Reached n vs t os w w' e := by
  have HM : Hid (ModelAt w M n vs os) := hm
  obtain ⟨qb, qc, q0, q1⟩ := hm.rets
  have Q1 : Hid _ := q1
  clear hm q1
  go_enter Yba.func7, Yba.ntmps7
  go_wp2_with fail
  go_loop [6, 26] (fun f j => ∃ k : Nat, k ≤ n ∧ j = .int .i64 k ∧ f = .bool ((List.range k).any (good vs t))) (fun _ j => n - (intOf j).toNat)
  case atStart => exact ⟨0, Nat.zero_le _, rfl, rfl⟩
  case round =>
    obtain ⟨k, hk, rfl, rfl⟩ := hrel
    by_cases hlt : k < n
    · obtain ⟨a, c, k1, k2⟩ := Q1.out k hlt
      have C := want_set vs k t tb a c w ht k2
      have HS : Hid _ := any_succ (good vs t) k
      clear k2
      generalize good vs t k = G at *
      cases ha : (List.range k).any (good vs t) with
      | true =>
        rw [ha] at HS
        have HA : Hid _ := ha
        clear ha
        go_wp2_with fail
        go_round
        case rel => exact ⟨k + 1, by omega, by go_num, by rw [HS.out]; rfl⟩
        case measure => simp [intOf]; omega
      | false =>
        rw [ha] at HS
        have HA : Hid _ := ha
        clear ha
        go_wp2_with (go_at_call 6; refine C.mono ?_; rintro e w1 ⟨rfl, rfl⟩)
        go_round
        case rel => exact ⟨k + 1, by omega, by go_num, by rw [HS.out]; simp⟩
        case measure => simp [intOf]; omega
    · obtain rfl : k = n := by omega
      cases hf : (List.range k).any (good vs t) with
      | false =>
        have HF : Hid _ := hf
        clear hf
        go_wp2_with fail
        go_ret2
        exact .inl ⟨HF.out, rfl, Below.refl _ _⟩
      | true =>
        have HF : Hid _ := hf
        clear hf
        obtain ⟨ab, ac, a0, a1⟩ := HM.out.acts
        obtain ⟨sb, sc, s0, s1⟩ := HM.out.start
        have CS := fun W (hb : Below w.heap.size w W) => states_any M k (some ⟨ab, 0, none⟩) ac W (Below.keep hb a0) hn
        have HCS : Hid _ := CS
        have hmk := make_any 34 21 (.int .i32 0) 1 4 Yba.underlying34 Yba.info21 k (by omega) (by omega)
        have hmk1 : ∀ W : World, (Instr.makeSlice 34 (.int .i64 1) (.int .i64 1)).run Yba.prog W = .ok (.slice (some ⟨W.heap.size, 0, none⟩) 1 1) (W.alloc (.cells #[.int .i32 0] 21)) := fun W => by kernel_rfl
        have hM0 : M < w.heap.size := World.block_lt_of_cell? _ _ a0
        have hmd : (madeCells #[Value.int IntKind.i32 0] k)[0]? = some (.int .i32 0) := made_one _ _ _ hn0
        have s04 : ∀ o1 o2 o3 o4, ((((w.alloc o1).alloc o2).alloc o3).alloc o4).cell? ⟨M, 14, none⟩ = some (.slice (some ⟨sb, 0, none⟩) 1 sc) := fun o1 o2 o3 o4 => Below.keep (((((Below.refl _ w).alloc (Nat.le_refl _) o1).alloc (by simp) o2).alloc (by simp; omega) o3).alloc (by simp; omega) o4) s0
        clear CS a1
        go_wp2_with (go_at_call 10; refine (HCS.out w (Below.refl _ _)).mono ?_; rintro e w ⟨rfl, rfl⟩)
        have HST := search_start w k vs t os hn0
        generalize hWW : (((((w.alloc (.cells ((madeCells #[.int .i32 0] k).setIfInBounds 0 (.int .i32 1)) 21)).alloc (.cells #[.slice (some ⟨w.heap.size, 0, none⟩) k k] 34)).alloc (.cells #[.int .i32 0, .int .i32 0, .int .i32 (-1), .int .i32 0, .int .i32 0] 56)).alloc
        (.cells #[.slice (some ⟨w.heap.size + 1 + 1, 0, none⟩) 1 1] 57)).alloc (.cells #[.int .i32 0] 21)) = W0 at *
        clear hWW s04 hmk hmk1 hmd HCS
        have hW : Hid (RQ w k vs t os (w.heap.size + 1) (w.heap.size + 1 + 1 + 1) w.heap.size (w.heap.size + 1 + 1 + 1 + 1) 0 W0) := HST
        clear HST
        generalize hwF : w.heap.size + 1 = wF at *
        generalize hwN : wF + 1 + 1 = wN at *
        generalize hib : wN + 1 = ib at *
        obtain ⟨fb, hfb⟩ : ∃ fb, fb = w.heap.size := ⟨_, rfl⟩
        have HW0 : Hid (RQ w k vs t os wF wN fb ib 0 W0) := by
          show RQ w k vs t os wF wN fb ib 0 W0
          rw [hfb]
          exact hW.out
        clear hwF hwN hib hfb hW
        go_loopw [13, 14, 15] (fun v s j wr => ∃ i : Nat, j = .int .i64 i ∧ RQ w k vs t os wF wN fb ib i wr ∧ RV w wr v s) (fun _ _ j _ => k + 1 - (intOf j).toNat)
        case atStart => exact ⟨0, rfl, HW0.out, none, 0, 0, [], none, 0, 0, [], rfl, rfl, World.ownsRow_nil _ _ _ _, World.ownsRow_nil _ _ _ _, fun j hj => by simp [Value.ownBlock] at hj⟩
        case round =>
          obtain ⟨i, rfl, hQ, va, vn, vc, vx, sa, sn, sc', sx, rfl, rfl, hv, hs', hd⟩ := hrel
          have HQ : Hid (RQ w k vs t os wF wN fb ib i wr) := hQ
          have HV : Hid (wr.ownsRow w.heap.size 3 1 (.slice va vn vc) vn vx) := hv
          have HS : Hid (wr.ownsRow w.heap.size 3 1 (.slice sa sn sc') sn sx) := hs'
          have HD : Hid (∀ j, Value.ownBlock (.slice va vn vc) = some j → Value.ownBlock (.slice sa sn sc') ≠ some j) := hd
          have hle := hQ.le
          have hNLn := hQ.kept.inv.le
          obtain ⟨na, nc, hN1, hN2⟩ := hQ.ss.hN
          have hN0 : wr.cell? ⟨wN, 0, none⟩ = some (.slice na (run os i).length nc) := by simp [World.cell?, hN1]
          have hbel := hQ.bel
          clear hQ hv hs' hd HW0
          generalize hNL : run os i = NL at *
          have HNL : Hid (run os i = NL) := hNL
          by_cases hlt2 : i < NL.length
          · obtain ⟨x, hx⟩ : ∃ x, NL[i]? = some x := ⟨_, List.getElem?_eq_getElem hlt2⟩
            obtain ⟨gN, rfl, -, hgN, hnc, -⟩ := own_cells hN2 (by omega)
            have c0 := (nodes_own hN2 i x hx).1
            have c1 := (nodes_own hN2 i x hx).2.1
            have hxn : x.st < k := by
              have h1 := HQ.out.kept.inv.lt x
              rw [hNL] at h1
              exact h1 (List.mem_of_getElem? hx)
            have HX : Hid (NL[i]? = some x) := hx
            have HN2 : Hid (wr.ownsRow w.heap.size 56 5 (.slice (some ⟨gN, 0, none⟩) NL.length nc) NL.length (nflat NL)) := hN2
            clear hx hNL hN1 hN2
            obtain ⟨X, hX⟩ : ∃ X, X = x.st := ⟨_, rfl⟩
            rw [← hX] at c0 hxn
            have HXS : Hid (X = x.st) := hX
            clear hX
            obtain ⟨v0, hids⟩ := HQ.out.ids
            obtain ⟨rb, rc, r0, r1⟩ := HM.out.res
            have hrb : rb < w.heap.size := World.block_lt_of_cell? _ _ (r1 0 hn0).1
            have hge := HQ.out.ge
            have C12 : Hid (∀ q, Calls Yba.prog 12 #[.pointer (some ⟨M, 0, none⟩), .int .i64 (X : Int), .slice (some ⟨ib, 0, none⟩) 1 1, .slice va 0 vc] (wr.drewN q) fun e w' => ∃ a' c', e = .returned (.slice a' (setOf vs X).length c') ∧ w'.ownsRow w.heap.size 3 1 (.slice a' (setOf vs X).length c') (setOf vs X).length (setOf vs X) ∧
                Kin (wr.drewN q).heap.size (.slice va 0 vc) (.slice a' (setOf vs X).length c') ∧ (w'.rowIs ib 21 1 fun _ => .int .i32 X) ∧ Fr (fun k => k = ib ∨ Value.ownBlock (.slice va 0 vc) = some k) (wr.drewN q) w') := fun q =>
              retvals w.heap.size M k X ib vs va vc v0 (wr.drewN q) hn hxn (HM.out.below (below_drewN hbel q)).keys (HM.out.below (below_drewN hbel q)).res (rowIs_drewN q hids) hbel.size (fun rb' rc' h => by
                have h2 := Below.keep (below_drewN hbel q) r0
                rw [h] at h2
                injection h2 with h2
                injection h2 with h2
                injection h2 with h2
                injection h2 with h2
                omega) (own_cut HV.out)
            have HIDS : Hid (wr.rowIs ib 21 1 fun _ => v0) := hids
            clear hids r0 r1
            go_wp2_with fail
            go_quiet (fail)
            go_wp2_with fail
            refine (C12.out nq).mono ?_
            rintro e w1 ⟨a1, c1', rfl, o1, k1, i1, f1⟩
            have hs1 := mid1 HIDS.out HS.out HD.out f1
            have hw1 : w.heap.size ≤ w1.heap.size := Nat.le_trans hbel.size f1.size
            have C13 := vset w.heap.size X vs sa a1 sc' c1' w1 hw1 (own_cut hs1) o1
            have O1 : Hid _ := And.intro o1 (And.intro k1 (And.intro i1 f1))
            clear o1 k1 i1 f1 hs1
            generalize hm1 : (setOf vs X).length = m1 at *
            have HM1 : Hid ((setOf vs X).length = m1) := hm1
            clear hm1
            go_wp2_with fail
            refine C13.mono ?_
            rintro e w2 ⟨a2, c2', rfl, o2, k2, f2⟩
            obtain ⟨hQ2, hV2⟩ := mid HQ.out HV.out HS.out HD.out O1.out.1 O1.out.2.1 O1.out.2.2.1 O1.out.2.2.2 o2 k2 f2
            have ht2 := Below.keep hQ2.bel ht
            have C6 := want_set vs X t tb a2 c2' w2 ht2 (own_set (by rw [HM1.out]; exact o2))
            rw [HM1.out] at C6
            have HQ2 : Hid (RQ w k vs t os wF wN fb ib i w2) := hQ2
            have HV2 : Hid (RV w w2 (.slice a1 m1 c1') (.slice a2 m1 c2')) := hV2
            clear hQ2 hV2 o2 k2 f2 O1 C13 HQ HV HS HD HIDS C12 hN0 c0 c1 hbel HN2 ht2
            go_wp2_with fail
            refine C6.mono ?_
            rintro e w3 ⟨rfl, hw3⟩
            subst hw3
            cases hg : good vs t X with
            | true =>
              have HG : Hid (good vs t X = true) := hg
              clear hg
              obtain ⟨na, nc2, hN1, hN2⟩ := HQ2.out.ss.hN
              rw [HNL.out] at hN1 hN2
              have hN0 : w3.cell? ⟨wN, 0, none⟩ = some (.slice na NL.length nc2) := by simp [World.cell?, hN1]
              obtain ⟨gN2, rfl, -, -, -, -⟩ := own_cells hN2 (by omega)
              have hKI := HQ2.out.kept.inv
              rw [HNL.out] at hKI
              obtain ⟨xb, xc, x0, x1⟩ := HM.out.actor
              have hb3 := HQ2.out.bel
              have C14 := replay_any M k gN2 nc2 i xb xc sb sc os NL w3 hn (by omega) hlt2 hKI hoc hosn (HM.out.below hb3).keys (Below.keep hb3 x0) (fun s hs => Below.keep hb3 (x1 s hs)) (Below.keep hb3 s0) (Below.keep hb3 s1) (nodes_own hN2)
              clear hN1 hN2 hKI x0 x1
              go_wp2_with fail
              refine C14.mono ?_
              rintro e w4 ⟨rb4, rfl, hmv, hb4⟩
              go_wp2_with fail
              go_ret2
              refine .inr ⟨i, x, rb4, HQ2.out.kept, by rw [HNL.out]; exact HX.out, HQ2.out.no, by rw [← HXS.out]; exact HG.out, ?_, by rw [HNL.out]; exact hmv, hb3.trans (hb4.mono hb3.size)⟩
              rw [HNL.out]
              rfl
            | false =>
              have HG : Hid (good vs t X = false) := hg
              clear hg
              obtain ⟨ab2, ac2, a0', a1'⟩ := HM.out.acts
              obtain ⟨mb, mc, m0, m1'⟩ := HM.out.movs
              have hb3 := HQ2.out.bel
              have z0 := Below.keep hb3 a0'
              have z1 := Below.keep hb3 (a1' X (by omega))
              have z2 := Below.keep hb3 (a1' (X + 1) (by omega))
              have CB : Hid (∀ W, Below w.heap.size w W → Calls Yba.prog 15 #[.pointer (some ⟨M, 0, none⟩), .int .i32 (X : Int), .int .i64 0] W fun e w' => e = .returned (.bool false) ∧ w' = W) := fun W hW => blocked_any M X 0 W (Below.keep hW HM.out.ord)
              have y0 := Below.keep hb3 m0
              have y1 := Below.keep hb3 (m1' X (by omega))
              have hpX : psum os X ≤ 4096 := Nat.le_trans (psum_mono os (by omega)) hps
              have hpX1 : psum os (X + 1) ≤ 4096 := Nat.le_trans (psum_mono os (by omega)) hps
              have M1 : Hid (∀ j, j ≤ k → w.cell? ⟨mb, j, none⟩ = some (.int .i32 (psum os j : Int))) := m1'
              have M0 : Hid (w.cell? ⟨M, 1, none⟩ = some (.slice (some ⟨mb, 0, none⟩) (k + 1) mc)) := m0
              clear a0' a1' m0 m1' a0
              go_wp2_with fail
              refine wp_loop_rounds 2 ?_
              rw [rounds_succ]
              go_wp2_with (go_at_call 15; refine (CB.out _ hb3).mono ?_; rintro e w3 ⟨rfl, rfl⟩)
              have HRL : Hid (RL w k os wF wN fb ib i NL x (.slice a1 m1 c1') (.slice a2 m1 c2') 0 w3) := by
                have h1 := HQ2.out.ss
                rw [HNL.out] at h1
                exact ⟨h1, HQ2.out.ids, HV2.out, HQ2.out.bel⟩
              have hlenX := hoc X hxn
              have hpsX : psum os (X + 1) = psum os X + (os X).length := rfl
              have M1b : Hid (w.cell? ⟨mb, X + 1, none⟩ = some (.int .i32 ((psum os X + (os X).length : Nat) : Int))) := M1.out (X + 1) (by omega)
              have M1a : Hid (w.cell? ⟨mb, X, none⟩ = some (.int .i32 (psum os X : Int))) := M1.out X (by omega)
              obtain ⟨ta, tc, t0, t1⟩ := HM.out.to
              have T1 : Hid (0 < psum os k → ∃ b, ta = some ⟨b, 0, none⟩ ∧ ∀ j, j < (os X).length → w.cell? ⟨b, psum os X + j, none⟩ = some (.int .i32 ((os X).getD j 0 : Int))) := fun hp => by
                obtain ⟨b, e, h⟩ := t1 hp
                exact ⟨b, e, fun j hj => h X j hxn hj⟩
              have hpk : psum os (X + 1) ≤ psum os k := psum_mono os (by omega)
              rw [hpsX] at hpk hpX1
              have T0 : Hid (w.cell? ⟨M, 2, none⟩ = some (.slice ta (psum os k) tc)) := t0
              clear t0 t1 hpsX M1 y0 y1 z0 z1
              generalize psum os k = pk at *
              generalize psum os X = p0 at *
              go_loopw [19] (fun j wr => ∃ c : Nat, c ≤ (os X).length ∧ j = .int .i32 ((p0 + c : Nat) : Int) ∧ RL w k os wF wN fb ib i NL x (.slice a1 m1 c1') (.slice a2 m1 c2') c wr) (fun j _ => p0 + (os X).length - (intOf j).toNat)
              case atStart => exact ⟨0, Nat.zero_le _, rfl, HRL.out⟩
              case round =>
                obtain ⟨c, hc, rfl, hRL⟩ := hrel
                have hB := hRL.bel
                have e0 := Below.keep hB M0.out
                have e1 := Below.keep hB M1a.out
                have e2 := Below.keep hB M1b.out
                have e3 := Below.keep hB T0.out
                have e4 := Below.keep hB HM.out.comp
                have hRLl : (expn os NL i x c).length ≤ k := by
                  have h1 := HQ2.out.kept
                  have h2 := HX.out
                  rw [← HNL.out] at h2 ⊢
                  exact (expn_inv h1.inv h2 (h1.top x h2) (fun u hu => hosn x.st (by rw [← HXS.out]; exact hxn) u hu) c (by rw [← HXS.out]; exact hc)).1.le
                have hsz := hB.size
                have HL : Hid (RL w k os wF wN fb ib i NL x (.slice a1 m1 c1') (.slice a2 m1 c2') c wr) := hRL
                clear hRL
                by_cases hlt3 : c < (os X).length
                · obtain ⟨b2, rfl, T2⟩ := T1.out (by omega)
                  have e5 := Below.keep hB (T2 c hlt3)
                  have hU : (os X).getD c 0 < k := hosn X hxn _ (by
                    rw [List.getD_eq_getElem?_getD, List.getElem?_eq_getElem hlt3]
                    exact List.getElem_mem hlt3)
                  have C11 := visit_any w.heap.size wF wN fb k ((os X).getD c 0) i X c (x.dp + 1) (expn os NL i x c) wr.drew hU (by omega) (rl_drew 1 HL.out).ss hsz
                  have HC11 : Hid (Calls Yba.prog 11 #[.int .i32 ((os X).getD c 0 : Int), .int .i32 0, .agg #[.int .i32 0, .int .i32 0, .int .i32 (i : Int), .int .i32 (X : Int), .int .i32 (c : Int)], .pointer (some ⟨wF, 0, none⟩), .pointer (some ⟨wN, 0, none⟩)] wr.drew
                      fun e w' => e = .returned (.tuple #[]) ∧ SS w.heap.size w' wF wN fb k (visit (expn os NL i x c) ⟨(os X).getD c 0, i, X, c, x.dp + 1⟩) ∧ Calm fb wr.drew w' ∧ Below w.heap.size wr.drew w') := C11
                  clear C11 T2
                  generalize hU0 : (os X).getD c 0 = U at *
                  have HU : Hid ((os X).getD c 0 = U) := hU0
                  clear hU0
                  have hnil : ∀ W : World, (binOp .neq 40 (.slice none 0 0) (.slice none 0 0)).run Yba.prog W = .ok (.bool false) W := fun W => by kernel_rfl
                  go_wp2_with fail
                  have HWR : Hid (IntKind.i32.wrap ((p0 : Int) + (c : Int) - (p0 : Int)) = (c : Int)) := by
                    show IntKind.i32.wrap ((p0 : Int) + (c : Int) - (p0 : Int)) = (c : Int)
                    rw [IntKind.wrap_i32]
                    omega
                  have HWR2 : Hid ((p0 : Int) + (c : Int) - (p0 : Int) = (c : Int)) := by
                    show (p0 : Int) + (c : Int) - (p0 : Int) = (c : Int)
                    omega
                  clear q0 Q1 s0 s1 ht HF HRL M0 M1a M1b T0 T1 e2 e4 HM CB z2 hnil
                  have hx1 : (p0 : Int) + (c : Int) < (pk : Int) := by omega
                  have hx0 : 0 ≤ (p0 : Int) + (c : Int) := by omega
                  have hx2 : wr.cell? ⟨b2, ((p0 : Int) + (c : Int)).toNat, none⟩ = some (.int .i32 (U : Int)) := by
                    rw [show ((p0 : Int) + (c : Int)).toNat = p0 + c by omega]
                    exact e5
                  have hx3 : (X : Int) < (k : Int) + 1 := by omega
                  go_still_tail 22, (by kernel_rfl)
                  go_wp2_with (go_at_call 11; rw [HWR2.out]; refine Calls.mono HC11.out ?_; rintro e w6 ⟨rfl, hss6, hc6, hb6⟩)
                  have HR6 : Hid (RL w k os wF wN fb ib i NL x (.slice a1 m1 c1') (.slice a2 m1 c2') (c + 1) w6) := rl_step (X := X) HQ2.out.ne (rl_drew 1 HL.out) HXS.out (by rw [HU.out]; exact hss6) hc6 hb6
                  clear hss6 hc6 hb6
                  go_wp2_with fail
                  refine ⟨⟨c + 1, by omega, by go_num, HR6.out⟩, by simp [intOf]; omega⟩
                · obtain rfl : c = (os X).length := by omega
                  have e6 := Below.keep hB HM.out.stops
                  obtain ⟨ab3, ac3, a03, a13⟩ := HM.out.acts
                  have z20 := Below.keep hB a03
                  have z21 := Below.keep hB (a13 (X + 1) (by omega))
                  have hnil : ∀ W : World, (binOp .neq 34 (.slice none 0 0) (.slice none 0 0)).run Yba.prog W = .ok (.bool false) W := fun W => by kernel_rfl
                  clear a03 a13
                  go_wp2_with fail
                  go_quiet (fail)
                  go_wp2_with fail
                  rw [rounds_succ]
                  go_wp2_with fail
                  go_roundw
                  case rel =>
                    have h5 := rl_drew nq HL.out
                    refine ⟨i + 1, by go_num, rq_succ hosn HQ2.out (by rw [HNL.out]; exact HX.out) (by rw [← HXS.out]; exact HG.out) ?_ h5.ids h5.bel, h5.rv⟩
                    have h6 := h5.ss
                    rw [← HNL.out] at h6
                    rw [← HXS.out]
                    exact h6
                  case measure => simp [intOf]; omega
          · have hKQ := HQ.out.kept
            have hall := all_states hKQ (by rw [HNL.out]; omega) hch
            exfalso
            obtain ⟨s, hs, hgs⟩ := List.any_eq_true.1 HF.out
            obtain ⟨d, hd, e⟩ := holds_iff.1 (hall s (by simpa using hs))
            obtain ⟨j, hj, rfl⟩ := List.getElem_of_mem hd
            have := HQ.out.no j _ (by rw [← HNL.out] at hlt2; omega) (List.getElem?_eq_getElem hj)
            rw [e, hgs] at this
            cases this
end Go.Proofs.Ybulkauxo
