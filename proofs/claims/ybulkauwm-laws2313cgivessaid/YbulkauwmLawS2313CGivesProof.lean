import Derived.Test.YbulkauwmRows
import Derived.Test.YbulkauwmOpen
import Derived.Test.YbulkauwmGives
import Derived.WalkKit
import Derived.ProofKit
import Derived.OpenShut
import Derived.ShutString
import Derived.ChangeOld
import Derived.Below
namespace Go.Proofs.Ybulkauwm.lawS2313CGives
open Go.ChangeShapes Go.WideShapes Go.ChangeAt Go.RowKit

theorem gives_long (ha ra : Option Addr) (n hcap len rcap : Nat) (iv now : Int) (w : World) (h : ¬ (n ≤ 256 ∧ len ≤ 1024)) :
    Calls Yba.prog 6 #[.slice ha n hcap, .slice ra len rcap, .int .i32 iv, .int .i32 now] w fun e w' => e = .returned (.bool true) ∧ Below w.heap.size w w' := by
  by_cases hn : n ≤ 256
  · have hl : ¬ len ≤ 1024 := fun hl => h ⟨hn, hl⟩
    clear h
    go_enter Yba.func6, Yba.ntmps6
    go_wp2_with fail
    go_ret
    exact ⟨rfl, Below.refl _ _⟩
  · clear h
    go_enter Yba.func6, Yba.ntmps6
    go_wp2_with fail
    go_ret
    exact ⟨rfl, Below.refl _ _⟩

theorem walk (ha ra : Option Addr) (n hcap len rcap : Nat) (hid hborn : Nat → Int) (htxt : Nat → ByteArray) (sp : Nat → Int) (iv now : Int) (w : World)
    (hh : HeldAt w ha n hid hborn htxt) (hr : BytesAt w ra len sp) (w2 : (Lit.int .i32 iv).wf = true) (w3 : (Lit.int .i32 now).wf = true) :
    Calls Yba.prog 6 #[.slice ha n hcap, .slice ra len rcap, .int .i32 iv, .int .i32 now] w fun e w' => e = .returned (.bool true) ∧ Below w.heap.size w w' := by
  by_cases h : n ≤ 256 ∧ len ≤ 1024
  · exact gives_core ha ra n hcap len rcap hid hborn htxt sp iv now w h.1 h.2 hh hr (bounds_i32 w2) (bounds_i32 w3)
  · exact gives_long ha ra n hcap len rcap iv now w h

set_option maxRecDepth 100000 in
theorem lifted (os : Os) (started : os.Started) (H : Type) (enc : TypeId × Value → H) :
    ReturnsInHanded {} Yba.checked os 6 .any (Rows.lawS2313CGivesSpec.pre6 enc Yba.prog Yba.f6 Rows.lawS2313CGivesRow.domain false) (Rows.lawS2313CGivesSpec.post enc Yba.prog Yba.f6 false true false false) := by
  refine returnsInHanded_of_change (C := Yba.checked) own started (by kernel_rfl) Yba.func6
    (ChangeSpec.witness6 (enc := enc) (C := Yba.checked) false ⟨#[], #[.slice none 0 0, .slice none 0 0, .int .i32 0, .int .i32 0], []⟩ 8 (by kernel_rfl) (by kernel_rfl) (by kernel_rfl) (by kernel_rfl)) ?_
  intro W base args ds gs before hval0 hW hcnd _
  have hval : ∀ (j : Nat) t v, Yba.f6.params[j]? = some t → args[j]? = some v → Value.okWide Yba.prog W .any base t v := hval0
  have hW' := hW
  obtain ⟨p, q, hA0, hV, rfl, hfz, hnd⟩ := hW
  have hA : DataW.TrodAll enc Yba.prog W 0 (fun _ => true) true Yba.f6.params.toList args.toList ds p := hA0
  rw [Yba.params6] at hA hval
  obtain ⟨v0, vs0, d0, ds0, p0, q0, hargs, rfl, rfl, h0, r0⟩ := trodAll_cons hA
  obtain ⟨v1, vs1, d1, ds1, p1, q1, rfl, rfl, rfl, h1, r1⟩ := trodAll_cons r0
  obtain ⟨v2, vs2, d2, ds2, p2, q2, rfl, rfl, rfl, h2, r2⟩ := trodAll_cons r1
  obtain ⟨v3, vs3, d3, ds3, p3, q3, rfl, rfl, rfl, h3, r3⟩ := trodAll_cons r2
  obtain ⟨rfl, rfl, rfl⟩ := trodAll_nil r3
  obtain rfl : args = #[v0, v1, v2, v3] := by cases args; simp_all
  obtain ⟨rfl, rfl⟩ := trodVars_none hV
  obtain ⟨a0, len0, cap0, rfl⟩ := okWide_slice Yba.underlying26 (hval 0 26 v0 rfl rfl)
  obtain ⟨a1, len1, cap1, rfl⟩ := okWide_slice Yba.underlying27 (hval 1 27 v1 rfl rfl)
  obtain ⟨iv, rfl, rfl, rfl, w2⟩ := open_int Yba.underlying21 (hval 2 21 v2 rfl rfl) h2
  obtain ⟨now, rfl, rfl, rfl, w3⟩ := open_int Yba.underlying21 (hval 3 21 v3 rfl rfl) h3
  have k0 := h0
  have k1 := h1
  have lt0 : ∀ x ∈ p0, x.block < W.heap.size := by obtain ⟨m, hm⟩ := k0; exact DataW.trod_lt m _ _ _ hm
  have lt1 : ∀ x ∈ p1, x.block < W.heap.size := by obtain ⟨m, hm⟩ := k1; exact DataW.trod_lt m _ _ _ hm
  obtain ⟨hid, hborn, htxt, hh⟩ : ∃ hid hborn htxt, HeldAt W a0 len0 hid hborn htxt := by
    obtain ⟨fuel, hf⟩ := h0
    exact held_open (by simpa [Value.cells] using hf)
  obtain ⟨sp, hr⟩ : ∃ sp, BytesAt W a1 len1 sp := by
    obtain ⟨fuel, hf⟩ := h1
    exact bytes_open (by simpa [Value.cells] using hf)
  clear hA0 hval0
  refine (walk a0 a1 len0 cap0 len1 cap1 hid hborn htxt sp iv now W hh hr w2 w3).mono fun e W' ⟨he, bel⟩ => ?_
  subst he
  exact ⟨_, rfl, _, _, _, [], _, [], hW', trodAll_mk1 (shut_bool Yba.underlying4 _), (trodAll_cons_mk (Below.trod laidOut (by kernel_rfl) (of_decide_eq_true (by kernel_rfl)) k0 bel lt0) (trodAll_cons_mk (Below.trod laidOut (by kernel_rfl) (of_decide_eq_true (by kernel_rfl)) k1 bel lt1) (trodAll_cons_mk (shut_int Yba.underlying21 w2) (trodAll_cons_mk (shut_int Yba.underlying21 w3) trodAll_mk0)))), rfl, bel.frame _, fun h => by cases h⟩

theorem over : Rows.lawS2313CGivesRow.holds Yba.pinned (OpenSpec.ofChange Rows.lawS2313CGivesSpec) :=
  OpenClaim.holds_of_wide 6 Yba.f6 rfl rfl rfl rfl rfl rfl rfl ⟨rfl, rfl, rfl, rfl, rfl⟩ rfl rfl rfl rfl rfl (by kernel_rfl) Yba.func6 (by kernel_rfl)
    (of_decide_eq_true (by kernel_rfl)) (by unfold Func.isWrapper; first | (rw [if_pos (by decide +kernel)]; kernel_rfl) | (rw [if_neg (by decide +kernel)]; exact ⟨rfl, rfl⟩))
    (fun os started H enc _ => lifted os started H enc)

theorem proved : Rows.LawS2313CGivesSaid := over
end Go.Proofs.Ybulkauwm.lawS2313CGives
