/-
  No cell of these rows narrows 'for every input' (looked for: loops, veiled, ifaces, maps, wideKeys, modest, calm, conditions, laid).
  DERIVED. THE GIVEN ROWS OF THIS SEAT. 4 by the template 'for every input the law returns true; each argument reads behind the call as it read before'; 0 by the template 'total and deterministic' (their statements: YbulkauwmTotals.lean).
  GIVEN WITH THE SEED: the statements are not yours to turn. If you find one false, say at which input.
  Laid BY PROGRAM, IN A SANDBOX (cutbox-rows.mjs): the forced cells as the released guide's own fill.sh prints them over the translation 14131333fbec4e3c… (all of the seat's roots in one cut). By AI agents, Wed Nov 11 2026. No macro, syntax, notation, axiom, sorry.
-/
import Derived.Test.YbulkauwmChecked
import GoSem.Claim
import GoSem.ClaimJoined
import GoSem.ClaimMapViews
import Derived.JoinedTies
import Derived.KernelRfl
namespace Go.Proofs.Ybulkauwm
/- THE CELL 'sum', in the pinned program and in every row, IS THE sha256 OF THE DUMP (.gsa) THAT YbulkauwmProg.lean LOADS. Nothing in Lean hashes anything: it is a label: what it is worth is what the hold of that sum in a sandbox is worth. -/
noncomputable def Yba.pinned : Pinned := { name := "ybulkauwm", sum := "14131333fbec4e3cabfc02cc90dce7e0864ff7232a22d482539cf2324dd36e08", checked := Yba.checked }
namespace Rows
def none {H : Type} : Left H := { results := [], args := [] }

/-- 'engine.LawS2313BTable': WHATEVER THE INPUT: true; the input reads as it did. -/
def lawS2313BTableSpec : ChangeSpec := { name := "lawS2313BTable", fn := fun _ => fun
  | [d] => { results := [.lit (.bool true)], args := [d] }
  | _ => none }
def lawS2313BTableRow : OpenClaim := { program := "ybulkauwm", sum := "14131333fbec4e3cabfc02cc90dce7e0864ff7232a22d482539cf2324dd36e08", func := "example.com/rumormesh/rumormesh/engine.LawS2313BTable", spec := "lawS2313BTable", apart := false }
def LawS2313BTableSaid : Prop := lawS2313BTableRow.holds Yba.pinned (OpenSpec.ofChange lawS2313BTableSpec)

/-- ITS FALSE NEIGHBOUR: 'it returns false'. Refute it at one input. -/
def lawS2313BTableWrong : ChangeSpec := { name := "lawS2313BTable", fn := fun _ => fun
  | [d] => { results := [.lit (.bool false)], args := [d] }
  | _ => none }
def LawS2313BTableWrongFalsely : Prop := lawS2313BTableRow.holds Yba.pinned (OpenSpec.ofChange lawS2313BTableWrong)

/-- 'engine.LawS2313BChain': WHATEVER THE INPUT: true; the input reads as it did. -/
def lawS2313BChainSpec : ChangeSpec := { name := "lawS2313BChain", fn := fun _ => fun
  | [d] => { results := [.lit (.bool true)], args := [d] }
  | _ => none }
def lawS2313BChainRow : OpenClaim := { program := "ybulkauwm", sum := "14131333fbec4e3cabfc02cc90dce7e0864ff7232a22d482539cf2324dd36e08", func := "example.com/rumormesh/rumormesh/engine.LawS2313BChain", spec := "lawS2313BChain", apart := false }
def LawS2313BChainSaid : Prop := lawS2313BChainRow.holds Yba.pinned (OpenSpec.ofChange lawS2313BChainSpec)

/-- ITS FALSE NEIGHBOUR: 'it returns false'. Refute it at one input. -/
def lawS2313BChainWrong : ChangeSpec := { name := "lawS2313BChain", fn := fun _ => fun
  | [d] => { results := [.lit (.bool false)], args := [d] }
  | _ => none }
def LawS2313BChainWrongFalsely : Prop := lawS2313BChainRow.holds Yba.pinned (OpenSpec.ofChange lawS2313BChainWrong)

/-- 'rumor.LawS2313CAsks': WHATEVER THE INPUT: true; the input reads as it did. -/
def lawS2313CAsksSpec : ChangeSpec := { name := "lawS2313CAsks", fn := fun _ => fun
  | [d1, d2, d3, d4] => { results := [.lit (.bool true)], args := [d1, d2, d3, d4] }
  | _ => none }
def lawS2313CAsksRow : OpenClaim := { program := "ybulkauwm", sum := "14131333fbec4e3cabfc02cc90dce7e0864ff7232a22d482539cf2324dd36e08", func := "example.com/rumormesh/rumormesh/rumor.LawS2313CAsks", spec := "lawS2313CAsks", unfollowed := true, recurses := true, apart := false }
def LawS2313CAsksSaid : Prop := lawS2313CAsksRow.holds Yba.pinned (OpenSpec.ofChange lawS2313CAsksSpec)

/-- ITS FALSE NEIGHBOUR: 'it returns false'. Refute it at one input. -/
def lawS2313CAsksWrong : ChangeSpec := { name := "lawS2313CAsks", fn := fun _ => fun
  | [d1, d2, d3, d4] => { results := [.lit (.bool false)], args := [d1, d2, d3, d4] }
  | _ => none }
def LawS2313CAsksWrongFalsely : Prop := lawS2313CAsksRow.holds Yba.pinned (OpenSpec.ofChange lawS2313CAsksWrong)

/-- 'rumor.LawS2313CGives': WHATEVER THE INPUT: true; the input reads as it did. -/
def lawS2313CGivesSpec : ChangeSpec := { name := "lawS2313CGives", fn := fun _ => fun
  | [d1, d2, d3, d4] => { results := [.lit (.bool true)], args := [d1, d2, d3, d4] }
  | _ => none }
def lawS2313CGivesRow : OpenClaim := { program := "ybulkauwm", sum := "14131333fbec4e3cabfc02cc90dce7e0864ff7232a22d482539cf2324dd36e08", func := "example.com/rumormesh/rumormesh/rumor.LawS2313CGives", spec := "lawS2313CGives", unfollowed := true, recurses := true, apart := false }
def LawS2313CGivesSaid : Prop := lawS2313CGivesRow.holds Yba.pinned (OpenSpec.ofChange lawS2313CGivesSpec)

/-- ITS FALSE NEIGHBOUR: 'it returns false'. Refute it at one input. -/
def lawS2313CGivesWrong : ChangeSpec := { name := "lawS2313CGives", fn := fun _ => fun
  | [d1, d2, d3, d4] => { results := [.lit (.bool false)], args := [d1, d2, d3, d4] }
  | _ => none }
def LawS2313CGivesWrongFalsely : Prop := lawS2313CGivesRow.holds Yba.pinned (OpenSpec.ofChange lawS2313CGivesWrong)

end Rows
end Go.Proofs.Ybulkauwm
