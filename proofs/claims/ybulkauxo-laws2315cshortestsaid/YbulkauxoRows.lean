/-
  No cell of these rows narrows 'for every input' (looked for: loops, veiled, ifaces, maps, wideKeys, modest, calm, conditions, laid).
  DERIVED. THE GIVEN ROWS OF THIS SEAT. 1 by the template 'for every input the law returns true; each argument reads behind the call as it read before'; 0 by the template 'total and deterministic' (their statements: YbulkauxoTotals.lean).
  GIVEN WITH THE SEED: the statements are not yours to turn. If you find one false, say at which input.
  Laid BY PROGRAM, IN A SANDBOX (cutbox-rows.mjs): the forced cells as the released guide's own fill.sh prints them over the translation 2a73c9785250eacb… (all of the seat's roots in one cut). By AI agents, Wed Nov 11 2026. No macro, syntax, notation, axiom, sorry.
-/
import Derived.Test.YbulkauxoChecked
import GoSem.Claim
import GoSem.ClaimJoined
import GoSem.ClaimMapViews
import Derived.JoinedTies
import Derived.KernelRfl
namespace Go.Proofs.Ybulkauxo
/- THE CELL 'sum', in the pinned program and in every row, IS THE sha256 OF THE DUMP (.gsa) THAT YbulkauxoProg.lean LOADS. Nothing in Lean hashes anything: it is a label: what it is worth is what the hold of that sum in a sandbox is worth. -/
noncomputable def Yba.pinned : Pinned := { name := "ybulkauxo", sum := "2a73c9785250eacbd1563a068f302c9f08c6880dc556cde9971305a726476016", checked := Yba.checked }
namespace Rows
def none {H : Type} : Left H := { results := [], args := [] }

/-- 'check.LawS2315CShortest': WHATEVER THE INPUT: true; the input reads as it did. -/
def lawS2315CShortestSpec : ChangeSpec := { name := "lawS2315CShortest", fn := fun _ => fun
  | [d1, d2, d3] => { results := [.lit (.bool true)], args := [d1, d2, d3] }
  | _ => none }
def lawS2315CShortestRow : OpenClaim := { program := "ybulkauxo", sum := "2a73c9785250eacbd1563a068f302c9f08c6880dc556cde9971305a726476016", func := "example.com/driftvote/driftvote/check.LawS2315CShortest", spec := "lawS2315CShortest", unfollowed := true, recurses := true, apart := false }
def LawS2315CShortestSaid : Prop := lawS2315CShortestRow.holds Yba.pinned (OpenSpec.ofChange lawS2315CShortestSpec)

/-- ITS FALSE NEIGHBOUR: 'it returns false'. Refute it at one input. -/
def lawS2315CShortestWrong : ChangeSpec := { name := "lawS2315CShortest", fn := fun _ => fun
  | [d1, d2, d3] => { results := [.lit (.bool false)], args := [d1, d2, d3] }
  | _ => none }
def LawS2315CShortestWrongFalsely : Prop := lawS2315CShortestRow.holds Yba.pinned (OpenSpec.ofChange lawS2315CShortestWrong)

end Rows
end Go.Proofs.Ybulkauxo
