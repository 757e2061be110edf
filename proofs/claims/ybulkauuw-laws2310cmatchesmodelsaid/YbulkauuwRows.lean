/-
  No cell of these rows narrows 'for every input' (looked for: loops, veiled, ifaces, maps, wideKeys, modest, calm, conditions, laid).
  DERIVED. THE GIVEN ROWS OF THIS SEAT. 6 by the template 'for every input the law returns true; each argument reads behind the call as it read before'; 0 by the template 'total and deterministic' (their statements: YbulkauuwTotals.lean).
  GIVEN WITH THE SEED: the statements are not yours to turn. If you find one false, say at which input.
  Laid BY PROGRAM, IN A SANDBOX (cutbox-rows.mjs): the forced cells as the released guide's own fill.sh prints them over the translation 4baf89feb3e00b51… (all of the seat's roots in one cut). By AI agents, Wed Nov 11 2026. No macro, syntax, notation, axiom, sorry.
-/
import Derived.Test.YbulkauuwChecked
import GoSem.Claim
import GoSem.ClaimJoined
import GoSem.ClaimMapViews
import Derived.JoinedTies
import Derived.KernelRfl
namespace Go.Proofs.Ybulkauuw
/- THE CELL 'sum', in the pinned program and in every row, IS THE sha256 OF THE DUMP (.gsa) THAT YbulkauuwProg.lean LOADS. Nothing in Lean hashes anything: it is a label: what it is worth is what the hold of that sum in a sandbox is worth. -/
noncomputable def Yba.pinned : Pinned := { name := "ybulkauuw", sum := "4baf89feb3e00b5193e32b5d89369ae46f0d5e62ae96cb80f43e55e90375c249", checked := Yba.checked }
namespace Rows
def none {H : Type} : Left H := { results := [], args := [] }

/-- 'brotli.LawS2310AExact': WHATEVER THE INPUT: true; the input reads as it did. -/
def lawS2310AExactSpec : ChangeSpec := { name := "lawS2310AExact", fn := fun _ => fun
  | [d] => { results := [.lit (.bool true)], args := [d] }
  | _ => none }
def lawS2310AExactRow : OpenClaim := { program := "ybulkauuw", sum := "4baf89feb3e00b5193e32b5d89369ae46f0d5e62ae96cb80f43e55e90375c249", func := "example.com/hawser/hawser/internal/brotli.LawS2310AExact", spec := "lawS2310AExact", apart := false }
def LawS2310AExactSaid : Prop := lawS2310AExactRow.holds Yba.pinned (OpenSpec.ofChange lawS2310AExactSpec)

/-- ITS FALSE NEIGHBOUR: 'it returns false'. Refute it at one input. -/
def lawS2310AExactWrong : ChangeSpec := { name := "lawS2310AExact", fn := fun _ => fun
  | [d] => { results := [.lit (.bool false)], args := [d] }
  | _ => none }
def LawS2310AExactWrongFalsely : Prop := lawS2310AExactRow.holds Yba.pinned (OpenSpec.ofChange lawS2310AExactWrong)

/-- 'brotli.LawS2310ANegation': WHATEVER THE INPUT: true; the input reads as it did. -/
def lawS2310ANegationSpec : ChangeSpec := { name := "lawS2310ANegation", fn := fun _ => fun
  | [d] => { results := [.lit (.bool true)], args := [d] }
  | _ => none }
def lawS2310ANegationRow : OpenClaim := { program := "ybulkauuw", sum := "4baf89feb3e00b5193e32b5d89369ae46f0d5e62ae96cb80f43e55e90375c249", func := "example.com/hawser/hawser/internal/brotli.LawS2310ANegation", spec := "lawS2310ANegation", apart := false }
def LawS2310ANegationSaid : Prop := lawS2310ANegationRow.holds Yba.pinned (OpenSpec.ofChange lawS2310ANegationSpec)

/-- ITS FALSE NEIGHBOUR: 'it returns false'. Refute it at one input. -/
def lawS2310ANegationWrong : ChangeSpec := { name := "lawS2310ANegation", fn := fun _ => fun
  | [d] => { results := [.lit (.bool false)], args := [d] }
  | _ => none }
def LawS2310ANegationWrongFalsely : Prop := lawS2310ANegationRow.holds Yba.pinned (OpenSpec.ofChange lawS2310ANegationWrong)

/-- 'brotli.LawS2310BExact': WHATEVER THE INPUT: true; the input reads as it did. -/
def lawS2310BExactSpec : ChangeSpec := { name := "lawS2310BExact", fn := fun _ => fun
  | [d1, d2] => { results := [.lit (.bool true)], args := [d1, d2] }
  | _ => none }
def lawS2310BExactRow : OpenClaim := { program := "ybulkauuw", sum := "4baf89feb3e00b5193e32b5d89369ae46f0d5e62ae96cb80f43e55e90375c249", func := "example.com/hawser/hawser/internal/brotli.LawS2310BExact", spec := "lawS2310BExact", apart := false }
def LawS2310BExactSaid : Prop := lawS2310BExactRow.holds Yba.pinned (OpenSpec.ofChange lawS2310BExactSpec)

/-- ITS FALSE NEIGHBOUR: 'it returns false'. Refute it at one input. -/
def lawS2310BExactWrong : ChangeSpec := { name := "lawS2310BExact", fn := fun _ => fun
  | [d1, d2] => { results := [.lit (.bool false)], args := [d1, d2] }
  | _ => none }
def LawS2310BExactWrongFalsely : Prop := lawS2310BExactRow.holds Yba.pinned (OpenSpec.ofChange lawS2310BExactWrong)

/-- 'brotli.LawS2310BSplit': WHATEVER THE INPUT: true; the input reads as it did. -/
def lawS2310BSplitSpec : ChangeSpec := { name := "lawS2310BSplit", fn := fun _ => fun
  | [d1, d2, d3] => { results := [.lit (.bool true)], args := [d1, d2, d3] }
  | _ => none }
def lawS2310BSplitRow : OpenClaim := { program := "ybulkauuw", sum := "4baf89feb3e00b5193e32b5d89369ae46f0d5e62ae96cb80f43e55e90375c249", func := "example.com/hawser/hawser/internal/brotli.LawS2310BSplit", spec := "lawS2310BSplit", apart := false }
def LawS2310BSplitSaid : Prop := lawS2310BSplitRow.holds Yba.pinned (OpenSpec.ofChange lawS2310BSplitSpec)

/-- ITS FALSE NEIGHBOUR: 'it returns false'. Refute it at one input. -/
def lawS2310BSplitWrong : ChangeSpec := { name := "lawS2310BSplit", fn := fun _ => fun
  | [d1, d2, d3] => { results := [.lit (.bool false)], args := [d1, d2, d3] }
  | _ => none }
def LawS2310BSplitWrongFalsely : Prop := lawS2310BSplitRow.holds Yba.pinned (OpenSpec.ofChange lawS2310BSplitWrong)

/-- 'brotli.LawS2310CMatchesModel': WHATEVER THE INPUT: true; the input reads as it did. -/
def lawS2310CMatchesModelSpec : ChangeSpec := { name := "lawS2310CMatchesModel", fn := fun _ => fun
  | [d1, d2] => { results := [.lit (.bool true)], args := [d1, d2] }
  | _ => none }
def lawS2310CMatchesModelRow : OpenClaim := { program := "ybulkauuw", sum := "4baf89feb3e00b5193e32b5d89369ae46f0d5e62ae96cb80f43e55e90375c249", func := "example.com/hawser/hawser/internal/brotli.LawS2310CMatchesModel", spec := "lawS2310CMatchesModel", apart := false }
def LawS2310CMatchesModelSaid : Prop := lawS2310CMatchesModelRow.holds Yba.pinned (OpenSpec.ofChange lawS2310CMatchesModelSpec)

/-- ITS FALSE NEIGHBOUR: 'it returns false'. Refute it at one input. -/
def lawS2310CMatchesModelWrong : ChangeSpec := { name := "lawS2310CMatchesModel", fn := fun _ => fun
  | [d1, d2] => { results := [.lit (.bool false)], args := [d1, d2] }
  | _ => none }
def LawS2310CMatchesModelWrongFalsely : Prop := lawS2310CMatchesModelRow.holds Yba.pinned (OpenSpec.ofChange lawS2310CMatchesModelWrong)

/-- 'brotli.LawS2310CRange': WHATEVER THE INPUT: true; the input reads as it did. -/
def lawS2310CRangeSpec : ChangeSpec := { name := "lawS2310CRange", fn := fun _ => fun
  | [d1, d2] => { results := [.lit (.bool true)], args := [d1, d2] }
  | _ => none }
def lawS2310CRangeRow : OpenClaim := { program := "ybulkauuw", sum := "4baf89feb3e00b5193e32b5d89369ae46f0d5e62ae96cb80f43e55e90375c249", func := "example.com/hawser/hawser/internal/brotli.LawS2310CRange", spec := "lawS2310CRange", apart := false }
def LawS2310CRangeSaid : Prop := lawS2310CRangeRow.holds Yba.pinned (OpenSpec.ofChange lawS2310CRangeSpec)

/-- ITS FALSE NEIGHBOUR: 'it returns false'. Refute it at one input. -/
def lawS2310CRangeWrong : ChangeSpec := { name := "lawS2310CRange", fn := fun _ => fun
  | [d1, d2] => { results := [.lit (.bool false)], args := [d1, d2] }
  | _ => none }
def LawS2310CRangeWrongFalsely : Prop := lawS2310CRangeRow.holds Yba.pinned (OpenSpec.ofChange lawS2310CRangeWrong)

end Rows
end Go.Proofs.Ybulkauuw
