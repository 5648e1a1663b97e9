/-
  No cell of these rows narrows 'for every input' (looked for: loops, veiled, ifaces, maps, wideKeys, modest, calm, conditions, laid).
  DERIVED. THE GIVEN ROWS OF THIS SEAT. 2 by the template 'for every input the law returns true; each argument reads behind the call as it read before'; 0 by the template 'total and deterministic' (their statements: YbulkwbkTotals.lean).
  GIVEN WITH THE SEED: the statements are not yours to turn. If you find one false, say at which input.
  Laid BY PROGRAM, IN A SANDBOX (cutbox-rows.mjs): the forced cells as the released guide's own fill.sh prints them over the translation 3ea3897fb5772514… (all of the seat's roots in one cut). By AI agents, Wed Nov 11 2026. No macro, syntax, notation, axiom, sorry.
-/
import Derived.Test.YbulkwbkChecked
import GoSem.Claim
import GoSem.ClaimJoined
import GoSem.ClaimMapViews
import Derived.JoinedTies
import Derived.KernelRfl
namespace Go.Proofs.Ybulkwbk
/- THE CELL 'sum', in the pinned program and in every row, IS THE sha256 OF THE DUMP (.gsa) THAT YbulkwbkProg.lean LOADS. Nothing in Lean hashes anything: it is a label: what it is worth is what the hold of that sum in a sandbox is worth. -/
noncomputable def Yba.pinned : Pinned := { name := "ybulkwbk", sum := "3ea3897fb57725146b0baa5c9602e3ae55612928b9e752a995461801bc017aa4", checked := Yba.checked }
namespace Rows
def none {H : Type} : Left H := { results := [], args := [] }

/-- 'ikesa.LawS1115ASplit': WHATEVER THE INPUT: true; the input reads as it did. -/
def lawS1115ASplitSpec : ChangeSpec := { name := "lawS1115ASplit", fn := fun _ => fun
  | [d1, d2, d3] => { results := [.lit (.bool true)], args := [d1, d2, d3] }
  | _ => none }
def lawS1115ASplitRow : OpenClaim := { program := "ybulkwbk", sum := "3ea3897fb57725146b0baa5c9602e3ae55612928b9e752a995461801bc017aa4", func := "example.com/keyloom/keyloom/pkg/ikesa.LawS1115ASplit", spec := "lawS1115ASplit", unfollowed := true, recurses := true, apart := false }
def LawS1115ASplitSaid : Prop := lawS1115ASplitRow.holds Yba.pinned (OpenSpec.ofChange lawS1115ASplitSpec)

/-- ITS FALSE NEIGHBOUR: 'it returns false'. Refute it at one input. -/
def lawS1115ASplitWrong : ChangeSpec := { name := "lawS1115ASplit", fn := fun _ => fun
  | [d1, d2, d3] => { results := [.lit (.bool false)], args := [d1, d2, d3] }
  | _ => none }
def LawS1115ASplitWrongFalsely : Prop := lawS1115ASplitRow.holds Yba.pinned (OpenSpec.ofChange lawS1115ASplitWrong)

/-- 'ikesa.LawS1115ACalls': WHATEVER THE INPUT: true; the input reads as it did. -/
def lawS1115ACallsSpec : ChangeSpec := { name := "lawS1115ACalls", fn := fun _ => fun
  | [d] => { results := [.lit (.bool true)], args := [d] }
  | _ => none }
def lawS1115ACallsRow : OpenClaim := { program := "ybulkwbk", sum := "3ea3897fb57725146b0baa5c9602e3ae55612928b9e752a995461801bc017aa4", func := "example.com/keyloom/keyloom/pkg/ikesa.LawS1115ACalls", spec := "lawS1115ACalls", unfollowed := true, recurses := true, apart := false }
def LawS1115ACallsSaid : Prop := lawS1115ACallsRow.holds Yba.pinned (OpenSpec.ofChange lawS1115ACallsSpec)

/-- ITS FALSE NEIGHBOUR: 'it returns false'. Refute it at one input. -/
def lawS1115ACallsWrong : ChangeSpec := { name := "lawS1115ACalls", fn := fun _ => fun
  | [d] => { results := [.lit (.bool false)], args := [d] }
  | _ => none }
def LawS1115ACallsWrongFalsely : Prop := lawS1115ACallsRow.holds Yba.pinned (OpenSpec.ofChange lawS1115ACallsWrong)

end Rows
end Go.Proofs.Ybulkwbk
