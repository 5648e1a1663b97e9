/-
  No cell of these rows narrows 'for every input' (looked for: loops, veiled, ifaces, maps, wideKeys, modest, calm, conditions, laid).
  DERIVED. THE GIVEN ROWS OF THIS SEAT. 4 by the template 'for every input the law returns true; each argument reads behind the call as it read before'; 0 by the template 'total and deterministic' (their statements: YbulkvuyTotals.lean).
  GIVEN WITH THE SEED: the statements are not yours to turn. If you find one false, say at which input.
  Laid BY PROGRAM, IN A SANDBOX (cutbox-rows.mjs): the forced cells as the released guide's own fill.sh prints them over the translation f91530469d08b924… (all of the seat's roots in one cut). By AI agents, Wed Nov 11 2026. No macro, syntax, notation, axiom, sorry.
-/
import Derived.Test.YbulkvuyChecked
import GoSem.Claim
import GoSem.ClaimJoined
import GoSem.ClaimMapViews
import Derived.JoinedTies
import Derived.KernelRfl
namespace Go.Proofs.Ybulkvuy
/- THE CELL 'sum', in the pinned program and in every row, IS THE sha256 OF THE DUMP (.gsa) THAT YbulkvuyProg.lean LOADS. Nothing in Lean hashes anything: it is a label: what it is worth is what the hold of that sum in a sandbox is worth. -/
noncomputable def Yba.pinned : Pinned := { name := "ybulkvuy", sum := "f91530469d08b924ff85df35b5e7e7a1c2b72f958a867d0c645370ab9c8dd9c0", checked := Yba.checked }
namespace Rows
def none {H : Type} : Left H := { results := [], args := [] }

/-- 'handoff.LawS1103BTable': WHATEVER THE INPUT: true; the input reads as it did. -/
def lawS1103BTableSpec : ChangeSpec := { name := "lawS1103BTable", fn := fun _ => fun
  | [d] => { results := [.lit (.bool true)], args := [d] }
  | _ => none }
def lawS1103BTableRow : OpenClaim := { program := "ybulkvuy", sum := "f91530469d08b924ff85df35b5e7e7a1c2b72f958a867d0c645370ab9c8dd9c0", func := "example.com/handoff/handoff.LawS1103BTable", spec := "lawS1103BTable", apart := false }
def LawS1103BTableSaid : Prop := lawS1103BTableRow.holds Yba.pinned (OpenSpec.ofChange lawS1103BTableSpec)

/-- ITS FALSE NEIGHBOUR: 'it returns false'. Refute it at one input. -/
def lawS1103BTableWrong : ChangeSpec := { name := "lawS1103BTable", fn := fun _ => fun
  | [d] => { results := [.lit (.bool false)], args := [d] }
  | _ => none }
def LawS1103BTableWrongFalsely : Prop := lawS1103BTableRow.holds Yba.pinned (OpenSpec.ofChange lawS1103BTableWrong)

/-- 'handoff.LawS1103BDistinct': WHATEVER THE INPUT: true; the input reads as it did. -/
def lawS1103BDistinctSpec : ChangeSpec := { name := "lawS1103BDistinct", fn := fun _ => fun
  | [d1, d2] => { results := [.lit (.bool true)], args := [d1, d2] }
  | _ => none }
def lawS1103BDistinctRow : OpenClaim := { program := "ybulkvuy", sum := "f91530469d08b924ff85df35b5e7e7a1c2b72f958a867d0c645370ab9c8dd9c0", func := "example.com/handoff/handoff.LawS1103BDistinct", spec := "lawS1103BDistinct", apart := false }
def LawS1103BDistinctSaid : Prop := lawS1103BDistinctRow.holds Yba.pinned (OpenSpec.ofChange lawS1103BDistinctSpec)

/-- ITS FALSE NEIGHBOUR: 'it returns false'. Refute it at one input. -/
def lawS1103BDistinctWrong : ChangeSpec := { name := "lawS1103BDistinct", fn := fun _ => fun
  | [d1, d2] => { results := [.lit (.bool false)], args := [d1, d2] }
  | _ => none }
def LawS1103BDistinctWrongFalsely : Prop := lawS1103BDistinctRow.holds Yba.pinned (OpenSpec.ofChange lawS1103BDistinctWrong)

/-- 'handoff.LawS1103CPublish': WHATEVER THE INPUT: true; the input reads as it did. -/
def lawS1103CPublishSpec : ChangeSpec := { name := "lawS1103CPublish", fn := fun _ => fun
  | [d1, d2, d3, d4, d5] => { results := [.lit (.bool true)], args := [d1, d2, d3, d4, d5] }
  | _ => none }
def lawS1103CPublishRow : OpenClaim := { program := "ybulkvuy", sum := "f91530469d08b924ff85df35b5e7e7a1c2b72f958a867d0c645370ab9c8dd9c0", func := "example.com/handoff/handoff.LawS1103CPublish", spec := "lawS1103CPublish", inPlace := ["sync/atomic.StoreInt64", "sync/atomic.LoadInt64"], apart := false }
def LawS1103CPublishSaid : Prop := lawS1103CPublishRow.holds Yba.pinned (OpenSpec.ofChange lawS1103CPublishSpec)

/-- ITS FALSE NEIGHBOUR: 'it returns false'. Refute it at one input. -/
def lawS1103CPublishWrong : ChangeSpec := { name := "lawS1103CPublish", fn := fun _ => fun
  | [d1, d2, d3, d4, d5] => { results := [.lit (.bool false)], args := [d1, d2, d3, d4, d5] }
  | _ => none }
def LawS1103CPublishWrongFalsely : Prop := lawS1103CPublishRow.holds Yba.pinned (OpenSpec.ofChange lawS1103CPublishWrong)

/-- 'handoff.LawS1103COverdue': WHATEVER THE INPUT: true; the input reads as it did. -/
def lawS1103COverdueSpec : ChangeSpec := { name := "lawS1103COverdue", fn := fun _ => fun
  | [d1, d2, d3, d4, d5, d6] => { results := [.lit (.bool true)], args := [d1, d2, d3, d4, d5, d6] }
  | _ => none }
def lawS1103COverdueRow : OpenClaim := { program := "ybulkvuy", sum := "f91530469d08b924ff85df35b5e7e7a1c2b72f958a867d0c645370ab9c8dd9c0", func := "example.com/handoff/handoff.LawS1103COverdue", spec := "lawS1103COverdue", inPlace := ["sync/atomic.StoreInt64", "sync/atomic.LoadInt64"], apart := false }
def LawS1103COverdueSaid : Prop := lawS1103COverdueRow.holds Yba.pinned (OpenSpec.ofChange lawS1103COverdueSpec)

/-- ITS FALSE NEIGHBOUR: 'it returns false'. Refute it at one input. -/
def lawS1103COverdueWrong : ChangeSpec := { name := "lawS1103COverdue", fn := fun _ => fun
  | [d1, d2, d3, d4, d5, d6] => { results := [.lit (.bool false)], args := [d1, d2, d3, d4, d5, d6] }
  | _ => none }
def LawS1103COverdueWrongFalsely : Prop := lawS1103COverdueRow.holds Yba.pinned (OpenSpec.ofChange lawS1103COverdueWrong)

end Rows
end Go.Proofs.Ybulkvuy
