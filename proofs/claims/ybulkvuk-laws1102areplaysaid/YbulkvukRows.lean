/-
  No cell of these rows narrows 'for every input' (looked for: loops, veiled, ifaces, maps, wideKeys, modest, calm, conditions, laid).
  DERIVED. THE GIVEN ROWS OF THIS SEAT. 4 by the template 'for every input the law returns true; each argument reads behind the call as it read before'; 0 by the template 'total and deterministic' (their statements: YbulkvukTotals.lean).
  GIVEN WITH THE SEED: the statements are not yours to turn. If you find one false, say at which input.
  Laid BY PROGRAM, IN A SANDBOX (cutbox-rows.mjs): the forced cells as the released guide's own fill.sh prints them over the translation ec3b79123a8b70db… (all of the seat's roots in one cut). By AI agents, Wed Nov 11 2026. No macro, syntax, notation, axiom, sorry.
-/
import Derived.Test.YbulkvukChecked
import GoSem.Claim
import GoSem.ClaimJoined
import GoSem.ClaimMapViews
import Derived.JoinedTies
import Derived.KernelRfl
namespace Go.Proofs.Ybulkvuk
/- THE CELL 'sum', in the pinned program and in every row, IS THE sha256 OF THE DUMP (.gsa) THAT YbulkvukProg.lean LOADS. Nothing in Lean hashes anything: it is a label: what it is worth is what the hold of that sum in a sandbox is worth. -/
noncomputable def Yba.pinned : Pinned := { name := "ybulkvuk", sum := "ec3b79123a8b70db853ab0ee7babf42f97fc92bf2b95ae6b300acfbd36f90149", checked := Yba.checked }
namespace Rows
def none {H : Type} : Left H := { results := [], args := [] }

/-- 'dolevrouted.LawS1102AShape': WHATEVER THE INPUT: true; the input reads as it did. -/
def lawS1102AShapeSpec : ChangeSpec := { name := "lawS1102AShape", fn := fun _ => fun
  | [d1, d2, d3, d4, d5, d6] => { results := [.lit (.bool true)], args := [d1, d2, d3, d4, d5, d6] }
  | _ => none }
def lawS1102AShapeRow : OpenClaim := { program := "ybulkvuk", sum := "ec3b79123a8b70db853ab0ee7babf42f97fc92bf2b95ae6b300acfbd36f90149", func := "example.com/driftquorum/driftquorum/internal/dolevrouted.LawS1102AShape", spec := "lawS1102AShape", inPlace := ["internal/chacha8rand.block"], unfollowed := true, recurses := true, named := ["encoding/binary.LittleEndian"], apart := false }
def LawS1102AShapeSaid : Prop := lawS1102AShapeRow.holds Yba.pinned (OpenSpec.ofChange lawS1102AShapeSpec)

/-- ITS FALSE NEIGHBOUR: 'it returns false'. Refute it at one input. -/
def lawS1102AShapeWrong : ChangeSpec := { name := "lawS1102AShape", fn := fun _ => fun
  | [d1, d2, d3, d4, d5, d6] => { results := [.lit (.bool false)], args := [d1, d2, d3, d4, d5, d6] }
  | _ => none }
def LawS1102AShapeWrongFalsely : Prop := lawS1102AShapeRow.holds Yba.pinned (OpenSpec.ofChange lawS1102AShapeWrong)

/-- 'dolevrouted.LawS1102AReplay': WHATEVER THE INPUT: true; the input reads as it did. -/
def lawS1102AReplaySpec : ChangeSpec := { name := "lawS1102AReplay", fn := fun _ => fun
  | [d1, d2, d3, d4, d5, d6] => { results := [.lit (.bool true)], args := [d1, d2, d3, d4, d5, d6] }
  | _ => none }
def lawS1102AReplayRow : OpenClaim := { program := "ybulkvuk", sum := "ec3b79123a8b70db853ab0ee7babf42f97fc92bf2b95ae6b300acfbd36f90149", func := "example.com/driftquorum/driftquorum/internal/dolevrouted.LawS1102AReplay", spec := "lawS1102AReplay", inPlace := ["internal/chacha8rand.block"], unfollowed := true, recurses := true, named := ["encoding/binary.LittleEndian"], apart := false }
def LawS1102AReplaySaid : Prop := lawS1102AReplayRow.holds Yba.pinned (OpenSpec.ofChange lawS1102AReplaySpec)

/-- ITS FALSE NEIGHBOUR: 'it returns false'. Refute it at one input. -/
def lawS1102AReplayWrong : ChangeSpec := { name := "lawS1102AReplay", fn := fun _ => fun
  | [d1, d2, d3, d4, d5, d6] => { results := [.lit (.bool false)], args := [d1, d2, d3, d4, d5, d6] }
  | _ => none }
def LawS1102AReplayWrongFalsely : Prop := lawS1102AReplayRow.holds Yba.pinned (OpenSpec.ofChange lawS1102AReplayWrong)

/-- 'rcmb.LawS1102CFresh': WHATEVER THE INPUT: true; the input reads as it did. -/
def lawS1102CFreshSpec : ChangeSpec := { name := "lawS1102CFresh", fn := fun _ => fun
  | [d1, d2] => { results := [.lit (.bool true)], args := [d1, d2] }
  | _ => none }
def lawS1102CFreshRow : OpenClaim := { program := "ybulkvuk", sum := "ec3b79123a8b70db853ab0ee7babf42f97fc92bf2b95ae6b300acfbd36f90149", func := "example.com/driftquorum/driftquorum/internal/rcmb.LawS1102CFresh", spec := "lawS1102CFresh", inPlace := ["slices.overlaps[int]"], unfollowed := true, recurses := true, apart := false }
def LawS1102CFreshSaid : Prop := lawS1102CFreshRow.holds Yba.pinned (OpenSpec.ofChange lawS1102CFreshSpec)

/-- ITS FALSE NEIGHBOUR: 'it returns false'. Refute it at one input. -/
def lawS1102CFreshWrong : ChangeSpec := { name := "lawS1102CFresh", fn := fun _ => fun
  | [d1, d2] => { results := [.lit (.bool false)], args := [d1, d2] }
  | _ => none }
def LawS1102CFreshWrongFalsely : Prop := lawS1102CFreshRow.holds Yba.pinned (OpenSpec.ofChange lawS1102CFreshWrong)

/-- 'rcmb.LawS1102CApart': WHATEVER THE INPUT: true; the input reads as it did. -/
def lawS1102CApartSpec : ChangeSpec := { name := "lawS1102CApart", fn := fun _ => fun
  | [d1, d2, d3] => { results := [.lit (.bool true)], args := [d1, d2, d3] }
  | _ => none }
def lawS1102CApartRow : OpenClaim := { program := "ybulkvuk", sum := "ec3b79123a8b70db853ab0ee7babf42f97fc92bf2b95ae6b300acfbd36f90149", func := "example.com/driftquorum/driftquorum/internal/rcmb.LawS1102CApart", spec := "lawS1102CApart", inPlace := ["slices.overlaps[int]"], unfollowed := true, recurses := true, apart := false }
def LawS1102CApartSaid : Prop := lawS1102CApartRow.holds Yba.pinned (OpenSpec.ofChange lawS1102CApartSpec)

/-- ITS FALSE NEIGHBOUR: 'it returns false'. Refute it at one input. -/
def lawS1102CApartWrong : ChangeSpec := { name := "lawS1102CApart", fn := fun _ => fun
  | [d1, d2, d3] => { results := [.lit (.bool false)], args := [d1, d2, d3] }
  | _ => none }
def LawS1102CApartWrongFalsely : Prop := lawS1102CApartRow.holds Yba.pinned (OpenSpec.ofChange lawS1102CApartWrong)

end Rows
end Go.Proofs.Ybulkvuk
