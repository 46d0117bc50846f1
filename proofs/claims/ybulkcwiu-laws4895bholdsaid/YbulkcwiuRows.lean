/-
  No cell of these rows narrows 'for every input' (looked for: loops, veiled, ifaces, maps, wideKeys, modest, calm, conditions, laid).
  DERIVED. THE GIVEN ROWS OF THIS SEAT. 3 by the template 'for every input the law returns true; each argument reads behind the call as it read before'; 0 by the template 'total and deterministic' (their statements: YbulkcwiuTotals.lean).
  GIVEN WITH THE SEED: the statements are not yours to turn. If you find one false, say at which input.
  Laid BY PROGRAM, IN A SANDBOX (cutbox-rows.mjs): the forced cells as the released guide's own fill.sh prints them over the translation 98b2a178a4d734c4… (all of the seat's roots in one cut). By AI agents, Wed Nov 11 2026. No macro, syntax, notation, axiom, sorry.
-/
import Derived.Test.YbulkcwiuChecked
import GoSem.Claim
import GoSem.ClaimJoined
import GoSem.ClaimMapViews
import Derived.JoinedTies
import Derived.KernelRfl
namespace Go.Proofs.Ybulkcwiu
/- THE CELL 'sum', in the pinned program and in every row, IS THE sha256 OF THE DUMP (.gsa) THAT YbulkcwiuProg.lean LOADS. Nothing in Lean hashes anything: it is a label: what it is worth is what the hold of that sum in a sandbox is worth. -/
noncomputable def Yba.pinned : Pinned := { name := "ybulkcwiu", sum := "98b2a178a4d734c418317e2344d23eec35d38bf0435b54810c934dda8499e9e1", checked := Yba.checked }
namespace Rows
def none {H : Type} : Left H := { results := [], args := [] }

/-- 'consensus.LawS4895BHold': WHATEVER THE INPUT: true; the input reads as it did. -/
def lawS4895BHoldSpec : ChangeSpec := { name := "lawS4895BHold", fn := fun _ => fun
  | [d1, d2, d3, d4, d5, d6, d7, d8, d9, d10, d11] => { results := [.lit (.bool true)], args := [d1, d2, d3, d4, d5, d6, d7, d8, d9, d10, d11] }
  | _ => none }
def lawS4895BHoldRow : OpenClaim := { program := "ybulkcwiu", sum := "98b2a178a4d734c418317e2344d23eec35d38bf0435b54810c934dda8499e9e1", func := "example.com/cubecast/cubecast/internal/consensus.LawS4895BHold", spec := "lawS4895BHold", apart := false }
def LawS4895BHoldSaid : Prop := lawS4895BHoldRow.holds Yba.pinned (OpenSpec.ofChange lawS4895BHoldSpec)

/-- ITS FALSE NEIGHBOUR: 'it returns false'. Refute it at one input. -/
def lawS4895BHoldWrong : ChangeSpec := { name := "lawS4895BHold", fn := fun _ => fun
  | [d1, d2, d3, d4, d5, d6, d7, d8, d9, d10, d11] => { results := [.lit (.bool false)], args := [d1, d2, d3, d4, d5, d6, d7, d8, d9, d10, d11] }
  | _ => none }
def LawS4895BHoldWrongFalsely : Prop := lawS4895BHoldRow.holds Yba.pinned (OpenSpec.ofChange lawS4895BHoldWrong)

/-- 'sim.LawS4895CCeil': WHATEVER THE INPUT: true; the input reads as it did. -/
def lawS4895CCeilSpec : ChangeSpec := { name := "lawS4895CCeil", fn := fun _ => fun
  | [d1, d2, d3] => { results := [.lit (.bool true)], args := [d1, d2, d3] }
  | _ => none }
def lawS4895CCeilRow : OpenClaim := { program := "ybulkcwiu", sum := "98b2a178a4d734c418317e2344d23eec35d38bf0435b54810c934dda8499e9e1", func := "example.com/cubecast/cubecast/internal/sim.LawS4895CCeil", spec := "lawS4895CCeil", apart := false }
def LawS4895CCeilSaid : Prop := lawS4895CCeilRow.holds Yba.pinned (OpenSpec.ofChange lawS4895CCeilSpec)

/-- ITS FALSE NEIGHBOUR: 'it returns false'. Refute it at one input. -/
def lawS4895CCeilWrong : ChangeSpec := { name := "lawS4895CCeil", fn := fun _ => fun
  | [d1, d2, d3] => { results := [.lit (.bool false)], args := [d1, d2, d3] }
  | _ => none }
def LawS4895CCeilWrongFalsely : Prop := lawS4895CCeilRow.holds Yba.pinned (OpenSpec.ofChange lawS4895CCeilWrong)

/-- 'sim.LawS4895CLeast': WHATEVER THE INPUT: true; the input reads as it did. -/
def lawS4895CLeastSpec : ChangeSpec := { name := "lawS4895CLeast", fn := fun _ => fun
  | [d1, d2, d3] => { results := [.lit (.bool true)], args := [d1, d2, d3] }
  | _ => none }
def lawS4895CLeastRow : OpenClaim := { program := "ybulkcwiu", sum := "98b2a178a4d734c418317e2344d23eec35d38bf0435b54810c934dda8499e9e1", func := "example.com/cubecast/cubecast/internal/sim.LawS4895CLeast", spec := "lawS4895CLeast", apart := false }
def LawS4895CLeastSaid : Prop := lawS4895CLeastRow.holds Yba.pinned (OpenSpec.ofChange lawS4895CLeastSpec)

/-- ITS FALSE NEIGHBOUR: 'it returns false'. Refute it at one input. -/
def lawS4895CLeastWrong : ChangeSpec := { name := "lawS4895CLeast", fn := fun _ => fun
  | [d1, d2, d3] => { results := [.lit (.bool false)], args := [d1, d2, d3] }
  | _ => none }
def LawS4895CLeastWrongFalsely : Prop := lawS4895CLeastRow.holds Yba.pinned (OpenSpec.ofChange lawS4895CLeastWrong)

end Rows
end Go.Proofs.Ybulkcwiu
