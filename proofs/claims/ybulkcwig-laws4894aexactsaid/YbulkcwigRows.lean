/-
  No cell of these rows narrows 'for every input' (looked for: loops, veiled, ifaces, maps, wideKeys, modest, calm, conditions, laid).
  DERIVED. THE GIVEN ROWS OF THIS SEAT. 3 by the template 'for every input the law returns true; each argument reads behind the call as it read before'; 0 by the template 'total and deterministic' (their statements: YbulkcwigTotals.lean).
  GIVEN WITH THE SEED: the statements are not yours to turn. If you find one false, say at which input.
  Laid BY PROGRAM, IN A SANDBOX (cutbox-rows.mjs): the forced cells as the released guide's own fill.sh prints them over the translation 2de083d45cc368bb… (all of the seat's roots in one cut). By AI agents, Wed Nov 11 2026. No macro, syntax, notation, axiom, sorry.
-/
import Derived.Test.YbulkcwigChecked
import GoSem.Claim
import GoSem.ClaimJoined
import GoSem.ClaimMapViews
import Derived.JoinedTies
import Derived.KernelRfl
namespace Go.Proofs.Ybulkcwig
/- THE CELL 'sum', in the pinned program and in every row, IS THE sha256 OF THE DUMP (.gsa) THAT YbulkcwigProg.lean LOADS. Nothing in Lean hashes anything: it is a label: what it is worth is what the hold of that sum in a sandbox is worth. -/
noncomputable def Yba.pinned : Pinned := { name := "ybulkcwig", sum := "2de083d45cc368bbe7021e975ec1f83d4b1d8dad850158297fa6c6a976acc5d8", checked := Yba.checked }
namespace Rows
def none {H : Type} : Left H := { results := [], args := [] }

/-- 'digits.LawS4894AExact': WHATEVER THE INPUT: true; the input reads as it did. -/
def lawS4894AExactSpec : ChangeSpec := { name := "lawS4894AExact", fn := fun _ => fun
  | [d1, d2, d3] => { results := [.lit (.bool true)], args := [d1, d2, d3] }
  | _ => none }
def lawS4894AExactRow : OpenClaim := { program := "ybulkcwig", sum := "2de083d45cc368bbe7021e975ec1f83d4b1d8dad850158297fa6c6a976acc5d8", func := "example.com/roamwire/roamwire/internal/digits.LawS4894AExact", spec := "lawS4894AExact", apart := false }
def LawS4894AExactSaid : Prop := lawS4894AExactRow.holds Yba.pinned (OpenSpec.ofChange lawS4894AExactSpec)

/-- ITS FALSE NEIGHBOUR: 'it returns false'. Refute it at one input. -/
def lawS4894AExactWrong : ChangeSpec := { name := "lawS4894AExact", fn := fun _ => fun
  | [d1, d2, d3] => { results := [.lit (.bool false)], args := [d1, d2, d3] }
  | _ => none }
def LawS4894AExactWrongFalsely : Prop := lawS4894AExactRow.holds Yba.pinned (OpenSpec.ofChange lawS4894AExactWrong)

/-- 'gsmmap.LawS4894BTable': WHATEVER THE INPUT: true; the input reads as it did. -/
def lawS4894BTableSpec : ChangeSpec := { name := "lawS4894BTable", fn := fun _ => fun
  | [d1, d2, d3, d4, d5, d6] => { results := [.lit (.bool true)], args := [d1, d2, d3, d4, d5, d6] }
  | _ => none }
def lawS4894BTableRow : OpenClaim := { program := "ybulkcwig", sum := "2de083d45cc368bbe7021e975ec1f83d4b1d8dad850158297fa6c6a976acc5d8", func := "example.com/roamwire/roamwire/gsmmap.LawS4894BTable", spec := "lawS4894BTable", apart := false }
def LawS4894BTableSaid : Prop := lawS4894BTableRow.holds Yba.pinned (OpenSpec.ofChange lawS4894BTableSpec)

/-- ITS FALSE NEIGHBOUR: 'it returns false'. Refute it at one input. -/
def lawS4894BTableWrong : ChangeSpec := { name := "lawS4894BTable", fn := fun _ => fun
  | [d1, d2, d3, d4, d5, d6] => { results := [.lit (.bool false)], args := [d1, d2, d3, d4, d5, d6] }
  | _ => none }
def LawS4894BTableWrongFalsely : Prop := lawS4894BTableRow.holds Yba.pinned (OpenSpec.ofChange lawS4894BTableWrong)

/-- 'gsmmap.LawS4894BDistinct': WHATEVER THE INPUT: true; the input reads as it did. -/
def lawS4894BDistinctSpec : ChangeSpec := { name := "lawS4894BDistinct", fn := fun _ => fun
  | [d] => { results := [.lit (.bool true)], args := [d] }
  | _ => none }
def lawS4894BDistinctRow : OpenClaim := { program := "ybulkcwig", sum := "2de083d45cc368bbe7021e975ec1f83d4b1d8dad850158297fa6c6a976acc5d8", func := "example.com/roamwire/roamwire/gsmmap.LawS4894BDistinct", spec := "lawS4894BDistinct", apart := false }
def LawS4894BDistinctSaid : Prop := lawS4894BDistinctRow.holds Yba.pinned (OpenSpec.ofChange lawS4894BDistinctSpec)

/-- ITS FALSE NEIGHBOUR: 'it returns false'. Refute it at one input. -/
def lawS4894BDistinctWrong : ChangeSpec := { name := "lawS4894BDistinct", fn := fun _ => fun
  | [d] => { results := [.lit (.bool false)], args := [d] }
  | _ => none }
def LawS4894BDistinctWrongFalsely : Prop := lawS4894BDistinctRow.holds Yba.pinned (OpenSpec.ofChange lawS4894BDistinctWrong)

end Rows
end Go.Proofs.Ybulkcwig
