/-
  No cell of these rows narrows 'for every input' (looked for: loops, veiled, ifaces, maps, wideKeys, modest, calm, conditions, laid).
  DERIVED. THE GIVEN ROWS OF THIS SEAT. 2 by the template 'for every input the law returns true; each argument reads behind the call as it read before'; 0 by the template 'total and deterministic' (their statements: YbulkcwhsFmtTotals.lean).
  GIVEN WITH THE SEED: the statements are not yours to turn. If you find one false, say at which input.
  Laid BY PROGRAM, IN A SANDBOX (cutbox-rows.mjs): the forced cells as the released guide's own fill.sh prints them over the translation ea89aa3e1b247b53… (all of the seat's roots in one cut). By AI agents, Wed Nov 11 2026. No macro, syntax, notation, axiom, sorry.
-/
import Derived.Test.YbulkcwhsFmtChecked
import GoSem.Claim
import GoSem.ClaimJoined
import GoSem.ClaimMapViews
import Derived.JoinedTies
import Derived.KernelRfl
namespace Go.Proofs.YbulkcwhsFmt
/- THE CELL 'sum', in the pinned program and in every row, IS THE sha256 OF THE DUMP (.gsa) THAT YbulkcwhsFmtProg.lean LOADS. Nothing in Lean hashes anything: it is a label: what it is worth is what the hold of that sum in a sandbox is worth. -/
noncomputable def Ybaf.pinned : Pinned := { name := "ybulkcwhsfmt", sum := "ea89aa3e1b247b53837b8fcf937a9f4af2a328437685996fc3aacbf5b93010cc", checked := Ybaf.checked }
namespace Rows
def none {H : Type} : Left H := { results := [], args := [] }

/-- 'store.LawS4893BEncode': WHATEVER THE INPUT: true; the input reads as it did. -/
def lawS4893BEncodeSpec : ChangeSpec := { name := "lawS4893BEncode", fn := fun _ => fun
  | [d1, d2, d3] => { results := [.lit (.bool true)], args := [d1, d2, d3] }
  | _ => none }
def lawS4893BEncodeRow : OpenClaim := { program := "ybulkcwhsfmt", sum := "ea89aa3e1b247b53837b8fcf937a9f4af2a328437685996fc3aacbf5b93010cc", func := "example.com/linecard/linecard/internal/store.LawS4893BEncode", spec := "lawS4893BEncode", stops := ["fmt.Sprintf", "fmt.errorf"], inPlace := ["fmt.Appendf", "fmt.Sprintf"], unfollowed := true, recurses := true, apart := false }
/-- NO THEOREM (fmt's text is open here; it may be false): for the released tool's asking of the row's closed facts alone. THE STATEMENT IS 'LawS4893BEncodeToldSaid' (YbulkcwhsFmtCards.lean). -/
def LawS4893BEncodeFormAsk : Prop := lawS4893BEncodeRow.holds Ybaf.pinned (OpenSpec.ofChange lawS4893BEncodeSpec)

/-- ITS FALSE NEIGHBOUR: 'it returns false'. Refute it at one input. -/
def lawS4893BEncodeWrong : ChangeSpec := { name := "lawS4893BEncode", fn := fun _ => fun
  | [d1, d2, d3] => { results := [.lit (.bool false)], args := [d1, d2, d3] }
  | _ => none }
def LawS4893BEncodeWrongFormAsk : Prop := lawS4893BEncodeRow.holds Ybaf.pinned (OpenSpec.ofChange lawS4893BEncodeWrong)

/-- 'store.LawS4893CGet': WHATEVER THE INPUT: true; the input reads as it did. -/
def lawS4893CGetSpec : ChangeSpec := { name := "lawS4893CGet", fn := fun _ => fun
  | [d1, d2, d3] => { results := [.lit (.bool true)], args := [d1, d2, d3] }
  | _ => none }
def lawS4893CGetRow : OpenClaim := { program := "ybulkcwhsfmt", sum := "ea89aa3e1b247b53837b8fcf937a9f4af2a328437685996fc3aacbf5b93010cc", func := "example.com/linecard/linecard/internal/store.LawS4893CGet", spec := "lawS4893CGet", stops := ["fmt.Sprintf", "fmt.errorf"], inPlace := ["fmt.errorf"], unfollowed := true, recurses := true, apart := false }
/-- NO THEOREM (fmt's text is open here; it may be false): for the released tool's asking of the row's closed facts alone. THE STATEMENT IS 'LawS4893CGetToldSaid' (YbulkcwhsFmtCards.lean). -/
def LawS4893CGetFormAsk : Prop := lawS4893CGetRow.holds Ybaf.pinned (OpenSpec.ofChange lawS4893CGetSpec)

/-- ITS FALSE NEIGHBOUR: 'it returns false'. Refute it at one input. -/
def lawS4893CGetWrong : ChangeSpec := { name := "lawS4893CGet", fn := fun _ => fun
  | [d1, d2, d3] => { results := [.lit (.bool false)], args := [d1, d2, d3] }
  | _ => none }
def LawS4893CGetWrongFormAsk : Prop := lawS4893CGetRow.holds Ybaf.pinned (OpenSpec.ofChange lawS4893CGetWrong)

end Rows
end Go.Proofs.YbulkcwhsFmt
