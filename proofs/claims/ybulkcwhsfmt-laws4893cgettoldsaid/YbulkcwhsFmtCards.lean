/-
  DERIVED. GIVEN WITH THE SEED: THE CARDS: each row of YbulkcwhsFmtRows.lean that lists a variable, with what it lists TIED to the program's text (the seventh form; the later family's looks); each row that meets fmt, with fmt's text TOLD by the authors' own Lean function (tested against real Go, not proved from fmt's source: count such statements apart). THE CARD IS WHAT COUNTS. Prove the row's statement (the work); the ties are given (YbulkcwhsFmtTie.lean); close each card by the builder's one call (the guide's Derived/Test/ToyasCard.lean, 'card_holds'). Laid BY PROGRAM, IN A SANDBOX (cutbox-door.mjs). By AI agents, Wed Nov 11 2026. No macro, syntax, notation, axiom, sorry.
-/
import Derived.Test.YbulkcwhsFmtRows
import GoSem.ClaimSeven
namespace Go.Proofs.YbulkcwhsFmt
namespace Rows

/-- THE TOLD CARD OF 'store.LawS4893BEncode'. -/
def lawS4893BEncodeCard : Claim7 := { stood := { row := lawS4893BEncodeRow, standIns := [], harness := (true, "22af38ba183d12fe21c9f6028a9be7d3b82383ae9493e408145d2f119eb61650"), looks := false }, told := true, goes := false }
def LawS4893BEncodeToldSaid : Prop := Claim7.holds Ybaf.pinned (.plain (OpenSpec.ofChange lawS4893BEncodeSpec)) lawS4893BEncodeCard
/-- ITS FALSE NEIGHBOUR. Refute it at one input. -/
def LawS4893BEncodeToldWrongFalsely : Prop := Claim7.holds Ybaf.pinned (.plain (OpenSpec.ofChange lawS4893BEncodeWrong)) lawS4893BEncodeCard

/-- THE TOLD CARD OF 'store.LawS4893CGet'. -/
def lawS4893CGetCard : Claim7 := { stood := { row := lawS4893CGetRow, standIns := [], harness := (true, "22af38ba183d12fe21c9f6028a9be7d3b82383ae9493e408145d2f119eb61650"), looks := false }, told := true, goes := false }
def LawS4893CGetToldSaid : Prop := Claim7.holds Ybaf.pinned (.plain (OpenSpec.ofChange lawS4893CGetSpec)) lawS4893CGetCard
/-- ITS FALSE NEIGHBOUR. Refute it at one input. -/
def LawS4893CGetToldWrongFalsely : Prop := Claim7.holds Ybaf.pinned (.plain (OpenSpec.ofChange lawS4893CGetWrong)) lawS4893CGetCard
end Rows
end Go.Proofs.YbulkcwhsFmt
