/-
  DERIVED. GIVEN WITH THE SEED: THE CARDS: each row of YbulkcmxuFmtRows.lean that lists a variable, with what it lists TIED to the program's text (the seventh form; the later family's looks); each row that meets fmt, with fmt's text TOLD by the authors' own Lean function (tested against real Go, not proved from fmt's source: count such statements apart). THE CARD IS WHAT COUNTS. Prove the row's statement (the work); the ties are given (YbulkcmxuFmtTie.lean); close each card by the builder's one call (the guide's Derived/Test/ToyasCard.lean, 'card_holds'). Laid BY PROGRAM, IN A SANDBOX (cutbox-door.mjs). By AI agents, Wed Nov 11 2026. No macro, syntax, notation, axiom, sorry.
-/
import Derived.Test.YbulkcmxuFmtRows
import GoSem.ClaimSeven
namespace Go.Proofs.YbulkcmxuFmt
namespace Rows

/-- THE TOLD CARD OF 'module.LawS4440BModel'. -/
def lawS4440BModelCard : Claim7 := { stood := { row := lawS4440BModelRow, standIns := [], harness := (true, "3bcdc0fcc1fa3be0b0d1995cde467bcea0f14b4120de3d4d3f38de23b7596ba4"), looks := false }, told := true, goes := false }
def LawS4440BModelToldSaid : Prop := Claim7.holds Ybaf.pinned (.plain (OpenSpec.ofChange lawS4440BModelSpec)) lawS4440BModelCard
/-- ITS FALSE NEIGHBOUR. Refute it at one input. -/
def LawS4440BModelToldWrongFalsely : Prop := Claim7.holds Ybaf.pinned (.plain (OpenSpec.ofChange lawS4440BModelWrong)) lawS4440BModelCard

/-- THE TOLD CARD OF 'module.LawS4440BBuilt'. -/
def lawS4440BBuiltCard : Claim7 := { stood := { row := lawS4440BBuiltRow, standIns := [], harness := (true, "3bcdc0fcc1fa3be0b0d1995cde467bcea0f14b4120de3d4d3f38de23b7596ba4"), looks := false }, told := true, goes := false }
def LawS4440BBuiltToldSaid : Prop := Claim7.holds Ybaf.pinned (.plain (OpenSpec.ofChange lawS4440BBuiltSpec)) lawS4440BBuiltCard
/-- ITS FALSE NEIGHBOUR. Refute it at one input. -/
def LawS4440BBuiltToldWrongFalsely : Prop := Claim7.holds Ybaf.pinned (.plain (OpenSpec.ofChange lawS4440BBuiltWrong)) lawS4440BBuiltCard
end Rows
end Go.Proofs.YbulkcmxuFmt
