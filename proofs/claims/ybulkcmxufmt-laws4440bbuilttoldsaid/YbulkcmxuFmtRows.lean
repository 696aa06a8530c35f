/-
  No cell of these rows narrows 'for every input' (looked for: loops, veiled, ifaces, maps, wideKeys, modest, calm, conditions, laid).
  DERIVED. THE GIVEN ROWS OF THIS SEAT. 2 by the template 'for every input the law returns true; each argument reads behind the call as it read before'; 0 by the template 'total and deterministic' (their statements: YbulkcmxuFmtTotals.lean).
  GIVEN WITH THE SEED: the statements are not yours to turn. If you find one false, say at which input.
  Laid BY PROGRAM, IN A SANDBOX (cutbox-rows.mjs): the forced cells as the released guide's own fill.sh prints them over the translation 1f7440c520106264… (all of the seat's roots in one cut). By AI agents, Wed Nov 11 2026. No macro, syntax, notation, axiom, sorry.
-/
import Derived.Test.YbulkcmxuFmtChecked
import GoSem.Claim
import GoSem.ClaimJoined
import GoSem.ClaimMapViews
import Derived.JoinedTies
import Derived.KernelRfl
namespace Go.Proofs.YbulkcmxuFmt
/- THE CELL 'sum', in the pinned program and in every row, IS THE sha256 OF THE DUMP (.gsa) THAT YbulkcmxuFmtProg.lean LOADS. Nothing in Lean hashes anything: it is a label: what it is worth is what the hold of that sum in a sandbox is worth. -/
noncomputable def Ybaf.pinned : Pinned := { name := "ybulkcmxufmt", sum := "1f7440c520106264dfb38b5f5369398f079cd840ec7c90b6a64b8c37e5c90e16", checked := Ybaf.checked }
namespace Rows
def none {H : Type} : Left H := { results := [], args := [] }

/-- 'module.LawS4440BModel': WHATEVER THE INPUT: true; the input reads as it did. -/
def lawS4440BModelSpec : ChangeSpec := { name := "lawS4440BModel", fn := fun _ => fun
  | [d1, d2] => { results := [.lit (.bool true)], args := [d1, d2] }
  | _ => none }
def lawS4440BModelRow : OpenClaim := { program := "ybulkcmxufmt", sum := "1f7440c520106264dfb38b5f5369398f079cd840ec7c90b6a64b8c37e5c90e16", func := "example.com/acquire/acquire/internal/module.LawS4440BModel", spec := "lawS4440BModel", stops := ["fmt.errorf"], inPlace := ["fmt.errorf", "internal/abi.NoEscape", "internal/bytealg.MakeNoZero"], apart := false }
/-- NO THEOREM (fmt's text is open here; it may be false): for the released tool's asking of the row's closed facts alone. THE STATEMENT IS 'LawS4440BModelToldSaid' (YbulkcmxuFmtCards.lean). -/
def LawS4440BModelFormAsk : Prop := lawS4440BModelRow.holds Ybaf.pinned (OpenSpec.ofChange lawS4440BModelSpec)

/-- ITS FALSE NEIGHBOUR: 'it returns false'. Refute it at one input. -/
def lawS4440BModelWrong : ChangeSpec := { name := "lawS4440BModel", fn := fun _ => fun
  | [d1, d2] => { results := [.lit (.bool false)], args := [d1, d2] }
  | _ => none }
def LawS4440BModelWrongFormAsk : Prop := lawS4440BModelRow.holds Ybaf.pinned (OpenSpec.ofChange lawS4440BModelWrong)

/-- 'module.LawS4440BBuilt': WHATEVER THE INPUT: true; the input reads as it did. -/
def lawS4440BBuiltSpec : ChangeSpec := { name := "lawS4440BBuilt", fn := fun _ => fun
  | [d1, d2] => { results := [.lit (.bool true)], args := [d1, d2] }
  | _ => none }
def lawS4440BBuiltRow : OpenClaim := { program := "ybulkcmxufmt", sum := "1f7440c520106264dfb38b5f5369398f079cd840ec7c90b6a64b8c37e5c90e16", func := "example.com/acquire/acquire/internal/module.LawS4440BBuilt", spec := "lawS4440BBuilt", stops := ["fmt.errorf"], inPlace := ["fmt.errorf", "internal/abi.NoEscape", "internal/bytealg.MakeNoZero"], apart := false }
/-- NO THEOREM (fmt's text is open here; it may be false): for the released tool's asking of the row's closed facts alone. THE STATEMENT IS 'LawS4440BBuiltToldSaid' (YbulkcmxuFmtCards.lean). -/
def LawS4440BBuiltFormAsk : Prop := lawS4440BBuiltRow.holds Ybaf.pinned (OpenSpec.ofChange lawS4440BBuiltSpec)

/-- ITS FALSE NEIGHBOUR: 'it returns false'. Refute it at one input. -/
def lawS4440BBuiltWrong : ChangeSpec := { name := "lawS4440BBuilt", fn := fun _ => fun
  | [d1, d2] => { results := [.lit (.bool false)], args := [d1, d2] }
  | _ => none }
def LawS4440BBuiltWrongFormAsk : Prop := lawS4440BBuiltRow.holds Ybaf.pinned (OpenSpec.ofChange lawS4440BBuiltWrong)

end Rows
end Go.Proofs.YbulkcmxuFmt
