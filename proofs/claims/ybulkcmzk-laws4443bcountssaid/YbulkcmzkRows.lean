/-
  No cell of these rows narrows 'for every input' (looked for: loops, veiled, ifaces, maps, wideKeys, modest, calm, conditions, laid).
  DERIVED. THE GIVEN ROWS OF THIS SEAT. 1 by the template 'for every input the law returns true; each argument reads behind the call as it read before'; 0 by the template 'total and deterministic' (their statements: YbulkcmzkTotals.lean).
  GIVEN WITH THE SEED: the statements are not yours to turn. If you find one false, say at which input.
  Laid BY PROGRAM, IN A SANDBOX (cutbox-rows.mjs): the forced cells as the released guide's own fill.sh prints them over the translation 4e7ece5b29f052c5… (all of the seat's roots in one cut). By AI agents, Wed Nov 11 2026. No macro, syntax, notation, axiom, sorry.
-/
import Derived.Test.YbulkcmzkChecked
import GoSem.Claim
import GoSem.ClaimJoined
import GoSem.ClaimMapViews
import Derived.JoinedTies
import Derived.KernelRfl
namespace Go.Proofs.Ybulkcmzk
/- THE CELL 'sum', in the pinned program and in every row, IS THE sha256 OF THE DUMP (.gsa) THAT YbulkcmzkProg.lean LOADS. Nothing in Lean hashes anything: it is a label: what it is worth is what the hold of that sum in a sandbox is worth. -/
noncomputable def Yba.pinned : Pinned := { name := "ybulkcmzk", sum := "4e7ece5b29f052c54faf3867c08126b7b1a5ca23c80a605b03ede6cb4396ef7d", checked := Yba.checked }
namespace Rows
def none {H : Type} : Left H := { results := [], args := [] }

/-- 'rules.LawS4443BCounts': WHATEVER THE INPUT: true; the input reads as it did. -/
def lawS4443BCountsSpec : ChangeSpec := { name := "lawS4443BCounts", fn := fun _ => fun
  | [d1, d2] => { results := [.lit (.bool true)], args := [d1, d2] }
  | _ => none }
def lawS4443BCountsRow : OpenClaim := { program := "ybulkcmzk", sum := "4e7ece5b29f052c54faf3867c08126b7b1a5ca23c80a605b03ede6cb4396ef7d", func := "example.com/strict-gate/strict-gate/rules.LawS4443BCounts", spec := "lawS4443BCounts", apart := false }
def LawS4443BCountsSaid : Prop := lawS4443BCountsRow.holds Yba.pinned (OpenSpec.ofChange lawS4443BCountsSpec)

/-- ITS FALSE NEIGHBOUR: 'it returns false'. Refute it at one input. -/
def lawS4443BCountsWrong : ChangeSpec := { name := "lawS4443BCounts", fn := fun _ => fun
  | [d1, d2] => { results := [.lit (.bool false)], args := [d1, d2] }
  | _ => none }
def LawS4443BCountsWrongFalsely : Prop := lawS4443BCountsRow.holds Yba.pinned (OpenSpec.ofChange lawS4443BCountsWrong)

end Rows
end Go.Proofs.Ybulkcmzk
