/-
  No cell of these rows narrows 'for every input' (looked for: loops, veiled, ifaces, maps, wideKeys, modest, calm, conditions, laid).
  DERIVED. THE GIVEN ROWS OF THIS SEAT. 4 by the template 'for every input the law returns true; each argument reads behind the call as it read before'; 0 by the template 'total and deterministic' (their statements: YbulkcmvcTotals.lean).
  GIVEN WITH THE SEED: the statements are not yours to turn. If you find one false, say at which input.
  Laid BY PROGRAM, IN A SANDBOX (cutbox-rows.mjs): the forced cells as the released guide's own fill.sh prints them over the translation def5b99c8e141acd… (all of the seat's roots in one cut). By AI agents, Wed Nov 11 2026. No macro, syntax, notation, axiom, sorry.
-/
import Derived.Test.YbulkcmvcChecked
import GoSem.Claim
import GoSem.ClaimJoined
import GoSem.ClaimMapViews
import Derived.JoinedTies
import Derived.KernelRfl
namespace Go.Proofs.Ybulkcmvc
/- THE CELL 'sum', in the pinned program and in every row, IS THE sha256 OF THE DUMP (.gsa) THAT YbulkcmvcProg.lean LOADS. Nothing in Lean hashes anything: it is a label: what it is worth is what the hold of that sum in a sandbox is worth. -/
noncomputable def Yba.pinned : Pinned := { name := "ybulkcmvc", sum := "def5b99c8e141acd0db3b311e32d2a12c8e3b6f8c4996ce1a3be17bda64d2e5c", checked := Yba.checked }
namespace Rows
def none {H : Type} : Left H := { results := [], args := [] }

/-- 'fingerweave.LawS4435AProduct': WHATEVER THE INPUT: true; the input reads as it did. -/
def lawS4435AProductSpec : ChangeSpec := { name := "lawS4435AProduct", fn := fun _ => fun
  | [d1, d2] => { results := [.lit (.bool true)], args := [d1, d2] }
  | _ => none }
def lawS4435AProductRow : OpenClaim := { program := "ybulkcmvc", sum := "def5b99c8e141acd0db3b311e32d2a12c8e3b6f8c4996ce1a3be17bda64d2e5c", func := "example.com/fingerweave/fingerweave.LawS4435AProduct", spec := "lawS4435AProduct", inPlace := ["math/bits.Add64"], apart := false }
def LawS4435AProductSaid : Prop := lawS4435AProductRow.holds Yba.pinned (OpenSpec.ofChange lawS4435AProductSpec)

/-- ITS FALSE NEIGHBOUR: 'it returns false'. Refute it at one input. -/
def lawS4435AProductWrong : ChangeSpec := { name := "lawS4435AProduct", fn := fun _ => fun
  | [d1, d2] => { results := [.lit (.bool false)], args := [d1, d2] }
  | _ => none }
def LawS4435AProductWrongFalsely : Prop := lawS4435AProductRow.holds Yba.pinned (OpenSpec.ofChange lawS4435AProductWrong)

/-- 'fingerweave.LawS4435ACommuteOne': WHATEVER THE INPUT: true; the input reads as it did. -/
def lawS4435ACommuteOneSpec : ChangeSpec := { name := "lawS4435ACommuteOne", fn := fun _ => fun
  | [d1, d2] => { results := [.lit (.bool true)], args := [d1, d2] }
  | _ => none }
def lawS4435ACommuteOneRow : OpenClaim := { program := "ybulkcmvc", sum := "def5b99c8e141acd0db3b311e32d2a12c8e3b6f8c4996ce1a3be17bda64d2e5c", func := "example.com/fingerweave/fingerweave.LawS4435ACommuteOne", spec := "lawS4435ACommuteOne", inPlace := ["math/bits.Add64"], apart := false }
def LawS4435ACommuteOneSaid : Prop := lawS4435ACommuteOneRow.holds Yba.pinned (OpenSpec.ofChange lawS4435ACommuteOneSpec)

/-- ITS FALSE NEIGHBOUR: 'it returns false'. Refute it at one input. -/
def lawS4435ACommuteOneWrong : ChangeSpec := { name := "lawS4435ACommuteOne", fn := fun _ => fun
  | [d1, d2] => { results := [.lit (.bool false)], args := [d1, d2] }
  | _ => none }
def LawS4435ACommuteOneWrongFalsely : Prop := lawS4435ACommuteOneRow.holds Yba.pinned (OpenSpec.ofChange lawS4435ACommuteOneWrong)

/-- 'fingerweave.LawS4435BRefresh': WHATEVER THE INPUT: true; the input reads as it did. -/
def lawS4435BRefreshSpec : ChangeSpec := { name := "lawS4435BRefresh", fn := fun _ => fun
  | [d1, d2, d3] => { results := [.lit (.bool true)], args := [d1, d2, d3] }
  | _ => none }
def lawS4435BRefreshRow : OpenClaim := { program := "ybulkcmvc", sum := "def5b99c8e141acd0db3b311e32d2a12c8e3b6f8c4996ce1a3be17bda64d2e5c", func := "example.com/fingerweave/fingerweave.LawS4435BRefresh", spec := "lawS4435BRefresh", inPlace := ["(*internal/sync.Mutex).Lock", "internal/race.Disable", "sync/atomic.CompareAndSwapInt32", "internal/race.Enable", "internal/race.Acquire", "(*internal/sync.Mutex).lockSlow", "internal/sync.runtime_canSpin", "internal/sync.runtime_doSpin", "internal/sync.throw", "internal/sync.runtime_nanotime", "internal/sync.runtime_SemacquireMutex", "sync/atomic.AddInt32", "math/bits.Add64", "math/bits.Sub64", "slices.overlaps[example.com/fingerweave/fingerweave.Peer]", "slices.overlaps[uint8]", "(*internal/sync.Mutex).Unlock", "internal/race.ReleaseMerge", "(*internal/sync.Mutex).unlockSlow", "internal/sync.fatal", "internal/sync.runtime_Semrelease"], unfollowed := true, recurses := true, apart := false }
def LawS4435BRefreshSaid : Prop := lawS4435BRefreshRow.holds Yba.pinned (OpenSpec.ofChange lawS4435BRefreshSpec)

/-- ITS FALSE NEIGHBOUR: 'it returns false'. Refute it at one input. -/
def lawS4435BRefreshWrong : ChangeSpec := { name := "lawS4435BRefresh", fn := fun _ => fun
  | [d1, d2, d3] => { results := [.lit (.bool false)], args := [d1, d2, d3] }
  | _ => none }
def LawS4435BRefreshWrongFalsely : Prop := lawS4435BRefreshRow.holds Yba.pinned (OpenSpec.ofChange lawS4435BRefreshWrong)

/-- 'fingerweave.LawS4435BFailKeeps': WHATEVER THE INPUT: true; the input reads as it did. -/
def lawS4435BFailKeepsSpec : ChangeSpec := { name := "lawS4435BFailKeeps", fn := fun _ => fun
  | [d1, d2, d3] => { results := [.lit (.bool true)], args := [d1, d2, d3] }
  | _ => none }
def lawS4435BFailKeepsRow : OpenClaim := { program := "ybulkcmvc", sum := "def5b99c8e141acd0db3b311e32d2a12c8e3b6f8c4996ce1a3be17bda64d2e5c", func := "example.com/fingerweave/fingerweave.LawS4435BFailKeeps", spec := "lawS4435BFailKeeps", inPlace := ["(*internal/sync.Mutex).Lock", "internal/race.Disable", "sync/atomic.CompareAndSwapInt32", "internal/race.Enable", "internal/race.Acquire", "(*internal/sync.Mutex).lockSlow", "internal/sync.runtime_canSpin", "internal/sync.runtime_doSpin", "internal/sync.throw", "internal/sync.runtime_nanotime", "internal/sync.runtime_SemacquireMutex", "sync/atomic.AddInt32", "math/bits.Add64", "math/bits.Sub64", "slices.overlaps[example.com/fingerweave/fingerweave.Peer]", "slices.overlaps[uint8]", "(*internal/sync.Mutex).Unlock", "internal/race.ReleaseMerge", "(*internal/sync.Mutex).unlockSlow", "internal/sync.fatal", "internal/sync.runtime_Semrelease"], unfollowed := true, recurses := true, apart := false }
def LawS4435BFailKeepsSaid : Prop := lawS4435BFailKeepsRow.holds Yba.pinned (OpenSpec.ofChange lawS4435BFailKeepsSpec)

/-- ITS FALSE NEIGHBOUR: 'it returns false'. Refute it at one input. -/
def lawS4435BFailKeepsWrong : ChangeSpec := { name := "lawS4435BFailKeeps", fn := fun _ => fun
  | [d1, d2, d3] => { results := [.lit (.bool false)], args := [d1, d2, d3] }
  | _ => none }
def LawS4435BFailKeepsWrongFalsely : Prop := lawS4435BFailKeepsRow.holds Yba.pinned (OpenSpec.ofChange lawS4435BFailKeepsWrong)

end Rows
end Go.Proofs.Ybulkcmvc
