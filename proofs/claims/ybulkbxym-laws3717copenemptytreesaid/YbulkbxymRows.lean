/-
  No cell of these rows narrows 'for every input' (looked for: loops, veiled, ifaces, maps, wideKeys, modest, calm, conditions, laid).
  DERIVED. THE GIVEN ROWS OF THIS SEAT. 3 by the template 'for every input the law returns true; each argument reads behind the call as it read before'; 0 by the template 'total and deterministic' (their statements: YbulkbxymTotals.lean).
  GIVEN WITH THE SEED: the statements are not yours to turn. If you find one false, say at which input.
  Laid BY PROGRAM, IN A SANDBOX (cutbox-rows.mjs): the forced cells as the released guide's own fill.sh prints them over the translation bf332256c5c36929… (all of the seat's roots in one cut). By AI agents, Wed Nov 11 2026. No macro, syntax, notation, axiom, sorry.
-/
import Derived.Test.YbulkbxymChecked
import GoSem.Claim
import GoSem.ClaimJoined
import GoSem.ClaimMapViews
import Derived.JoinedTies
import Derived.KernelRfl
namespace Go.Proofs.Ybulkbxym
/- THE CELL 'sum', in the pinned program and in every row, IS THE sha256 OF THE DUMP (.gsa) THAT YbulkbxymProg.lean LOADS. Nothing in Lean hashes anything: it is a label: what it is worth is what the hold of that sum in a sandbox is worth. -/
noncomputable def Yba.pinned : Pinned := { name := "ybulkbxym", sum := "bf332256c5c36929c0a1c8c5797d671f776f8359617be421c3f93cbece899132", checked := Yba.checked }
namespace Rows
def none {H : Type} : Left H := { results := [], args := [] }

/-- 'replay.LawS3717AAppend': WHATEVER THE INPUT: true; the input reads as it did. -/
def lawS3717AAppendSpec : ChangeSpec := { name := "lawS3717AAppend", fn := fun _ => fun
  | [d1, d2, d3] => { results := [.lit (.bool true)], args := [d1, d2, d3] }
  | _ => none }
def lawS3717AAppendRow : OpenClaim := { program := "ybulkbxym", sum := "bf332256c5c36929c0a1c8c5797d671f776f8359617be421c3f93cbece899132", func := "example.com/forkline/forkline/replay.LawS3717AAppend", spec := "lawS3717AAppend", apart := false }
def LawS3717AAppendSaid : Prop := lawS3717AAppendRow.holds Yba.pinned (OpenSpec.ofChange lawS3717AAppendSpec)

/-- ITS FALSE NEIGHBOUR: 'it returns false'. Refute it at one input. -/
def lawS3717AAppendWrong : ChangeSpec := { name := "lawS3717AAppend", fn := fun _ => fun
  | [d1, d2, d3] => { results := [.lit (.bool false)], args := [d1, d2, d3] }
  | _ => none }
def LawS3717AAppendWrongFalsely : Prop := lawS3717AAppendRow.holds Yba.pinned (OpenSpec.ofChange lawS3717AAppendWrong)

/-- 'replay.LawS3717ANil': WHATEVER THE INPUT: true; the input reads as it did. -/
def lawS3717ANilSpec : ChangeSpec := { name := "lawS3717ANil", fn := fun _ => fun
  | [d] => { results := [.lit (.bool true)], args := [d] }
  | _ => none }
def lawS3717ANilRow : OpenClaim := { program := "ybulkbxym", sum := "bf332256c5c36929c0a1c8c5797d671f776f8359617be421c3f93cbece899132", func := "example.com/forkline/forkline/replay.LawS3717ANil", spec := "lawS3717ANil", apart := false }
def LawS3717ANilSaid : Prop := lawS3717ANilRow.holds Yba.pinned (OpenSpec.ofChange lawS3717ANilSpec)

/-- ITS FALSE NEIGHBOUR: 'it returns false'. Refute it at one input. -/
def lawS3717ANilWrong : ChangeSpec := { name := "lawS3717ANil", fn := fun _ => fun
  | [d] => { results := [.lit (.bool false)], args := [d] }
  | _ => none }
def LawS3717ANilWrongFalsely : Prop := lawS3717ANilRow.holds Yba.pinned (OpenSpec.ofChange lawS3717ANilWrong)

/-- 'replay.LawS3717COpenEmptyTree': WHATEVER THE INPUT: true; the input reads as it did. -/
def lawS3717COpenEmptyTreeSpec : ChangeSpec := { name := "lawS3717COpenEmptyTree", fn := fun _ => fun
  | [d1, d2] => { results := [.lit (.bool true)], args := [d1, d2] }
  | _ => none }
def lawS3717COpenEmptyTreeRow : OpenClaim := { program := "ybulkbxym", sum := "bf332256c5c36929c0a1c8c5797d671f776f8359617be421c3f93cbece899132", func := "example.com/forkline/forkline/replay.LawS3717COpenEmptyTree", spec := "lawS3717COpenEmptyTree", apart := false }
def LawS3717COpenEmptyTreeSaid : Prop := lawS3717COpenEmptyTreeRow.holds Yba.pinned (OpenSpec.ofChange lawS3717COpenEmptyTreeSpec)

/-- ITS FALSE NEIGHBOUR: 'it returns false'. Refute it at one input. -/
def lawS3717COpenEmptyTreeWrong : ChangeSpec := { name := "lawS3717COpenEmptyTree", fn := fun _ => fun
  | [d1, d2] => { results := [.lit (.bool false)], args := [d1, d2] }
  | _ => none }
def LawS3717COpenEmptyTreeWrongFalsely : Prop := lawS3717COpenEmptyTreeRow.holds Yba.pinned (OpenSpec.ofChange lawS3717COpenEmptyTreeWrong)

end Rows
end Go.Proofs.Ybulkbxym
