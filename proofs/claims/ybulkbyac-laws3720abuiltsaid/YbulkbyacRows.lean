/-
  No cell of these rows narrows 'for every input' (looked for: loops, veiled, ifaces, maps, wideKeys, modest, calm, conditions, laid).
  DERIVED. THE GIVEN ROWS OF THIS SEAT. 2 by the template 'for every input the law returns true; each argument reads behind the call as it read before'; 0 by the template 'total and deterministic' (their statements: YbulkbyacTotals.lean).
  GIVEN WITH THE SEED: the statements are not yours to turn. If you find one false, say at which input.
  Laid BY PROGRAM, IN A SANDBOX (cutbox-rows.mjs): the forced cells as the released guide's own fill.sh prints them over the translation 161f604b65e36da2… (all of the seat's roots in one cut). By AI agents, Wed Nov 11 2026. No macro, syntax, notation, axiom, sorry.
-/
import Derived.Test.YbulkbyacChecked
import GoSem.Claim
import GoSem.ClaimJoined
import GoSem.ClaimMapViews
import Derived.JoinedTies
import Derived.KernelRfl
namespace Go.Proofs.Ybulkbyac
/- THE CELL 'sum', in the pinned program and in every row, IS THE sha256 OF THE DUMP (.gsa) THAT YbulkbyacProg.lean LOADS. Nothing in Lean hashes anything: it is a label: what it is worth is what the hold of that sum in a sandbox is worth. -/
noncomputable def Yba.pinned : Pinned := { name := "ybulkbyac", sum := "161f604b65e36da2932ec36b2a8fb55fe55c1057b9f115596fc875ddcaf2b0b1", checked := Yba.checked }
namespace Rows
def none {H : Type} : Left H := { results := [], args := [] }

/-- 'nuenen.LawS3720AModel': WHATEVER THE INPUT: true; the input reads as it did. -/
def lawS3720AModelSpec : ChangeSpec := { name := "lawS3720AModel", fn := fun _ => fun
  | [d] => { results := [.lit (.bool true)], args := [d] }
  | _ => none }
def lawS3720AModelRow : OpenClaim := { program := "ybulkbyac", sum := "161f604b65e36da2932ec36b2a8fb55fe55c1057b9f115596fc875ddcaf2b0b1", func := "example.com/nuenen/nuenen.LawS3720AModel", spec := "lawS3720AModel", inPlace := ["sync/atomic.StoreInt32", "sync/atomic.LoadInt32"], apart := false }
def LawS3720AModelSaid : Prop := lawS3720AModelRow.holds Yba.pinned (OpenSpec.ofChange lawS3720AModelSpec)

/-- ITS FALSE NEIGHBOUR: 'it returns false'. Refute it at one input. -/
def lawS3720AModelWrong : ChangeSpec := { name := "lawS3720AModel", fn := fun _ => fun
  | [d] => { results := [.lit (.bool false)], args := [d] }
  | _ => none }
def LawS3720AModelWrongFalsely : Prop := lawS3720AModelRow.holds Yba.pinned (OpenSpec.ofChange lawS3720AModelWrong)

/-- 'nuenen.LawS3720ABuilt': WHATEVER THE INPUT: true; the input reads as it did. -/
def lawS3720ABuiltSpec : ChangeSpec := { name := "lawS3720ABuilt", fn := fun _ => fun
  | [d1, d2] => { results := [.lit (.bool true)], args := [d1, d2] }
  | _ => none }
def lawS3720ABuiltRow : OpenClaim := { program := "ybulkbyac", sum := "161f604b65e36da2932ec36b2a8fb55fe55c1057b9f115596fc875ddcaf2b0b1", func := "example.com/nuenen/nuenen.LawS3720ABuilt", spec := "lawS3720ABuilt", inPlace := ["sync/atomic.StoreInt32", "sync/atomic.LoadInt32", "sync/atomic.CompareAndSwapInt32"], apart := false }
def LawS3720ABuiltSaid : Prop := lawS3720ABuiltRow.holds Yba.pinned (OpenSpec.ofChange lawS3720ABuiltSpec)

/-- ITS FALSE NEIGHBOUR: 'it returns false'. Refute it at one input. -/
def lawS3720ABuiltWrong : ChangeSpec := { name := "lawS3720ABuilt", fn := fun _ => fun
  | [d1, d2] => { results := [.lit (.bool false)], args := [d1, d2] }
  | _ => none }
def LawS3720ABuiltWrongFalsely : Prop := lawS3720ABuiltRow.holds Yba.pinned (OpenSpec.ofChange lawS3720ABuiltWrong)

end Rows
end Go.Proofs.Ybulkbyac
