/-
  No cell of these rows narrows 'for every input' (looked for: loops, veiled, ifaces, maps, wideKeys, modest, calm, conditions, laid).
  DERIVED. THE GIVEN ROWS OF THIS SEAT. 3 by the template 'for every input the law returns true; each argument reads behind the call as it read before'; 0 by the template 'total and deterministic' (their statements: YbulkbxymFmtTotals.lean).
  GIVEN WITH THE SEED: the statements are not yours to turn. If you find one false, say at which input.
  Laid BY PROGRAM, IN A SANDBOX (cutbox-rows.mjs): the forced cells as the released guide's own fill.sh prints them over the translation 039c446182f3c073… (all of the seat's roots in one cut). By AI agents, Wed Nov 11 2026. No macro, syntax, notation, axiom, sorry.
-/
import Derived.Test.YbulkbxymFmtChecked
import GoSem.Claim
import GoSem.ClaimJoined
import GoSem.ClaimMapViews
import Derived.JoinedTies
import Derived.KernelRfl
namespace Go.Proofs.YbulkbxymFmt
/- THE CELL 'sum', in the pinned program and in every row, IS THE sha256 OF THE DUMP (.gsa) THAT YbulkbxymFmtProg.lean LOADS. Nothing in Lean hashes anything: it is a label: what it is worth is what the hold of that sum in a sandbox is worth. -/
noncomputable def Ybaf.pinned : Pinned := { name := "ybulkbxymfmt", sum := "039c446182f3c073e84ebf9b197c6ea4a4a2a4a8770efeeb9fabb0a328da76f3", checked := Ybaf.checked }
namespace Rows
def none {H : Type} : Left H := { results := [], args := [] }

/-- 'stream.LawS3717BEmpty': WHATEVER THE INPUT: true; the input reads as it did. -/
def lawS3717BEmptySpec : ChangeSpec := { name := "lawS3717BEmpty", fn := fun _ => fun
  | [d] => { results := [.lit (.bool true)], args := [d] }
  | _ => none }
def lawS3717BEmptyRow : OpenClaim := { program := "ybulkbxymfmt", sum := "039c446182f3c073e84ebf9b197c6ea4a4a2a4a8770efeeb9fabb0a328da76f3", func := "example.com/forkline/forkline/stream.LawS3717BEmpty", spec := "lawS3717BEmpty", stops := ["fmt.errorf"], inPlace := ["fmt.errorf"], apart := false }
/-- NO THEOREM (fmt's text is open here; it may be false): for the released tool's asking of the row's closed facts alone. THE STATEMENT IS 'LawS3717BEmptyToldSaid' (YbulkbxymFmtCards.lean). -/
def LawS3717BEmptyFormAsk : Prop := lawS3717BEmptyRow.holds Ybaf.pinned (OpenSpec.ofChange lawS3717BEmptySpec)

/-- ITS FALSE NEIGHBOUR: 'it returns false'. Refute it at one input. -/
def lawS3717BEmptyWrong : ChangeSpec := { name := "lawS3717BEmpty", fn := fun _ => fun
  | [d] => { results := [.lit (.bool false)], args := [d] }
  | _ => none }
def LawS3717BEmptyWrongFormAsk : Prop := lawS3717BEmptyRow.holds Ybaf.pinned (OpenSpec.ofChange lawS3717BEmptyWrong)

/-- 'stream.LawS3717BRootOnly': WHATEVER THE INPUT: true; the input reads as it did. -/
def lawS3717BRootOnlySpec : ChangeSpec := { name := "lawS3717BRootOnly", fn := fun _ => fun
  | [d1, d2] => { results := [.lit (.bool true)], args := [d1, d2] }
  | _ => none }
def lawS3717BRootOnlyRow : OpenClaim := { program := "ybulkbxymfmt", sum := "039c446182f3c073e84ebf9b197c6ea4a4a2a4a8770efeeb9fabb0a328da76f3", func := "example.com/forkline/forkline/stream.LawS3717BRootOnly", spec := "lawS3717BRootOnly", stops := ["fmt.errorf"], inPlace := ["fmt.errorf"], apart := false }
/-- NO THEOREM (fmt's text is open here; it may be false): for the released tool's asking of the row's closed facts alone. THE STATEMENT IS 'LawS3717BRootOnlyToldSaid' (YbulkbxymFmtCards.lean). -/
def LawS3717BRootOnlyFormAsk : Prop := lawS3717BRootOnlyRow.holds Ybaf.pinned (OpenSpec.ofChange lawS3717BRootOnlySpec)

/-- ITS FALSE NEIGHBOUR: 'it returns false'. Refute it at one input. -/
def lawS3717BRootOnlyWrong : ChangeSpec := { name := "lawS3717BRootOnly", fn := fun _ => fun
  | [d1, d2] => { results := [.lit (.bool false)], args := [d1, d2] }
  | _ => none }
def LawS3717BRootOnlyWrongFormAsk : Prop := lawS3717BRootOnlyRow.holds Ybaf.pinned (OpenSpec.ofChange lawS3717BRootOnlyWrong)

/-- 'stream.LawS3717BTree': WHATEVER THE INPUT: true; the input reads as it did. -/
def lawS3717BTreeSpec : ChangeSpec := { name := "lawS3717BTree", fn := fun _ => fun
  | [d1, d2, d3] => { results := [.lit (.bool true)], args := [d1, d2, d3] }
  | _ => none }
def lawS3717BTreeRow : OpenClaim := { program := "ybulkbxymfmt", sum := "039c446182f3c073e84ebf9b197c6ea4a4a2a4a8770efeeb9fabb0a328da76f3", func := "example.com/forkline/forkline/stream.LawS3717BTree", spec := "lawS3717BTree", stops := ["fmt.errorf"], inPlace := ["fmt.errorf"], apart := false }
/-- NO THEOREM (fmt's text is open here; it may be false): for the released tool's asking of the row's closed facts alone. THE STATEMENT IS 'LawS3717BTreeToldSaid' (YbulkbxymFmtCards.lean). -/
def LawS3717BTreeFormAsk : Prop := lawS3717BTreeRow.holds Ybaf.pinned (OpenSpec.ofChange lawS3717BTreeSpec)

/-- ITS FALSE NEIGHBOUR: 'it returns false'. Refute it at one input. -/
def lawS3717BTreeWrong : ChangeSpec := { name := "lawS3717BTree", fn := fun _ => fun
  | [d1, d2, d3] => { results := [.lit (.bool false)], args := [d1, d2, d3] }
  | _ => none }
def LawS3717BTreeWrongFormAsk : Prop := lawS3717BTreeRow.holds Ybaf.pinned (OpenSpec.ofChange lawS3717BTreeWrong)

end Rows
end Go.Proofs.YbulkbxymFmt
