/-
  DERIVED. GIVEN WITH THE SEED: THE CARDS: each row of YbulkbxymFmtRows.lean that lists a variable, with what it lists TIED to the program's text (the seventh form; the later family's looks); each row that meets fmt, with fmt's text TOLD by the authors' own Lean function (tested against real Go, not proved from fmt's source: count such statements apart). THE CARD IS WHAT COUNTS. Prove the row's statement (the work); the ties are given (YbulkbxymFmtTie.lean); close each card by the builder's one call (the guide's Derived/Test/ToyasCard.lean, 'card_holds'). Laid BY PROGRAM, IN A SANDBOX (cutbox-door.mjs). By AI agents, Wed Nov 11 2026. No macro, syntax, notation, axiom, sorry.
-/
import Derived.Test.YbulkbxymFmtRows
import GoSem.ClaimSeven
namespace Go.Proofs.YbulkbxymFmt
namespace Rows

/-- THE TOLD CARD OF 'stream.LawS3717BEmpty'. -/
def lawS3717BEmptyCard : Claim7 := { stood := { row := lawS3717BEmptyRow, standIns := [], harness := (true, "2fa6ce3b39fa057ada03ae1c114063c527fb813209554377a58399e7f812867f"), looks := false }, told := true, goes := false }
def LawS3717BEmptyToldSaid : Prop := Claim7.holds Ybaf.pinned (.plain (OpenSpec.ofChange lawS3717BEmptySpec)) lawS3717BEmptyCard
/-- ITS FALSE NEIGHBOUR. Refute it at one input. -/
def LawS3717BEmptyToldWrongFalsely : Prop := Claim7.holds Ybaf.pinned (.plain (OpenSpec.ofChange lawS3717BEmptyWrong)) lawS3717BEmptyCard

/-- THE TOLD CARD OF 'stream.LawS3717BRootOnly'. -/
def lawS3717BRootOnlyCard : Claim7 := { stood := { row := lawS3717BRootOnlyRow, standIns := [], harness := (true, "2fa6ce3b39fa057ada03ae1c114063c527fb813209554377a58399e7f812867f"), looks := false }, told := true, goes := false }
def LawS3717BRootOnlyToldSaid : Prop := Claim7.holds Ybaf.pinned (.plain (OpenSpec.ofChange lawS3717BRootOnlySpec)) lawS3717BRootOnlyCard
/-- ITS FALSE NEIGHBOUR. Refute it at one input. -/
def LawS3717BRootOnlyToldWrongFalsely : Prop := Claim7.holds Ybaf.pinned (.plain (OpenSpec.ofChange lawS3717BRootOnlyWrong)) lawS3717BRootOnlyCard

/-- THE TOLD CARD OF 'stream.LawS3717BTree'. -/
def lawS3717BTreeCard : Claim7 := { stood := { row := lawS3717BTreeRow, standIns := [], harness := (true, "2fa6ce3b39fa057ada03ae1c114063c527fb813209554377a58399e7f812867f"), looks := false }, told := true, goes := false }
def LawS3717BTreeToldSaid : Prop := Claim7.holds Ybaf.pinned (.plain (OpenSpec.ofChange lawS3717BTreeSpec)) lawS3717BTreeCard
/-- ITS FALSE NEIGHBOUR. Refute it at one input. -/
def LawS3717BTreeToldWrongFalsely : Prop := Claim7.holds Ybaf.pinned (.plain (OpenSpec.ofChange lawS3717BTreeWrong)) lawS3717BTreeCard
end Rows
end Go.Proofs.YbulkbxymFmt
