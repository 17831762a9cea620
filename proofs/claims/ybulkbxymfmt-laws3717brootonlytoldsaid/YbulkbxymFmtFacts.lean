/-
  THE CLOSED FACTS FOR A WALK OVER fmt.errorf (a stopped front) AT THIS PROGRAM, typed after the kit's generated texts of that kind; and the contract of 'fmt.Errorf' at the one format that the roads of this seat come to.
-/
import Derived.Test.YbulkbxymFmtRows
import Derived.Stop.CallBack
import Derived.Stop.IfaceNil
import Derived.WalkKit
import Derived.ProofKit
import Derived.WalkSpells
import Derived.Outline
import GoSem.ClaimData
namespace Go.Proofs.YbulkbxymFmt
open Go.RowKit Go.Extern.Stop Go.Stop Go.Extern

theorem Ybaf.call13 (args : Array Value) (w : World) : (callFunc 13 args).run Ybaf.prog w = ((FmtStop.errorf #[9, 52] #[35] args).run Ybaf.prog w).andThen fun v w' => .ok (.value v) w' :=
  run_callFunc_extern Ybaf.func13 (by kernel_rfl) (by kernel_rfl) (by kernel_rfl) (by kernel_rfl) args w
theorem Ybaf.guard (name : String) (w : World) : (FmtStop.guard name).run Ybaf.prog w = .ok () w := by kernel_rfl

/-- The format of 'knownRoot''s error. -/
abbrev rootFmt : ByteArray := ⟨#[114, 111, 111, 116, 32, 115, 108, 111, 116, 32, 37, 100, 32, 105, 115, 32, 110, 111, 116, 32, 97, 32, 98, 108, 111, 99, 107, 32, 103, 105, 118, 101, 110, 32, 111, 110, 32, 97, 110, 32, 101, 97, 114, 108, 105, 101, 114, 32, 108, 105, 110, 101]⟩
theorem Ybaf.fmt0 : FmtStop.printed? ⟨#[114, 111, 111, 116, 32, 115, 108, 111, 116, 32, 37, 100, 32, 105, 115, 32, 110, 111, 116, 32, 97, 32, 98, 108, 111, 99, 107, 32, 103, 105, 118, 101, 110, 32, 111, 110, 32, 97, 110, 32, 101, 97, 114, 108, 105, 101, 114, 32, 108, 105, 110, 101]⟩ 1 = some [(0, 100, false)] := by kernel_rfl
theorem Ybaf.fmt0r (w : World) : (FmtDoors.printed ⟨#[114, 111, 111, 116, 32, 115, 108, 111, 116, 32, 37, 100, 32, 105, 115, 32, 110, 111, 116, 32, 97, 32, 98, 108, 111, 99, 107, 32, 103, 105, 118, 101, 110, 32, 111, 110, 32, 97, 110, 32, 101, 97, 114, 108, 105, 101, 114, 32, 108, 105, 110, 101]⟩ 1).run Ybaf.prog w = .ok [(0, 100, false)] w := by kernel_rfl
/-- What a uint64 reads as, as an operand: its kind and its type's name. -/
def Ybaf.shape22 : List UInt8 := FmtStop.intCode .u64 :: FmtStop.pack [117, 105, 110, 116, 54, 52]
theorem Ybaf.op22 (name : String) (x : Int) (w : World) : (FmtStop.operand name true 100 false (.iface 22 (.int .u64 x))).run Ybaf.prog w = .ok (Ybaf.shape22, Go.Extern.Stop.digits 8 (x % 2 ^ 64).toNat) w := by kernel_rfl
theorem Ybaf.ptr55 (w : World) : (FmtStop.ptrTo "errors.errorString").run Ybaf.prog w = .ok 55 w := by kernel_rfl
theorem Ybaf.elem55 (w : World) : (elemOf 55).run Ybaf.prog w = .ok 57 w := by kernel_rfl
theorem Ybaf.isError55 (w : World) : (FmtDoors.textMethod 55 "Error").run Ybaf.prog w = .ok true w := by kernel_rfl

/-- The one call of fmt.Errorf on the road, with one uint64 behind its format: a new error, whatever its text. -/
theorem errorf_root (slot : Int) (blk : Nat) (w : World) (hc : w.cell? ⟨blk, 0, none⟩ = some (.iface 22 (.int .u64 slot))) :
    Calls Ybaf.prog 10 #[.string rootFmt, .slice (some ⟨blk, 0, none⟩) 1 1] w fun e w' => e = .returned (.iface 55 (.pointer (some ⟨w.heap.size, 0, none⟩))) ∧ ∃ s, w' = (w.alloc (.cells #[.string s] 57)).drew := by
  have f0 := Ybaf.call13
  have f1 := Ybaf.guard
  have f2 := Ybaf.fmt0
  have f3 := Ybaf.fmt0r
  have f4 := Ybaf.op22
  have f5 := Ybaf.ptr55
  have f6 := Ybaf.elem55
  have f7 := Ybaf.isError55
  go_enter Ybaf.func10, Ybaf.ntmps10
  go_wp2
  go_ret
  exact ⟨rfl, _, rfl⟩

end Go.Proofs.YbulkbxymFmt
