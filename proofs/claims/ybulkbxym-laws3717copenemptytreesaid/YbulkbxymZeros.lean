/-
  'append(s, make([]T, n)...)': the model runs it as one append of n zeros. Here: where it must grow.
-/
import Derived.Test.YbulkbxymRows
import Derived.WalkKit
import Derived.ProofKit
import Derived.Deep.RegionLaw
namespace Go.Proofs.Ybulkbxym
open Go.RowKit

theorem run_append_zeros_grow {P : Program} (w : World) (t tn ty e : TypeId) (i : TypeInfo) (z : Value) (k kn : IntKind) (ht : P.underlying t = some (.slice e)) (htn : P.underlying tn = some (.int kn)) (hi : P.info? e = some i) (hz : i.zero = some z)
    (hi0 : 0 < i.size) (base : Option Addr) (sLen sCap : Nat) (olds : List Value) (hold : (Builtin.firstCells i.size sLen (.slice base sLen sCap)).run P w.drew = .ok olds.toArray w.drew)
    (n : Nat) (h0 : 0 < n) (hg : sCap < sLen + n) (h63 : ((sLen + n : Nat) : Int) ≤ 9223372036854775807) (h48 : n * i.bytes ≤ 281474976710656) (hfit : Builtin.nextslicecap (sLen + n) sCap * i.bytes ≤ 281474976710656) :
    (Builtin.append_ #[t, tn] ty #[.slice base sLen sCap, .int k n]).run P w =
      .ok (.slice (some ⟨w.heap.size, 0, none⟩) (sLen + n) (grownCap w (sLen + n) sCap e))
        (w.drew.alloc (.cells (olds.toArray ++ Builtin.zeroCells z.cells n ++ Builtin.zeroCells z.cells (grownCap w (sLen + n) sCap e - (sLen + n))) e)) := by
  have hn : n ≠ 0 := by omega
  have hn' : ¬ (sLen + n ≤ sCap) := by omega
  have hw : IntKind.i64.wrap (n : Int) = n := by rw [IntKind.wrap_i64]; omega
  have h63' : ¬ (9223372036854775807 < ((sLen : Int) + (n : Int))) := by omega
  have h48' : ¬ (281474976710656 < Builtin.nextslicecap (sLen + n) sCap * i.bytes) := by omega
  have h48i : ¬ (281474976710656 < (n : Int) * (i.bytes : Int)) := by
    rw [← Int.natCast_mul]
    omega
  have hneg : ¬ ((n : Int) < 0) := by omega
  have hns : ¬ (n * i.size = 0) := Nat.mul_ne_zero hn (by omega)
  simp [Builtin.append_, run_underlying ht, run_underlying htn, asInt, asIntOf, sizeOf, typeInfo, zeroValue, hi, hz, hn', hw, h63', h48', h48i, hneg, hns, Question.forced, hold, newRow, grownCap]

/-- An append whose run is known, as one step of a region that draws its order. -/
theorem step_append_run {P : Program} {ops : Array Oper} {o : Oper} {a : Act} {w : World} {K : Act → World → Prop} {Q : Exit → Act → World → Prop} {E : Prop}
    (hg : o.guard = Option.none) (s x : Operand) (t tn : TypeId) (hop : o.op = Op.call { callee := Callee.builtin Builtin.append, args := #[s, x], argTypes := #[t, tn] })
    (vs vx : Value) (hs : a.eval s = vs) (hx : a.eval x = vx) (v' : Value) (w' : World) (hr : (Builtin.append_ #[t, tn] o.type #[vs, vx]).run P w = .ok v' w')
    (hK : K (a.put o.dst v') w') :
    if Region.wanted o (yielded ops a.tmps) = true then Oper.wp P o a w K Q else E := by
  have hw : Region.wanted o (yielded ops a.tmps) = true := by simp [Region.wanted, hg]
  rw [if_pos hw]
  unfold Oper.wp
  simp [execOp, hop, resolve, invoke, builtin, hs, hx, hr, Result.andThen]
  exact hK

end Go.Proofs.Ybulkbxym
