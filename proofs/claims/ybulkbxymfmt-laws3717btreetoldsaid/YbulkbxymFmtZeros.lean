/-
  'append(s, make([]T, n)...)', T of one cell, s a slice whose row is owned: the model runs it as one append of n zeros: in place, or onto a new block. As one step of a region that draws its order. And the same of a plain append.
-/
import Derived.Test.YbulkbxymFmtRows
import Derived.WalkKit
import Derived.ProofKit
import Derived.ArgAppend
import Derived.Deep.RegionLaw
namespace Go.Proofs.YbulkbxymFmt
open Go.RowKit

/-- An append onto a row of the call's own: in place, or onto a new block, the old one left alone. -/
def Moved (w w' : World) (v v' : Value) : Prop :=
  (v'.ownBlock = v.ownBlock ∧ w.grownBy w' v.ownBlock) ∨ ((∃ k, v'.ownBlock = some k ∧ w.heap.size ≤ k) ∧ w.grownBy w' Option.none)

theorem zeroCells_one (z : Value) (n : Nat) : Builtin.zeroCells #[z] n = (List.replicate n z).toArray := by
  apply Array.ext'
  show (madeCells #[z] (n * 1)).toList = _
  rw [toList_madeCells_one, Nat.mul_one]

section
variable {P : Program} (w : World)

theorem run_append_zeros_room (t tn ty e : TypeId) (i : TypeInfo) (z z' : Value) (k kn : IntKind) (ht : P.underlying t = some (.slice e)) (htn : P.underlying tn = some (.int kn)) (hi : P.info? e = some i) (hz : i.zero = some z) (hi1 : i.size = 1)
    (hzc : z.cells = #[z']) (h1 : z'.oneCell' = true) (g sLen sCap : Nat) (cur : Array Value) (hg : w.heap[g]? = some (.cells cur e (0, 0))) (n : Nat) (h0 : 0 < n) (h63 : (n : Int) ≤ 9223372036854775807) (h48 : n * i.bytes ≤ 281474976710656)
    (hroom : sLen + n ≤ sCap) (hfit : sLen + n ≤ cur.size) :
    (Builtin.append_ #[t, tn] ty #[.slice (some ⟨g, 0, none⟩) sLen sCap, .int k n]).run P w =
      .ok (.slice (some ⟨g, 0, none⟩) (sLen + n) sCap) (w.setRow g (cur.toList.take sLen ++ List.replicate n z' ++ cur.toList.drop (sLen + n)).toArray) := by
  have hw : IntKind.i64.wrap (n : Int) = n := by rw [IntKind.wrap_i64]; omega
  have h48i : ¬ (281474976710656 < (n : Int) * (i.bytes : Int)) := by
    rw [← Int.natCast_mul]
    omega
  have hneg : ¬ ((n : Int) < 0) := by omega
  have hn : n ≠ 0 := by omega
  have hst := run_storeCells_at P g sLen e (List.replicate n z') 0 cur w hg (by simpa using hfit) (fun u hu => by rw [(List.mem_replicate.1 hu).2]; exact h1)
  simp only [Nat.add_zero, List.length_replicate] at hst
  simp [Builtin.append_, run_underlying ht, run_underlying htn, asInt, asIntOf, sizeOf, typeInfo, zeroValue, hi, hz, hi1, hw, h48i, hneg, hn, hroom, hzc, zeroCells_one, Addr.add_lit, hst]

theorem run_append_zeros_grow (t tn ty e : TypeId) (i : TypeInfo) (z z' : Value) (k kn : IntKind) (ht : P.underlying t = some (.slice e)) (htn : P.underlying tn = some (.int kn)) (hi : P.info? e = some i) (hz : i.zero = some z) (hi1 : i.size = 1)
    (hzc : z.cells = #[z']) (base : Option Addr) (sLen sCap : Nat) (olds : List Value) (hold : (Builtin.firstCells 1 sLen (.slice base sLen sCap)).run P w.drew = .ok olds.toArray w.drew)
    (n : Nat) (h0 : 0 < n) (hg : sCap < sLen + n) (h63 : ((sLen + n : Nat) : Int) ≤ 9223372036854775807) (h48 : n * i.bytes ≤ 281474976710656) (hfit : Builtin.nextslicecap (sLen + n) sCap * i.bytes ≤ 281474976710656) :
    (Builtin.append_ #[t, tn] ty #[.slice base sLen sCap, .int k n]).run P w =
      .ok (.slice (some ⟨w.heap.size, 0, none⟩) (sLen + n) (grownCap w (sLen + n) sCap e))
        (w.drew.alloc (.cells (olds ++ List.replicate n z' ++ List.replicate (grownCap w (sLen + n) sCap e - (sLen + n)) z').toArray e)) := by
  have hn : n ≠ 0 := by omega
  have hn' : ¬ (sLen + n ≤ sCap) := by omega
  have hw : IntKind.i64.wrap (n : Int) = n := by rw [IntKind.wrap_i64]; omega
  have h63' : ¬ (9223372036854775807 < ((sLen : Int) + (n : Int))) := by omega
  have h48' : ¬ (281474976710656 < Builtin.nextslicecap (sLen + n) sCap * i.bytes) := by omega
  have h48i : ¬ (281474976710656 < (n : Int) * (i.bytes : Int)) := by
    rw [← Int.natCast_mul]
    omega
  have hneg : ¬ ((n : Int) < 0) := by omega
  simp [Builtin.append_, run_underlying ht, run_underlying htn, asInt, asIntOf, sizeOf, typeInfo, zeroValue, hi, hz, hi1, hn, hn', hw, h63', h48', h48i, hneg, Question.forced, hold, newRow, grownCap, hzc, zeroCells_one]
  congr 2
  apply Array.ext'
  simp

/-- Both arms. -/
theorem run_append_zeros (t tn ty e : TypeId) (i : TypeInfo) (z z' : Value) (k kn : IntKind) (bytes : Nat) (ht : P.underlying t = some (.slice e)) (htn : P.underlying tn = some (.int kn)) (hi : P.info? e = some i) (hz : i.zero = some z) (hi1 : i.size = 1) (hby : i.bytes = bytes)
    (hzc : z.cells = #[z']) (h1 : z'.oneCell' = true) (v : Value) (n : Nat) (xs : List Value) (hown : w.ownsRow 0 e 1 v n xs) (m : Nat) (h0 : 0 < m) (hnm : n + m ≤ 100000) (hb : bytes ≤ 100000) :
    ∃ v' w', (Builtin.append_ #[t, tn] ty #[v, .int k m]).run P w = .ok v' w' ∧ w'.ownsRow 0 e 1 v' (n + m) (xs ++ List.replicate m z') ∧ Moved w w' v v' := by
  have hlx : xs.length = n := by simpa using hown.1
  have hmul : m * i.bytes ≤ 281474976710656 := by
    rw [hby]
    have : m * bytes ≤ 100000 * 100000 := Nat.mul_le_mul (by omega) hb
    omega
  have hmul2 : (n + m) * i.bytes ≤ 140737488355328 := by
    rw [hby]
    have : (n + m) * bytes ≤ 100000 * 100000 := Nat.mul_le_mul (by omega) hb
    omega
  have hmax : n + m ≤ maxLen := by unfold maxLen; omega
  have grown : ∀ (cap : Nat) (base : Option Addr), cap < n + m → v = .slice base n cap → (Builtin.firstCells 1 n (.slice base n cap)).run P w.drew = .ok xs.toArray w.drew →
      ∃ v' w', (Builtin.append_ #[t, tn] ty #[v, .int k m]).run P w = .ok v' w' ∧ w'.ownsRow 0 e 1 v' (n + m) (xs ++ List.replicate m z') ∧ Moved w w' v v' := by
    intro cap base hc hv hold
    subst hv
    refine ⟨_, _, run_append_zeros_grow w t tn ty e i z z' k kn ht htn hi hz hi1 hzc base n cap xs hold m h0 hc (by omega) hmul (growslice_fits hc hmul2), ?_, ?_⟩
    · have hge := grownCap_ge w (n + m) cap e
      have hcm : grownCap w (n + m) cap e ≤ maxLen := grownCap_le_maxLen w (n + m) cap e hmax
      refine ⟨by simp; omega, .inr ⟨w.heap.size, _, _, rfl, Nat.zero_le _, heap_alloc_new w.drew _, hge, hcm, by simp; omega, ?_⟩⟩
      rw [Nat.mul_one]
      show List.take (n + m) (xs ++ List.replicate m z' ++ _) = _
      rw [List.take_append_of_le_length (by simp; omega), List.take_of_length_le (by simp; omega)]
    · exact .inr ⟨⟨_, rfl, Nat.le_refl _⟩, ⟨rfl, rfl, rfl, by simp, fun q hq _ => Below.heap_alloc w.drew _ q hq⟩⟩
  rcases hown.2 with ⟨rfl, rfl⟩ | ⟨g, cap, cur, rfl, _, hg, hnc, hcm, hcs, htake⟩
  · obtain rfl : xs = [] := List.eq_nil_of_length_eq_zero hlx
    exact grown 0 none (by omega) rfl (run_firstCells_none w.drew 1 0 0 0)
  · by_cases hroom : n + m ≤ cap
    · refine ⟨_, _, run_append_zeros_room w t tn ty e i z z' k kn ht htn hi hz hi1 hzc h1 g n cap cur hg m h0 (by omega) hmul hroom (by omega), ?_, .inl ⟨rfl, ⟨rfl, rfl, rfl, by simp, fun q _ hq => setRow_other w g q _ (fun e => hq (by simp [Value.ownBlock, e]))⟩⟩⟩
      refine ⟨by simp; omega, .inr ⟨g, cap, _, rfl, Nat.zero_le _, setRow_heap w g cur _ e _ hg, hroom, hcm, by simp; omega, ?_⟩⟩
      rw [Nat.mul_one] at htake ⊢
      show List.take (n + m) (List.take n cur.toList ++ List.replicate m z' ++ _) = _
      rw [htake, List.take_append_of_le_length (by simp; omega), List.take_of_length_le (by simp; omega)]
    · exact grown cap _ (by omega) rfl (run_firstCells_some w.drew 1 n ⟨g, 0, none⟩ n cap xs (by omega) (fun j u hj => hown.cells rfl j u hj))

end

/-- An append whose run is known, as one step of a region that draws its order. -/
theorem step_append_some {P : Program} {ops : Array Oper} {o : Oper} {a : Act} {w : World} {K : Act → World → Prop} {Q : Exit → Act → World → Prop} {E : Prop} {p : Value → World → Prop}
    (hg : o.guard = Option.none) (s x : Operand) (t tn : TypeId) (hop : o.op = Op.call { callee := Callee.builtin Builtin.append, args := #[s, x], argTypes := #[t, tn] })
    (vs vx : Value) (hs : a.eval s = vs) (hx : a.eval x = vx) (hr : ∃ v' w', (Builtin.append_ #[t, tn] o.type #[vs, vx]).run P w = .ok v' w' ∧ p v' w')
    (hK : ∀ v' w', p v' w' → K (a.put o.dst v') w') :
    if Region.wanted o (yielded ops a.tmps) = true then Oper.wp P o a w K Q else E := by
  obtain ⟨v', w', hr, hp⟩ := hr
  have hw : Region.wanted o (yielded ops a.tmps) = true := by simp [Region.wanted, hg]
  rw [if_pos hw]
  unfold Oper.wp
  simp [execOp, hop, resolve, invoke, builtin, hs, hx, hr, Result.andThen]
  exact hK v' w' hp

end Go.Proofs.YbulkbxymFmt
