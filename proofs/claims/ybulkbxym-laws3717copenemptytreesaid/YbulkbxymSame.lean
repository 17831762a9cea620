/-
  'zzs3717csame' (function 9), by its contract.
-/
import Derived.Test.YbulkbxymBuild
import Derived.Laws.StructEq
import Derived.WalkSmall
namespace Go.Proofs.Ybulkbxym
open Go.RowKit

theorem nil_eql_at (d : Nat) (w : World) : (Op.equalIn (d + 1) 53 (.pointer none) (.pointer none)).run Yba.prog w = .ok true w := by
  simp [Op.equalIn, run_underlying Yba.underlying53]

theorem nil_eql (w : World) : (Op.equalIn 9999 53 (.pointer none) (.pointer none)).run Yba.prog w = .ok true w := nil_eql_at 9998 w

set_option maxHeartbeats 400000 in
theorem same_zero (B T g cap : Nat) (a0 : Option Addr) (c0 : Nat) (x w : World) (hs : Stands w B T (.slice (some ⟨g, 0, none⟩) 1 cap)) (hx : w.heap[g]? = some (grownRow x)) :
    Calls Yba.prog 9 #[.pointer (some ⟨T, 0, none⟩), .slice a0 0 c0] w fun e w' => e = .returned (.bool true) ∧ w = w' := by
  have e0 := cell_of_row w g 0 _ 55 (0, 0) hx
  have e1 := cell_of_row w g 1 _ 55 (0, 0) hx
  have e2 := cell_of_row w g 2 _ 55 (0, 0) hx
  have e3 := cell_of_row w g 3 _ 55 (0, 0) hx
  rw [Array.getElem?_append_left (by simp)] at e0 e1 e2 e3
  have c2 := cell_of_row w T 2 _ 52 (0, 0) hs.tally
  simp at c2 e0 e1 e2 e3
  clear hx hs
  have hq := nil_eql
  go_enter Yba.func9, Yba.ntmps9
  go_wp2
  go_ret
  exact ⟨rfl, rfl⟩

set_option maxHeartbeats 1000000 in
theorem same_some (B T g : Nat) (a0 : Option Addr) (len c0 cap : Nat) (zs : List Blk) (w : World) (hl : len ≤ 1024) (hpos : 0 < len) (hcame : CameB w a0 len zs) (hs : Stands w B T (.slice (some ⟨g, 0, none⟩) len cap))
    (hcnt : Counts w g len zs) :
    Calls Yba.prog 9 #[.pointer (some ⟨T, 0, none⟩), .slice a0 len c0] w fun e w' => e = .returned (.bool true) ∧ Below w.heap.size w w' := by
  have c2 := cell_of_row w T 2 _ 52 (0, 0) hs.tally
  simp at c2
  have hq := nil_eql
  have hl0 : ((len : Int) == 0) = false := by simp; omega
  clear hs
  go_enter Yba.func9, Yba.ntmps9
  go_wp2_with fail
  go_loopw [36] (fun i wr => ∃ k : Nat, k ≤ len ∧ i = .int .i64 k ∧ Below w.heap.size w wr) (fun i _ => len - (intOf i).toNat)
  case atStart => exact ⟨0, Nat.zero_le _, rfl, Below.refl _ _⟩
  case round =>
    obtain ⟨k, hk, rfl, hbel⟩ := hrel
    by_cases hlt : k < len
    · obtain ⟨bb, off, hx, hc0, hc1, hc2, _, _⟩ := (hcame.later hbel).2 k hlt
      subst hx
      obtain ⟨g0, g1, g2, g3⟩ := hcnt k hlt
      have e2 := cell_later hbel c2
      have e0 := cell_later hbel g0
      have e1 := cell_later hbel g1
      have e4 := cell_later hbel g2
      have e5 := cell_later hbel g3
      have hT : T < wr.heap.size := World.block_lt_of_cell? _ _ e2
      have hg : g < wr.heap.size := World.block_lt_of_cell? _ _ e0
      have hbb : bb < wr.heap.size := World.block_lt_of_cell? _ _ hc0
      have HC := hide c2
      clear g0 g1 g2 g3 c2
      go_wp2_with fail
      go_region
      go_wp2
      go_quiet (fail)
      go_wp2
      go_roundw
      case rel => exact ⟨k + 1, by omega, by simp, below_drewN (hbel.alloc hbel.size _) _⟩
      case measure => simp [intOf]; omega
    · go_wp2
      go_ret
      exact ⟨rfl, hbel⟩

end Go.Proofs.Ybulkbxym
