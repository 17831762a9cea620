/-
  'LawS3717ANil' (function 4): the walk.
-/
import Derived.Test.YbulkbxymParts
import Derived.Outline
namespace Go.Proofs.Ybulkbxym
open Go.RowKit

set_option maxHeartbeats 1000000 in
theorem nil_big (a0 : Option Addr) (len0 cap0 : Nat) (w : World) (h : 1024 < len0) : Calls Yba.prog 4 #[.slice a0 len0 cap0] w fun e w' => e = .returned (.bool true) ∧ Below w.heap.size w w' := by
  go_enter Yba.func4, Yba.ntmps4
  go_wp2
  go_ret
  exact ⟨rfl, Below.refl _ _⟩

set_option maxHeartbeats 1000000 in
theorem nil_small (a0 : Option Addr) (len0 cap0 : Nat) (zs : List Int) (w : World) (h : len0 ≤ 1024) (hcame : Came w a0 len0 zs) :
    Calls Yba.prog 4 #[.slice a0 len0 cap0] w fun e w' => e = .returned (.bool true) ∧ Below w.heap.size w w' := by
  obtain ⟨i0, hi, hz0, hz1, hz2⟩ := info_parts Yba.info25
  have qn : ∀ (w : World) (a : Option Addr) (n c : Nat), (binOp .neq 23 (.slice a n c) (.slice none 0 0)).run Yba.prog w = .ok (.bool (!a.isNone)) w := fun w a n c => run_neq_slice_nil_any w _ _ a n c 0 0 Yba.underlying23
  have qe : ∀ (w : World) (a : Option Addr) (n c : Nat), (binOp .eql 23 (.slice a n c) (.slice none 0 0)).run Yba.prog w = .ok (.bool a.isNone) w := fun w a n c => Lib.run_eql_slice_nil w _ _ a n c 0 0 Yba.underlying23
  have ta := assert_item
  have hd : decide ((1024 : Int) < (len0 : Int)) = false := by simp; omega
  go_enter Yba.func4, Yba.ntmps4
  go_wp2_with (first | (go_at_call 6; refine (find_nil _).mono ?_; rintro e w' ⟨rfl, rfl⟩) | (at_make; refine wpList_make_full _ rfl _ _ 28 rfl w.heap.size 25 i0 (.agg #[.int .i64 0]) 1 Yba.underlying28 hi hz0 hz1 _ _ _ _ len0 rfl rfl rfl rfl ?b1 ?b2 ?b3 ?_))
  case b1 => rw [hz2]; omega
  case b2 => unfold maxLen; omega
  case b3 => exact Nat.le_refl _
  intro w1 hown1 hgrow1
  rw [toList_madeCells_one, ← filled_zero zs (Value.int .i64)] at hown1
  have hbel1 : Below w.heap.size w w1 := (Below.refl _ _).grown hgrow1 (Nat.le_refl _) (fun _ e => by cases e)
  clear hgrow1
  go_wp2_with fail
  go_loopw [21] (fun i wr => ∃ k : Nat, k ≤ len0 ∧ i = .int .i64 k ∧ wr.ownsRow w.heap.size 25 1 (.slice (some ⟨w.heap.size, 0, none⟩) len0 len0) len0 (filled zs (Value.int .i64) (.int .i64 0) len0 k) ∧ Below w.heap.size w wr)
    (fun i _ => len0 - (intOf i).toNat)
  case atStart => exact ⟨0, Nat.zero_le _, rfl, hown1, hbel1⟩
  case round =>
    clear hown1 hbel1
    obtain ⟨k, hk, rfl, hown, hbel⟩ := hrel
    by_cases hlt : k < len0
    · obtain ⟨x, hx, hc⟩ := (hcame.later hbel).2 k hlt
      subst hx
      obtain ⟨⟨y, hcell⟩, hfr, HS⟩ := fill_step hown hbel hlt hcame.1 (Nat.le_refl _)
      clear hown
      go_wp2
      go_roundw
      case rel => exact ⟨k + 1, by omega, by simp, HS.out.1, HS.out.2.1⟩
      case measure => simp [intOf]; omega
    · have hkm : k = len0 := by omega
      subst hkm
      go_wp2_with fail
      rw [filled_all] at hown
      refine (find_any (.slice none 0 0) 0 [] w.heap.size k (zs.take k) wr (by omega) h (by have := hcame.1; simp; omega) (World.ownsRow_nil _ _ _ _) (block_of_full hown)).mono ?_
      rintro e w2 ⟨v, rfl, hown2, hrel2, hnil2⟩
      have hbel2 : Below w.heap.size w w2 := hbel.grown hrel2.grown hbel.size (fun _ e => by cases e)
      clear hown hrel2 hbel
      by_cases h0 : k = 0
      · have hv := hnil2 h0
        subst hv
        subst h0
        go_wp2
        go_ret
        exact ⟨rfl, hbel2⟩
      · have hk0 : ((k : Int) == 0) = false := by simp; omega
        obtain ⟨g, cap, hv⟩ := own_at hown2 (by omega)
        subst hv
        have hzl : k ≤ zs.length := hcame.1
        rw [Nat.zero_add] at hown2
        clear hnil2
        go_wp2_with fail
        go_loopw [46] (fun i wr => ∃ j : Nat, j ≤ k ∧ i = .int .i64 j ∧ wr.ownsRow 0 27 1 (.slice (some ⟨g, 0, none⟩) k cap) k ([] ++ (zs.take k).map item) ∧ Below w.heap.size w wr)
          (fun i _ => k - (intOf i).toNat)
        case atStart => exact ⟨0, Nat.zero_le _, rfl, hown2, hbel2⟩
        case round =>
          clear hown2 hbel2
          obtain ⟨j, hj, rfl, hown, hbel⟩ := hrel
          by_cases hlt : j < k
          · obtain ⟨x, hx, hc⟩ := (hcame.later hbel).2 j hlt
            subst hx
            have hit := own_item (k := j) (j := j) hown (by simp; omega) (by simp)
            rw [show (zs.take k).getD j 0 = zs.getD j 0 by simp [hlt]] at hit
            have HO := hide hown
            clear hown
            go_wp2
            go_roundw
            case rel => exact ⟨j + 1, by omega, by simp, HO.out.alloc _, hbel.alloc hbel.size _⟩
            case measure => simp [intOf]; omega
          · go_wp2
            go_ret
            exact ⟨rfl, hbel⟩
end Go.Proofs.Ybulkbxym
