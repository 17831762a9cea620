/-
  'LawS3720AModel' (function 3): the walk.
-/
import Derived.Test.YbulkbyacWalks
namespace Go.Proofs.Ybulkbyac
open Go.RowKit

set_option maxHeartbeats 400000 in
theorem model_walk (s : Int) (w : World) (h0 : -2147483648 ≤ s) (h1 : s ≤ 2147483647) :
    Calls Yba.prog 3 #[.int .i32 s] w fun e w' => e = .returned (.bool true) ∧ Grown w w' := by
  cases h2 : (bits BinOp.and IntKind.i32 s 2 != 0) with
  | true =>
    go_enter Yba.func3, Yba.ntmps3
    go_wp2_with fail
    refine (store_any w.heap.size 0 s (.int .i32 0) _ (by simp) (by simp)).mono ?_
    rintro e w1 ⟨rfl, rfl⟩
    go_wp2_with fail
    refine (floor8_any s _ h0 h1).mono ?_
    rintro e w1 ⟨rfl, rfl⟩
    go_wp2_with fail
    refine (waiters_woken w.heap.size s _ h0 h1 (by simp) h2).mono ?_
    rintro e w1 ⟨rfl, rfl⟩
    go_wp2_with fail
    refine (load_any w.heap.size 0 s _ (by simp)).mono ?_
    rintro e w1 ⟨rfl, rfl⟩
    go_wp2_with fail
    go_ret
    exact ⟨rfl, by repeat (first | exact Grown.refl _ | apply Grown.drew | apply Grown.alloc)⟩
  | false =>
    go_enter Yba.func3, Yba.ntmps3
    go_wp2_with fail
    refine (store_any w.heap.size 0 s (.int .i32 0) _ (by simp) (by simp)).mono ?_
    rintro e w1 ⟨rfl, rfl⟩
    go_wp2_with fail
    refine (floor8_any s _ h0 h1).mono ?_
    rintro e w1 ⟨rfl, rfl⟩
    go_wp2_with fail
    refine (waiters_plain w.heap.size s _ h0 h1 (by simp) h2).mono ?_
    rintro e w1 ⟨rfl, rfl⟩
    go_wp2_with fail
    refine (load_any w.heap.size 0 s _ (by simp)).mono ?_
    rintro e w1 ⟨rfl, rfl⟩
    go_wp2_with fail
    go_ret
    exact ⟨rfl, by repeat (first | exact Grown.refl _ | apply Grown.drew | apply Grown.alloc)⟩

end Go.Proofs.Ybulkbyac
