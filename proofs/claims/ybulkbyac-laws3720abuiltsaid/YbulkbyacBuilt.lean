/-
  '(*Mutex).TryLock' (9), 'Locked' (10), 'LawS3720ABuilt' (function 4): the walks.
-/
import Derived.Test.YbulkbyacBits
namespace Go.Proofs.Ybulkbyac
open Go.RowKit

set_option maxHeartbeats 400000 in
theorem try_no (b : Nat) (x : Int) (w : World) (hc : w.cell? ⟨b, 0, none⟩ = some (.int .i32 x)) (h5 : (bits BinOp.and IntKind.i32 x 5 != 0) = true) :
    Calls Yba.prog 9 #[.pointer (some ⟨b, 0, none⟩)] w fun e w' => e = .returned (.bool false) ∧ w = w' := by
  go_enter Yba.func9, Yba.ntmps9
  go_wp2_with fail
  refine wp_loop_rounds 1 ?_
  rw [rounds_succ]
  go_wp2_with (go_at_call 8; refine (load_any b 0 x _ hc).mono ?_; rintro e w' ⟨rfl, rfl⟩)
  go_ret
  exact ⟨rfl, rfl⟩

set_option maxHeartbeats 400000 in
theorem try_yes (b : Nat) (x y : Int) (w : World) (hc : w.cell? ⟨b, 0, none⟩ = some (.int .i32 x)) (hz : w.frozen? ⟨b, 0, none⟩ = false) (h5 : (bits BinOp.and IntKind.i32 x 5 != 0) = false) (h1 : bits BinOp.or IntKind.i32 x 1 = y) :
    Calls Yba.prog 9 #[.pointer (some ⟨b, 0, none⟩)] w fun e w' => e = .returned (.bool true) ∧ w' = w.setCell ⟨b, 0, none⟩ (.int .i32 y) := by
  go_enter Yba.func9, Yba.ntmps9
  go_wp2_with fail
  refine wp_loop_rounds 1 ?_
  rw [rounds_succ]
  go_wp2_with (first | (go_at_call 8; refine (load_any b 0 x _ hc).mono ?_; rintro e w' ⟨rfl, rfl⟩) | (go_at_call 13; refine (cas_hit b 0 x y _ hc hz).mono ?_; rintro e w' ⟨rfl, rfl⟩))
  go_ret
  exact ⟨rfl, rfl⟩

theorem locked_any (b : Nat) (x : Int) (w : World) (hc : w.cell? ⟨b, 0, none⟩ = some (.int .i32 x)) (h5 : (bits BinOp.and IntKind.i32 x 5 != 0) = true) :
    Calls Yba.prog 10 #[.pointer (some ⟨b, 0, none⟩)] w fun e w' => e = .returned (.bool true) ∧ w = w' := by
  go_enter Yba.func10, Yba.ntmps10
  go_wp2_with (go_at_call 8; refine (load_any b 0 x _ hc).mono ?_; rintro e w' ⟨rfl, rfl⟩)
  go_ret
  exact ⟨rfl, rfl⟩

/-- 'Waiters' at a word whose count is q; t: the woken bit. -/
theorem waiters_at (b : Nat) (x q : Int) (t : Bool) (w : World) (hx0 : -2147483648 ≤ x) (hx1 : x ≤ 2147483647) (hc : w.cell? ⟨b, 0, none⟩ = some (.int .i32 x)) (hq : x / 8 = q) (h2 : (bits BinOp.and IntKind.i32 x 2 != 0) = t) :
    Calls Yba.prog 7 #[.pointer (some ⟨b, 0, none⟩)] w fun e w' => e = .returned (.int .i64 (if t then q + 1 else q)) ∧ w = w' := by
  subst hq
  cases t with
  | true => exact waiters_woken b x w hx0 hx1 hc h2
  | false => exact waiters_plain b x w hx0 hx1 hc h2

theorem hide {p : Prop} (h : p) : Hid p := h

set_option maxHeartbeats 1000000 in
theorem built_woken_free (c v l : Int) (w : World) (hc0 : 0 ≤ c) (hc1 : c ≤ 65535) (hl0 : 0 ≤ l) (hl1 : l ≤ 7) (hlow : bits BinOp.and IntKind.u8 v 7 = l) (h2 : (bits BinOp.and IntKind.i32 l 2 != 0) = true) (h5 : (bits BinOp.and IntKind.i32 l 5 != 0) = false) :
    Calls Yba.prog 4 #[.int .u16 c, .int .u8 v] w fun e w' => e = .returned (.bool true) ∧ Grown w w' := by
  have hor := or_low c l hc0 hc1 hl0 hl1
  have HA := hide (show (bits BinOp.and IntKind.i32 (c * 8 + l) 2 != 0) = true by rw [and2 c l hc0 hc1 hl0 hl1]; exact h2)
  have HB := hide (show (bits BinOp.and IntKind.i32 (c * 8 + l) 5 != 0) = false by rw [and5 c l hc0 hc1 hl0 hl1]; exact h5)
  have hf := free_low hl0 hl1 h5
  have hl2 : l ≤ 2 := by omega
  have HO := hide (or_one c l hc0 hc1 hf)
  have HC := hide (show (bits BinOp.and IntKind.i32 (c * 8 + (l + 1)) 2 != 0) = true by rw [and2 c (l + 1) hc0 hc1 (by omega) (by omega), taken2 hf]; exact h2)
  have HD := hide (show (bits BinOp.and IntKind.i32 (c * 8 + (l + 1)) 5 != 0) = true by rw [and5 c (l + 1) hc0 hc1 (by omega) (by omega)]; exact taken5 hf)
  clear hf h5
  go_enter Yba.func4, Yba.ntmps4
  go_wp2_with fail
  refine (store_any w.heap.size 0 (c * 8 + l) (.int .i32 0) _ (by simp) (by simp)).mono ?_
  rintro e w1 ⟨rfl, rfl⟩
  go_wp2_with fail
  refine (waiters_at w.heap.size (c * 8 + l) c true _ (by omega) (by omega) (by simp) (by omega) HA.out).mono ?_
  simp only [if_true]
  rintro e w1 ⟨rfl, rfl⟩
  go_wp2_with fail
  refine (try_yes w.heap.size (c * 8 + l) (c * 8 + (l + 1)) _ (by simp) (by simp) HB.out HO.out).mono ?_
  rintro e w1 ⟨rfl, rfl⟩
  go_wp2_with fail
  refine (waiters_at w.heap.size (c * 8 + (l + 1)) c true _ (by omega) (by omega) (by simp) (by omega) HC.out).mono ?_
  simp only [if_true]
  rintro e w1 ⟨rfl, rfl⟩
  go_wp2_with fail
  refine (locked_any w.heap.size (c * 8 + (l + 1)) _ (by simp) HD.out).mono ?_
  rintro e w1 ⟨rfl, rfl⟩
  go_wp2_with fail
  go_ret
  exact ⟨rfl, by repeat (first | exact Grown.refl _ | apply Grown.drew | apply Grown.alloc)⟩

set_option maxHeartbeats 1000000 in
theorem built_woken_held (c v l : Int) (w : World) (hc0 : 0 ≤ c) (hc1 : c ≤ 65535) (hl0 : 0 ≤ l) (hl1 : l ≤ 7) (hlow : bits BinOp.and IntKind.u8 v 7 = l) (h2 : (bits BinOp.and IntKind.i32 l 2 != 0) = true) (h5 : (bits BinOp.and IntKind.i32 l 5 != 0) = true) :
    Calls Yba.prog 4 #[.int .u16 c, .int .u8 v] w fun e w' => e = .returned (.bool true) ∧ Grown w w' := by
  have hor := or_low c l hc0 hc1 hl0 hl1
  have HA := hide (show (bits BinOp.and IntKind.i32 (c * 8 + l) 2 != 0) = true by rw [and2 c l hc0 hc1 hl0 hl1]; exact h2)
  have HB := hide (show (bits BinOp.and IntKind.i32 (c * 8 + l) 5 != 0) = true by rw [and5 c l hc0 hc1 hl0 hl1]; exact h5)
  clear h5
  go_enter Yba.func4, Yba.ntmps4
  go_wp2_with fail
  refine (store_any w.heap.size 0 (c * 8 + l) (.int .i32 0) _ (by simp) (by simp)).mono ?_
  rintro e w1 ⟨rfl, rfl⟩
  go_wp2_with fail
  refine (waiters_at w.heap.size (c * 8 + l) c true _ (by omega) (by omega) (by simp) (by omega) HA.out).mono ?_
  simp only [if_true]
  rintro e w1 ⟨rfl, rfl⟩
  go_wp2_with fail
  refine (try_no w.heap.size (c * 8 + l) _ (by simp) HB.out).mono ?_
  rintro e w1 ⟨rfl, rfl⟩
  go_wp2_with fail
  refine (waiters_at w.heap.size (c * 8 + l) c true _ (by omega) (by omega) (by simp) (by omega) HA.out).mono ?_
  simp only [if_true]
  rintro e w1 ⟨rfl, rfl⟩
  go_wp2_with fail
  refine (locked_any w.heap.size (c * 8 + l) _ (by simp) HB.out).mono ?_
  rintro e w1 ⟨rfl, rfl⟩
  go_wp2_with fail
  go_ret
  exact ⟨rfl, by repeat (first | exact Grown.refl _ | apply Grown.drew | apply Grown.alloc)⟩

set_option maxHeartbeats 1000000 in
theorem built_plain_free (c v l : Int) (w : World) (hc0 : 0 ≤ c) (hc1 : c ≤ 65535) (hl0 : 0 ≤ l) (hl1 : l ≤ 7) (hlow : bits BinOp.and IntKind.u8 v 7 = l) (h2 : (bits BinOp.and IntKind.i32 l 2 != 0) = false) (h5 : (bits BinOp.and IntKind.i32 l 5 != 0) = false) :
    Calls Yba.prog 4 #[.int .u16 c, .int .u8 v] w fun e w' => e = .returned (.bool true) ∧ Grown w w' := by
  have hor := or_low c l hc0 hc1 hl0 hl1
  have HA := hide (show (bits BinOp.and IntKind.i32 (c * 8 + l) 2 != 0) = false by rw [and2 c l hc0 hc1 hl0 hl1]; exact h2)
  have HB := hide (show (bits BinOp.and IntKind.i32 (c * 8 + l) 5 != 0) = false by rw [and5 c l hc0 hc1 hl0 hl1]; exact h5)
  have hf := free_low hl0 hl1 h5
  have hl2 : l ≤ 2 := by omega
  have HO := hide (or_one c l hc0 hc1 hf)
  have HC := hide (show (bits BinOp.and IntKind.i32 (c * 8 + (l + 1)) 2 != 0) = false by rw [and2 c (l + 1) hc0 hc1 (by omega) (by omega), taken2 hf]; exact h2)
  have HD := hide (show (bits BinOp.and IntKind.i32 (c * 8 + (l + 1)) 5 != 0) = true by rw [and5 c (l + 1) hc0 hc1 (by omega) (by omega)]; exact taken5 hf)
  clear hf h5
  go_enter Yba.func4, Yba.ntmps4
  go_wp2_with fail
  refine (store_any w.heap.size 0 (c * 8 + l) (.int .i32 0) _ (by simp) (by simp)).mono ?_
  rintro e w1 ⟨rfl, rfl⟩
  go_wp2_with fail
  refine (waiters_at w.heap.size (c * 8 + l) c false _ (by omega) (by omega) (by simp) (by omega) HA.out).mono ?_
  simp only [Bool.false_eq_true, if_false]
  rintro e w1 ⟨rfl, rfl⟩
  go_wp2_with fail
  refine (try_yes w.heap.size (c * 8 + l) (c * 8 + (l + 1)) _ (by simp) (by simp) HB.out HO.out).mono ?_
  rintro e w1 ⟨rfl, rfl⟩
  go_wp2_with fail
  refine (waiters_at w.heap.size (c * 8 + (l + 1)) c false _ (by omega) (by omega) (by simp) (by omega) HC.out).mono ?_
  simp only [Bool.false_eq_true, if_false]
  rintro e w1 ⟨rfl, rfl⟩
  go_wp2_with fail
  refine (locked_any w.heap.size (c * 8 + (l + 1)) _ (by simp) HD.out).mono ?_
  rintro e w1 ⟨rfl, rfl⟩
  go_wp2_with fail
  go_ret
  exact ⟨rfl, by repeat (first | exact Grown.refl _ | apply Grown.drew | apply Grown.alloc)⟩

set_option maxHeartbeats 1000000 in
theorem built_plain_held (c v l : Int) (w : World) (hc0 : 0 ≤ c) (hc1 : c ≤ 65535) (hl0 : 0 ≤ l) (hl1 : l ≤ 7) (hlow : bits BinOp.and IntKind.u8 v 7 = l) (h2 : (bits BinOp.and IntKind.i32 l 2 != 0) = false) (h5 : (bits BinOp.and IntKind.i32 l 5 != 0) = true) :
    Calls Yba.prog 4 #[.int .u16 c, .int .u8 v] w fun e w' => e = .returned (.bool true) ∧ Grown w w' := by
  have hor := or_low c l hc0 hc1 hl0 hl1
  have HA := hide (show (bits BinOp.and IntKind.i32 (c * 8 + l) 2 != 0) = false by rw [and2 c l hc0 hc1 hl0 hl1]; exact h2)
  have HB := hide (show (bits BinOp.and IntKind.i32 (c * 8 + l) 5 != 0) = true by rw [and5 c l hc0 hc1 hl0 hl1]; exact h5)
  clear h5
  go_enter Yba.func4, Yba.ntmps4
  go_wp2_with fail
  refine (store_any w.heap.size 0 (c * 8 + l) (.int .i32 0) _ (by simp) (by simp)).mono ?_
  rintro e w1 ⟨rfl, rfl⟩
  go_wp2_with fail
  refine (waiters_at w.heap.size (c * 8 + l) c false _ (by omega) (by omega) (by simp) (by omega) HA.out).mono ?_
  simp only [Bool.false_eq_true, if_false]
  rintro e w1 ⟨rfl, rfl⟩
  go_wp2_with fail
  refine (try_no w.heap.size (c * 8 + l) _ (by simp) HB.out).mono ?_
  rintro e w1 ⟨rfl, rfl⟩
  go_wp2_with fail
  refine (waiters_at w.heap.size (c * 8 + l) c false _ (by omega) (by omega) (by simp) (by omega) HA.out).mono ?_
  simp only [Bool.false_eq_true, if_false]
  rintro e w1 ⟨rfl, rfl⟩
  go_wp2_with fail
  refine (locked_any w.heap.size (c * 8 + l) _ (by simp) HB.out).mono ?_
  rintro e w1 ⟨rfl, rfl⟩
  go_wp2_with fail
  go_ret
  exact ⟨rfl, by repeat (first | exact Grown.refl _ | apply Grown.drew | apply Grown.alloc)⟩

theorem built_walk (c v : Int) (w : World) (hc0 : 0 ≤ c) (hc1 : c ≤ 65535) (hv0 : 0 ≤ v) (hv1 : v ≤ 255) :
    Calls Yba.prog 4 #[.int .u16 c, .int .u8 v] w fun e w' => e = .returned (.bool true) ∧ Grown w w' := by
  have hlow := u8_and7 v hv0 (by omega)
  have hl0 : 0 ≤ v % 8 := by omega
  have hl1 : v % 8 ≤ 7 := by omega
  generalize v % 8 = l at hlow hl0 hl1
  cases h2 : (bits BinOp.and IntKind.i32 l 2 != 0) <;> cases h5 : (bits BinOp.and IntKind.i32 l 5 != 0)
  · exact built_plain_free c v l w hc0 hc1 hl0 hl1 hlow h2 h5
  · exact built_plain_held c v l w hc0 hc1 hl0 hl1 hlow h2 h5
  · exact built_woken_free c v l w hc0 hc1 hl0 hl1 hlow h2 h5
  · exact built_woken_held c v l w hc0 hc1 hl0 hl1 hlow h2 h5

end Go.Proofs.Ybulkbyac
