/-
  The plain laws on the bits of a state word.
-/
import Derived.Test.YbulkbyacWalks
import Derived.Laws.BitsLemmas
namespace Go.Proofs.Ybulkbyac
open Go.RowKit

theorem and_low (a m : Nat) (hm : m < 8) : a &&& m = (a % 8) &&& m := by
  have h7 : 7 &&& m = m := by
    match m, hm with
    | 0, _ | 1, _ | 2, _ | 3, _ | 4, _ | 5, _ | 6, _ | 7, _ => rfl
  have e : a % 8 = a &&& 7 := (Nat.and_two_pow_sub_one_eq_mod a 3).symm
  rw [e, Nat.and_assoc, h7]

theorem and_i32 (x : Int) (h0 : 0 ≤ x) (h1 : x < 2147483648) (m : Nat) (hm : m < 8) : bits .and .i32 x (m : Int) = (((x % 8).toNat &&& m : Nat) : Int) := by
  obtain ⟨a, rfl⟩ := Int.eq_ofNat_of_zero_le h0
  rw [(bits_nat .i32 31 (by decide) wraps_i32 a m (by omega) (by omega)).1, and_low a m hm]
  rfl

theorem low_cases {l : Int} (h0 : 0 ≤ l) (h1 : l ≤ 7) : l = 0 ∨ l = 1 ∨ l = 2 ∨ l = 3 ∨ l = 4 ∨ l = 5 ∨ l = 6 ∨ l = 7 := by omega

/-- The word, and its low bits. -/
theorem and2 (c l : Int) (hc0 : 0 ≤ c) (hc1 : c ≤ 65535) (hl0 : 0 ≤ l) (hl1 : l ≤ 7) : bits .and .i32 (c * 8 + l) 2 = bits .and .i32 l 2 := by
  have e1 := and_i32 (c * 8 + l) (by omega) (by omega) 2 (by decide)
  have e2 := and_i32 l (by omega) (by omega) 2 (by decide)
  rw [show (c * 8 + l) % 8 = l % 8 by omega] at e1
  exact e1.trans e2.symm

theorem and5 (c l : Int) (hc0 : 0 ≤ c) (hc1 : c ≤ 65535) (hl0 : 0 ≤ l) (hl1 : l ≤ 7) : bits .and .i32 (c * 8 + l) 5 = bits .and .i32 l 5 := by
  have e1 := and_i32 (c * 8 + l) (by omega) (by omega) 5 (by decide)
  have e2 := and_i32 l (by omega) (by omega) 5 (by decide)
  rw [show (c * 8 + l) % 8 = l % 8 by omega] at e1
  exact e1.trans e2.symm

theorem or_low (c l : Int) (hc0 : 0 ≤ c) (hc1 : c ≤ 65535) (hl0 : 0 ≤ l) (hl1 : l ≤ 7) : bits .or .i32 (c * 8) l = c * 8 + l :=
  bits_join .i32 31 (by decide) wraps_i32 3 (c * 8) l (by omega) (by simp) (by omega) hl0 (by omega) (by omega)

/-- What 'TryLock' takes. -/
theorem free_low {l : Int} (hl0 : 0 ≤ l) (hl1 : l ≤ 7) (h : (bits BinOp.and IntKind.i32 l 5 != 0) = false) : l = 0 ∨ l = 2 := by
  have e := and_i32 l hl0 (by omega) 5 (by decide)
  rcases low_cases hl0 hl1 with rfl | rfl | rfl | rfl | rfl | rfl | rfl | rfl
  · exact .inl rfl
  · revert h; rw [show ((5 : Nat) : Int) = 5 from rfl] at e; rw [e]; decide
  · exact .inr rfl
  all_goals (revert h; rw [show ((5 : Nat) : Int) = 5 from rfl] at e; rw [e]; decide)

theorem or_one (c l : Int) (hc0 : 0 ≤ c) (hc1 : c ≤ 65535) (hl : l = 0 ∨ l = 2) : bits .or .i32 (c * 8 + l) 1 = c * 8 + (l + 1) := by
  rw [← Int.add_assoc]
  exact bits_join .i32 31 (by decide) wraps_i32 1 (c * 8 + l) 1 (by omega) (by omega) (by omega) (by decide) (by decide) (by decide)

theorem taken2 {l : Int} (hl : l = 0 ∨ l = 2) : (bits BinOp.and IntKind.i32 (l + 1) 2 != 0) = (bits BinOp.and IntKind.i32 l 2 != 0) := by
  rcases hl with rfl | rfl <;> decide

theorem taken5 {l : Int} (hl : l = 0 ∨ l = 2) : (bits BinOp.and IntKind.i32 (l + 1) 5 != 0) = true := by
  rcases hl with rfl | rfl <;> decide

end Go.Proofs.Ybulkbyac
