/-
  The walks of this seat: sync/atomic's Int32 (functions 5, 8, 13), '(*Mutex).Waiters' (7), 'Locked' (10), 'TryLock' (9), 'zzs3720afloor8' (6).
-/
import Derived.Test.YbulkbyacRows
import Derived.WalkKit
import Derived.ProofKit
import Derived.OpenShut
import Derived.Laws.LoneSync
import Derived.Outline
namespace Go.Proofs.Ybulkbyac
open Go.RowKit

theorem load_any (b o : Nat) (x : Int) (w : World) (hc : w.cell? ⟨b, o, none⟩ = some (.int .i32 x)) :
    Calls Yba.prog 8 #[.pointer (some ⟨b, o, none⟩)] w fun e w' => e = .returned (.int .i32 x) ∧ w = w' := by
  have hl := run_call_load (P := Yba.prog) Yba.func12 (by kernel_rfl) (by kernel_rfl) (by kernel_rfl) .i32 (by kernel_rfl) hc
  go_enter Yba.func8, Yba.ntmps8
  go_wp2
  go_ret
  exact ⟨rfl, rfl⟩

theorem store_any (b o : Nat) (x : Int) (u : Value) (w : World) (hc : w.cell? ⟨b, o, none⟩ = some u) (hz : w.frozen? ⟨b, o, none⟩ = false) :
    Calls Yba.prog 5 #[.pointer (some ⟨b, o, none⟩), .int .i32 x] w fun e w' => e = .returned (.tuple #[]) ∧ w' = w.setCell ⟨b, o, none⟩ (.int .i32 x) := by
  have hl := run_call_store (P := Yba.prog) Yba.func11 (by kernel_rfl) (by kernel_rfl) (by kernel_rfl) (by kernel_rfl) (k := .i32) (y := x) hc hz
  go_enter Yba.func5, Yba.ntmps5
  go_wp2
  go_end0
  exact ⟨rfl, rfl⟩

theorem cas_hit (b o : Nat) (x y : Int) (w : World) (hc : w.cell? ⟨b, o, none⟩ = some (.int .i32 x)) (hz : w.frozen? ⟨b, o, none⟩ = false) :
    Calls Yba.prog 13 #[.pointer (some ⟨b, o, none⟩), .int .i32 x, .int .i32 y] w fun e w' => e = .returned (.bool true) ∧ w' = w.setCell ⟨b, o, none⟩ (.int .i32 y) := by
  have hl := run_call_cas_hit (P := Yba.prog) Yba.func14 (by kernel_rfl) (by kernel_rfl) (by kernel_rfl) .i32 (by kernel_rfl) (y := y) hc hz
  go_enter Yba.func13, Yba.ntmps13
  go_wp2
  go_ret
  exact ⟨rfl, rfl⟩

theorem ret_int {k : IntKind} {a b : Int} (h : a = b) : Ending.returned (.int k a) = .returned (.int k b) := by rw [h]

/-- '(*Mutex).Waiters': the woken bit set, or not. -/
theorem waiters_woken (b : Nat) (x : Int) (w : World) (hx0 : -2147483648 ≤ x) (hx1 : x ≤ 2147483647) (hc : w.cell? ⟨b, 0, none⟩ = some (.int .i32 x)) (h2 : (bits BinOp.and IntKind.i32 x 2 != 0) = true) :
    Calls Yba.prog 7 #[.pointer (some ⟨b, 0, none⟩)] w fun e w' => e = .returned (.int .i64 (x / 8 + 1)) ∧ w = w' := by
  go_enter Yba.func7, Yba.ntmps7
  go_wp2_with (go_at_call 8; refine (load_any b 0 x _ hc).mono ?_; rintro e w' ⟨rfl, rfl⟩)
  go_ret
  exact ⟨rfl, rfl⟩

theorem waiters_plain (b : Nat) (x : Int) (w : World) (hx0 : -2147483648 ≤ x) (hx1 : x ≤ 2147483647) (hc : w.cell? ⟨b, 0, none⟩ = some (.int .i32 x)) (h2 : (bits BinOp.and IntKind.i32 x 2 != 0) = false) :
    Calls Yba.prog 7 #[.pointer (some ⟨b, 0, none⟩)] w fun e w' => e = .returned (.int .i64 (x / 8)) ∧ w = w' := by
  go_enter Yba.func7, Yba.ntmps7
  go_wp2_with (go_at_call 8; refine (load_any b 0 x _ hc).mono ?_; rintro e w' ⟨rfl, rfl⟩)
  go_ret
  exact ⟨rfl, rfl⟩

theorem tdiv_neg (n : Int) (h : n.tmod 8 < 0) : n.tdiv 8 - 1 = n / 8 := by
  have hs : Int.sign 8 = 1 := rfl
  rw [Int.tmod_eq_emod] at h
  rw [Int.tdiv_eq_ediv, hs]
  split at h <;> split <;> simp_all <;> omega

theorem tdiv_pos (n : Int) (h : 0 ≤ n.tmod 8) : n.tdiv 8 = n / 8 := by
  have hs : Int.sign 8 = 1 := rfl
  rw [Int.tmod_eq_emod] at h
  rw [Int.tdiv_eq_ediv, hs]
  split at h <;> split <;> simp_all <;> omega

/-- 'zzs3720afloor8': the floor. -/
theorem floor8_any (n : Int) (w : World) (h0 : -2147483648 ≤ n) (h1 : n ≤ 2147483647) :
    Calls Yba.prog 6 #[.int .i64 n] w fun e w' => e = .returned (.int .i64 (n / 8)) ∧ w = w' := by
  by_cases h : n.tmod 8 < 0
  · have hd := tdiv_neg n h
    have hw : wrap64 (n.tdiv 8 - 1) = n / 8 := by
      rw [hd]
      simp only [wrap64]
      omega
    have HW : Hid (wrap64 (n.tdiv 8 - 1) = n / 8) := hw
    clear hd hw
    go_enter Yba.func6, Yba.ntmps6
    go_wp2
    go_ret
    exact ⟨ret_int HW.out, rfl⟩
  · have h' : 0 ≤ n.tmod 8 := by omega
    have hd := tdiv_pos n h'
    have HD : Hid (n.tdiv 8 = n / 8) := hd
    clear hd
    go_enter Yba.func6, Yba.ntmps6
    go_wp2
    go_ret
    exact ⟨ret_int HD.out, rfl⟩

end Go.Proofs.Ybulkbyac
