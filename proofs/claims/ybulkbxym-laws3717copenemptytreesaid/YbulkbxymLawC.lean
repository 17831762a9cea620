/-
  'LawS3717COpenEmptyTree' (function 5): the walk.
-/
import Derived.Test.YbulkbxymSame
namespace Go.Proofs.Ybulkbxym
open Go.RowKit

theorem Stands.later {w w' : World} {B T : Nat} {sv : Value} (h : Stands w B T sv) (hb : Below w.heap.size w w') : Stands w' B T sv :=
  ⟨(hb.block B (Array.getElem?_eq_some_iff.1 h.tree).1).trans h.tree, (hb.block T (Array.getElem?_eq_some_iff.1 h.tally).1).trans h.tally⟩

theorem Counts.later {w w' : World} {g k : Nat} {zs : List Blk} (h : Counts w g k zs) (hb : Below w.heap.size w w') : Counts w' g k zs := fun j hj =>
  let ⟨h0, h1, h2, h3⟩ := h j hj; ⟨cell_later hb h0, cell_later hb h1, cell_later hb h2, cell_later hb h3⟩

theorem RowOf.later {w w' : World} {g n : Nat} (h : RowOf w g n) (hb : Below w.heap.size w w') : RowOf w' g n :=
  let ⟨cur, hg, hc⟩ := h; ⟨cur, (hb.block g (Array.getElem?_eq_some_iff.1 hg).1).trans hg, hc⟩

/-- 'open' where the first count has passed. -/
theorem open_pass (B T g n cap : Nat) (zs : List Blk) (b s : Int) (w : World) (h0 : 0 ≤ b) (h1 : b < 18446744073709551616) (hse : (zs.getD 0 (false, 0, 0)).2.1 = s) (hs0 : 0 ≤ s) (hs1 : s < 18446744073709551616)
    (hn : 0 < n) (hs : Stands w B T (.slice (some ⟨g, 0, none⟩) n cap)) (hc : Counts w g n zs) (hr : RowOf w g n) (hp : (zs.getD 0 (false, 0, 0)).1 = true) :
    Calls Yba.prog 8 #[.pointer (some ⟨T, 0, none⟩), .int .u64 b] w fun e w' => e = .returned (.tuple #[.int .u64 s, .bool false]) ∧ w = w' := by
  obtain ⟨_, _, c2, c3⟩ := hc 0 hn
  rw [hp] at c2
  rw [hse] at c3
  by_cases hbs : b = s
  · subst hbs
    exact open_self B T g n cap b w h0 h1 hn hs c2 c3
  · obtain ⟨cur, hg, _⟩ := hr
    rw [cell_of_row w g _ cur 55 (0, 0) hg] at c2 c3
    exact open_skip B T g n cap cur b s w h0 h1 hs0 hs1 hbs hn hs hg c2 c3

theorem open_live (B T g n cap : Nat) (zs : List Blk) (b : Int) (w : World) (h0 : 0 ≤ b) (h1 : b < 18446744073709551616) (hn : 0 < n) (hs : Stands w B T (.slice (some ⟨g, 0, none⟩) n cap)) (hc : Counts w g n zs)
    (hp : (zs.getD 0 (false, 0, 0)).1 = false) :
    Calls Yba.prog 8 #[.pointer (some ⟨T, 0, none⟩), .int .u64 b] w fun e w' => e = .returned (.tuple #[.int .u64 b, .bool true]) ∧ w = w' := by
  obtain ⟨_, _, c2, _⟩ := hc 0 hn
  rw [hp] at c2
  exact open_shut B T g n cap b w h0 h1 hn hs c2

set_option maxHeartbeats 400000 in
theorem lawC_big (a0 : Option Addr) (len cap : Nat) (b : Int) (w : World) (h : 1024 < len) :
    Calls Yba.prog 5 #[.slice a0 len cap, .int .u64 b] w fun e w' => e = .returned (.bool true) ∧ Below w.heap.size w w' := by
  go_enter Yba.func5, Yba.ntmps5
  go_wp2
  go_ret
  exact ⟨rfl, Below.refl _ _⟩

/-- The tally as 'zzs3717cbuild' leaves it where there are no blocks. -/
theorem build_zero (a0 : Option Addr) (cap : Nat) (w : World) :
    Calls Yba.prog 7 #[.slice a0 0 cap] w fun e w' => e = .returned (.pointer (some ⟨w.heap.size + 1, 0, none⟩)) ∧ ∃ ao, Stands w' w.heap.size (w.heap.size + 1) (.slice ao 0 0) ∧ Below w.heap.size w w' := by
  cases a0 with
  | none => exact (build_nil cap w).mono fun e w' ⟨he, hs, hb⟩ => ⟨he, _, hs, hb⟩
  | some x => exact (build_some x 0 cap [] w (by omega) ⟨Nat.le_refl _, fun k hk => absurd hk (Nat.not_lt_zero k)⟩).mono fun e w' ⟨he, hs, _, _, hb⟩ => ⟨he, _, hs, hb⟩

set_option maxHeartbeats 1000000 in
theorem lawC_zero (a0 : Option Addr) (cap : Nat) (b : Int) (w : World) (h0 : 0 ≤ b) (h1 : b < 18446744073709551616) :
    Calls Yba.prog 5 #[.slice a0 0 cap, .int .u64 b] w fun e w' => e = .returned (.bool true) ∧ Below w.heap.size w w' := by
  go_enter Yba.func5, Yba.ntmps5
  go_wp2_with fail
  refine (build_zero a0 cap w).mono ?_
  rintro e w1 ⟨rfl, ao, hs1, hb1⟩
  go_wp2_with fail
  refine (open_none w.heap.size (w.heap.size + 1) ao b w1 h0 h1 (by omega) hs1).mono ?_
  rintro e w2 ⟨rfl, c2, x, hs2, hg2, hx2⟩
  have hb2 : Below w.heap.size w w2 := hb1.grown hg2 hb1.size (fun k e => by simp at e; omega)
  go_wp2_with fail
  refine (same_zero w.heap.size (w.heap.size + 1) w1.heap.size c2 a0 cap x w2 hs2 hx2).mono ?_
  rintro e w3 ⟨rfl, rfl⟩
  have hp : w2.cell? ⟨w1.heap.size, 2, none⟩ = some (.bool false) := by
    rw [cell_of_row w2 w1.heap.size 2 _ 55 (0, 0) hx2, Array.getElem?_append_left (by simp)]
    rfl
  go_wp2_with fail
  refine (open_shut w.heap.size (w.heap.size + 1) w1.heap.size 1 c2 b w2 h0 h1 (by omega) hs2 hp).mono ?_
  rintro e w3 ⟨rfl, rfl⟩
  go_wp2_with fail
  refine (same_zero w.heap.size (w.heap.size + 1) w1.heap.size c2 a0 cap x w2 hs2 hx2).mono ?_
  rintro e w3 ⟨rfl, rfl⟩
  go_wp2_with fail
  go_ret
  exact ⟨rfl, hb2⟩

set_option maxHeartbeats 1000000 in
theorem lawC_some (bb off len cap : Nat) (zs : List Blk) (b : Int) (w : World) (h0 : 0 ≤ b) (h1 : b < 18446744073709551616) (hl : len ≤ 1024) (hpos : 0 < len) (hcame : CameB w (some ⟨bb, off, none⟩) len zs) :
    Calls Yba.prog 5 #[.slice (some ⟨bb, off, none⟩) len cap, .int .u64 b] w fun e w' => e = .returned (.bool true) ∧ Below w.heap.size w w' := by
  have hd : decide ((1024 : Int) < (len : Int)) = false := by simp; omega
  have hd2 : decide ((0 : Int) < (len : Int)) = true := by simp; omega
  have hlen : (0 : Int) < (len : Int) := by omega
  go_enter Yba.func5, Yba.ntmps5
  go_wp2_with fail
  refine (build_some ⟨bb, off, none⟩ len cap zs w hl hcame).mono ?_
  rintro e w1 ⟨rfl, hs1, hc1, hr1, hb1⟩
  have hcame1 := hcame.later hb1
  obtain ⟨bb', off', hx, p0, p1, p2, p3, p4⟩ := hcame1.2 0 hpos
  simp only [Option.some.injEq, Addr.mk.injEq, and_true] at hx
  obtain ⟨rfl, rfl⟩ := hx
  simp only [Nat.zero_mul, Nat.add_zero] at p0 p1 p2
  cases hp : (zs.getD 0 (false, 0, 0)).1 with
  | true =>
    rw [hp] at p0
    generalize hse : (zs.getD 0 (false, 0, 0)).2.1 = s at p1 p3 p4
    have HSE := hide hse
    have HP := hide hp
    clear hse hp p2
    go_wp2_with fail
    refine (open_pass w.heap.size (w.heap.size + 1) (w.heap.size + 1 + 1) len len zs b s w1 h0 h1 HSE.out p3 p4 hpos hs1 hc1 hr1 HP.out).mono ?_
    rintro e w2 ⟨rfl, rfl⟩
    go_wp2_with fail
    refine (same_some w.heap.size (w.heap.size + 1) (w.heap.size + 1 + 1) (some ⟨bb, off, none⟩) len cap len zs w1 hl hpos hcame1 hs1 hc1).mono ?_
    rintro e w2 ⟨rfl, hb2⟩
    have hs2 := hs1.later hb2
    have hc2 := hc1.later hb2
    have hr2 := hr1.later hb2
    have hb2w : Below w.heap.size w w2 := hb1.trans (hb2.mono hb1.size)
    clear hs1 hc1 hr1 hb2 hcame1 p0 p1
    go_wp2_with fail
    refine (open_pass w.heap.size (w.heap.size + 1) (w.heap.size + 1 + 1) len len zs b s w2 h0 h1 HSE.out p3 p4 hpos hs2 hc2 hr2 HP.out).mono ?_
    rintro e w3 ⟨rfl, rfl⟩
    go_wp2_with fail
    refine (same_some w.heap.size (w.heap.size + 1) (w.heap.size + 1 + 1) (some ⟨bb, off, none⟩) len cap len zs w2 hl hpos (hcame.later hb2w) hs2 hc2).mono ?_
    rintro e w3 ⟨rfl, hb3⟩
    go_wp2_with fail
    go_ret
    exact ⟨rfl, hb2w.trans (hb3.mono hb2w.size)⟩
  | false =>
    rw [hp] at p0
    have HP := hide hp
    clear hp p1 p2 p3 p4
    go_wp2_with fail
    refine (open_live w.heap.size (w.heap.size + 1) (w.heap.size + 1 + 1) len len zs b w1 h0 h1 hpos hs1 hc1 HP.out).mono ?_
    rintro e w2 ⟨rfl, rfl⟩
    go_wp2_with fail
    refine (same_some w.heap.size (w.heap.size + 1) (w.heap.size + 1 + 1) (some ⟨bb, off, none⟩) len cap len zs w1 hl hpos hcame1 hs1 hc1).mono ?_
    rintro e w2 ⟨rfl, hb2⟩
    have hs2 := hs1.later hb2
    have hc2 := hc1.later hb2
    have hb2w : Below w.heap.size w w2 := hb1.trans (hb2.mono hb1.size)
    clear hs1 hc1 hr1 hb2 hcame1 p0
    go_wp2_with fail
    refine (open_live w.heap.size (w.heap.size + 1) (w.heap.size + 1 + 1) len len zs b w2 h0 h1 hpos hs2 hc2 HP.out).mono ?_
    rintro e w3 ⟨rfl, rfl⟩
    go_wp2_with fail
    refine (same_some w.heap.size (w.heap.size + 1) (w.heap.size + 1 + 1) (some ⟨bb, off, none⟩) len cap len zs w2 hl hpos (hcame.later hb2w) hs2 hc2).mono ?_
    rintro e w3 ⟨rfl, hb3⟩
    go_wp2_with fail
    go_ret
    exact ⟨rfl, hb2w.trans (hb3.mono hb2w.size)⟩

end Go.Proofs.Ybulkbxym
