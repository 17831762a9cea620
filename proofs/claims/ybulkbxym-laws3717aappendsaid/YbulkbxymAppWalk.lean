/-
  'LawS3717AAppend' (function 3): the walk.
-/
import Derived.Test.YbulkbxymParts2
import Derived.Outline
namespace Go.Proofs.Ybulkbxym
open Go.RowKit

set_option maxHeartbeats 1000000 in
set_option maxRecDepth 100000 in
theorem app_big (a0 : Option Addr) (len0 cap0 : Nat) (a1 : Option Addr) (len1 cap1 : Nat) (a2 : Int) (w : World) (h : 1024 < len0 ∨ 1024 < len1) :
    Calls Yba.prog 3 #[.slice a0 len0 cap0, .slice a1 len1 cap1, .int .u8 a2] w fun e w' => e = .returned (.bool true) ∧ Below w.heap.size w w' := by
  by_cases h0 : 1024 < len0
  · go_enter Yba.func3, Yba.ntmps3
    go_wp2
    go_ret
    exact ⟨rfl, Below.refl _ _⟩
  · have h1 : 1024 < len1 := by omega
    have hd : decide ((1024 : Int) < (len0 : Int)) = false := by simp; omega
    clear h
    go_enter Yba.func3, Yba.ntmps3
    go_wp2
    go_ret
    exact ⟨rfl, Below.refl _ _⟩

set_option maxHeartbeats 2000000 in
set_option maxRecDepth 100000 in
theorem app_small (a0 : Option Addr) (len0 cap0 : Nat) (z0 : List Int) (a1 : Option Addr) (len1 cap1 : Nat) (z1 : List Int) (ex : Nat) (w : World) (h0 : len0 ≤ 1024) (h1 : len1 ≤ 1024) (hex : ex ≤ 255)
    (hcame0 : Came w a0 len0 z0) (hcame1 : Came w a1 len1 z1) :
    Calls Yba.prog 3 #[.slice a0 len0 cap0, .slice a1 len1 cap1, .int .u8 ex] w fun e w' => e = .returned (.bool true) ∧ Below w.heap.size w w' := by
  obtain ⟨i0, hi, hz0, hz1, hz2⟩ := info_parts Yba.info25
  obtain ⟨i1, hi1, hy0, hy1, hy2⟩ := info_parts Yba.info27
  have ta := assert_item
  have hd0 : decide ((1024 : Int) < (len0 : Int)) = false := by simp; omega
  have hd1 : decide ((1024 : Int) < (len1 : Int)) = false := by simp; omega
  go_enter Yba.func3, Yba.ntmps3
  go_wp2_with (at_make; refine wpList_make_cap _ rfl _ _ 23 rfl w.heap.size 27 i1 .nilIface Yba.underlying23 hi1 hy0 hy1 .nilIface rfl _ _ _ _ len0 (len0 + ex) rfl rfl rfl ?b0 ?b1 ?b2 ?b3 ?b4 ?_)
  case b0 => omega
  case b1 => omega
  case b2 => rw [hy2]; omega
  case b3 => unfold maxLen; omega
  case b4 => exact Nat.le_refl _
  intro w1 hown1 hgrow1
  rw [← filled_zero z0 item] at hown1
  have hbel1 : Below w.heap.size w w1 := (Below.refl _ _).grown hgrow1 (Nat.le_refl _) (fun _ e => by cases e)
  clear hgrow1
  go_wp2_with fail
  go_loopw [42] (fun i wr => ∃ k : Nat, k ≤ len0 ∧ i = .int .i64 k ∧ wr.ownsRow w.heap.size 27 1 (.slice (some ⟨w.heap.size, 0, none⟩) len0 (len0 + ex)) len0 (filled z0 item .nilIface len0 k) ∧ Below w.heap.size w wr)
    (fun i _ => len0 - (intOf i).toNat)
  case atStart => exact ⟨0, Nat.zero_le _, rfl, hown1, hbel1⟩
  case round =>
    clear hown1 hbel1
    obtain ⟨k, hk, rfl, hown, hbel⟩ := hrel
    by_cases hlt : k < len0
    · obtain ⟨x, hx, hc⟩ := (hcame0.later hbel).2 k hlt
      subst hx
      obtain ⟨⟨y, hcell⟩, hfr, HS⟩ := fill_step hown hbel hlt hcame0.1 (Nat.le_refl _)
      clear hown
      go_wp2
      go_roundw
      case rel => exact ⟨k + 1, by omega, by simp, HS.out.1, HS.out.2.1⟩
      case measure => simp [intOf]; omega
    · have hkm : k = len0 := by omega
      subst hkm
      rw [filled_all] at hown
      go_wp2_with (at_make; refine wpList_make_full _ rfl _ _ 28 rfl wr.heap.size 25 i0 (.agg #[.int .i64 0]) 1 Yba.underlying28 hi hz0 hz1 _ _ _ _ len1 rfl rfl rfl rfl ?d1 ?d2 ?d3 ?_)
      case d1 => rw [hz2]; omega
      case d2 => unfold maxLen; omega
      case d3 => exact Nat.le_refl _
      intro w2 hown2 hgrow2
      rw [toList_madeCells_one, ← filled_zero z1 (Value.int .i64)] at hown2
      have hg2 : w.heap.size < wr.heap.size := (hown.lt w.heap.size rfl).2
      have hbel2 : Below w.heap.size w w2 := hbel.grown hgrow2 hbel.size (fun _ e => by cases e)
      have hownB := hown.kept hgrow2 (.inr (by simp [Value.ownBlock]))
      clear hgrow2 hbel hown
      generalize wr.heap.size = g2 at hg2 hown2 ⊢
      go_wp2_with fail
      go_loopw [59] (fun i wr => ∃ j : Nat, j ≤ len1 ∧ i = .int .i64 j ∧ wr.ownsRow g2 25 1 (.slice (some ⟨g2, 0, none⟩) len1 len1) len1 (filled z1 (Value.int .i64) (.int .i64 0) len1 j)
          ∧ wr.ownsRow w.heap.size 27 1 (.slice (some ⟨w.heap.size, 0, none⟩) k (k + ex)) k ((z0.take k).map item) ∧ Below w.heap.size w wr)
        (fun i _ => len1 - (intOf i).toNat)
      case atStart => exact ⟨0, Nat.zero_le _, rfl, hown2, hownB, hbel2⟩
      case round =>
        clear hown2 hownB hbel2
        obtain ⟨j, hj, rfl, hown, hownB, hbel⟩ := hrel
        by_cases hlt : j < len1
        · obtain ⟨x, hx, hc⟩ := (hcame1.later hbel).2 j hlt
          subst hx
          obtain ⟨⟨y, hcell⟩, hfr, HS⟩ := fill_step hown hbel hlt hcame1.1 (by omega)
          have HB := hide (hownB.kept HS.out.2.2 (.inr (by simp [Value.ownBlock]; omega)))
          clear hown hownB
          go_wp2
          go_roundw
          case rel => exact ⟨j + 1, by omega, by simp, HS.out.1, HB.out, HS.out.2.1⟩
          case measure => simp [intOf]; omega
        · have hjm : j = len1 := by omega
          subst hjm
          rw [filled_all] at hown
          have hblk := block_of_full hown
          go_wp2_with fail
          refine (find_any _ k ((z0.take k).map item) g2 j (z1.take j) _ h0 h1 (by have := hcame1.1; simp; omega) (own_base0 hownB) hblk).mono ?_
          rintro e w3 ⟨v, rfl, hown3, hrel3, hnil3⟩
          obtain ⟨g, c', hv⟩ := own_at2 hown3 hnil3
          subst hv
          obtain ⟨HF, HA⟩ := reads hown3 hrel3 hblk hg2 hcame0.1 hcame1.1
          have hbel3 : Below w.heap.size w w3 := hbel.grown hrel3.grown hbel.size (fun q e => by simp [Value.ownBlock] at e; omega)
          have HF := hide HF
          have HA := hide HA
          clear hown3 hrel3 hblk hnil3 hown hownB hbel
          go_wp2_with fail
          go_loopw [83] (fun i wr => ∃ t : Nat, t ≤ k ∧ i = .int .i64 t ∧ Below w3.heap.size w3 wr) (fun i _ => k - (intOf i).toNat)
          case atStart => exact ⟨0, Nat.zero_le _, rfl, Below.refl _ _⟩
          case round =>
            obtain ⟨t, ht, rfl, hb⟩ := hrel
            have hbw : Below w.heap.size w wr := hbel3.trans (hb.mono hbel3.size)
            by_cases hlt3 : t < k
            · obtain ⟨x, hx, hc⟩ := (hcame0.later hbw).2 t hlt3
              subst hx
              have hc1 := cell_later hb (HF.out t hlt3).1
              have hc2 := cell_later hb (HF.out t hlt3).2
              have hs2 : w.heap.size < wr.heap.size := World.block_lt_of_cell? _ _ hc2
              go_wp2
              go_roundw
              case rel => exact ⟨t + 1, by omega, by simp, (hb.alloc hb.size _).alloc (by have := hb.size; simp; omega) _⟩
              case measure => simp [intOf]; omega
            · clear hbw
              go_wp2_with fail
              go_loopw [123] (fun i wr => ∃ t : Nat, t ≤ j ∧ i = .int .i64 t ∧ Below w3.heap.size w3 wr) (fun i _ => j - (intOf i).toNat)
              case atStart => exact ⟨0, Nat.zero_le _, rfl, hb⟩
              case round =>
                clear hb hlt3 ht
                obtain ⟨q, hq, rfl, hb⟩ := hrel
                have hbw : Below w.heap.size w wr := hbel3.trans (hb.mono hbel3.size)
                by_cases hlt4 : q < j
                · obtain ⟨x, hx, hc⟩ := (hcame1.later hbw).2 q hlt4
                  subst hx
                  have hc1 := cell_later hb (HA.out q hlt4).1
                  have hc2 := cell_later hb (HA.out q hlt4).2
                  have hs2 : g2 < wr.heap.size := World.block_lt_of_cell? _ _ hc2
                  go_wp2
                  go_roundw
                  case rel => exact ⟨q + 1, by omega, by simp, hb.alloc hb.size _⟩
                  case measure => simp [intOf]; omega
                · go_wp2
                  go_ret
                  exact ⟨rfl, hbw⟩
end Go.Proofs.Ybulkbxym
