/-
  'LawS3717BTree' (function 5): the walk.
-/
import Derived.Test.YbulkbxymFmtParts
import Derived.Deep.RegionWith
import Derived.Deep.DeepCutAuto
namespace Go.Proofs.YbulkbxymFmt
open Go.RowKit Go.Maps Go.ChangeMaps Go.MapKept

/-- An append whose run is known, at its operation. -/
theorem wpList_append_some {P : Program} {w : World} {ops : Array Oper} {rest : List Oper} {o : Oper} {a : Act} {Q : Exit → Act → World → Prop} {p : Value → World → Prop}
    (hg : o.guard = Option.none) (s x : Operand) (t tn : TypeId) (hop : o.op = Op.call { callee := Callee.builtin Builtin.append, args := #[s, x], argTypes := #[t, tn] })
    (vs vx : Value) (hs : a.eval s = vs) (hx : a.eval x = vx) (hr : ∃ v' w', (Builtin.append_ #[t, tn] o.type #[vs, vx]).run P w = .ok v' w' ∧ p v' w')
    (hK : ∀ v' w', p v' w' → wpList P ops Q rest (a.put o.dst v') w') : wpList P ops Q (o :: rest) a w := by
  obtain ⟨v', w', hr, hp⟩ := hr
  refine wpList_plain hg fun K hK' => ?_
  unfold Oper.wp
  simp [execOp, hop, resolve, invoke, builtin, hs, hx, hr, Result.andThen]
  exact hK' _ _ (hK v' w' hp)

theorem has_yes (B R n : Nat) (first slot : Int) (f : Int → Option Int) (w : World) (hn : n ≤ 2000) (hT : Tree w B R first f n) (hok : (f (IntKind.u64.wrap (slot - first))).isSome = true) :
    Calls Ybaf.prog 9 #[.pointer (some ⟨R, 1, none⟩), .int .u64 slot] w fun e w' => e = .returned (.bool true) ∧ w = w' := by
  have h := has_any B R n first slot f w hn hT
  rwa [hok] at h

theorem has_no (B R n : Nat) (first slot : Int) (f : Int → Option Int) (w : World) (hn : n ≤ 2000) (hT : Tree w B R first f n) (hok : (f (IntKind.u64.wrap (slot - first))).isSome = false) :
    Calls Ybaf.prog 9 #[.pointer (some ⟨R, 1, none⟩), .int .u64 slot] w fun e w' => e = .returned (.bool false) ∧ w = w' := by
  have h := has_any B R n first slot f w hn hT
  rwa [hok] at h

set_option maxHeartbeats 1000000 in
set_option maxRecDepth 100000 in
theorem tree_big (r : Int) (a1 : Option Addr) (len1 cap1 : Nat) (a2 : Option Addr) (len2 cap2 : Nat) (w : World) (h : 1024 < len1 ∨ 1024 < len2) :
    Calls Ybaf.prog 5 #[.int .u64 r, .slice a1 len1 cap1, .slice a2 len2 cap2] w fun e w' => e = .returned (.bool true) ∧ Below w.heap.size w w' := by
  by_cases h0 : 1024 < len1
  · go_enter Ybaf.func5, Ybaf.ntmps5
    go_wp2
    go_ret
    exact ⟨rfl, Below.refl _ _⟩
  · have h1 : 1024 < len2 := by omega
    have hd : decide ((1024 : Int) < (len1 : Int)) = false := by simp; omega
    clear h
    go_enter Ybaf.func5, Ybaf.ntmps5
    go_wp2
    go_ret
    exact ⟨rfl, Below.refl _ _⟩

set_option maxHeartbeats 2000000 in
set_option maxRecDepth 100000 in
theorem tree_small (r0 r : Int) (a1 : Option Addr) (len1 cap1 : Nat) (z1 : List Int) (a2 : Option Addr) (len2 cap2 : Nat) (z2 : List Int) (w : World) (h1 : len1 ≤ 1024) (h2 : len2 ≤ 1024)
    (hmask : bits BinOp.and IntKind.u64 r0 4611686018427387903 = r) (hr0 : 0 ≤ r) (hr1 : r < 4611686018427387904) (hcame1 : Came .u8 w a1 len1 z1) (hcame2 : Came .u64 w a2 len2 z2) :
    Calls Ybaf.prog 5 #[.int .u64 r0, .slice a1 len1 cap1, .slice a2 len2 cap2] w fun e w' => e = .returned (.bool true) ∧ Below w.heap.size w w' := by
  have hd0 : decide ((1024 : Int) < (len1 : Int)) = false := by simp; omega
  have hd1 : decide ((1024 : Int) < (len2 : Int)) = false := by simp; omega
  have HM := hide (made_at w)
  go_enter Ybaf.func5, Ybaf.ntmps5
  go_wp2_with fail
  refine (addRoot_any w.heap.size w.heap.size 0 r _ _ _ _ _ HM.out made_ix).mono ?_
  rintro e w1 ⟨rfl, hT, hK⟩
  have HG := hide (Grows.start (g := w1.heap.size) hT (((Below.refl _ _).alloc (Nat.le_refl _) _).trans (hK.below (by simp))) rfl)
  clear HM hT hK
  go_wp2_with fail
  go_loopw [8, 9, 38] (fun v t i wr => ∃ (k : Nat) (T : Int) (sl : List Int) (f : Int → Option Int), k ≤ len1 ∧ i = .int .i64 k ∧ t = .int .u64 T ∧ Grows w wr w.heap.size w.heap.size r k v T sl f) (fun _ _ i _ => len1 - (intOf i).toNat)
  case atStart => exact ⟨0, r, [r], rootFn, Nat.zero_le _, rfl, rfl, HG.out⟩
  case round =>
    clear HG
    obtain ⟨k, T, sl, f, hk, rfl, rfl, hG⟩ := hrel
    by_cases hlt : k < len1
    · have hbw := hG.below
      obtain ⟨x, hx, hc, hw8⟩ := (hcame1.later hbw).2 k hlt
      subst hx
      obtain ⟨g, cap, hv⟩ := own_at hG.row hG.len0
      subst hv
      have hb8 := bounds_u8 hw8
      generalize z1.getD k 0 = st at hc hb8
      clear hw8
      obtain ⟨hs0, hs1⟩ := hb8
      obtain ⟨d, hdd, hd7⟩ : ∃ d : Nat, st % 8 = (d : Int) ∧ d ≤ 7 := ⟨(st % 8).toNat, by omega, by omega⟩
      have hsl0 : (0 : Int) < (sl.length : Int) := by have := hG.len0; omega
      have hsl1 : (sl.length : Int) ≤ 1025 := by have := hG.len1; omega
      obtain ⟨m, hmm, hml⟩ : ∃ m : Nat, st / 8 % (sl.length : Int) = (m : Int) ∧ m < sl.length := by
        have q0 := Int.emod_nonneg (st / 8) (show (sl.length : Int) ≠ 0 by omega)
        have q1 := Int.emod_lt_of_pos (st / 8) hsl0
        exact ⟨(st / 8 % (sl.length : Int)).toNat, by omega, by omega⟩
      obtain ⟨P, hcP, hP0, hP1, i, hPi, hil⟩ : ∃ P, wr.cell? ⟨g, m, none⟩ = some (.int .u64 P) ∧ r ≤ P ∧ P ≤ T ∧ ∃ i : Nat, f (P - r) = some (i : Int) ∧ i < sl.length := by
        obtain ⟨q1, q2, i, q3, q4⟩ := hG.mem sl[m] (List.getElem_mem hml)
        exact ⟨sl[m], by rw [hG.row.cellAt m (by omega)]; simp [List.getElem?_eq_getElem hml], q1, q2, i, q3, q4⟩
      have hlo := hG.lo
      have hhi := hG.hi
      have HPi := hide hPi
      have HGG := hide hG
      clear hPi hG
      go_wp2_with fail
      refine (add_any w.heap.size w.heap.size sl.length i r (T + 1 + d) P f wr (by omega) hil HGG.out.tree (by rw [wrap_sub (by omega) (by omega)]; exact HPi.out) (by omega) (by rw [wrap_sub (by omega) (by omega)]; exact HGG.out.above _ (by omega))).mono ?_
      rintro e w2 ⟨rfl, hT2, hK2⟩
      rw [wrap_sub (by omega) (by omega)] at hT2
      have HAP := hide (HGG.out.append (d := d) (S := T + 1 + d) (by omega) hd7 hT2 hK2 rfl)
      clear hT2 hK2 hbw hc hcP
      go_wp2_with (at_builtin; refine wpList_append_some rfl (.tmp 62) (.tmp 64) 30 30 rfl _ _ rfl rfl HAP.out ?_)
      intro v' w3 HN
      clear HAP HGG HPi
      go_wp2_with fail
      go_roundw
      case rel => exact ⟨k + 1, T + 1 + d, sl ++ [T + 1 + d], _, by omega, by simp, rfl, HN.out⟩
      case measure => simp [intOf]; omega
    · have hkl : k = len1 := by omega
      subst hkl
      obtain ⟨g, cap, hv⟩ := own_at hG.row hG.len0
      subst hv
      have hlo := hG.lo
      have hhi := hG.hi
      have hsl1 : (sl.length : Int) ≤ 1025 := by have := hG.len1; omega
      have HGG := hide hG
      clear hG
      go_wp2_with fail
      go_loopw [70] (fun i wx => ∃ j : Nat, j ≤ sl.length ∧ i = .int .i64 j ∧ Hid (Grows w wx w.heap.size w.heap.size r k (.slice (some ⟨g, 0, none⟩) sl.length cap) T sl f)) (fun i _ => sl.length - (intOf i).toNat)
      case atStart => exact ⟨0, Nat.zero_le _, rfl, HGG⟩
      case round =>
        clear HGG
        obtain ⟨j, hj, rfl, HGG⟩ := hrel
        by_cases hjl : j < sl.length
        · obtain ⟨S, hcS, hS0, hS1, i, hSi, _⟩ : ∃ S, wr.cell? ⟨g, j, none⟩ = some (.int .u64 S) ∧ r ≤ S ∧ S ≤ T ∧ ∃ i : Nat, f (S - r) = some (i : Int) ∧ i < sl.length := by
            obtain ⟨q1, q2, i, q3, q4⟩ := HGG.out.mem sl[j] (List.getElem_mem hjl)
            exact ⟨sl[j], by rw [HGG.out.row.cellAt j (by omega)]; simp [List.getElem?_eq_getElem hjl], q1, q2, i, q3, q4⟩
          have HSi := hide hSi
          clear hSi
          go_wp2_with fail
          refine (known_yes w.heap.size w.heap.size sl.length r S f wr (by omega) HGG.out.tree (by rw [wrap_sub (by omega) (by omega), HSi.out]; rfl)).mono ?_
          rintro e w2 ⟨rfl, rfl⟩
          go_wp2_with fail
          go_roundw
          case rel => exact ⟨j + 1, by omega, by simp, HGG⟩
          case measure => simp [intOf]; omega
        · go_wp2_with fail
          refine (known_no w.heap.size w.heap.size sl.length r (T + 1) f wr (by omega) HGG.out.tree (by rw [wrap_sub (by omega) (by omega), HGG.out.above _ (by omega)]; rfl)).mono ?_
          rintro e w2 ⟨⟨ae, rfl⟩, hb2⟩
          have HT2 := hide (HGG.out.tree.later hb2)
          have hbw2 : Below w.heap.size w w2 := HGG.out.below.trans (hb2.mono HGG.out.below.size)
          clear HGG hb2
          go_wp2_with fail
          go_loopw [84] (fun i wx => ∃ j : Nat, j ≤ len2 ∧ i = .int .i64 j ∧ Hid (Tree wx w.heap.size w.heap.size r f sl.length) ∧ Below w.heap.size w wx) (fun i _ => len2 - (intOf i).toNat)
          case atStart => exact ⟨0, Nat.zero_le _, rfl, HT2, hbw2⟩
          case round =>
            clear HT2 hbw2
            obtain ⟨q, hq, rfl, HT, hbw⟩ := hrel
            by_cases hql : q < len2
            · obtain ⟨x, hx, hc, hw64⟩ := (hcame2.later hbw).2 q hql
              subst hx
              have hb64 := bounds_u64 hw64
              generalize z2.getD q 0 = pp at hc hb64
              clear hw64
              obtain ⟨hp0, hp1⟩ := hb64
              go_upto_region 29 with fail
              go_cut [94] (fun v wx => v = .bool false ∧ Below wr.heap.size wr wx)
              case first =>
                have HTd := hide (HT.out.later ((Below.refl _ _).drew))
                cases hN : (f (IntKind.u64.wrap (pp - r))).isSome with
                | true =>
                  have HN := hide hN
                  clear hN
                  go_region_with (first | (go_at_call 6; refine (known_yes w.heap.size w.heap.size sl.length r (pp) f _ (by omega) HTd.out HN.out).mono ?_; rintro e w' ⟨rfl, rfl⟩) | (go_at_call 9; refine (has_yes w.heap.size w.heap.size sl.length r (pp) f _ (by omega) HTd.out HN.out).mono ?_; rintro e w' ⟨rfl, rfl⟩))
                  all_goals
                    go_wp2_with fail
                    go_meet
                    case rel => exact ⟨rfl, (Below.refl _ _).drew⟩
                | false =>
                  have HN := hide hN
                  clear hN
                  go_region_with (first | (go_at_call 6; refine (known_no w.heap.size w.heap.size sl.length r (pp) f _ (by omega) HTd.out HN.out).mono ?_; rintro e w' ⟨⟨ae, rfl⟩, hb⟩; have HTb := hide (HTd.out.later hb)) | (go_at_call 9; refine (has_no w.heap.size w.heap.size sl.length r (pp) f _ (by omega) (by first | exact HTd.out | exact HTb.out) HN.out).mono ?_; rintro e w' ⟨rfl, rfl⟩))
                  all_goals
                    go_wp2_with fail
                    go_meet
                    case rel => exact ⟨rfl, ((Below.refl _ _).drew).trans hb⟩
              case rest =>
                obtain ⟨rfl, hbc⟩ := hcut
                have HTc := hide (HT.out.later hbc)
                have hbwc : Below w.heap.size w wc := hbw.trans (hbc.mono hbw.size)
                clear HT hbc hbw hc
                go_upto_region 32 with fail
                go_cut [105] (fun v wx => v = .bool false ∧ Below wc.heap.size wc wx)
                case first =>
                  have HTd := hide (HTc.out.later ((Below.refl _ _).drew))
                  cases hN : (f (IntKind.u64.wrap (r + pp % 600 - r))).isSome with
                  | true =>
                    have HN := hide hN
                    clear hN
                    go_region_with (first | (go_at_call 6; refine (known_yes w.heap.size w.heap.size sl.length r (r + pp % 600) f _ (by omega) HTd.out HN.out).mono ?_; rintro e w' ⟨rfl, rfl⟩) | (go_at_call 9; refine (has_yes w.heap.size w.heap.size sl.length r (r + pp % 600) f _ (by omega) HTd.out HN.out).mono ?_; rintro e w' ⟨rfl, rfl⟩))
                    all_goals
                      go_wp2_with fail
                      go_meet
                      case rel => exact ⟨rfl, (Below.refl _ _).drew⟩
                  | false =>
                    have HN := hide hN
                    clear hN
                    go_region_with (first | (go_at_call 6; refine (known_no w.heap.size w.heap.size sl.length r (r + pp % 600) f _ (by omega) HTd.out HN.out).mono ?_; rintro e w' ⟨⟨ae, rfl⟩, hb⟩; have HTb := hide (HTd.out.later hb)) | (go_at_call 9; refine (has_no w.heap.size w.heap.size sl.length r (r + pp % 600) f _ (by omega) (by first | exact HTd.out | exact HTb.out) HN.out).mono ?_; rintro e w' ⟨rfl, rfl⟩))
                    all_goals
                      go_wp2_with fail
                      go_meet
                      case rel => exact ⟨rfl, ((Below.refl _ _).drew).trans hb⟩
                case rest =>
                  obtain ⟨rfl, hbe⟩ := hcut
                  have HTe := hide (HTc.out.later hbe)
                  have hbwe : Below w.heap.size w wc := hbwc.trans (hbe.mono hbwc.size)
                  clear HTc hbe
                  go_wp2_with fail
                  go_roundw
                  case rel => exact ⟨q + 1, by omega, by simp, HTe, hbwe⟩
                  case measure => simp [intOf]; omega
            · go_wp2_with fail
              go_ret
              exact ⟨rfl, hbw⟩
end Go.Proofs.YbulkbxymFmt
