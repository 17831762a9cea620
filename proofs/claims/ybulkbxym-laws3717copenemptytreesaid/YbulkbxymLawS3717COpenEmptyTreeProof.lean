/-
  The proof of 'Rows.LawS3717COpenEmptyTreeSaid' ('example.com/forkline/forkline/replay.LawS3717COpenEmptyTree'): the frame is the kit's shell's, its slice opened by the kit's laws on slices of structs; the walk is YbulkbxymLawC's.
-/
import Derived.Test.YbulkbxymRows
import Derived.Test.YbulkbxymLawC
import Derived.WalkKit
import Derived.ProofKit
import Derived.OpenShut
import Derived.ShutString
import Derived.ChangeOld
import Derived.Below
import Derived.Deep.Strs
namespace Go.Proofs.Ybulkbxym.lawS3717COpenEmptyTree
open Go.ChangeShapes Go.WideShapes Go.ChangeAt Go.RowKit
set_option linter.unusedVariables false

theorem own : ownKnob Yba.prog.godebug = none := by kernel_rfl
theorem laidOut : laidOutB Yba.prog = true := by kernel_rfl
theorem cells38 : Yba.prog.cellsOf 38 = 3 := by kernel_rfl
theorem cells34 : Yba.prog.cellsOf 34 = 1 := by kernel_rfl
theorem cells4 : Yba.prog.cellsOf 4 = 1 := by kernel_rfl

/-- The slice of blocks, opened. -/
theorem open_blocks {H : Type} {enc : TypeId × Value → H} {W : World} {fuel : Nat} {a0 : Option Addr} {len0 cap0 : Nat} {x : DataW H × List MemPlace}
    (hf : DataW.trod enc Yba.prog W 0 (fun _ => true) true fuel 33 [.slice a0 len0 cap0] = some x) : ∃ zs, CameB W a0 len0 zs := by
  rcases Deep.open_slice Yba.underlying33 hf with ⟨hcs, _⟩ | ⟨a, l, c, m, n, D, Pl, hcs, _, hl, hm, hmm, _, hx⟩
  · simp at hcs
    obtain ⟨rfl, rfl, rfl⟩ := hcs
    exact ⟨[], Nat.le_refl _, fun k hk => absurd hk (Nat.not_lt_zero k)⟩
  · simp at hcs
    obtain ⟨rfl, rfl, rfl⟩ := hcs
    by_cases hz : len0 = 0
    · subst hz
      exact ⟨[], Nat.le_refl _, fun k hk => absurd hk (Nat.not_lt_zero k)⟩
    obtain ⟨bb, off, spot⟩ := a
    have hspot : spot = none := by
      obtain ⟨cs', h1, _⟩ := hx 0 (by simp at hmm; omega)
      rw [cells38] at h1
      obtain ⟨_, hlen, hcell⟩ := World.cells?_some h1
      match cs', hlen with
      | [v0, v1, v2], _ =>
        have c0 := hcell 0 (by omega)
        simpa [Addr.add] using World.cell?_spot c0
    subst hspot
    have each : ∀ i, i < len0 → ∃ q : Blk, W.cell? ⟨bb, off + i * 3, none⟩ = some (.bool q.1) ∧ W.cell? ⟨bb, off + i * 3 + 1, none⟩ = some (.int .u64 q.2.1) ∧
        W.cell? ⟨bb, off + i * 3 + 2, none⟩ = some (.int .u64 q.2.2) ∧ 0 ≤ q.2.1 ∧ q.2.1 < 18446744073709551616 := by
      intro i hi
      obtain ⟨cs', h1, h2⟩ := hx i (by simp at hmm; omega)
      rw [cells38] at h1
      obtain ⟨_, hlen, hcell⟩ := World.cells?_some h1
      obtain ⟨y0, y1, y2, k, _, _, g0, g1, g2⟩ := Deep.trod_struct3 Yba.underlying38 h2
      match cs', hlen with
      | [v0, v1, v2], _ =>
        simp [cells4, cells34] at g0 g1 g2
        obtain ⟨p, e0, _⟩ := DataW.trod_bool Yba.underlying4 g0
        obtain ⟨s, e1, _, ws⟩ := DataW.trod_int Yba.underlying34 g1
        obtain ⟨t, e2, _, _⟩ := DataW.trod_int Yba.underlying34 g2
        simp at e0 e1 e2
        subst e0 e1 e2
        have c0 := hcell 0 (by omega)
        have c1 := hcell 1 (by omega)
        have c2 := hcell 2 (by omega)
        rw [Deep.add_add] at c0 c1 c2
        rw [add_plain] at c0 c1 c2
        have hb := bounds_u64 ws
        have hb2 : s < 18446744073709551616 := by omega
        exact ⟨(p, s, t), by simpa using c0, by simpa [Nat.add_assoc] using c1, by simpa [Nat.add_assoc] using c2, hb.1, hb2⟩
    obtain ⟨q, hq⟩ := Deep.choose_lt each
    refine ⟨(List.range len0).map q, by simp, fun k hk => ?_⟩
    refine ⟨bb, off, rfl, ?_⟩
    have e : ((List.range len0).map q).getD k (false, 0, 0) = q k := by simp [hk]
    rw [e]
    exact hq k hk

theorem walk (a0 : Option Addr) (len0 cap0 : Nat) (zs : List Blk) (a1 : Int) (w : World) (w0 : CameB w a0 len0 zs) (w1 : (Lit.int .u64 a1).wf = true) :
    Calls Yba.prog 5 #[.slice a0 len0 cap0, .int .u64 a1] w fun e w' => e = .returned (.bool true) ∧ Below w.heap.size w w' := by
  have hb := bounds_u64 w1
  by_cases h : 1024 < len0
  · exact lawC_big a0 len0 cap0 a1 w h
  · by_cases h0 : len0 = 0
    · subst h0
      exact lawC_zero a0 cap0 a1 w hb.1 (by omega)
    · obtain ⟨bb, off, rfl, _⟩ := w0.2 0 (by omega)
      exact lawC_some bb off len0 cap0 zs a1 w hb.1 (by omega) (by omega) (by omega) w0

set_option maxRecDepth 100000 in
theorem lifted (os : Os) (started : os.Started) (H : Type) (enc : TypeId × Value → H) :
    ReturnsInHanded {} Yba.checked os 5 .any (Rows.lawS3717COpenEmptyTreeSpec.pre6 enc Yba.prog Yba.f5 Rows.lawS3717COpenEmptyTreeRow.domain false) (Rows.lawS3717COpenEmptyTreeSpec.post enc Yba.prog Yba.f5 false true false false) := by
  refine returnsInHanded_of_change (C := Yba.checked) own started (by kernel_rfl) Yba.func5
    (ChangeSpec.witness6 (enc := enc) (C := Yba.checked) false ⟨#[], #[.slice none 0 0, .int .u64 0], []⟩ 8 (by kernel_rfl) (by kernel_rfl) (by kernel_rfl) (by kernel_rfl)) ?_
  intro W base args ds gs before hval0 hW hcnd _
  have hval : ∀ (j : Nat) t v, Yba.f5.params[j]? = some t → args[j]? = some v → Value.okWide Yba.prog W .any base t v := hval0
  have hW' := hW
  obtain ⟨p, q, hA0, hV, rfl, hfz, hnd⟩ := hW
  have hA : DataW.TrodAll enc Yba.prog W 0 (fun _ => true) true Yba.f5.params.toList args.toList ds p := hA0
  rw [Yba.params5] at hA hval
  obtain ⟨v0, vs0, d0, ds0, p0, q0, hargs, rfl, rfl, h0, r0⟩ := trodAll_cons hA
  obtain ⟨v1, vs1, d1, ds1, p1, q1, rfl, rfl, rfl, h1, r1⟩ := trodAll_cons r0
  obtain ⟨rfl, rfl, rfl⟩ := trodAll_nil r1
  obtain rfl : args = #[v0, v1] := by cases args; simp_all
  obtain ⟨rfl, rfl⟩ := trodVars_none hV
  obtain ⟨a0, len0, cap0, rfl⟩ := okWide_slice Yba.underlying33 (hval 0 33 v0 rfl rfl)
  have k0 := h0
  have lt0 : ∀ x ∈ p0, x.block < W.heap.size := by obtain ⟨m, hm⟩ := k0; exact DataW.trod_lt m _ _ _ hm
  obtain ⟨zs, w0⟩ : ∃ zs, CameB W a0 len0 zs := by
    obtain ⟨fuel, hf⟩ := h0
    exact open_blocks hf
  obtain ⟨a1, rfl, rfl, rfl, w1⟩ := open_int Yba.underlying34 (hval 1 34 v1 rfl rfl) h1
  clear hA0 hval0
  refine (walk a0 len0 cap0 zs a1 W w0 w1).mono fun e W' ⟨he, bel⟩ => ?_
  subst he
  exact ⟨_, rfl, _, _, _, [], _, [], hW', trodAll_mk1 (shut_bool Yba.underlying4 _), (trodAll_cons_mk (Below.trod laidOut (by kernel_rfl) (of_decide_eq_true (by kernel_rfl)) k0 bel lt0) (trodAll_cons_mk (shut_int Yba.underlying34 w1) trodAll_mk0)), rfl, bel.frame _, fun h => by cases h⟩

theorem over : Rows.lawS3717COpenEmptyTreeRow.holds Yba.pinned (OpenSpec.ofChange Rows.lawS3717COpenEmptyTreeSpec) :=
  OpenClaim.holds_of_wide 5 Yba.f5 rfl rfl rfl rfl rfl rfl rfl ⟨rfl, rfl, rfl, rfl, rfl⟩ rfl rfl rfl rfl rfl (by kernel_rfl) Yba.func5 (by kernel_rfl)
    (of_decide_eq_true (by kernel_rfl)) (by unfold Func.isWrapper; first | (rw [if_pos (by decide +kernel)]; kernel_rfl) | (rw [if_neg (by decide +kernel)]; exact ⟨rfl, rfl⟩))
    (fun os started H enc _ => lifted os started H enc)

/-- THE STATEMENT -/
theorem proved : Rows.LawS3717COpenEmptyTreeSaid := over
#print axioms proved
end Go.Proofs.Ybulkbxym.lawS3717COpenEmptyTree
