/-
  '(*Tree).index' (function 15), whole: the block is found at its slot's offset from now on, and nothing else has turned.
-/
import Derived.Test.YbulkbxymFmtFrame
import Derived.Test.YbulkbxymFmtPut
import Derived.Test.YbulkbxymFmtFar
namespace Go.Proofs.YbulkbxymFmt
open Go.RowKit Go.Maps Go.ChangeMaps Go.MapKept

/-! ### the plain laws -/

theorem ix_set (ds : List Int) (far : Int → Option Int) (off : Nat) (pos x : Int) (h : off < ds.length) (hp : 0 ≤ pos) (hx : 0 ≤ x) :
    ixAt (ds.set off (pos + 1)) far x = if x = off then some pos else ixAt ds far x := by
  obtain ⟨k, rfl⟩ := Int.eq_ofNat_of_zero_le hx
  by_cases hk : k = off
  · subst hk
    have hp1 : ¬ (pos + 1 = 0) := by omega
    rw [if_pos rfl, ixAt, if_pos ⟨by simp; omega, by simp [h, hp1]⟩]
    simp [h]
  · have : ¬ ((k : Int) = off) := by omega
    rw [if_neg this]
    unfold ixAt
    simp only [List.length_set, Int.toNat_natCast, List.getD_eq_getElem?_getD, List.getElem?_set_ne (show off ≠ k by omega)]

theorem ix_grow (ds : List Int) (far : Int → Option Int) (m : Nat) (x : Int) (hx : 0 ≤ x) : ixAt (ds ++ List.replicate m 0) far x = ixAt ds far x := by
  obtain ⟨k, rfl⟩ := Int.eq_ofNat_of_zero_le hx
  unfold ixAt
  simp only [List.length_append, List.length_replicate, Int.toNat_natCast, List.getD_eq_getElem?_getD]
  by_cases h : k < ds.length
  · rw [List.getElem?_append_left h]
    have e1 : (k : Int) < ((ds.length + m : Nat) : Int) := by omega
    have e2 : (k : Int) < (ds.length : Int) := by omega
    simp only [e1, e2, true_and]
  · rw [List.getElem?_append_right (by omega)]
    have e2 : ¬ (k : Int) < (ds.length : Int) := by omega
    have e3 : ((List.replicate m (0 : Int))[k - ds.length]?).getD 0 = 0 := by
      rw [List.getElem?_replicate]
      split <;> rfl
    simp only [e2, e3, ne_eq, not_true_eq_false, and_false, false_and, if_false]

theorem ix_far (ds : List Int) (far : Int → Option Int) (off pos x : Int) (h : (ds.length : Int) ≤ off) :
    ixAt ds (fun y => if y = off then some pos else far y) x = if x = off then some pos else ixAt ds far x := by
  unfold ixAt
  by_cases hx : x = off
  · subst hx
    rw [if_neg (by rintro ⟨h1, _⟩; omega)]
    simp
  · simp only [if_neg hx]

/-! ### the blocks -/

theorem own_block {w : World} {e : TypeId} {size g n cap : Nat} {xs : List Value} (h : w.ownsRow 0 e size (.slice (some ⟨g, 0, none⟩) n cap) n xs) : ∃ cur, w.heap[g]? = some (.cells cur e (0, 0)) := by
  rcases h.2 with ⟨h', _⟩ | ⟨g', cap', cur, h', _, hg, _⟩
  · simp at h'
  · simp only [Value.slice.injEq, Option.some.injEq, Addr.mk.injEq, and_true, true_and] at h'
    obtain ⟨rfl, rfl⟩ := h'
    exact ⟨cur, hg⟩

theorem Moved.touches {w w' : World} {v v' : Value} {e : TypeId} {size n : Nat} {xs : List Value} (hm : Moved w w' v v') (hown : w.ownsRow 0 e size v n xs) : ∃ row, Touches w w' row (e + 1) ∧ ∀ q, row = some q → v.ownBlock = some q := by
  rcases hm with ⟨_, hg⟩ | ⟨_, hg⟩
  · refine ⟨v.ownBlock, ⟨hg, fun q oq hq hb => ?_⟩, fun q hq => hq⟩
    rcases hown.2 with ⟨rfl, _⟩ | ⟨g, cap, cur, rfl, _, hg', _⟩
    · cases hq
    · obtain rfl := Option.some.inj hq
      rw [hg'] at hb
      obtain rfl := Option.some.inj hb
      rfl
  · exact ⟨Option.none, ⟨hg, fun q oq hq => by cases hq⟩, fun q hq => by cases hq⟩

/-- The far map behind a store. -/
theorem far_put {w' : World} {m k : Nat} {dat : DataW Unit} {far : Int → Option Int} {off pos : Int} (hwf : (Lit.int .u64 off).wf = true)
    (hD : ∀ x, (Lit.int .u64 x).wf = true → Maps.has dat (.int .u64 x) = (far x).isSome ∧ ∀ v, far x = some v → dat.atKey (.int .u64 x) (.lit (.int .i64 0)) = .lit (.int .i64 v))
    (hmap : IsMap dat) (hown : w'.ownsMap Ybaf.prog 22 (plainElem Ybaf.prog 3) m k (dat.put (.int .u64 off) (.lit (.int .i64 pos)))) :
    FarAt w' (.map (some m)) (fun y => if y = off then some pos else far y) k := by
  have hkl : WideAt.IsKeyLit (.int .u64 off) := law22.key (keyOf_int_mk Ybaf.underlying22 hwf)
  refine .inr ⟨m, _, rfl, hown, fun x hx => ?_⟩
  by_cases hxo : x = off
  · subst hxo
    simp only [if_true]
    exact ⟨has_put_same hmap hkl _, fun v hv => by rw [atKey_put_same hmap hkl]; simpa using hv⟩
  · have hne : (Lit.int .u64 x) ≠ .int .u64 off := by simpa using hxo
    simp only [if_neg hxo]
    rw [has_put_other hne, atKey_put_other hne]
    exact hD x hx

/-- '(*Tree).index'. -/
theorem put_any (B R n k : Nat) (first slot pos : Int) (f : Int → Option Int) (ds : List Int) (far : Int → Option Int) (dv fv nv : Value) (w : World) (hn : n ≤ 2000) (hk : k ≤ 3000) (hA : TreeAt w B R first n k ds far dv fv nv)
    (hf : ∀ x, (Lit.int .u64 x).wf = true → ixAt ds far x = f x) (hp0 : 0 ≤ pos) (hp1 : pos + 1 ≤ n) :
    Calls Ybaf.prog 15 #[.pointer (some ⟨R, 1, none⟩), .int .u64 slot, .int .i64 pos] w fun e w' => e = .returned (.tuple #[]) ∧
      (∃ ds' far' dv' fv', TreeAt w' B R first n (k + 1) ds' far' dv' fv' nv ∧ ∀ x, (Lit.int .u64 x).wf = true → ixAt ds' far' x = if x = IntKind.u64.wrap (slot - first) then some pos else f x) ∧ Keeps B w w' := by
  have hwf : (Lit.int .u64 (IntKind.u64.wrap (slot - first))).wf = true := wf_wrap _ _
  generalize hoff : IntKind.u64.wrap (slot - first) = off at hwf ⊢
  have hb := bounds_u64 hwf
  have hsm := hA.small
  obtain ⟨xs, hnod, hnx⟩ := hA.nodes
  obtain ⟨an, capn, rfl⟩ := own_form hnod
  have hN : NodesAt w (.slice an n capn) n := ⟨xs, hnod, hnx⟩
  have hBs : B ≤ w.heap.size := by
    have h1 := (Array.getElem?_eq_some_iff.1 hA.reader).1
    have h2 := hA.baseR
    omega
  have hfarK : ∀ {w' : World} {fv : Value} {far : Int → Option Int}, FarAt w' fv far k → FarAt w' fv far (k + 1) := by
    intro w' fv far h
    rcases h with h | ⟨m, D, hv, ho, hD⟩
    · exact .inl h
    · exact .inr ⟨m, D, hv, ho.mono (by omega), hD⟩
  by_cases hlt : off < (ds.length : Int)
  · -- the dense row has the place
    obtain ⟨o, rfl⟩ := Int.eq_ofNat_of_zero_le hb.1
    obtain ⟨g, cap, rfl⟩ := own_at hA.dense (by omega)
    have ho : o < ds.length := by omega
    obtain ⟨cur, hg⟩ := own_block hA.dense
    have hcell : w.cell? ⟨g, o, none⟩ = some (.int .i64 (ds.getD o 0)) := by
      rw [hA.dense.cellAt o (by omega)]
      simp [List.getElem?_eq_getElem ho]
    refine (put_dense R g ds.length cap n capn an fv first slot pos o _ w hA.reader hoff (by omega) hn ho hcell (hA.dense.frozenAt o) hp0 (by omega)).mono ?_
    rintro e w' ⟨rfl, rfl⟩
    have ht : Touches w (w.setCell ⟨g, o, none⟩ (.int .i64 (pos + 1))) (some g) 4 := touches_setCell hg
    refine ⟨rfl, ⟨ds.set o (pos + 1), far, _, fv, ⟨ht.block hA.reader (by simp [kind]), ?_, hfarK (ht.far hA.farAt (by decide)), ht.nodes hN (by decide), by simpa using hsm, ?_, hA.baseR, hA.baseD, hA.baseN, hA.baseF⟩, fun x hx => ?_⟩, Keeps.touch ht (fun q hq => hA.baseD q hq) (.inr (.inl rfl))⟩
    · have := (hA.dense.stored o (.int .i64 (pos + 1))).1
      rw [List.length_set, List.map_set]
      exact this
    · intro z hz
      rcases List.mem_or_eq_of_mem_set hz with hz | rfl
      · exact hA.range z hz
      · omega
    · rw [ix_set ds far o pos x ho hp0 (bounds_u64 hx).1, hf x hx]
  · by_cases hlim : off < 2 * (n : Int) + 1024
    · -- the dense row grows
      obtain ⟨o, rfl⟩ := Int.eq_ofNat_of_zero_le hb.1
      obtain ⟨ad, cap, rfl⟩ := own_form hA.dense
      obtain ⟨N, hN3, hNo, hNl⟩ : ∃ N, ((2 * ds.length ≤ o + 1 ∧ N = o + 1) ∨ (o + 1 < 2 * ds.length ∧ 2 * ds.length ≤ 2 * n + 1024 ∧ N = 2 * ds.length) ∨ (o + 1 < 2 * ds.length ∧ 2 * n + 1024 < 2 * ds.length ∧ N = 2 * n + 1024)) ∧ o < N ∧ N ≤ 2 * n + 1024 := by
        by_cases h1 : 2 * ds.length ≤ o + 1
        · exact ⟨o + 1, .inl ⟨h1, rfl⟩, by omega, by omega⟩
        · by_cases h2 : 2 * ds.length ≤ 2 * n + 1024
          · exact ⟨2 * ds.length, .inr (.inl ⟨by omega, h2, rfl⟩), by omega, by omega⟩
          · exact ⟨2 * n + 1024, .inr (.inr ⟨by omega, by omega, rfl⟩), by omega, by omega⟩
      refine (put_grow R ds.length cap n capn N ad an fv first slot pos o _ w hA.reader hoff (by omega) hn (by omega) (by omega) hN3 hA.dense hp0 (by omega)).mono ?_
      rintro e w' ⟨rfl, g', c', w1, ho1, hm, rfl⟩
      obtain ⟨row, ht1, hrow⟩ := hm.touches hA.dense
      have hR1 := ht1.block hA.reader (by simp [kind])
      have ht2 : Touches w1 (w1.setCell ⟨R, 1, none⟩ (.slice (some ⟨g', 0, none⟩) N c')) (some R) 38 := touches_setCell hR1
      have ho2 := ht2.row ho1 (by decide)
      have hR2 : (w1.setCell ⟨R, 1, none⟩ (.slice (some ⟨g', 0, none⟩) N c')).heap[R]? = some (.cells (readerCells (.slice (some ⟨g', 0, none⟩) N c') fv (.slice an n capn) first) 37 (0, 0)) :=
        heap_setCell_same w1 R 1 _ 37 _ hR1
      obtain ⟨cur2, hg2⟩ := own_block ho2
      have ht3 : Touches (w1.setCell ⟨R, 1, none⟩ (.slice (some ⟨g', 0, none⟩) N c')) ((w1.setCell ⟨R, 1, none⟩ (.slice (some ⟨g', 0, none⟩) N c')).setCell ⟨g', o, none⟩ (.int .i64 (pos + 1))) (some g') 4 := touches_setCell hg2
      have hbg : B ≤ g' := by
        rcases hm with ⟨h, _⟩ | ⟨⟨q, h, hq⟩, _⟩
        · exact hA.baseD g' h.symm
        · simp only [Value.ownBlock, Option.some.injEq] at h
          omega
      have hlen : (ds ++ List.replicate (N - ds.length) (0 : Int)).length = N := by simp; omega
      refine ⟨rfl, ⟨(ds ++ List.replicate (N - ds.length) 0).set o (pos + 1), far, .slice (some ⟨g', 0, none⟩) N c', fv,
        ⟨ht3.block hR2 (by simp [kind]), ?_, hfarK (ht3.far (ht2.far (ht1.far hA.farAt (by decide)) (by decide)) (by decide)), ht3.nodes (ht2.nodes (ht1.nodes hN (by decide)) (by decide)) (by decide), ?_, ?_, hA.baseR, ?_, hA.baseN, hA.baseF⟩, fun x hx => ?_⟩, ?_⟩
      · have := (ho2.stored o (.int .i64 (pos + 1))).1
        rw [List.length_set, hlen, List.map_set, List.map_append, List.map_replicate]
        exact this
      · rw [List.length_set, hlen]
        exact hNl
      · intro z hz
        rcases List.mem_or_eq_of_mem_set hz with hz | rfl
        · rcases List.mem_append.1 hz with hz | hz
          · exact hA.range z hz
          · rw [(List.mem_replicate.1 hz).2]
            omega
        · omega
      · intro g h
        simp only [Value.ownBlock, Option.some.injEq] at h
        omega
      · have hx0 := (bounds_u64 hx).1
        rw [ix_set _ far o pos x (by rw [hlen]; exact hNo) hp0 hx0, ix_grow ds far _ x hx0, hf x hx]
      · exact ((Keeps.touch ht1 (fun q hq => hA.baseD q (hrow q hq)) (.inr (.inl rfl))).trans (Keeps.touch ht2 (fun q hq => by simp at hq; have := hA.baseR; omega) (.inr (.inr (.inl rfl))))).trans (Keeps.touch ht3 (fun q hq => by simp at hq; omega) (.inr (.inl rfl)))
    · -- the far map takes it
      obtain ⟨ad, cap, rfl⟩ := own_form hA.dense
      rcases hA.farAt with ⟨rfl, hnone⟩ | ⟨m, dat, rfl, hown, hD⟩
      · refine (put_far_nil R ds.length cap n capn ad an first slot pos off w hA.reader hoff hwf hsm hn (by omega) hp0 (by omega)).mono ?_
        rintro e w' ⟨rfl, hown', hg⟩
        have ht1 : Touches w (w.setCell ⟨R, 2, none⟩ (.map (some w.heap.size))) (some R) 38 := touches_setCell hA.reader
        have hR1 : (w.setCell ⟨R, 2, none⟩ (.map (some w.heap.size))).heap[R]? = some (.cells (readerCells (.slice ad ds.length cap) (.map (some w.heap.size)) (.slice an n capn) first) 37 (0, 0)) := heap_setCell_same w R 2 _ 37 _ hA.reader
        have ht2 := touches_alloc (w.setCell ⟨R, 2, none⟩ (.map (some w.heap.size))) (.map #[] 0) 0
        have ht3 : Touches ((w.setCell ⟨R, 2, none⟩ (.map (some w.heap.size))).alloc (.map #[] 0)) w' (some w.heap.size) 0 := by
          refine ⟨hg, fun q oq hq hb => ?_⟩
          obtain rfl := Option.some.inj hq
          have hnew := heap_alloc_new (w.setCell ⟨R, 2, none⟩ (.map (some w.heap.size))) (.map #[] 0)
          rw [show (w.setCell ⟨R, 2, none⟩ (.map (some w.heap.size))).heap.size = w.heap.size by simp] at hnew
          rw [hnew] at hb
          obtain rfl := Option.some.inj hb
          rfl
        refine ⟨rfl, ⟨ds, fun y => if y = off then some pos else far y, .slice ad ds.length cap, .map (some w.heap.size), ⟨ht3.block (ht2.block hR1 (by simp [kind])) (by simp [kind]), ht3.row (ht2.row (ht1.row hA.dense (by decide)) (by decide)) (by decide),
          ?_, ht3.nodes (ht2.nodes (ht1.nodes hN (by decide)) (by decide)) (by decide), hsm, hA.range, hA.baseR, hA.baseD, hA.baseN, ?_⟩, fun x hx => ?_⟩, ?_⟩
        · have hfp := far_put (far := far) hwf (fun x hx => ⟨by rw [hnone x]; rfl, fun v hv => by rw [hnone x] at hv; cases hv⟩) isMap_empty hown'
          rcases hfp with hfp | ⟨m, D, hv, ho, hD⟩
          · exact .inl hfp
          · exact .inr ⟨m, D, hv, ho.mono (by omega), hD⟩
        · intro m hm
          simp only [Value.map.injEq, Option.some.injEq] at hm
          omega
        · rw [ix_far ds far off pos x (by omega), hf x hx]
        · exact ((Keeps.touch ht1 (fun q hq => by simp at hq; have := hA.baseR; omega) (.inr (.inr (.inl rfl)))).trans (Keeps.touch ht2 (fun q hq => by cases hq) (.inl rfl))).trans (Keeps.touch ht3 (fun q hq => by simp at hq; omega) (.inl rfl))
      · refine (put_far_some R ds.length cap n capn m k ad an dat first slot pos off w hA.reader hoff hwf hsm hn (by omega) hp0 (by omega) (by omega) hown).mono ?_
        rintro e w' ⟨rfl, hown', hg⟩
        have ht : Touches w w' (some m) 0 := by
          refine ⟨hg, fun q oq hq hb => ?_⟩
          obtain rfl := Option.some.inj hq
          obtain ⟨es, clock, hbm, _⟩ := hown
          rw [hbm] at hb
          obtain rfl := Option.some.inj hb
          rfl
        exact ⟨rfl, ⟨ds, fun y => if y = off then some pos else far y, .slice ad ds.length cap, .map (some m), ⟨ht.block hA.reader (by simp [kind]), ht.row hA.dense (by decide), far_put hwf hD hown.isMap hown', ht.nodes hN (by decide), hsm, hA.range, hA.baseR, hA.baseD, hA.baseN, hA.baseF⟩,
          fun x hx => by rw [ix_far ds far off pos x (by omega), hf x hx]⟩, Keeps.touch ht (fun q hq => hA.baseF q (by rw [Option.some.inj hq])) (.inl rfl)⟩

end Go.Proofs.YbulkbxymFmt
