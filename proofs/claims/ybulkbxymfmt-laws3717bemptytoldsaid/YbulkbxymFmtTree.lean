/-
  THE FORK TREE IN MEMORY, as a function from a slot's offset to the block's number; '(*Tree).Index', '(*Tree).Has', '(*Reader).knownRoot' by their contracts (functions 12, 9, 6).
-/
import Derived.Test.YbulkbxymFmtFacts
import Derived.Maps.OwnSet
import Derived.OpenShut
namespace Go.Proofs.YbulkbxymFmt
open Go.RowKit Go.Maps Go.ChangeMaps Go.MapKept

theorem hide {p : Prop} (h : p) : Hid p := h

/-- A Reader's block: its tree's dense row, far map, nodes and root's slot; all else as it was made. -/
def readerCells (dv fv nv : Value) (first : Int) : Array Value :=
  #[.pointer none, dv, fv, nv, .int .u64 first, .map none, .slice none 0 0, .int .u64 0, .int .i64 0, .map none, .nilIface]

/-- The block's number that the dense row and the far map give for an offset. -/
def ixAt (ds : List Int) (far : Int → Option Int) (off : Int) : Option Int :=
  if off < (ds.length : Int) ∧ ds.getD off.toNat 0 ≠ 0 then some (ds.getD off.toNat 0 - 1) else far off

theorem law22 : Keyed Ybaf.prog 22 := int_keyed Ybaf.underlying22
theorem zero3 (w : World) : (zeroValue 3).run Ybaf.prog w = .ok (.int .i64 0) w := by kernel_rfl

/-- The far map: nil, or a map of at most k entries that reads as 'far'. -/
def FarAt (w : World) (fv : Value) (far : Int → Option Int) (k : Nat) : Prop :=
  (fv = .map none ∧ ∀ x, far x = none) ∨
  ∃ m, ∃ D : DataW Unit, fv = .map (some m) ∧ w.ownsMap Ybaf.prog 22 (plainElem Ybaf.prog 3) m k D ∧
    ∀ x, (Lit.int .u64 x).wf = true → Maps.has D (.int .u64 x) = (far x).isSome ∧ ∀ v, far x = some v → D.atKey (.int .u64 x) (.lit (.int .i64 0)) = .lit (.int .i64 v)

theorem FarAt.look {w : World} {fv : Value} {far : Int → Option Int} {k : Nat} (h : FarAt w fv far k) (x : Int) (hx : (Lit.int .u64 x).wf = true) :
    ∃ c, (Instr.lookup 25 fv (.int .u64 x) true).run Ybaf.prog w = .ok (.tuple #[.int .i64 c, .bool (far x).isSome]) w ∧ ∀ v, far x = some v → c = v := by
  have hkey := keyOf_int_mk (P := Ybaf.prog) Ybaf.underlying22 hx
  rcases h with ⟨rfl, hn⟩ | ⟨m, D, rfl, hown, hD⟩
  · refine ⟨0, ?_, fun v hv => by rw [hn x] at hv; cases hv⟩
    rw [hn x, Maps.look_nil true law22 Ybaf.underlying25 (zero3 w) hkey]
    rfl
  · obtain ⟨v, ps, hrun, hv⟩ := hown.look_ok law22 Ybaf.underlying25 (zero3 w) (plainElem_int Ybaf.underlying3 (by decide)) hkey
    obtain ⟨c, rfl, hc, _⟩ := plainElem_int_inv Ybaf.underlying3 hv
    refine ⟨c, by rw [← (hD x hx).1]; exact hrun, fun v hv => ?_⟩
    have h1 := (hD x hx).2 v hv
    have h2 := congrArg Prod.fst hc
    simp only at h2
    rw [h1] at h2
    simpa using h2.symm

/-- The nodes: n of them, each with a jump to one of them. -/
def NodesAt (w : World) (nv : Value) (n : Nat) : Prop :=
  ∃ xs, w.ownsRow 0 48 4 nv n xs ∧ ∀ i, i < n → ∃ s p j d : Int, xs[i * 4]? = some (.int .u64 s) ∧ xs[i * 4 + 1]? = some (.int .i64 p) ∧ xs[i * 4 + 2]? = some (.int .i64 j) ∧ xs[i * 4 + 3]? = some (.int .i64 d) ∧ 0 ≤ j ∧ j < n

structure TreeAt (w : World) (B R : Nat) (first : Int) (n k : Nat) (ds : List Int) (far : Int → Option Int) (dv fv nv : Value) : Prop where
  reader : w.heap[R]? = some (.cells (readerCells dv fv nv first) 37 (0, 0))
  dense : w.ownsRow 0 3 1 dv ds.length (ds.map (Value.int .i64))
  farAt : FarAt w fv far k
  nodes : NodesAt w nv n
  small : ds.length ≤ 2 * n + 1024
  range : ∀ z ∈ ds, 0 ≤ z ∧ z ≤ n
  baseR : B ≤ R
  baseD : ∀ g, dv.ownBlock = some g → B ≤ g
  baseN : ∀ g, nv.ownBlock = some g → B ≤ g
  baseF : ∀ m, fv = .map (some m) → B ≤ m

/-- The Reader in block R holds a tree of n blocks, its root at slot 'first'; 'f': from an offset to the block's number. All its blocks have numbers from B on. -/
def Tree (w : World) (B R : Nat) (first : Int) (f : Int → Option Int) (n : Nat) : Prop :=
  ∃ ds far dv fv nv, TreeAt w B R first n n ds far dv fv nv ∧ ∀ x, (Lit.int .u64 x).wf = true → ixAt ds far x = f x

/-- A slice that owns at least one element: where it lies. -/
theorem own_at {w : World} {e : TypeId} {size : Nat} {v : Value} {n : Nat} {xs : List Value} (h : w.ownsRow 0 e size v n xs) (hn : 0 < n) : ∃ g cap, v = .slice (some ⟨g, 0, none⟩) n cap := by
  rcases h.2 with ⟨_, h⟩ | ⟨g, cap, _, h, _⟩
  · omega
  · exact ⟨g, cap, h⟩

theorem own_form {w : World} {e : TypeId} {size : Nat} {v : Value} {n : Nat} {xs : List Value} (h : w.ownsRow 0 e size v n xs) : ∃ ao cap, v = .slice ao n cap := by
  rcases h.2 with ⟨rfl, rfl⟩ | ⟨g, cap, _, h, _⟩
  · exact ⟨_, _, rfl⟩
  · exact ⟨_, _, h⟩

set_option maxHeartbeats 400000 in
set_option maxRecDepth 100000 in
theorem index_far (R : Nat) (ao : Option Addr) (D cap : Nat) (fv nv : Value) (first slot off : Int) (r : Int) (ok : Bool) (w : World) (hR : w.heap[R]? = some (.cells (readerCells (.slice ao D cap) fv nv first) 37 (0, 0)))
    (hoff : IntKind.u64.wrap (slot - first) = off) (hD : D ≤ 10000) (hge : (D : Int) ≤ off) (hlook : (Instr.lookup 25 fv (.int .u64 off) true).run Ybaf.prog w = .ok (.tuple #[.int .i64 r, .bool ok]) w) :
    Calls Ybaf.prog 12 #[.pointer (some ⟨R, 1, none⟩), .int .u64 slot] w fun e w' => e = .returned (.tuple #[.int .i64 r, .bool ok]) ∧ w = w' := by
  have c1 := cell_of_row w R 1 _ 37 (0, 0) hR
  have c2 := cell_of_row w R 2 _ 37 (0, 0) hR
  have c4 := cell_of_row w R 4 _ 37 (0, 0) hR
  simp [readerCells] at c1 c2 c4
  clear hR
  go_enter Ybaf.func12, Ybaf.ntmps12
  go_wp2
  go_ret2
  exact ⟨rfl, rfl⟩

set_option maxHeartbeats 400000 in
set_option maxRecDepth 100000 in
theorem index_zero (R g D cap : Nat) (fv nv : Value) (first slot : Int) (off : Nat) (r : Int) (ok : Bool) (w : World) (hR : w.heap[R]? = some (.cells (readerCells (.slice (some ⟨g, 0, none⟩) D cap) fv nv first) 37 (0, 0)))
    (hoff : IntKind.u64.wrap (slot - first) = off) (hD : D ≤ 10000) (hlt : off < D) (hz : w.cell? ⟨g, off, none⟩ = some (.int .i64 0)) (hlook : (Instr.lookup 25 fv (.int .u64 off) true).run Ybaf.prog w = .ok (.tuple #[.int .i64 r, .bool ok]) w) :
    Calls Ybaf.prog 12 #[.pointer (some ⟨R, 1, none⟩), .int .u64 slot] w fun e w' => e = .returned (.tuple #[.int .i64 r, .bool ok]) ∧ w = w' := by
  have c1 := cell_of_row w R 1 _ 37 (0, 0) hR
  have c2 := cell_of_row w R 2 _ 37 (0, 0) hR
  have c4 := cell_of_row w R 4 _ 37 (0, 0) hR
  simp [readerCells] at c1 c2 c4
  clear hR
  go_enter Ybaf.func12, Ybaf.ntmps12
  go_wp2
  go_ret2
  exact ⟨rfl, rfl⟩

set_option maxHeartbeats 400000 in
set_option maxRecDepth 100000 in
theorem index_dense (R g D cap : Nat) (fv nv : Value) (first slot : Int) (off : Nat) (z : Int) (w : World) (hR : w.heap[R]? = some (.cells (readerCells (.slice (some ⟨g, 0, none⟩) D cap) fv nv first) 37 (0, 0)))
    (hoff : IntKind.u64.wrap (slot - first) = off) (hD : D ≤ 10000) (hlt : off < D) (hz : w.cell? ⟨g, off, none⟩ = some (.int .i64 z)) (hz0 : (z != 0) = true) (hz1 : 0 ≤ z) (hz2 : z ≤ 10000) :
    Calls Ybaf.prog 12 #[.pointer (some ⟨R, 1, none⟩), .int .u64 slot] w fun e w' => e = .returned (.tuple #[.int .i64 (z - 1), .bool true]) ∧ w = w' := by
  have c1 := cell_of_row w R 1 _ 37 (0, 0) hR
  have c2 := cell_of_row w R 2 _ 37 (0, 0) hR
  have c4 := cell_of_row w R 4 _ 37 (0, 0) hR
  simp [readerCells] at c1 c2 c4
  clear hR
  go_enter Ybaf.func12, Ybaf.ntmps12
  go_wp2
  go_ret2
  exact ⟨rfl, rfl⟩

/-- '(*Tree).Index'. -/
theorem index_any (B R n : Nat) (first slot : Int) (f : Int → Option Int) (w : World) (hn : n ≤ 2000) (hT : Tree w B R first f n) :
    Calls Ybaf.prog 12 #[.pointer (some ⟨R, 1, none⟩), .int .u64 slot] w fun e w' =>
      (∃ r, e = .returned (.tuple #[.int .i64 r, .bool (f (IntKind.u64.wrap (slot - first))).isSome]) ∧ ∀ i, f (IntKind.u64.wrap (slot - first)) = some i → r = i) ∧ w = w' := by
  obtain ⟨ds, far, dv, fv, nv, hA, hf⟩ := hT
  have hwf : (Lit.int .u64 (IntKind.u64.wrap (slot - first))).wf = true := wf_wrap _ _
  generalize hoff : IntKind.u64.wrap (slot - first) = off at hwf ⊢
  have hb := bounds_u64 hwf
  have hfx := hf off hwf
  obtain ⟨c, hrun, hc⟩ := hA.farAt.look off hwf
  have hsm := hA.small
  by_cases hlt : off < (ds.length : Int)
  · obtain ⟨k, rfl⟩ := Int.eq_ofNat_of_zero_le hb.1
    obtain ⟨g, cap, rfl⟩ := own_at hA.dense (by omega)
    have hk : k < ds.length := by omega
    have hcell : w.cell? ⟨g, k, none⟩ = some (.int .i64 (ds.getD k 0)) := by
      rw [hA.dense.cellAt k (by omega)]
      simp [List.getElem?_eq_getElem hk]
    have hrg := hA.range (ds.getD k 0) (by simp [List.getElem?_eq_getElem hk])
    by_cases hz : ds.getD k 0 = 0
    · rw [hz] at hcell
      have e1 : f k = far k := by
        rw [← hfx, ixAt, if_neg]
        rintro ⟨_, h⟩
        exact h (by simpa using hz)
      rw [e1]
      refine (index_zero R g ds.length cap fv nv first slot k c (far k).isSome w hA.reader hoff (by omega) hk hcell hrun).mono ?_
      rintro e w' ⟨rfl, rfl⟩
      exact ⟨⟨c, rfl, hc⟩, rfl⟩
    · have e1 : f k = some (ds.getD k 0 - 1) := by
        rw [← hfx, ixAt, if_pos ⟨hlt, by simpa using hz⟩]
        simp
      rw [e1]
      refine (index_dense R g ds.length cap fv nv first slot k (ds.getD k 0) w hA.reader hoff (by omega) hk hcell (by rw [bne_iff_ne]; exact hz) hrg.1 (by omega)).mono ?_
      rintro e w' ⟨rfl, rfl⟩
      exact ⟨⟨_, rfl, fun i hi => Option.some.inj hi⟩, rfl⟩
  · obtain ⟨ao, cap, rfl⟩ := own_form hA.dense
    have e1 : f off = far off := by
      rw [← hfx, ixAt, if_neg]
      rintro ⟨h, _⟩
      exact hlt h
    rw [e1]
    refine (index_far R ao ds.length cap fv nv first slot off c (far off).isSome w hA.reader hoff (by omega) (by omega) hrun).mono ?_
    rintro e w' ⟨rfl, rfl⟩
    exact ⟨⟨c, rfl, hc⟩, rfl⟩

set_option maxHeartbeats 400000 in
/-- '(*Tree).Has'. -/
theorem has_any (B R n : Nat) (first slot : Int) (f : Int → Option Int) (w : World) (hn : n ≤ 2000) (hT : Tree w B R first f n) :
    Calls Ybaf.prog 9 #[.pointer (some ⟨R, 1, none⟩), .int .u64 slot] w fun e w' => e = .returned (.bool (f (IntKind.u64.wrap (slot - first))).isSome) ∧ w = w' := by
  have HI := hide (index_any B R n first slot f w hn hT)
  generalize f (IntKind.u64.wrap (slot - first)) = o at HI ⊢
  generalize o.isSome = b at HI ⊢
  go_enter Ybaf.func9, Ybaf.ntmps9
  go_wp2_with fail
  refine HI.out.mono ?_
  rintro e w' ⟨⟨r, rfl, _⟩, rfl⟩
  clear HI
  go_wp2_with fail
  go_ret
  exact ⟨rfl, rfl⟩

set_option maxHeartbeats 400000 in
/-- '(*Reader).knownRoot' at a block of the tree. -/
theorem known_yes (B R n : Nat) (first slot : Int) (f : Int → Option Int) (w : World) (hn : n ≤ 2000) (hT : Tree w B R first f n) (hok : (f (IntKind.u64.wrap (slot - first))).isSome = true) :
    Calls Ybaf.prog 6 #[.pointer (some ⟨R, 0, none⟩), .int .u64 slot] w fun e w' => e = .returned .nilIface ∧ w = w' := by
  have H := hide hok
  clear hok
  go_enter Ybaf.func6, Ybaf.ntmps6
  go_wp2_with fail
  refine (has_any B R n first slot f w hn hT).mono ?_
  rw [H.out]
  rintro e w' ⟨rfl, rfl⟩
  go_wp2_with fail
  go_ret
  exact ⟨rfl, rfl⟩

set_option maxHeartbeats 400000 in
/-- '(*Reader).knownRoot' at another slot: a new error. -/
theorem known_no (B R n : Nat) (first slot : Int) (f : Int → Option Int) (w : World) (hn : n ≤ 2000) (hT : Tree w B R first f n) (hok : (f (IntKind.u64.wrap (slot - first))).isSome = false) :
    Calls Ybaf.prog 6 #[.pointer (some ⟨R, 0, none⟩), .int .u64 slot] w fun e w' => (∃ a, e = .returned (.iface 55 (.pointer (some a)))) ∧ Below w.heap.size w w' := by
  have H := hide hok
  clear hok
  go_enter Ybaf.func6, Ybaf.ntmps6
  go_wp2_with fail
  refine (has_any B R n first slot f w hn hT).mono ?_
  rw [H.out]
  rintro e w' ⟨rfl, rfl⟩
  go_wp2_with fail
  refine (errorf_root slot w.heap.size _ (by simp)).mono ?_
  rintro e w' ⟨rfl, s, rfl⟩
  go_wp2_with fail
  go_ret
  exact ⟨⟨_, rfl⟩, (((Below.refl _ _).alloc (Nat.le_refl _) _).alloc (by simp) _).drew⟩

end Go.Proofs.YbulkbxymFmt
