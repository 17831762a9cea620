/-
  Small facts on lists and worlds that the walks of this seat share.
-/
import Derived.Test.YbulkbxymFind
import Derived.WalkSpells
namespace Go.Proofs.Ybulkbxym
open Go.RowKit

theorem hide {p : Prop} (h : p) : Hid p := h

/-- The first k numbers laid, the rest still zero. -/
def filled (zs : List Int) (f : Int → Value) (z : Value) (m k : Nat) : List Value := (zs.take k).map f ++ List.replicate (m - k) z

theorem filled_zero (zs : List Int) (f : Int → Value) (z : Value) (m : Nat) : filled zs f z m 0 = List.replicate m z := by simp [filled]

theorem filled_all (zs : List Int) (f : Int → Value) (z : Value) (m : Nat) : filled zs f z m m = (zs.take m).map f := by simp [filled]

theorem filled_succ (zs : List Int) (f : Int → Value) (z : Value) (m k : Nat) (hk : k < m) (hm : m ≤ zs.length) : (filled zs f z m k).set k (f (zs.getD k 0)) = filled zs f z m (k + 1) := by
  have hk' : k < zs.length := by omega
  unfold filled
  rw [List.set_append_right _ _ (by simp; omega), List.take_succ_eq_append_getElem hk', List.map_append, List.append_assoc]
  congr 1
  have : k - ((zs.take k).map f).length = 0 := by simp; omega
  rw [this, show m - k = (m - (k + 1)) + 1 by omega, List.replicate_succ, List.set_cons_zero]
  simp [List.getElem?_eq_getElem hk']

/-- One round of a loop that fills a row of the call's own. -/
theorem fill_step {w wr : World} {base g m cap k : Nat} {e : TypeId} {zs : List Int} {f : Int → Value} {z : Value} (hown : wr.ownsRow base e 1 (.slice (some ⟨g, 0, none⟩) m cap) m (filled zs f z m k))
    (hbel : Below w.heap.size w wr) (hk : k < m) (hm : m ≤ zs.length) (hg : w.heap.size ≤ g) :
    (∃ y, wr.cell? ⟨g, k, none⟩ = some y) ∧ wr.frozen? ⟨g, k, none⟩ = false ∧
    Hid ((wr.setCell ⟨g, k, none⟩ (f (zs.getD k 0))).ownsRow base e 1 (.slice (some ⟨g, 0, none⟩) m cap) m (filled zs f z m (k + 1)) ∧ Below w.heap.size w (wr.setCell ⟨g, k, none⟩ (f (zs.getD k 0)))
      ∧ wr.grownBy (wr.setCell ⟨g, k, none⟩ (f (zs.getD k 0))) (some g)) := by
  have hl : (filled zs f z m k).length = m := by simpa using hown.1
  refine ⟨⟨(filled zs f z m k)[k], by rw [hown.cellAt k (by omega), List.getElem?_eq_getElem]⟩, hown.frozenAt k, ?_⟩
  have hst := hown.stored k (f (zs.getD k 0))
  rw [filled_succ _ _ _ _ _ hk hm] at hst
  exact ⟨hst.1, hbel.setCell hg _, hst.2⟩

theorem assert_item (z : Int) (w : World) : (Instr.typeAssert (.iface 25 (.agg #[.int .i64 z])) 27 25 true).run Yba.prog w = .ok (.tuple #[.agg #[.int .i64 z], .bool true]) w := by kernel_rfl

/-- A row of findings that is not nil: where it lies, and what is read there. -/
theorem own_at {w : World} {v : Value} {n : Nat} {xs : List Value} (h : w.ownsRow 0 27 1 v n xs) (hn : 0 < n) : ∃ g cap, v = .slice (some ⟨g, 0, none⟩) n cap := by
  rcases h.2 with ⟨_, h⟩ | ⟨g, cap, _, h, _⟩
  · omega
  · exact ⟨g, cap, h⟩

theorem own_item {w : World} {g n cap k j : Nat} {xs : List Value} {zs : List Int} (h : w.ownsRow 0 27 1 (.slice (some ⟨g, 0, none⟩) n cap) n (xs ++ zs.map item)) (hk : k < zs.length) (hj : j = xs.length + k) :
    w.cell? ⟨g, j, none⟩ = some (.iface 25 (.agg #[.int .i64 (zs.getD k 0)])) := by
  subst hj
  have := h.1
  rw [h.cellAt _ (by simp at this; omega), List.getElem?_append_right (by omega), Nat.add_sub_cancel_left, List.getElem?_map, List.getElem?_eq_getElem hk]
  simp [item, List.getElem?_eq_getElem hk]

/-- A row that the call made, its length its capacity: the whole block. -/
theorem block_of_full {w : World} {base g n : Nat} {e : TypeId} {xs : List Value} (h : w.ownsRow base e 1 (.slice (some ⟨g, 0, none⟩) n n) n xs) : w.heap[g]? = some (.cells xs.toArray e (0, 0)) := by
  rcases h.2 with ⟨h', _⟩ | ⟨g', cap', cur, h', _, hg, _, _, hcs, htake⟩
  · simp at h'
  · simp only [Value.slice.injEq, Option.some.injEq, Addr.mk.injEq, and_true, true_and] at h'
    obtain ⟨rfl, rfl⟩ := h'
    rw [hg, ← htake, List.take_of_length_le (by simp [hcs])]

/-- What the walk is told of a slice of integers that came in. -/
def Came (w : World) (a : Option Addr) (len : Nat) (zs : List Int) : Prop :=
  len ≤ zs.length ∧ ∀ k, k < len → ∃ x, a = some x ∧ w.cell? (x.add k) = some (.int .i64 (zs.getD k 0))

theorem Came.later {w wr : World} {a : Option Addr} {len : Nat} {zs : List Int} (h : Came w a len zs) (hb : Below w.heap.size w wr) : Came wr a len zs :=
  ⟨h.1, fun k hk => by obtain ⟨x, hx, hc⟩ := h.2 k hk; exact ⟨x, hx, cell_later hb hc⟩⟩

end Go.Proofs.Ybulkbxym
