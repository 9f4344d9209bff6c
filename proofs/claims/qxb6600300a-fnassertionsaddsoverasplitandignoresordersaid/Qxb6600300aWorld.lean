import Derived.WalkKit
import Derived.WalkSpells
import Derived.WalkLawsBesides
import Derived.RowKit3
namespace Go.Proofs.Qxb6600300a
open Go.RowKit

/-! ### WORLDS: no Go text in sight -/

/-- a row of m cells of the call's own, that may be written -/
structure Row (w : World) (g m : Nat) : Prop where
  has : ∀ j, j < m → ∃ v, w.cell? ⟨g, j, none⟩ = some v
  free : ∀ j, w.frozen? ⟨g, j, none⟩ = false
  lt : g < w.heap.size

theorem Row.setCell {w : World} {g m : Nat} (h : Row w g m) (p : Addr) (v : Value) : Row (w.setCell p v) g m := by
  refine ⟨fun j hj => ?_, fun j => (World.frozen?_setCell _ _ _ _).trans (h.free j), by simpa [World.setCell] using h.lt⟩
  obtain ⟨u, hu⟩ := h.has j hj
  by_cases e : p = ⟨g, j, none⟩
  · subst e; exact ⟨v, World.cell?_setCell_same _ _ _ hu⟩
  · exact ⟨u, (World.cell?_setCell_other _ _ _ _ e).trans hu⟩

theorem Row.alloc {w : World} {g m : Nat} (h : Row w g m) (o : Obj) : Row (w.alloc o) g m :=
  ⟨fun j hj => by obtain ⟨u, hu⟩ := h.has j hj; exact ⟨u, (World.cell?_alloc_past _ _ _ h.lt).trans hu⟩, fun j => (World.frozen?_alloc_past _ _ _ h.lt).trans (h.free j), by have := h.lt; simp; omega⟩

theorem Row.drew {w : World} {g m : Nat} (h : Row w g m) : Row w.drew g m := ⟨h.has, h.free, h.lt⟩
theorem Row.drewN {w : World} {g m : Nat} (h : Row w g m) (n : Nat) : Row (w.drewN n) g m := ⟨h.has, h.free, h.lt⟩

theorem Row.made (w : World) (c : Array Value) (t : TypeId) (m : Nat) (hm : m ≤ c.size) : Row (w.alloc (.cells c t)) w.heap.size m :=
  ⟨fun j hj => ⟨c[j]'(by omega), by rw [World.cell?_alloc_at _ _ _ _ rfl]; exact Array.getElem?_eq_getElem (by omega)⟩, fun j => World.frozen?_alloc_at _ _ _ _ rfl, by simp⟩

/-- cells 2j and 2j+1 of block g, from off on, hold a and l -/
def PairAt (w : World) (g off j : Nat) (a l : Int) : Prop := w.cell? ⟨g, off + j * 2, none⟩ = some (.int .i64 a) ∧ w.cell? ⟨g, off + j * 2 + 1, none⟩ = some (.int .i64 l)

def Pairs (w : World) (g off k : Nat) (A L : Nat → Int) : Prop := ∀ j, j < k → PairAt w g off j (A j) (L j)

theorem pair_same {w : World} {g m k : Nat} (h : Row w g m) (hk : k * 2 + 1 < m) (a l : Int) :
    PairAt ((w.setCell ⟨g, k * 2, none⟩ (.int .i64 a)).setCell ⟨g, k * 2 + 1, none⟩ (.int .i64 l)) g 0 k a l := by
  obtain ⟨u, hu⟩ := h.has (k * 2) (by omega)
  obtain ⟨v, hv⟩ := (h.setCell ⟨g, k * 2, none⟩ (.int .i64 a)).has (k * 2 + 1) hk
  unfold PairAt
  rw [Nat.zero_add]
  exact ⟨(World.cell?_setCell_other _ _ _ _ (by simp)).trans (World.cell?_setCell_same _ _ _ hu), World.cell?_setCell_same _ _ _ hv⟩

theorem pair_other {w : World} {g k j : Nat} (hne : j ≠ k) (x y : Value) {a l : Int} (h : PairAt w g 0 j a l) :
    PairAt ((w.setCell ⟨g, k * 2, none⟩ x).setCell ⟨g, k * 2 + 1, none⟩ y) g 0 j a l := by
  unfold PairAt at h ⊢
  rw [Nat.zero_add] at h ⊢
  exact ⟨((World.cell?_setCell_other _ _ _ _ (by simp <;> omega)).trans (World.cell?_setCell_other _ _ _ _ (by simp <;> omega))).trans h.1,
    ((World.cell?_setCell_other _ _ _ _ (by simp <;> omega)).trans (World.cell?_setCell_other _ _ _ _ (by simp <;> omega))).trans h.2⟩

theorem Pairs.below {B : Nat} {w w' : World} {g off k : Nat} {A L : Nat → Int} (hb : Below B w w') (hg : g < B) (h : Pairs w g off k A L) : Pairs w' g off k A L :=
  fun j hj => ⟨(hb.cell (p := ⟨g, off + j * 2, none⟩) hg).trans (h j hj).1, (hb.cell (p := ⟨g, off + j * 2 + 1, none⟩) hg).trans (h j hj).2⟩

theorem bt {w w1 w2 : World} (h : Below w.heap.size w w1) (k : Below w1.heap.size w1 w2) : Below w.heap.size w w2 := h.trans (k.mono h.size)
end Go.Proofs.Qxb6600300a
