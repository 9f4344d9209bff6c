import Derived.Test.Qxb6600300aTot
namespace Go.Proofs.Qxb6600300a
open Go.RowKit

theorem zz_yes (a : Option Addr) (n cap : Nat) (p : Int) (w : World) (h : n ≤ 1048576) :
    Calls Try.prog 7 #[.slice a n cap, .int .i64 p] w fun e w' => e = .returned (.bool true) ∧ w' = w := by
  go_enter Try.func7, Try.ntmps7
  go_wp2
  go_ret
  exact ⟨rfl, rfl⟩
theorem zz_no (a : Option Addr) (n cap : Nat) (p : Int) (w : World) (hm : n ≤ 9223372036854775807) (h : 1048576 < n) :
    Calls Try.prog 7 #[.slice a n cap, .int .i64 p] w fun e w' => e = .returned (.bool false) ∧ w' = w := by
  go_enter Try.func7, Try.ntmps7
  go_wp2
  go_ret
  exact ⟨rfl, rfl⟩

theorem Src.back {w : World} {g n : Nat} {A L : Nat → Int} (hg : g < w.heap.size) (h : Pairs w g 0 n A L) (k : Nat) (a : Option Addr) (ha : k < n → a = some ⟨g, k * 2, none⟩) : Src w a (n - k) (fun i => A (k + i)) (fun i => L (k + i)) := by
  intro h0
  refine ⟨g, k * 2, ha (by omega), hg, fun j hj => ?_⟩
  have := h (k + j) (by omega)
  unfold PairAt at this ⊢
  rw [show 0 + (k + j) * 2 = k * 2 + j * 2 by omega] at this
  exact this

/-- what stays behind each call: the clone's cells, and all that was there before the law was called -/
structure Keep (w0 W : World) (g n : Nat) (A L : Nat → Int) : Prop where
  pairs : Pairs W g 0 n A L
  lt : g < W.heap.size
  bel : Below w0.heap.size w0 W

theorem Keep.step {w0 W W' : World} {g n : Nat} {A L : Nat → Int} (h : Keep w0 W g n A L) (hb : Below W.heap.size W W') : Keep w0 W' g n A L :=
  ⟨h.pairs.below hb h.lt, Nat.lt_of_lt_of_le h.lt hb.size, bt h.bel hb⟩

theorem Keep.src {w0 W : World} {g n : Nat} {A L : Nat → Int} (h : Keep w0 W g n A L) {k : Nat} (hk : k ≤ n) : Src W (some ⟨g, 0, none⟩) k A L :=
  fun _ => ⟨g, 0, rfl, h.lt, fun j hj => h.pairs j (by omega)⟩

theorem Keep.set {w0 W : World} {g n rb : Nat} {A L : Nat → Int} (h : Keep w0 W g n A L) (hne : g < rb) (hB : w0.heap.size ≤ rb) (q : Nat) (v : Value) : Keep w0 (W.setCell ⟨rb, q, none⟩ v) g n A L :=
  ⟨fun j hj => ⟨(World.cell?_setCell_other _ _ _ _ (by simp <;> omega)).trans (h.pairs j hj).1, (World.cell?_setCell_other _ _ _ _ (by simp <;> omega)).trans (h.pairs j hj).2⟩, by simpa [World.setCell] using h.lt, h.bel.setCell hB _⟩

theorem Keep.alloc {w0 W : World} {g n : Nat} {A L : Nat → Int} (h : Keep w0 W g n A L) (o : Obj) : Keep w0 (W.alloc o) g n A L :=
  h.step ((Below.refl _ _).alloc (Nat.le_refl _) _)

/-- what the loop that turns the counts round holds behind k rounds; the new row lies in block rb -/
structure RevAt (w0 W : World) (g rb n k : Nat) (A L : Nat → Int) : Prop where
  keep : Keep w0 W g n A L
  row : Row W rb (n * 2)
  done : ∀ j, j < k → PairAt W rb 0 (n - 1 - j) (A j) (L j)

theorem RevAt.start {w0 W : World} {g n : Nat} {A L : Nat → Int} (h : Keep w0 W g n A L) : RevAt w0 (W.alloc (zeros30 n)) g W.heap.size n 0 A L :=
  ⟨h.alloc _, row_zeros W n, fun j hj => by omega⟩

theorem RevAt.next {w0 W : World} {g rb n k : Nat} {A L : Nat → Int} (h : RevAt w0 W g rb n k A L) (hg : g < rb) (hB : w0.heap.size ≤ rb) (hk : k < n) :
    RevAt w0 ((W.setCell ⟨rb, (n - 1 - k) * 2, none⟩ (.int .i64 (A k))).setCell ⟨rb, (n - 1 - k) * 2 + 1, none⟩ (.int .i64 (L k))) g rb n (k + 1) A L := by
  refine ⟨(h.keep.set hg hB _ _).set hg hB _ _, (h.row.setCell _ _).setCell _ _, fun j hj => ?_⟩
  by_cases e : j = k
  · subst e; exact pair_same h.row (by omega) _ _
  · exact pair_other (by omega) _ _ (h.done j (by omega))

theorem RevAt.all {w0 W : World} {g rb n : Nat} {A L : Nat → Int} (h : RevAt w0 W g rb n n A L) : Src W (some ⟨rb, 0, none⟩) n (fun i => A (n - 1 - i)) (fun i => L (n - 1 - i)) := by
  refine fun _ => ⟨rb, 0, rfl, h.row.lt, fun j hj => ?_⟩
  have := h.done (n - 1 - j) (by omega)
  rw [show n - 1 - (n - 1 - j) = j by omega] at this
  exact this

/-- the loop that copies them -/
structure CopyAt (w0 W : World) (g rb n k : Nat) (A L : Nat → Int) : Prop where
  keep : Keep w0 W g n A L
  row : Row W rb (n * 2)
  done : ∀ j, j < k → PairAt W rb 0 j (A j) (L j)

theorem CopyAt.start {w0 W : World} {g n : Nat} {A L : Nat → Int} (h : Keep w0 W g n A L) : CopyAt w0 (W.alloc (zeros30 n)) g W.heap.size n 0 A L :=
  ⟨h.alloc _, row_zeros W n, fun j hj => by omega⟩

theorem CopyAt.next {w0 W : World} {g rb n k : Nat} {A L : Nat → Int} (h : CopyAt w0 W g rb n k A L) (hg : g < rb) (hB : w0.heap.size ≤ rb) (hk : k < n) :
    CopyAt w0 ((W.setCell ⟨rb, k * 2, none⟩ (.int .i64 (A k))).setCell ⟨rb, k * 2 + 1, none⟩ (.int .i64 (L k))) g rb n (k + 1) A L := by
  refine ⟨(h.keep.set hg hB _ _).set hg hB _ _, (h.row.setCell _ _).setCell _ _, fun j hj => ?_⟩
  by_cases e : j = k
  · subst e; exact pair_same h.row (by omega) _ _
  · exact pair_other e _ _ (h.done j (by omega))

theorem CopyAt.bump {w0 W : World} {g rb n k : Nat} {A L : Nat → Int} (h : CopyAt w0 W g rb n n A L) (hg : g < rb) (hB : w0.heap.size ≤ rb) (hk : k < n) :
    Keep w0 (W.setCell ⟨rb, k * 2 + 1, none⟩ (.int .i64 (L k + 1))) g n A L ∧ Src (W.setCell ⟨rb, k * 2 + 1, none⟩ (.int .i64 (L k + 1))) (some ⟨rb, 0, none⟩) n A (fun j => if j = k then L j + 1 else L j) := by
  refine ⟨h.keep.set hg hB _ _, fun _ => ⟨rb, 0, rfl, by simpa [World.setCell] using h.row.lt, fun j hj => ?_⟩⟩
  obtain ⟨c0, c1⟩ := h.done j hj
  unfold PairAt
  rw [Nat.zero_add] at c0 c1 ⊢
  by_cases e : j = k
  · subst e
    show _ ∧ _ = some (Value.int IntKind.i64 (if j = j then L j + 1 else L j))
    rw [if_pos rfl]
    exact ⟨(World.cell?_setCell_other _ _ _ _ (by simp)).trans c0, World.cell?_setCell_same _ _ _ c1⟩
  · show _ ∧ _ = some (Value.int IntKind.i64 (if j = k then L j + 1 else L j))
    rw [if_neg e]
    exact ⟨(World.cell?_setCell_other _ _ _ _ (by simp <;> omega)).trans c0, (World.cell?_setCell_other _ _ _ _ (by simp <;> omega)).trans c1⟩

theorem sums_zero (A L : Nat → Int) (k : Nat) (h : k ≤ 0) : 0 ≤ tot A L k ∧ tot A L k ≤ 65537 := by
  have e : k = 0 := by omega
  subst e
  simp [tot]
end Go.Proofs.Qxb6600300a
