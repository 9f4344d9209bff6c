import Derived.Test.Qxb6600300aClone
namespace Go.Proofs.Qxb6600300a
open Go.RowKit

abbrev es : Value := .string ⟨#[]⟩
abbrev ns : Value := .slice none 0 0
theorem Try.info85 : (Try.prog.info? 85).map (fun i => (i.zero, i.size, i.bytes)) = some (some (.agg #[es, es, es, es, es, es]), 6, 96) := by kernel_rfl
theorem Try.info87 : (Try.prog.info? 87).map (fun i => (i.zero, i.size, i.bytes)) = some (some (.agg #[es, es, .int .i64 0]), 3, 40) := by kernel_rfl
theorem Try.info52 : (Try.prog.info? 52).map (fun i => (i.zero, i.size, i.bytes)) = some (some (.agg #[es, ns, ns, ns]), 4, 88) := by kernel_rfl
theorem Try.info89 : (Try.prog.info? 89).map (fun i => (i.zero, i.size, i.bytes)) = some (some (.agg #[es, es, es, .bool false, ns, .int .i64 0]), 6, 88) := by kernel_rfl
theorem Try.info92 : (Try.prog.info? 92).map (fun i => (i.zero, i.size, i.bytes)) = some (some (.agg #[es, es, es, es, ns, ns, ns, .int .i64 0]), 8, 144) := by kernel_rfl

def obj44 (n : Nat) : Obj := .cells (madeCells #[es, es, es, es, es, es] (n * 6)) 85
def obj46 (n : Nat) : Obj := .cells (madeCells #[es, es, .int .i64 0] (n * 3)) 87
def obj45 (n : Nat) : Obj := .cells (madeCells #[es, ns, ns, ns] (n * 4)) 52
def obj49 (n : Nat) : Obj := .cells (madeCells #[es, es, es, .bool false, ns, .int .i64 0] (n * 6)) 89
def obj50 (n : Nat) : Obj := .cells (madeCells #[es, es, es, es, ns, ns, ns, .int .i64 0] (n * 8)) 92

theorem make44_3 (w : World) : (Instr.makeSlice 44 (.int .i64 3) (.int .i64 3)).run Try.prog w = .ok (.slice (some ⟨w.heap.size, 0, none⟩) 3 3) (w.alloc (obj44 3)) := by
  obtain ⟨i, hi, hz, hs, hb⟩ := info_parts Try.info85
  have := run_make (P := Try.prog) w 44 85 i _ Try.underlying44 hi hz .i64 .i64 3 3 (by decide) (Int.le_refl _) (by rw [hb]; decide) (by decide)
  rw [this, hs]; rfl
theorem make44_1 (w : World) : (Instr.makeSlice 44 (.int .i64 1) (.int .i64 1)).run Try.prog w = .ok (.slice (some ⟨w.heap.size, 0, none⟩) 1 1) (w.alloc (obj44 1)) := by
  obtain ⟨i, hi, hz, hs, hb⟩ := info_parts Try.info85
  have := run_make (P := Try.prog) w 44 85 i _ Try.underlying44 hi hz .i64 .i64 1 1 (by decide) (Int.le_refl _) (by rw [hb]; decide) (by decide)
  rw [this, hs]; rfl
theorem make46_1 (w : World) : (Instr.makeSlice 46 (.int .i64 1) (.int .i64 1)).run Try.prog w = .ok (.slice (some ⟨w.heap.size, 0, none⟩) 1 1) (w.alloc (obj46 1)) := by
  obtain ⟨i, hi, hz, hs, hb⟩ := info_parts Try.info87
  have := run_make (P := Try.prog) w 46 87 i _ Try.underlying46 hi hz .i64 .i64 1 1 (by decide) (Int.le_refl _) (by rw [hb]; decide) (by decide)
  rw [this, hs]; rfl
theorem make45 (n : Nat) (hn : n ≤ 65536) (w : World) : (Instr.makeSlice 45 (.int .i64 (n : Int)) (.int .i64 (n : Int))).run Try.prog w = .ok (.slice (some ⟨w.heap.size, 0, none⟩) n n) (w.alloc (obj45 n)) := by
  obtain ⟨i, hi, hz, hs, hb⟩ := info_parts Try.info52
  have := run_make (P := Try.prog) w 45 52 i _ Try.underlying45 hi hz .i64 .i64 n n (by omega) (Int.le_refl _) (by rw [hb]; omega) (by omega)
  rw [this, hs]; rfl
theorem make49 (x : Int) (h0 : 0 ≤ x) (h1 : x ≤ 65537) (w : World) : (Instr.makeSlice 49 (.int .i64 x) (.int .i64 x)).run Try.prog w = .ok (.slice (some ⟨w.heap.size, 0, none⟩) x.toNat x.toNat) (w.alloc (obj49 x.toNat)) := by
  obtain ⟨i, hi, hz, hs, hb⟩ := info_parts Try.info89
  have := run_make (P := Try.prog) w 49 89 i _ Try.underlying49 hi hz .i64 .i64 x x h0 (Int.le_refl _) (by rw [hb]; omega) (by omega)
  rw [this, hs]; rfl
theorem make50 (x : Int) (h0 : 0 ≤ x) (h1 : x ≤ 65537) (w : World) : (Instr.makeSlice 50 (.int .i64 x) (.int .i64 x)).run Try.prog w = .ok (.slice (some ⟨w.heap.size, 0, none⟩) x.toNat x.toNat) (w.alloc (obj50 x.toNat)) := by
  obtain ⟨i, hi, hz, hs, hb⟩ := info_parts Try.info92
  have := run_make (P := Try.prog) w 50 92 i _ Try.underlying50 hi hz .i64 .i64 x x h0 (Int.le_refl _) (by rw [hb]; omega) (by omega)
  rw [this, hs]; rfl

/-- what the loop of 'buildFile' holds behind k rounds -/
structure Mid (w wr : World) (fb tb n k : Nat) (A L : Nat → Int) : Prop where
  file : wr.cell? ⟨fb, 4, none⟩ = some (.slice (some ⟨tb, 0, none⟩) n n)
  done : TestsAt wr tb k A L
  row : Row wr tb (n * 4)
  bel : Below w.heap.size w wr

theorem tests_keep {W W' : World} {tb k : Nat} {A L : Nat → Int} (h : TestsAt W tb k A L) (hc : ∀ q, q < k * 4 → W'.cell? ⟨tb, q, none⟩ = W.cell? ⟨tb, q, none⟩) : TestsAt W' tb k A L := by
  intro i hi
  obtain ⟨s, a1, a2, a3, l1, c1, l2, c2, l3, c3, g0, g1, g2, g3, e⟩ := h i hi
  exact ⟨s, a1, a2, a3, l1, c1, l2, c2, l3, c3, (hc _ (by omega)).trans g0, (hc _ (by omega)).trans g1, (hc _ (by omega)).trans g2, (hc _ (by omega)).trans g3, e⟩

theorem Mid.store {w W : World} {fb tb n k : Nat} {A L : Nat → Int} (h : Mid w W fb tb n k A L) (hfb : fb < tb) (hB : w.heap.size ≤ tb) (q : Nat) (hq : k * 4 ≤ q) (v : Value) : Mid w (W.setCell ⟨tb, q, none⟩ v) fb tb n k A L :=
  ⟨(World.cell?_setCell_other _ _ _ _ (by simp <;> omega)).trans h.file, tests_keep h.done fun q' hq' => World.cell?_setCell_other _ _ _ _ (by simp <;> omega), h.row.setCell _ _, h.bel.setCell hB _⟩

theorem Mid.alloc {w W : World} {fb tb n k : Nat} {A L : Nat → Int} (h : Mid w W fb tb n k A L) (hfb : fb < tb) (o : Obj) : Mid w (W.alloc o) fb tb n k A L :=
  ⟨(World.cell?_alloc_past _ _ _ (by have := h.row.lt; omega)).trans h.file, tests_keep h.done fun q' _ => World.cell?_alloc_past _ _ _ h.row.lt, h.row.alloc o, h.bel.alloc h.bel.size o⟩

theorem Mid.drew {w W : World} {fb tb n k : Nat} {A L : Nat → Int} (h : Mid w W fb tb n k A L) : Mid w W.drew fb tb n k A L := ⟨h.file, h.done, h.row.drew, h.bel.drew⟩

/-- what a region that makes a slice and stores it into cell q leaves -/
theorem Mid.after {w W : World} {fb tb n k : Nat} {A L : Nat → Int} (h : Mid w W fb tb n k A L) (hfb : fb < tb) (hB : w.heap.size ≤ tb) (q : Nat) (hq : k * 4 ≤ q) (hqn : q < n * 4) (v : Value) (o : Obj) :
    Mid w ((W.setCell ⟨tb, q, none⟩ v).alloc o).drew fb tb n k A L ∧ ((W.setCell ⟨tb, q, none⟩ v).alloc o).drew.cell? ⟨tb, q, none⟩ = some v ∧
      ∀ q', q' ≠ q → ((W.setCell ⟨tb, q, none⟩ v).alloc o).drew.cell? ⟨tb, q', none⟩ = W.cell? ⟨tb, q', none⟩ := by
  have hs := h.store hfb hB q hq v
  obtain ⟨u, hu⟩ := h.row.has q hqn
  refine ⟨(hs.alloc hfb o).drew, ?_, fun q' hne => ?_⟩
  · rw [World.cell?_drew, World.cell?_alloc_past _ _ _ hs.row.lt]; exact World.cell?_setCell_same _ _ _ hu
  · rw [World.cell?_drew, World.cell?_alloc_past _ _ _ hs.row.lt]; exact World.cell?_setCell_other _ _ _ _ (by simp <;> omega)

/-- what the walk of such a region wants to know -/
theorem Mid.ready {w W : World} {fb tb n k : Nat} {A L : Nat → Int} (h : Mid w W fb tb n k A L) (hfb : fb < tb) (q : Nat) (hqn : q < n * 4) :
    (∀ o : Obj, (W.alloc o).cell? ⟨fb, 4, none⟩ = some (.slice (some ⟨tb, 0, none⟩) n n)) ∧ (∃ u, ∀ o : Obj, (W.alloc o).cell? ⟨tb, q, none⟩ = some u) ∧ (∀ o : Obj, (W.alloc o).frozen? ⟨tb, q, none⟩ = false) := by
  obtain ⟨u, hu⟩ := h.row.has q hqn
  exact ⟨fun o => (h.alloc hfb o).file, ⟨u, fun o => (World.cell?_alloc_past _ _ _ h.row.lt).trans hu⟩, fun o => (h.row.alloc o).free q⟩

theorem Mid.src {w W : World} {fb tb n k : Nat} {A L : Nat → Int} (h : Mid w W fb tb n k A L) {b off m : Nat} (hbw : b < w.heap.size) (hP : Pairs w b off m A L) {j : Nat} (hj : j < m) :
    W.cell? ⟨b, off + j * 2, none⟩ = some (.int .i64 (A j)) ∧ W.cell? ⟨b, off + j * 2 + 1, none⟩ = some (.int .i64 (L j)) :=
  (hP.below h.bel hbw) j hj

theorem Mid.succ {w W : World} {fb tb n k : Nat} {A L : Nat → Int} (h : Mid w W fb tb n k A L) {s : ByteArray} {a1 a2 a3 : Option Addr} {l1 c1 : Nat} (g0 : W.cell? ⟨tb, k * 4, none⟩ = some (.string s)) (g1 : W.cell? ⟨tb, k * 4 + 1, none⟩ = some (.slice a1 l1 c1))
    (g2 : W.cell? ⟨tb, k * 4 + 2, none⟩ = some (.slice a2 (A k).toNat (A k).toNat)) (g3 : W.cell? ⟨tb, k * 4 + 3, none⟩ = some (.slice a3 (L k).toNat (L k).toNat)) (hA : 0 ≤ A k) (hL : 0 ≤ L k) : Mid w W fb tb n (k + 1) A L := by
  refine ⟨h.file, fun i hi => ?_, h.row, h.bel⟩
  by_cases e : i = k
  · subst e
    exact ⟨s, a1, a2, a3, l1, c1, _, _, _, _, g0, g1, g2, g3, by omega, by omega⟩
  · exact h.done i (by omega)

theorem mid_start (w : World) (n : Nat) (A L : Nat → Int) (c : Array Value) (t : TypeId) (o1 o2 : Obj) (hc : c[4]? = some (.slice (some ⟨w.heap.size + 1 + 1 + 1, 0, none⟩) n n)) :
    Mid w ((((w.alloc (.cells c t)).alloc o1).alloc o2).alloc (obj45 n)) w.heap.size (w.heap.size + 1 + 1 + 1) n 0 A L := by
  have hs : (((w.alloc (.cells c t)).alloc o1).alloc o2).heap.size = w.heap.size + 1 + 1 + 1 := by simp
  refine ⟨?_, fun i hi => by omega, ?_, ?_⟩
  · rw [World.cell?_alloc_past _ _ _ (by simp; omega), World.cell?_alloc_past _ _ _ (by simp; omega), World.cell?_alloc_past _ _ _ (by simp), World.cell?_alloc_at _ _ _ _ rfl]
    exact hc
  · have := Row.made (((w.alloc (.cells c t)).alloc o1).alloc o2) (madeCells #[es, ns, ns, ns] (n * 4)) 52 (n * 4) (by rw [size_madeCells]; exact Nat.le_refl _)
    rw [hs] at this
    exact this
  · exact ((((Below.refl _ _).alloc (Nat.le_refl _) _).alloc (by simp) _).alloc (by simp; omega) _).alloc (by simp; omega) _

set_option maxHeartbeats 2000000 in
theorem build_some (b off n cap : Nat) (A L : Nat → Int) (w : World) (hn : n ≤ 65536) (hn0 : 0 < n) (hbw : b < w.heap.size) (hP : Pairs w b off n A L) (hA : ∀ i, i < n → 0 ≤ A i ∧ A i ≤ 65537 ∧ 0 ≤ L i ∧ L i ≤ 65537) :
    Calls Try.prog 10 #[.slice (some ⟨b, off, none⟩) n cap] w fun e w' => ∃ tb : Nat, e = .returned (.pointer (some ⟨w.heap.size, 0, none⟩)) ∧
      w'.cell? ⟨w.heap.size, 4, none⟩ = some (.slice (some ⟨tb, 0, none⟩) n n) ∧ TestsAt w' tb n A L ∧ tb < w'.heap.size ∧ Below w.heap.size w w' := by
  have k1 := make44_3
  have k2 := make46_1
  have k3 := make45 n hn
  have HP : Hid (Pairs w b off n A L) := hP
  have HA : Hid (∀ i, i < n → 0 ≤ A i ∧ A i ≤ 65537 ∧ 0 ≤ L i ∧ L i ≤ 65537) := hA
  clear hP hA
  go_enter Try.func10, Try.ntmps10
  go_wp2
  go_loopw [4] (fun i wr => ∃ k : Nat, k ≤ n ∧ i = .int .i64 k ∧ Mid w wr w.heap.size (w.heap.size + 1 + 1 + 1) n k A L) (fun i _ => n - (intOf i).toNat)
  case atStart => exact ⟨0, Nat.zero_le _, rfl, mid_start w n A L _ _ _ _ rfl⟩
  case round =>
    obtain ⟨k, hk, rfl, hm⟩ := hrel
    have HM : Hid (Mid w wr w.heap.size (w.heap.size + 1 + 1 + 1) n k A L) := hm
    clear hm k1 k2 k3
    by_cases hlt : k < n
    · obtain ⟨u0, f0⟩ := HM.out.row.has (k * 4) (by omega)
      have z0 := HM.out.row.free (k * 4)
      have fl := HM.out.file
      obtain ⟨p1, p2, p3, p4⟩ := HA.out k hlt
      have hI : (k : Int) < (n : Int) := by omega
      have hfb : w.heap.size < w.heap.size + 1 + 1 + 1 := by omega
      have hB : w.heap.size ≤ w.heap.size + 1 + 1 + 1 := by omega
      go_wp2
      have HC0 : Hid ((wr.setCell { block := w.heap.size + 1 + 1 + 1, off := k * 4 } (Value.string { data := #[116, 101, 115, 116] })).cell? ⟨w.heap.size + 1 + 1 + 1, k * 4, none⟩ = some (.string ⟨#[116, 101, 115, 116]⟩)) := World.cell?_setCell_same _ _ _ f0
      have HM1 : Hid (Mid w (wr.setCell { block := w.heap.size + 1 + 1 + 1, off := k * 4 } (Value.string { data := #[116, 101, 115, 116] })) w.heap.size (w.heap.size + 1 + 1 + 1) n k A L) := HM.out.store hfb hB _ (Nat.le_refl _) _
      generalize wr.setCell { block := w.heap.size + 1 + 1 + 1, off := k * 4 } (Value.string { data := #[116, 101, 115, 116] }) = W1 at HC0 HM1 ⊢
      clear f0 z0 fl
      have r0 := HM1.out.file
      have r4 := HM1.out.row.lt
      obtain ⟨r1, ⟨u, r2⟩, r3⟩ := HM1.out.ready hfb (k * 4 + 1) (by omega)
      have m1 := make44_1
      go_region
      go_wp2
      clear r0 r1 r2 r3 r4 m1 u
      have HX1 : Hid (Mid w ((W1.setCell { block := w.heap.size + 1 + 1 + 1, off := k * 4 + 1 } (Value.slice (some { block := W1.heap.size, off := 0 }) 1 1)).alloc (obj44 1)).drew w.heap.size (w.heap.size + 1 + 1 + 1) n k A L ∧ ((W1.setCell { block := w.heap.size + 1 + 1 + 1, off := k * 4 + 1 } (Value.slice (some { block := W1.heap.size, off := 0 }) 1 1)).alloc (obj44 1)).drew.cell? ⟨w.heap.size + 1 + 1 + 1, k * 4, none⟩ = some (.string ⟨#[116, 101, 115, 116]⟩) ∧ ∃ a : Option Addr, ((W1.setCell { block := w.heap.size + 1 + 1 + 1, off := k * 4 + 1 } (Value.slice (some { block := W1.heap.size, off := 0 }) 1 1)).alloc (obj44 1)).drew.cell? ⟨w.heap.size + 1 + 1 + 1, k * 4 + 1, none⟩ = some (.slice a 1 1)) := by
        obtain ⟨M, c, ck⟩ := HM1.out.after hfb hB (k * 4 + 1) (by omega) (by omega) (Value.slice (some { block := W1.heap.size, off := 0 }) 1 1) (obj44 1)
        exact ⟨M, (ck _ (by omega)).trans HC0.out, _, c⟩
      generalize ((W1.setCell { block := w.heap.size + 1 + 1 + 1, off := k * 4 + 1 } (Value.slice (some { block := W1.heap.size, off := 0 }) 1 1)).alloc (obj44 1)).drew = W2 at HX1 ⊢
      clear HM1 HC0
      have r0 := HX1.out.1.file
      have r4 := HX1.out.1.row.lt
      obtain ⟨r1, ⟨u, r2⟩, r3⟩ := HX1.out.1.ready hfb (k * 4 + 2) (by omega)
      obtain ⟨s0, s1⟩ := HX1.out.1.src hbw HP.out hlt
      have m1 := make49 (A k) p1 p2
      go_region
      go_wp2
      clear r0 r1 r2 r3 r4 m1 u s0 s1
      have HX2 : Hid (Mid w ((W2.setCell { block := w.heap.size + 1 + 1 + 1, off := k * 4 + 2 } (Value.slice (some { block := W2.heap.size, off := 0 }) (A k).toNat (A k).toNat)).alloc (obj49 (A k).toNat)).drew w.heap.size (w.heap.size + 1 + 1 + 1) n k A L ∧ ((W2.setCell { block := w.heap.size + 1 + 1 + 1, off := k * 4 + 2 } (Value.slice (some { block := W2.heap.size, off := 0 }) (A k).toNat (A k).toNat)).alloc (obj49 (A k).toNat)).drew.cell? ⟨w.heap.size + 1 + 1 + 1, k * 4, none⟩ = some (.string ⟨#[116, 101, 115, 116]⟩) ∧ (∃ a : Option Addr, ((W2.setCell { block := w.heap.size + 1 + 1 + 1, off := k * 4 + 2 } (Value.slice (some { block := W2.heap.size, off := 0 }) (A k).toNat (A k).toNat)).alloc (obj49 (A k).toNat)).drew.cell? ⟨w.heap.size + 1 + 1 + 1, k * 4 + 1, none⟩ = some (.slice a 1 1)) ∧ ∃ a : Option Addr, ((W2.setCell { block := w.heap.size + 1 + 1 + 1, off := k * 4 + 2 } (Value.slice (some { block := W2.heap.size, off := 0 }) (A k).toNat (A k).toNat)).alloc (obj49 (A k).toNat)).drew.cell? ⟨w.heap.size + 1 + 1 + 1, k * 4 + 2, none⟩ = some (.slice a (A k).toNat (A k).toNat)) := by
        obtain ⟨M, c, ck⟩ := HX1.out.1.after hfb hB (k * 4 + 2) (by omega) (by omega) (Value.slice (some { block := W2.heap.size, off := 0 }) (A k).toNat (A k).toNat) (obj49 (A k).toNat)
        obtain ⟨a, ha⟩ := HX1.out.2.2
        exact ⟨M, (ck _ (by omega)).trans HX1.out.2.1, ⟨a, (ck _ (by omega)).trans ha⟩, _, c⟩
      generalize ((W2.setCell { block := w.heap.size + 1 + 1 + 1, off := k * 4 + 2 } (Value.slice (some { block := W2.heap.size, off := 0 }) (A k).toNat (A k).toNat)).alloc (obj49 (A k).toNat)).drew = W3 at HX2 ⊢
      clear HX1
      have r0 := HX2.out.1.file
      have r4 := HX2.out.1.row.lt
      obtain ⟨r1, ⟨u, r2⟩, r3⟩ := HX2.out.1.ready hfb (k * 4 + 3) (by omega)
      obtain ⟨s0, s1⟩ := HX2.out.1.src hbw HP.out hlt
      have m1 := make50 (L k) p3 p4
      go_region
      go_wp2
      clear r0 r1 r2 r3 r4 m1 u s0 s1
      go_roundw
      case rel =>
        obtain ⟨M, c, ck⟩ := HX2.out.1.after hfb hB (k * 4 + 3) (by omega) (by omega) (Value.slice (some { block := W3.heap.size, off := 0 }) (L k).toNat (L k).toNat) (obj50 (L k).toNat)
        obtain ⟨a, ha⟩ := HX2.out.2.2.1
        obtain ⟨a', ha'⟩ := HX2.out.2.2.2
        exact ⟨k + 1, by omega, by go_num, M.succ ((ck _ (by omega)).trans HX2.out.2.1) ((ck _ (by omega)).trans ha) ((ck _ (by omega)).trans ha') c p1 p3⟩
      case measure => simp [intOf]; omega
    · go_wp2
      go_ret
      have hkn : k = n := by omega
      subst hkn
      have hm := HM.out
      exact ⟨_, rfl, hm.file, hm.done, hm.row.lt, hm.bel⟩

/-- an empty slice, nil or not -/
theorem build_zero (a : Option Addr) (cap : Nat) (w : World) :
    Calls Try.prog 10 #[.slice a 0 cap] w fun e w' => e = .returned (.pointer (some ⟨w.heap.size, 0, none⟩)) ∧ w'.cell? ⟨w.heap.size, 4, none⟩ = some (.slice none 0 0) ∧ Below w.heap.size w w' := by
  have k1 := make44_3
  have k2 := make46_1
  go_enter Try.func10, Try.ntmps10
  go_wp2
  refine wp_loop_rounds 1 ?_
  rw [rounds_succ]
  go_wp2
  go_ret
  refine ⟨rfl, ?_, (((Below.refl _ _).alloc (Nat.le_refl _) _).alloc (by simp) _).alloc (by simp; omega) _⟩
  rw [World.cell?_alloc_past _ _ _ (by simp; omega), World.cell?_alloc_past _ _ _ (by simp), World.cell?_alloc_at _ _ _ _ rfl]
  rfl

/-- the file in block fb holds n tests of A i and L i assertions -/
def FileAt (w : World) (fb n : Nat) (A L : Nat → Int) : Prop :=
  (n = 0 ∧ w.cell? ⟨fb, 4, none⟩ = some (.slice none 0 0)) ∨ ∃ tb : Nat, w.cell? ⟨fb, 4, none⟩ = some (.slice (some ⟨tb, 0, none⟩) n n) ∧ TestsAt w tb n A L ∧ tb < w.heap.size

/-- the n counts behind an address -/
def Src (w : World) (a : Option Addr) (n : Nat) (A L : Nat → Int) : Prop := 0 < n → ∃ b off, a = some ⟨b, off, none⟩ ∧ b < w.heap.size ∧ Pairs w b off n A L

def BuildEnd (w w' : World) (n : Nat) (A L : Nat → Int) (e : Ending) : Prop := ∃ fb : Nat, e = .returned (.pointer (some ⟨fb, 0, none⟩)) ∧ FileAt w' fb n A L ∧ Below w.heap.size w w'

theorem build_any (a : Option Addr) (n cap : Nat) (A L : Nat → Int) (w : World) (hn : n ≤ 65536) (hs : Src w a n A L) (hA : ∀ i, i < n → 0 ≤ A i ∧ A i ≤ 65537 ∧ 0 ≤ L i ∧ L i ≤ 65537) :
    Calls Try.prog 10 #[.slice a n cap] w fun e w' => BuildEnd w w' n A L e := by
  rcases Nat.eq_zero_or_pos n with h0 | h0
  · subst h0
    refine (build_zero a cap w).mono ?_
    rintro e w' ⟨rfl, h1, h2⟩
    exact ⟨_, rfl, Or.inl ⟨rfl, h1⟩, h2⟩
  · obtain ⟨b, off, rfl, hb, hp⟩ := hs h0
    refine (build_some b off n cap A L w hn h0 hb hp hA).mono ?_
    rintro e w' ⟨tb, rfl, h1, h2, h3, h4⟩
    exact ⟨_, rfl, Or.inr ⟨tb, h1, h2, h3⟩, h4⟩

theorem assertions_any (fb n : Nat) (A L : Nat → Int) (w : World) (hF : FileAt w fb n A L) (hn : n ≤ 65536) (hb : ∀ k, k ≤ n → 0 ≤ tot A L k ∧ tot A L k ≤ 65537) :
    Calls Try.prog 11 #[.pointer (some ⟨fb, 0, none⟩)] w fun e w' => e = .returned (.int .i64 (tot A L n)) ∧ Below w.heap.size w w' := by
  rcases hF with ⟨rfl, h⟩ | ⟨tb, h1, h2, h3⟩
  · exact assertions_none fb w h
  · exact assertions_some fb tb n A L w h1 h2 hn hb h3

end Go.Proofs.Qxb6600300a
