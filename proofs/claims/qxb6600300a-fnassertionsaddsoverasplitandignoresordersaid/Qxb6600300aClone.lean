import Derived.Test.Qxb6600300aCount
import Derived.Test.Qxb6600300aWorld
namespace Go.Proofs.Qxb6600300a
open Go.RowKit

theorem Try.info30 : (Try.prog.info? 30).map (fun i => (i.zero, i.size, i.bytes)) = some (some (.agg #[.int .i64 0, .int .i64 0]), 2, 16) := by kernel_rfl

/-- a new row of n pairs of noughts -/
def zeros30 (n : Nat) : Obj := .cells (madeCells #[.int .i64 0, .int .i64 0] (n * 2)) 30

theorem make22 (n : Nat) (hn : n ≤ 65536) (w : World) :
    (Instr.makeSlice 22 (.int .i64 (n : Int)) (.int .i64 (n : Int))).run Try.prog w = .ok (.slice (some ⟨w.heap.size, 0, none⟩) n n) (w.alloc (zeros30 n)) := by
  obtain ⟨i, hi, hz, hs, hb⟩ := info_parts Try.info30
  have := run_make (P := Try.prog) w 22 30 i _ Try.underlying22 hi hz .i64 .i64 n n (by omega) (Int.le_refl _) (by rw [hb]; omega) (by omega)
  rw [this, hs]
  rfl

theorem make22_0 (w : World) :
    (Instr.makeSlice 22 (.int .i64 0) (.int .i64 0)).run Try.prog w = .ok (.slice (some ⟨w.heap.size, 0, none⟩) 0 0) (w.alloc (zeros30 0)) := make22 0 (by decide) w

theorem row_zeros (w : World) (n : Nat) : Row (w.alloc (zeros30 n)) w.heap.size (n * 2) := Row.made _ _ _ _ (by rw [size_madeCells]; exact Nat.le_refl _)

set_option maxHeartbeats 1000000 in
theorem clone_some (b off n cap : Nat) (A L : Nat → Int) (w : World) (hn : n ≤ 65536) (hbw : b < w.heap.size) (hP : Pairs w b off n A L) :
    Calls Try.prog 9 #[.slice (some ⟨b, off, none⟩) n cap] w fun e w' =>
      e = .returned (.slice (some ⟨w.heap.size, 0, none⟩) n n) ∧ Below w.heap.size w w' ∧ Pairs w' w.heap.size 0 n A L ∧ w.heap.size < w'.heap.size := by
  have hmk := make22 n hn
  have hq := fun w => Lib.run_eql_slice_nil (P := Try.prog) w 22 30 (some ⟨b, off, none⟩) n cap 0 0 Try.underlying22
  have HP : Hid (Pairs w b off n A L) := hP
  clear hP
  go_enter Try.func9, Try.ntmps9
  go_wp2
  go_loopw [4] (fun i wr => ∃ k : Nat, k ≤ n ∧ i = .int .i64 k ∧ Pairs wr w.heap.size 0 k A L ∧ Row wr w.heap.size (n * 2) ∧ Below w.heap.size w wr) (fun i _ => n - (intOf i).toNat)
  case atStart => exact ⟨0, Nat.zero_le _, rfl, fun j hj => by omega, row_zeros w n, (Below.refl _ _).alloc (Nat.le_refl _) _⟩
  case round =>
    obtain ⟨k, hk, rfl, hp, hr, hbel⟩ := hrel
    have HR : Hid (Pairs wr w.heap.size 0 k A L ∧ Row wr w.heap.size (n * 2) ∧ Below w.heap.size w wr) := ⟨hp, hr, hbel⟩
    clear hp hr hbel hmk hq
    by_cases hlt : k < n
    · obtain ⟨v0, f0⟩ := HR.out.2.1.has (k * 2) (by omega)
      obtain ⟨v1, f1⟩ := HR.out.2.1.has (k * 2 + 1) (by omega)
      have z0 := HR.out.2.1.free (k * 2)
      have z1 := HR.out.2.1.free (k * 2 + 1)
      have g0 := (HR.out.2.2.cell (p := ⟨b, off + k * 2, none⟩) hbw).trans (HP.out k hlt).1
      have g1 := (HR.out.2.2.cell (p := ⟨b, off + k * 2 + 1, none⟩) hbw).trans (HP.out k hlt).2
      go_wp2
      go_roundw
      case rel =>
        obtain ⟨hp, hr, hbel⟩ := HR.out
        refine ⟨k + 1, by omega, by go_num, fun j hj => ?_, (hr.setCell _ _).setCell _ _, (hbel.setCell (Nat.le_refl _) _).setCell (Nat.le_refl _) _⟩
        by_cases hjk : j = k
        · subst hjk; exact pair_same hr (by omega) _ _
        · exact pair_other hjk _ _ (hp j (by omega))
      case measure => simp [intOf]; omega
    · go_wp2
      go_ret
      obtain ⟨hp, hr, hbel⟩ := HR.out
      have hkn : k = n := by omega
      subst hkn
      exact ⟨rfl, hbel, hp, hr.lt⟩

/-- an empty slice, nil or not -/
theorem clone_zero (a : Option Addr) (cap : Nat) (w : World) :
    Calls Try.prog 9 #[.slice a 0 cap] w fun e w' => (∃ a' : Option Addr, e = .returned (.slice a' 0 0)) ∧ Below w.heap.size w w' := by
  cases a with
  | none =>
    have hq := fun w => Lib.run_eql_slice_nil (P := Try.prog) w 22 30 none 0 cap 0 0 Try.underlying22
    go_enter Try.func9, Try.ntmps9
    go_wp2
    go_ret
    exact ⟨⟨none, rfl⟩, Below.refl _ _⟩
  | some a =>
    have hmk := make22_0
    have hq := fun w => Lib.run_eql_slice_nil (P := Try.prog) w 22 30 (some a) 0 cap 0 0 Try.underlying22
    go_enter Try.func9, Try.ntmps9
    go_wp2
    refine wp_loop_rounds 1 ?_
    rw [rounds_succ]
    go_wp2
    go_ret
    exact ⟨⟨_, rfl⟩, (Below.refl _ _).alloc (Nat.le_refl _) _⟩
end Go.Proofs.Qxb6600300a
