import Derived.Test.Qxb6600300aFit
import Derived.BigQuiet
import Derived.Deep.QuietTactic
namespace Go.Proofs.Qxb6600300a
open Go.RowKit

theorem ret_int {k : IntKind} {a b : Int} (h : a = b) : Ending.returned (.int k a) = .returned (.int k b) := by rw [h]

/-- the n tests that lie in block tb: four cells each; the third and fourth are slices of A i and L i elements -/
def TestsAt (w : World) (tb n : Nat) (A L : Nat → Int) : Prop :=
  ∀ i, i < n → ∃ (s : ByteArray) (a1 a2 a3 : Option Addr) (l1 c1 l2 c2 l3 c3 : Nat), w.cell? ⟨tb, i * 4, none⟩ = some (.string s) ∧ w.cell? ⟨tb, i * 4 + 1, none⟩ = some (.slice a1 l1 c1) ∧
    w.cell? ⟨tb, i * 4 + 2, none⟩ = some (.slice a2 l2 c2) ∧ w.cell? ⟨tb, i * 4 + 3, none⟩ = some (.slice a3 l3 c3) ∧ (l2 : Int) = A i ∧ (l3 : Int) = L i

/-- what the loop of 'Assertions' holds -/
def CountAt (n : Nat) (A L : Nat → Int) (t i : Value) : Prop := ∃ k : Nat, k ≤ n ∧ i = .int .i64 k ∧ t = .int .i64 (tot A L k)

set_option maxHeartbeats 1000000 in
theorem assertions_some (fb tb n : Nat) (A L : Nat → Int) (w : World) (hf : w.cell? ⟨fb, 4, none⟩ = some (.slice (some ⟨tb, 0, none⟩) n n)) (hT : TestsAt w tb n A L) (hn : n ≤ 65536)
    (hb : ∀ k, k ≤ n → 0 ≤ tot A L k ∧ tot A L k ≤ 65537) (htb : tb < w.heap.size) :
    Calls Try.prog 11 #[.pointer (some ⟨fb, 0, none⟩)] w fun e w' => e = .returned (.int .i64 (tot A L n)) ∧ Below w.heap.size w w' := by
  have HT : Hid (TestsAt w tb n A L) := hT
  have HB : Hid (∀ k, k ≤ n → 0 ≤ tot A L k ∧ tot A L k ≤ 65537) := hb
  clear hT hb
  go_enter Try.func11, Try.ntmps11
  go_wp2
  go_loopw [3, 11] (fun t i wr => CountAt n A L t i ∧ Below w.heap.size w wr) (fun _ i _ => n - (intOf i).toNat)
  case atStart => exact ⟨⟨0, Nat.zero_le _, rfl, rfl⟩, Below.refl _ _⟩
  case round =>
    obtain ⟨⟨k, hk, rfl, rfl⟩, hbel⟩ := hrel
    have HBel : Hid (Below w.heap.size w wr) := hbel
    have hsz := hbel.size
    by_cases hlt : k < n
    · obtain ⟨s, a1, a2, a3, l1, c1, l2, c2, l3, c3, g0, g1, g2, g3, e2, e3⟩ := HT.out k hlt
      have f0 := (hbel.cell (p := ⟨tb, k * 4, none⟩) htb).trans g0
      have f1 := (hbel.cell (p := ⟨tb, k * 4 + 1, none⟩) htb).trans g1
      have f2 := (hbel.cell (p := ⟨tb, k * 4 + 2, none⟩) htb).trans g2
      have f3 := (hbel.cell (p := ⟨tb, k * 4 + 3, none⟩) htb).trans g3
      have q1 := HB.out k hk
      have q2 := HB.out (k + 1) hlt
      simp only [tot] at q2
      have HE : Hid ((l2 : Int) = A k ∧ (l3 : Int) = L k) := ⟨e2, e3⟩
      rw [← e2, ← e3] at q2
      clear g0 g1 g2 g3 hbel e2 e3
      go_wp2
      go_roundw
      case rel =>
        refine ⟨⟨k + 1, by omega, by go_num, ?_⟩, ?_⟩
        · simp only [tot]; rw [← HE.out.1, ← HE.out.2]
        · exact HBel.out.alloc hsz _
      case measure => simp [intOf]; omega
    · clear hbel
      go_wp2
      go_ret
      refine ⟨ret_int ?_, HBel.out⟩
      have hkn : k = n := by omega
      rw [hkn]

theorem assertions_none (fb : Nat) (w : World) (hf : w.cell? ⟨fb, 4, none⟩ = some (.slice none 0 0)) :
    Calls Try.prog 11 #[.pointer (some ⟨fb, 0, none⟩)] w fun e w' => e = .returned (.int .i64 0) ∧ Below w.heap.size w w' := by
  go_enter Try.func11, Try.ntmps11
  go_wp2
  refine wp_loop_rounds 1 ?_
  rw [rounds_succ]
  go_wp2
  go_ret
  exact ⟨rfl, Below.refl _ _⟩
end Go.Proofs.Qxb6600300a
