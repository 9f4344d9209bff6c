import Derived.Test.Qxb6600300aProg
import Derived.WalkKit
import Derived.WalkSpells
import Derived.WalkLawsBesides
import Derived.RowKit3
namespace Go.Proofs.Qxb6600300a
open Go.RowKit

/-- the assertions of the first k tests -/
def tot (A L : Nat → Int) : Nat → Int
  | 0 => 0
  | k + 1 => tot A L k + (A k + L k)

/-- no count is negative, and there are at most 65536 in all -/
structure Fit (n : Nat) (A L : Nat → Int) : Prop where
  len : n ≤ 65536
  pos : ∀ i, i < n → 0 ≤ A i ∧ 0 ≤ L i
  sum : tot A L n ≤ 65536

def FitEnd (n : Nat) (A L : Nat → Int) (e : Ending) : Prop := ∃ r : Bool, e = .returned (.bool r) ∧ (r = true → Fit n A L)

def FitAt (n : Nat) (A L : Nat → Int) (t i : Value) : Prop := ∃ k : Nat, k ≤ n ∧ i = .int .i64 k ∧ t = .int .i64 (tot A L k) ∧ 0 ≤ tot A L k ∧ tot A L k ≤ 65536 ∧ ∀ j, j < k → 0 ≤ A j ∧ 0 ≤ L j

set_option maxHeartbeats 1000000 in
theorem countsFit_any (b off n cap : Nat) (A L : Nat → Int) (w : World) (hn : n ≤ 9223372036854775807)
    (hA : ∀ i, i < n → w.cell? ⟨b, off + i * 2, none⟩ = some (.int .i64 (A i))) (hL : ∀ i, i < n → w.cell? ⟨b, off + i * 2 + 1, none⟩ = some (.int .i64 (L i))) :
    Calls Try.prog 8 #[.slice (some ⟨b, off, none⟩) n cap] w fun e w' => FitEnd n A L e ∧ w' = w := by
  by_cases hlen : 65536 < n
  · go_enter Try.func8, Try.ntmps8
    go_wp2
    go_ret
    exact ⟨⟨false, rfl, fun h => by cases h⟩, rfl⟩
  have HA : Hid (∀ i, i < n → w.cell? ⟨b, off + i * 2, none⟩ = some (.int .i64 (A i))) := hA
  have HL : Hid (∀ i, i < n → w.cell? ⟨b, off + i * 2 + 1, none⟩ = some (.int .i64 (L i))) := hL
  clear hA hL
  go_enter Try.func8, Try.ntmps8
  go_wp2
  go_loop [3, 4] (fun t i => FitAt n A L t i) (fun _ i => n - (intOf i).toNat)
  case atStart => exact ⟨0, Nat.zero_le _, rfl, rfl, by simp [tot], by simp [tot], fun j hj => by omega⟩
  case round =>
    obtain ⟨k, hk, rfl, rfl, h0, h1, hp⟩ := hrel
    have HP : Hid (∀ j, j < k → 0 ≤ A j ∧ 0 ≤ L j) := hp
    clear hp
    by_cases hlt : k < n
    · have ca := HA.out k hlt
      have cl := HL.out k hlt
      by_cases hc : (0 ≤ A k ∧ A k ≤ 65536) ∧ (0 ≤ L k ∧ L k ≤ 65536) ∧ tot A L k + (A k + L k) ≤ 65536
      · obtain ⟨⟨c1, c2⟩, ⟨c3, c4⟩, c5⟩ := hc
        go_wp2
        go_round
        case rel =>
          refine ⟨k + 1, by omega, by go_num, rfl, by simp only [tot]; omega, by simp only [tot]; omega, fun j hj => ?_⟩
          by_cases hjk : j = k
          · rw [hjk]; exact ⟨c1, c3⟩
          · exact HP.out j (by omega)
        case measure => simp [intOf]; omega
      · go_wp2
        all_goals first
          | (go_ret; exact ⟨⟨false, rfl, fun h => by cases h⟩, rfl⟩)
          | (exfalso; omega)
    · go_wp2
      go_ret
      refine ⟨⟨true, rfl, fun _ => ⟨by omega, fun i hi => HP.out i (by omega), ?_⟩⟩, rfl⟩
      have hkn : k = n := by omega
      rw [← hkn]; exact h1

/-- the same at an empty slice, nil or not -/
theorem countsFit_zero (a : Option Addr) (cap : Nat) (A L : Nat → Int) (w : World) :
    Calls Try.prog 8 #[.slice a 0 cap] w fun e w' => FitEnd 0 A L e ∧ w' = w := by
  go_enter Try.func8, Try.ntmps8
  go_wp2
  refine wp_loop_rounds 1 ?_
  rw [rounds_succ]
  go_wp2
  go_ret
  exact ⟨⟨true, rfl, fun _ => ⟨by omega, fun i hi => by omega, by simp [tot]⟩⟩, rfl⟩
end Go.Proofs.Qxb6600300a
