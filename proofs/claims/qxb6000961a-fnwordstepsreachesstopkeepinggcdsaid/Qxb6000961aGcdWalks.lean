import Derived.Test.Qxb6000961aWordWalks
namespace Go.Proofs.Qxb6000961a
open Go.RowKit
namespace Stein
theorem and1 (a : Nat) (ha : a < 18446744073709551616) : (bits BinOp.and IntKind.u64 (a : Int) 1 == 0) = decide (a % 2 = 0) := by
  rw [and_one_u64 _ (by omega) (by omega), Bool.eq_iff_iff]; simp; omega
theorem or1 (a b : Nat) (ha : a < 18446744073709551616) (hb : b < 18446744073709551616) :
    (bits BinOp.and IntKind.u64 (bits BinOp.or IntKind.u64 (a : Int) (b : Int)) 1 == 0) = decide (a % 2 = 0 ∧ b % 2 = 0) := by
  rw [bits_or_u64_nat a b ha hb, and1 _ (Nat.or_lt_two_pow (n := 64) ha hb)]
  have e : ((a ||| b) % 2 = 0) ↔ (a % 2 = 0 ∧ b % 2 = 0) := by
    have h : ((a ||| b) % 2 ^ 1) = (a % 2 ^ 1) ||| (b % 2 ^ 1) := Nat.or_mod_two_pow
    simp only [Nat.pow_one] at h
    rw [h]
    have h1 : a % 2 = 0 ∨ a % 2 = 1 := by omega
    have h2 : b % 2 = 0 ∨ b % 2 = 1 := by omega
    rcases h1 with h1 | h1 <;> rcases h2 with h2 | h2 <;> rw [h1, h2] <;> decide
  simp only [e]

/-! What each loop holds. -/
def At1 (A B G : Nat) (ta tb tk : Value) : Prop := ∃ a b k : Nat, ta = .int .u64 a ∧ tb = .int .u64 b ∧ tk = .int .u64 k ∧ 0 < a ∧ 0 < b ∧ a + k ≤ A ∧ b ≤ B ∧ Nat.gcd a b * 2 ^ k = G
def At2 (A b g : Nat) (ta : Value) : Prop := ∃ a : Nat, ta = .int .u64 a ∧ 0 < a ∧ a ≤ A ∧ (a % 2 = 0 → b % 2 = 1) ∧ Nat.gcd a b = g
def At3 (M g : Nat) (ta tb : Value) : Prop := ∃ a b : Nat, ta = .int .u64 a ∧ tb = .int .u64 b ∧ a % 2 = 1 ∧ a ≤ M ∧ b ≤ M ∧ Nat.gcd a b = g
def At4 (a b g : Nat) (tb : Value) : Prop := ∃ c : Nat, tb = .int .u64 c ∧ 0 < c ∧ c ≤ b ∧ Nat.gcd a c = g

theorem gcd1 (a b k G : Nat) (ha : a % 2 = 0) (hb : b % 2 = 0) (h : Nat.gcd a b * 2 ^ k = G) : Nat.gcd (a / 2) (b / 2) * 2 ^ (k + 1) = G := by
  rw [Steps.gcd_both a b ha hb] at h
  rw [← h, Nat.pow_succ, Nat.mul_comm 2, Nat.mul_assoc, Nat.mul_comm 2]

theorem shl_end (a k G A : Nat) (ha : 0 < a) (hk : a * 2 ^ k = G) (hG : G ≤ A) (hA : A < 18446744073709551616) : k < 64 ∧ IntKind.u64.wrap ((a : Int) * 2 ^ k) = (G : Int) := by
  have hk64 : k < 64 := by
    rcases Nat.lt_or_ge k 64 with h | h
    · exact h
    · have h1 := Nat.pow_le_pow_right (n := 2) (by decide) h
      have e : (2 : Nat) ^ 64 = 18446744073709551616 := by decide
      have h2 : 1 * 2 ^ k ≤ a * 2 ^ k := Nat.mul_le_mul_right _ ha
      omega
  refine ⟨hk64, ?_⟩
  have e : (a : Int) * 2 ^ k = ((a * 2 ^ k : Nat) : Int) := by simp
  rw [e, hk, IntKind.wrap_u64]
  omega

set_option maxHeartbeats 1000000 in
theorem binaryGcd_pos (A B : Nat) (hA : A < 18446744073709551616) (hB : B < 18446744073709551616) (hA0 : 0 < A) (hB0 : 0 < B) (w : World) :
    Calls Try.prog 28 #[.int .u64 A, .int .u64 B] w fun e w' => e = .returned (.int .u64 (Nat.gcd A B : Nat)) ∧ w' = w := by
  have hGA : Nat.gcd A B ≤ A := Nat.gcd_le_left B hA0
  generalize hG : Nat.gcd A B = G at hGA
  have HG : Hid (Nat.gcd A B = G) := hG
  clear hG
  have z1 : ((A : Int) == 0) = false := beq_eq_false_iff_ne.2 (by omega)
  have z2 : ((B : Int) == 0) = false := beq_eq_false_iff_ne.2 (by omega)
  go_enter Try.func28, Try.ntmps28
  go_wp2
  go_loop [0, 1, 5] (fun ta tb tk => At1 A B G ta tb tk) (fun ta _ _ => (intOf ta).toNat)
  case atStart => exact ⟨A, B, 0, rfl, rfl, rfl, hA0, hB0, by omega, by omega, by rw [HG.out]; simp⟩
  case round =>
    obtain ⟨a, b, k, rfl, rfl, rfl, ha, hb, hak, hbB, hg⟩ := hrel
    have H : Hid (Nat.gcd a b * 2 ^ k = G) := hg
    clear hg
    by_cases hc : a % 2 = 0 ∧ b % 2 = 0
    · have ht : (bits BinOp.and IntKind.u64 (bits BinOp.or IntKind.u64 (a : Int) (b : Int)) 1 == 0) = true := by
        rw [or1 a b (by omega) (by omega)]; exact decide_eq_true hc
      have HC : Hid (a % 2 = 0 ∧ b % 2 = 0) := hc
      clear hc
      go_wp2
      go_round
      case rel =>
        have hc := HC.out
        exact ⟨a / 2, b / 2, k + 1, by go_num, by go_num, by go_num, by omega, by omega, by omega, by omega, gcd1 a b k G hc.1 hc.2 H.out⟩
      case measure => simp [intOf]; omega
    · have ht : (bits BinOp.and IntKind.u64 (bits BinOp.or IntKind.u64 (a : Int) (b : Int)) 1 == 0) = false := by
        rw [or1 a b (by omega) (by omega)]; exact decide_eq_false hc
      have HC : Hid (¬ (a % 2 = 0 ∧ b % 2 = 0)) := hc
      clear hc
      have hgp : Hid (∃ g, Nat.gcd a b = g) := ⟨_, rfl⟩
      obtain ⟨g, hgg⟩ := hgp.out
      have HGG : Hid (Nat.gcd a b = g) := hgg
      clear hgg hgp
      go_wp2
      go_loop [0] (fun ta => At2 A b g ta) (fun ta => (intOf ta).toNat)
      case atStart => exact ⟨a, rfl, ha, by omega, by have := HC.out; omega, HGG.out⟩
      case round =>
        obtain ⟨a2, rfl, ha2, ha2A, hab, hg2⟩ := hrel
        have H2 : Hid ((a2 % 2 = 0 → b % 2 = 1) ∧ Nat.gcd a2 b = g) := ⟨hab, hg2⟩
        clear hab hg2
        by_cases hc : a2 % 2 = 0
        · have ht2 : (bits BinOp.and IntKind.u64 (a2 : Int) 1 == 0) = true := by
            rw [and1 a2 (by omega)]; exact decide_eq_true hc
          have HC2 : Hid (a2 % 2 = 0) := hc
          clear hc
          go_wp2
          go_round
          case rel =>
            have hc := HC2.out
            have hb1 := H2.out.1 hc
            exact ⟨a2 / 2, by go_num, by omega, by omega, fun _ => hb1, by rw [← Steps.gcd_left a2 b hc hb1]; exact H2.out.2⟩
          case measure => simp [intOf]; omega
        · have ht2 : (bits BinOp.and IntKind.u64 (a2 : Int) 1 == 0) = false := by
            rw [and1 a2 (by omega)]; exact decide_eq_false hc
          have HC2 : Hid (a2 % 2 = 1) := show a2 % 2 = 1 by omega
          clear hc
          go_wp2
          go_loop [0, 1] (fun ta tb => At3 18446744073709551615 g ta tb) (fun ta tb => (intOf ta).toNat + (intOf tb).toNat)
          case atStart => exact ⟨a2, b, rfl, rfl, HC2.out, by omega, by omega, H2.out.2⟩
          case round =>
            obtain ⟨a3, b3, rfl, rfl, ho, ha3, hb3, hg3⟩ := hrel
            have H3 : Hid (a3 % 2 = 1 ∧ Nat.gcd a3 b3 = g) := ⟨ho, hg3⟩
            have ha30 : 0 < a3 := by omega
            clear ho hg3
            by_cases hz : b3 = 0
            · subst hz
              obtain ⟨hk64, hwr⟩ := shl_end a3 k G A ha30 (by rw [← H.out, HGG.out, ← H3.out.2, Nat.gcd_zero_right]) hGA hA
              go_wp2
              go_ret
              exact ⟨rfl, rfl⟩
            · have hz' : ((b3 : Int) != 0) = true := by rw [bne_iff_ne]; omega
              go_wp2
              go_loop [1] (fun tb => At4 a3 b3 g tb) (fun tb => (intOf tb).toNat)
              case atStart => exact ⟨b3, rfl, by omega, Nat.le_refl _, H3.out.2⟩
              case round =>
                obtain ⟨c, rfl, hc0, hcb, hg4⟩ := hrel
                have H4 : Hid (Nat.gcd a3 c = g) := hg4
                clear hg4
                by_cases hc : c % 2 = 0
                · have ht4 : (bits BinOp.and IntKind.u64 (c : Int) 1 == 0) = true := by
                    rw [and1 c (by omega)]; exact decide_eq_true hc
                  have HC4 : Hid (c % 2 = 0) := hc
                  clear hc
                  go_wp2
                  go_round
                  case rel =>
                    have hc := HC4.out
                    exact ⟨c / 2, by go_num, by omega, by omega, by rw [← Steps.gcd_right a3 c H3.out.1 hc]; exact H4.out⟩
                  case measure => simp [intOf]; omega
                · have ht4 : (bits BinOp.and IntKind.u64 (c : Int) 1 == 0) = false := by
                    rw [and1 c (by omega)]; exact decide_eq_false hc
                  have HC4 : Hid (c % 2 = 1) := show c % 2 = 1 by omega
                  clear hc
                  by_cases hgt : c < a3
                  · go_wp2
                    go_round
                    case rel => exact ⟨c, a3 - c, rfl, by go_num, HC4.out, by omega, by omega, by rw [← Steps.gcd_sub c a3 (by omega), Nat.gcd_comm]; exact H4.out⟩
                    case measure => simp [intOf]; omega
                  · go_wp2
                    go_round
                    case rel => exact ⟨a3, c - a3, rfl, by go_num, H3.out.1, by omega, by omega, by rw [← Steps.gcd_sub a3 c (by omega)]; exact H4.out⟩
                    case measure => simp [intOf]; omega

theorem binaryGcd_any (A B : Nat) (hA : A < 18446744073709551616) (hB : B < 18446744073709551616) (w : World) :
    Calls Try.prog 28 #[.int .u64 A, .int .u64 B] w fun e w' => e = .returned (.int .u64 (Nat.gcd A B : Nat)) ∧ w' = w := by
  by_cases hA0 : A = 0
  · subst hA0
    rw [Nat.gcd_zero_left]
    go_enter Try.func28, Try.ntmps28
    go_wp2
    go_ret
    exact ⟨rfl, rfl⟩
  · by_cases hB0 : B = 0
    · subst hB0
      rw [Nat.gcd_zero_right]
      have z1 : ((A : Int) == 0) = false := beq_eq_false_iff_ne.2 (by omega)
      go_enter Try.func28, Try.ntmps28
      go_wp2
      go_ret
      exact ⟨rfl, rfl⟩
    · exact binaryGcd_pos A B hA hB (by omega) (by omega) w

theorem pair_word (U V X Y z : Int) (h : U * X + V * Y = z) (h0 : 0 ≤ z) (h1 : z < 18446744073709551616) :
    IntKind.u64.wrap (IntKind.u64.wrap (IntKind.u64.wrap U * X) + IntKind.u64.wrap (IntKind.u64.wrap V * Y)) = z := by
  simp only [IntKind.wrap_u64]
  have e : ((U % 18446744073709551616 * X) % 18446744073709551616 + (V % 18446744073709551616 * Y) % 18446744073709551616) % 18446744073709551616 = (U * X + V * Y) % 18446744073709551616 := by
    simp [Int.add_emod, Int.mul_emod]
  rw [e, h]; omega

theorem applyPair_any (U0 V0 U1 V1 : Int) (X Y x y : Nat) (h0 : U0 * X + V0 * Y = x) (h1 : U1 * X + V1 * Y = y) (hx : x < 18446744073709551616) (hy : y < 18446744073709551616) (w : World) :
    Calls Try.prog 27 #[.int .i64 U0, .int .i64 V0, .int .i64 U1, .int .i64 V1, .int .u64 X, .int .u64 Y] w fun e w' => e = .returned (.tuple #[.int .u64 x, .int .u64 y]) ∧ w' = w := by
  have e0 := pair_word U0 V0 X Y x h0 (by omega) (by omega)
  have e1 := pair_word U1 V1 X Y y h1 (by omega) (by omega)
  clear h0 h1
  go_enter Try.func27, Try.ntmps27
  go_wp2
  go_ret2
  exact ⟨rfl, rfl⟩

end Stein
end Go.Proofs.Qxb6000961a
