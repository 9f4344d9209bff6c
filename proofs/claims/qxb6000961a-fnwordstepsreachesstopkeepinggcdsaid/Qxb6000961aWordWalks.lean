import Derived.Test.Qxb6000961aProg
import Derived.Test.Qxb6000961aSteps
import Derived.WalkKit
import Derived.WalkSpells
import Derived.WalkLawsBesides
import Derived.RowKit3
namespace Go.Proofs.Qxb6000961a
open Go.RowKit

theorem ret_int {k : IntKind} {a b : Int} (h : a = b) : Ending.returned (.int k a) = .returned (.int k b) := by rw [h]

/-- how 'wordSteps' ends: the matrix of some number of Euclid's steps, the smaller number below 2^s -/
def StepsEnd (X Y s : Nat) (e : Ending) : Prop :=
  ∃ (x y p0 r0 p1 r1 : Nat) (b : Bool), e = .returned (.tuple #[.int .i64 (Steps.sg b p0), .int .i64 (Steps.sg (!b) r0), .int .i64 (Steps.sg (!b) p1), .int .i64 (Steps.sg b r1)]) ∧
    Steps.Inv X Y (2 ^ s) x y p0 r0 p1 r1 b ∧ y < 2 ^ s

def StepsAt (X Y s : Nat) (tx ty t0 t1 t2 t3 : Value) : Prop :=
  ∃ (x y p0 r0 p1 r1 : Nat) (b : Bool), tx = .int .u64 x ∧ ty = .int .u64 y ∧ t0 = .int .i64 (Steps.sg b p0) ∧ t1 = .int .i64 (Steps.sg (!b) r0) ∧ t2 = .int .i64 (Steps.sg (!b) p1) ∧ t3 = .int .i64 (Steps.sg b r1) ∧ Steps.Inv X Y (2 ^ s) x y p0 r0 p1 r1 b

theorem shr_zero (y s : Nat) (hy : y < 18446744073709551616) (h : y < 2 ^ s) : ((y : Int) / 2 ^ min s 64 != 0) = false := by
  have : y < 2 ^ min s 64 := by
    rcases Nat.le_total s 64 with h1 | h1
    · rw [Nat.min_eq_left h1]; exact h
    · rw [Nat.min_eq_right h1]; exact hy
  have e : (y : Int) / 2 ^ min s 64 = ((y / 2 ^ min s 64 : Nat) : Int) := by simp
  rw [e, Nat.div_eq_of_lt this]; rfl

theorem shr_pos (y s : Nat) (h : 2 ^ s ≤ y) : ((y : Int) / 2 ^ s != 0) = true := by
  have e : (y : Int) / 2 ^ s = ((y / 2 ^ s : Nat) : Int) := by simp
  have : 1 ≤ y / 2 ^ s := (Nat.le_div_iff_mul_le (Nat.two_pow_pos s)).2 (by omega)
  rw [e, bne_iff_ne]; omega

set_option maxHeartbeats 400000 in
theorem wordSteps_any (X Y : Nat) (s : Nat) (hYX : Y ≤ X) (hX : X < 18446744073709551616) (hs : 1 ≤ s ∨ X = 0) (hs2 : s ≤ 65536) (w : World) :
    Calls Try.prog 31 #[.int .u64 X, .int .u64 Y, .int .u64 s] w fun e w' => StepsEnd X Y s e ∧ w' = w := by
  go_enter Try.func31, Try.ntmps31
  go_wp2
  go_loop [0, 1, 6, 7, 8, 9] (fun tx ty t0 t1 t2 t3 => StepsAt X Y s tx ty t0 t1 t2 t3) (fun _ ty _ _ _ _ => (intOf ty).toNat)
  case atStart => exact ⟨X, Y, 1, 0, 0, 1, false, rfl, rfl, rfl, rfl, rfl, rfl, Steps.Inv.start hYX⟩
  case round =>
    obtain ⟨x, y, p0, r0, p1, r1, b, rfl, rfl, rfl, rfl, rfl, rfl, hi⟩ := hrel
    by_cases hy : 2 ^ s ≤ y
    · have hs1 : 1 ≤ s := by
        rcases hs with h | h
        · exact h
        · have := hi.top; have := hi.le; have : 0 < 2 ^ s := Nat.two_pow_pos s; omega
      obtain ⟨hy0, hs64, hq, hm, ⟨⟨b1, b2⟩, b3, b4⟩, ⟨b5, b6⟩, b7, b8⟩ := hi.round hX hYX hs1 hy
      have hst := hi.step hy hy0
      have ht := shr_pos y s hy
      have hyx := hi.le
      have hxX := hi.top
      rw [← Steps.sg_step] at b5 b6
      have e1 := Steps.sg_step (!b) r0 (x / y) r1
      rw [Bool.not_not] at e1
      rw [← e1] at b7 b8
      rw [Int.natCast_ediv] at b1 b2 b3 b4 b5 b6 b7 b8
      have hq' : (x : Int) / (y : Int) ≤ 9223372036854775807 := by rw [← Int.natCast_ediv]; omega
      have hq0 : 0 ≤ (x : Int) / (y : Int) := by rw [← Int.natCast_ediv]; exact Int.natCast_nonneg _
      have hm' : (x : Int) / (y : Int) * (y : Int) ≤ x := by rw [← Int.natCast_ediv, ← Int.natCast_mul]; omega
      have hm0 : 0 ≤ (x : Int) / (y : Int) * (y : Int) := by rw [← Int.natCast_ediv, ← Int.natCast_mul]; omega
      have HI : Hid (Steps.Inv X Y (2 ^ s) y (x - x / y * y) p1 r1 (p0 + x / y * p1) (r0 + x / y * r1) (!b)) := hst
      clear hst hi hs hq hm e1 hy
      go_wp2
      go_round
      case rel =>
        refine ⟨y, x - x / y * y, p1, r1, p0 + x / y * p1, r0 + x / y * r1, !b, rfl, ?_, rfl, ?_, ?_, ?_, HI.out⟩
        · congr 1
          rw [Int.natCast_sub (Nat.div_mul_le_self x y), Int.natCast_mul, Int.natCast_ediv]
        · rw [Bool.not_not]
        · rw [Bool.not_not, ← Steps.sg_step, Int.natCast_ediv]
        · have e1 := Steps.sg_step (!b) r0 (x / y) r1
          rw [Bool.not_not] at e1
          rw [← e1, Int.natCast_ediv]
      case measure =>
        have h1 := Int.emod_lt_of_pos (x : Int) (b := (y : Int)) (by omega)
        rw [Int.emod_def, Int.mul_comm] at h1
        simp only [intOf]
        omega
    · have ht := shr_zero y s (by have := hi.top; have := hi.le; omega) (by omega)
      have HI : Hid (Steps.Inv X Y (2 ^ s) x y p0 r0 p1 r1 b) := hi
      clear hi
      go_wp2
      exact bodyPost_ret (v := .tuple #[.int .i64 (Steps.sg b p0), .int .i64 (Steps.sg (!b) r0), .int .i64 (Steps.sg (!b) p1), .int .i64 (Steps.sg b r1)]) (by simp [results, Try.results31, go_sem]) rfl ⟨⟨x, y, p0, r0, p1, r1, b, rfl, HI.out, by omega⟩, rfl⟩

theorem zzWordSteps_any (X Y : Nat) (s : Nat) (hYX : Y ≤ X) (hX : X < 18446744073709551616) (hs : 1 ≤ s ∨ X = 0) (hs2 : s ≤ 65536) (w : World) :
    Calls Try.prog 25 #[.int .u64 X, .int .u64 Y, .int .u64 s] w fun e w' => StepsEnd X Y s e ∧ w' = w := by
  go_enter Try.func25, Try.ntmps25
  go_wp2_with (go_at_call 31; refine (wordSteps_any X Y s hYX hX hs hs2 _).mono ?_)
  rintro e w' ⟨⟨x, y, p0, r0, p1, r1, b, rfl, hi, hlt⟩, rfl⟩
  have HI : Hid (Steps.Inv X Y (2 ^ s) x y p0 r0 p1 r1 b ∧ y < 2 ^ s) := ⟨hi, hlt⟩
  clear hi hlt
  go_wp2
  exact bodyPost_ret (v := .tuple #[.int .i64 (Steps.sg b p0), .int .i64 (Steps.sg (!b) r0), .int .i64 (Steps.sg (!b) p1), .int .i64 (Steps.sg b r1)]) (by simp [results, Try.results25, go_sem]) rfl ⟨⟨x, y, p0, r0, p1, r1, b, rfl, HI.out⟩, rfl⟩

theorem bitLen_any (X : Nat) (hX : X < 18446744073709551616) (w : World) :
    Calls Try.prog 24 #[.int .u64 X] w fun e w' => (∃ n : Nat, e = .returned (.int .u64 n) ∧ n ≤ X ∧ (n = 0 → X = 0)) ∧ w' = w := by
  go_enter Try.func24, Try.ntmps24
  go_wp2
  go_loop [0, 3] (fun tx tn => ∃ k n : Nat, tx = .int .u64 k ∧ tn = .int .u64 n ∧ n + k ≤ X ∧ (n = 0 → k = X)) (fun tx _ => (intOf tx).toNat)
  case atStart => exact ⟨X, 0, rfl, rfl, by omega, fun _ => rfl⟩
  case round =>
    obtain ⟨k, n, rfl, rfl, hk, h0⟩ := hrel
    have H0 : Hid (n = 0 → k = X) := h0
    clear h0
    by_cases hz : k = 0
    · subst hz
      go_wp2
      go_ret
      exact ⟨⟨n, rfl, by omega, fun h => (H0.out h).symm⟩, rfl⟩
    · go_wp2
      go_round
      case rel => exact ⟨k / 2, n + 1, by go_num, by go_num, by omega, fun h => by omega⟩
      case measure => simp [intOf]; omega

theorem magnitude64_any (e : Int) (h1 : -9223372036854775808 < e) (h2 : e ≤ 9223372036854775807) (w : World) :
    Calls Try.prog 26 #[.int .i64 e] w fun r w' => r = .returned (.int .u64 (e.natAbs : Int)) ∧ w' = w := by
  by_cases hn : e < 0
  · go_enter Try.func26, Try.ntmps26
    go_wp2
    go_ret
    exact ⟨ret_int (by omega), rfl⟩
  · go_enter Try.func26, Try.ntmps26
    go_wp2
    go_ret
    exact ⟨ret_int (by omega), rfl⟩

theorem mag_sg (b : Bool) (n : Nat) (h : (n : Int) ≤ 9223372036854775807) (w : World) :
    Calls Try.prog 26 #[.int .i64 (Steps.sg b n)] w fun r w' => r = .returned (.int .u64 (n : Int)) ∧ w' = w := by
  have ha := Steps.sg_abs b n
  refine (magnitude64_any (Steps.sg b n) (by omega) (by omega) w).mono ?_
  rintro e w' ⟨rfl, rfl⟩
  refine ⟨ret_int ?_, rfl⟩
  cases b <;> simp [Steps.sg]

/-- the determinant, as the law reckons it in words -/
theorem det_word (U0 V0 U1 V1 D : Int) (h : U0 * V1 - V0 * U1 = D) :
    IntKind.u64.wrap (IntKind.u64.wrap (IntKind.u64.wrap U0 * IntKind.u64.wrap V1) - IntKind.u64.wrap (IntKind.u64.wrap V0 * IntKind.u64.wrap U1)) = IntKind.u64.wrap D := by
  simp only [IntKind.wrap_u64]
  rw [← h]
  simp [Int.sub_emod, Int.mul_emod]
end Go.Proofs.Qxb6000961a
