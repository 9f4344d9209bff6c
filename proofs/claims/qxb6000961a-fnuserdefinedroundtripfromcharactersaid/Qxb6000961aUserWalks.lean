import Derived.Test.Qxb6000961aProg
import Derived.WalkKit
import Derived.WalkSpells
import Derived.WalkLawsBesides
import Derived.RowKit3
namespace Go.Proofs.Qxb6000961a
open Go.RowKit
namespace User

/-! THE PLAIN FUNCTIONS -/
def vl (c : Int) : Bool := decide (129 ≤ c ∧ c ≤ 254)
def vt (c : Int) : Bool := decide (64 ≤ c ∧ c ≤ 254 ∧ c ≠ 127)
def inA (c0 c1 : Int) : Bool :=
  decide ((170 ≤ c0 ∧ c0 ≤ 175 ∧ 161 ≤ c1 ∧ c1 ≤ 254) ∨ (248 ≤ c0 ∧ c0 ≤ 254 ∧ 161 ≤ c1 ∧ c1 ≤ 254) ∨ (161 ≤ c0 ∧ c0 ≤ 167 ∧ 64 ≤ c1 ∧ c1 ≤ 160 ∧ c1 ≠ 127))
def ud (c0 c1 : Int) : Int :=
  if 170 ≤ c0 ∧ c0 ≤ 175 ∧ 161 ≤ c1 then 57344 + (c0 - 170) * 94 + (c1 - 161)
  else if 248 ≤ c0 ∧ 161 ≤ c1 then 57908 + (c0 - 248) * 94 + (c1 - 161)
  else if 161 ≤ c0 ∧ c0 ≤ 167 ∧ c1 ≤ 160 then 58566 + (c0 - 161) * 96 + (if 127 < c1 then c1 - 64 - 1 else c1 - 64)
  else -2

theorem ret_int {k : IntKind} {a b : Int} (h : a = b) : Ending.returned (.int k a) = .returned (.int k b) := by rw [h]
theorem ret_bool {a b : Bool} (h : a = b) : Ending.returned (.bool a) = .returned (.bool b) := by rw [h]

theorem validLead_any (c : Int) (h0 : 0 ≤ c) (h1 : c ≤ 255) (w : World) :
    Calls Try.prog 20 #[.int .u8 c] w fun e w' => e = .returned (.bool (vl c)) ∧ w' = w := by
  by_cases g1 : 129 ≤ c
  all_goals
    go_enter Try.func20, Try.ntmps20
    go_wp2
    go_ret
    exact ⟨ret_bool (by unfold vl; rw [Bool.eq_iff_iff]; simp <;> omega), rfl⟩

theorem validTrail_any (c : Int) (h0 : 0 ≤ c) (h1 : c ≤ 255) (w : World) :
    Calls Try.prog 21 #[.int .u8 c] w fun e w' => e = .returned (.bool (vt c)) ∧ w' = w := by
  by_cases g1 : 64 ≤ c
  · by_cases g2 : c ≤ 254
    all_goals
      go_enter Try.func21, Try.ntmps21
      go_wp2
      go_ret
      exact ⟨ret_bool (by unfold vt; rw [Bool.eq_iff_iff]; simp <;> omega), rfl⟩
  · go_enter Try.func21, Try.ntmps21
    go_wp2
    go_ret
    exact ⟨ret_bool (by unfold vt; rw [Bool.eq_iff_iff]; simp <;> omega), rfl⟩

theorem part0 (c0 : Int) : c0 < 161 ∨ (161 ≤ c0 ∧ c0 ≤ 167) ∨ (168 ≤ c0 ∧ c0 ≤ 169) ∨ (170 ≤ c0 ∧ c0 ≤ 175) ∨ (176 ≤ c0 ∧ c0 ≤ 247) ∨ (248 ≤ c0 ∧ c0 ≤ 254) ∨ 254 < c0 := by omega
theorem part1 (c1 : Int) : c1 < 64 ∨ (64 ≤ c1 ∧ c1 < 127) ∨ c1 = 127 ∨ (127 < c1 ∧ c1 ≤ 160) ∨ (161 ≤ c1 ∧ c1 ≤ 254) ∨ 254 < c1 := by omega

set_option maxHeartbeats 4000000 in
theorem inUserArea_any (c0 c1 : Int) (a0 : 0 ≤ c0) (a1 : c0 ≤ 255) (d0 : 0 ≤ c1) (d1 : c1 ≤ 255) (w : World) :
    Calls Try.prog 22 #[.int .u8 c0, .int .u8 c1] w fun e w' => e = .returned (.bool (inA c0 c1)) ∧ w' = w := by
  rcases part0 c0 with g | g | g | g | g | g | g <;> rcases part1 c1 with f | f | f | f | f | f
  all_goals
    try subst f
    go_enter Try.func22, Try.ntmps22
    go_wp2
    go_ret
    exact ⟨ret_bool (by unfold inA; rw [Bool.eq_iff_iff]; simp <;> omega), rfl⟩

set_option maxHeartbeats 4000000 in
theorem userDefined_any (c0 c1 : Int) (a0 : 0 ≤ c0) (a1 : c0 ≤ 255) (d0 : 64 ≤ c1) (d1 : c1 ≤ 255) (w : World) :
    Calls Try.prog 30 #[.int .u8 c0, .int .u8 c1] w fun e w' => e = .returned (.int .i32 (ud c0 c1)) ∧ w' = w := by
  have part1 : (64 ≤ c1 ∧ c1 ≤ 127) ∨ (127 < c1 ∧ c1 ≤ 160) ∨ (161 ≤ c1 ∧ c1 ≤ 255) := by omega
  have part0 : c0 < 161 ∨ (161 ≤ c0 ∧ c0 ≤ 167) ∨ (168 ≤ c0 ∧ c0 ≤ 169) ∨ (170 ≤ c0 ∧ c0 ≤ 175) ∨ (176 ≤ c0 ∧ c0 ≤ 247) ∨ (248 ≤ c0 ∧ c0 ≤ 255) := by omega
  rcases part0 with g | g | g | g | g | g <;> rcases part1 with f | f | f
  all_goals
    go_enter Try.func30, Try.ntmps30
    go_wp2
    go_ret
    exact ⟨ret_int (by unfold ud; repeat' split
                       all_goals omega), rfl⟩

theorem zzUserDefined_any (c0 c1 : Int) (a0 : 0 ≤ c0) (a1 : c0 ≤ 255) (d0 : 64 ≤ c1) (d1 : c1 ≤ 255) (w : World) :
    Calls Try.prog 23 #[.int .u8 c0, .int .u8 c1] w fun e w' => e = .returned (.int .i32 (ud c0 c1)) ∧ w' = w := by
  go_enter Try.func23, Try.ntmps23
  go_wp2_with (go_at_call 30; refine (userDefined_any c0 c1 a0 a1 d0 d1 _).mono ?_; rintro e w' ⟨rfl, rfl⟩)
  go_ret
  exact ⟨rfl, rfl⟩

/-! THE PLAIN LAWS -/
theorem vl_bd {c : Int} (h : vl c = true) : 129 ≤ c ∧ c ≤ 254 := by unfold vl at h; simpa using h
theorem vt_bd {c : Int} (h : vt c = true) : 64 ≤ c ∧ c ≤ 254 ∧ c ≠ 127 := by unfold vt at h; simpa using h
theorem ud_out (c0 c1 : Int) (h0 : vl c0 = true) (h1 : vt c1 = true) (h : inA c0 c1 = false) : ud c0 c1 = -2 := by
  have a := vl_bd h0
  have b := vt_bd h1
  unfold inA at h
  simp only [decide_eq_false_iff_not] at h
  unfold ud
  rw [if_neg (by omega), if_neg (by omega), if_neg (by omega)]

/-- the inverse road: the two bytes of a character of the user-defined areas -/
def enc0 (r : Int) : Int :=
  if r - 57344 < 564 then 170 + (r - 57344) / 94 else if r - 57344 - 564 < 658 then 248 + (r - 57344 - 564) / 94 else 161 + (r - 57344 - 564 - 658) / 96
def enc1 (r : Int) : Int :=
  if r - 57344 < 564 then 161 + (r - 57344) % 94 else if r - 57344 - 564 < 658 then 161 + (r - 57344 - 564) % 94
  else if 127 ≤ 64 + (r - 57344 - 564 - 658) % 96 then 64 + (r - 57344 - 564 - 658) % 96 + 1 else 64 + (r - 57344 - 564 - 658) % 96

theorem enc_bd (r : Int) (h0 : 57344 ≤ r) (h1 : r ≤ 59237) : (161 ≤ enc0 r ∧ enc0 r ≤ 254) ∧ (64 ≤ enc1 r ∧ enc1 r ≤ 254) := by
  unfold enc0 enc1
  repeat' split
  all_goals omega

theorem enc_ok (r : Int) (h0 : 57344 ≤ r) (h1 : r ≤ 59237) : vl (enc0 r) = true ∧ vt (enc1 r) = true ∧ inA (enc0 r) (enc1 r) = true := by
  unfold vl vt inA
  simp only [decide_eq_true_eq]
  unfold enc0 enc1
  repeat' split
  all_goals omega

theorem ud_enc (r : Int) (h0 : 57344 ≤ r) (h1 : r ≤ 59237) : ud (enc0 r) (enc1 r) = r := by
  unfold ud enc0 enc1
  by_cases g1 : r - 57344 < 564
  · simp only [if_pos g1]
    rw [if_pos (by omega)]; omega
  · simp only [if_neg g1]
    by_cases g2 : r - 57344 - 564 < 658
    · simp only [if_pos g2]
      rw [if_neg (by omega), if_pos (by omega)]; omega
    · simp only [if_neg g2]
      by_cases g3 : 127 ≤ 64 + (r - 57344 - 564 - 658) % 96
      · simp only [if_pos g3]
        rw [if_neg (by omega), if_neg (by omega), if_pos (by omega), if_pos (by omega)]; omega
      · simp only [if_neg g3]
        rw [if_neg (by omega), if_neg (by omega), if_pos (by omega), if_neg (by omega)]; omega

theorem ud_bd (c0 c1 : Int) (h : inA c0 c1 = true) : 57344 ≤ ud c0 c1 ∧ ud c0 c1 ≤ 59237 := by
  unfold inA at h
  simp only [decide_eq_true_eq] at h
  unfold ud
  repeat' split
  all_goals omega

theorem enc_ud (c0 c1 : Int) (h : inA c0 c1 = true) : enc0 (ud c0 c1) = c0 ∧ enc1 (ud c0 c1) = c1 := by
  unfold inA at h
  simp only [decide_eq_true_eq] at h
  rcases h with h | h | h
  · have e : ud c0 c1 = 57344 + (c0 - 170) * 94 + (c1 - 161) := by unfold ud; rw [if_pos (by omega)]
    rw [e]; unfold enc0 enc1
    rw [if_pos (by omega), if_pos (by omega)]; omega
  · have e : ud c0 c1 = 57908 + (c0 - 248) * 94 + (c1 - 161) := by unfold ud; rw [if_neg (by omega), if_pos (by omega)]
    rw [e]; unfold enc0 enc1
    rw [if_neg (by omega), if_pos (by omega), if_neg (by omega), if_pos (by omega)]; omega
  · by_cases g : 127 < c1
    · have e : ud c0 c1 = 58566 + (c0 - 161) * 96 + (c1 - 64 - 1) := by unfold ud; rw [if_neg (by omega), if_neg (by omega), if_pos (by omega), if_pos g]
      rw [e]; unfold enc0 enc1
      rw [if_neg (by omega), if_neg (by omega), if_neg (by omega), if_neg (by omega), if_pos (by omega)]; omega
    · have e : ud c0 c1 = 58566 + (c0 - 161) * 96 + (c1 - 64) := by unfold ud; rw [if_neg (by omega), if_neg (by omega), if_pos (by omega), if_neg g]
      rw [e]; unfold enc0 enc1
      rw [if_neg (by omega), if_neg (by omega), if_neg (by omega), if_neg (by omega), if_neg (by omega)]; omega
end User
end Go.Proofs.Qxb6000961a
