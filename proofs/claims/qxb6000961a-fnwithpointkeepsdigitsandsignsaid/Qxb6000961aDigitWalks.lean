import Derived.Test.Qxb6000961aProg
import Derived.WalkKit
import Derived.WalkSpells
import Derived.WalkLawsBesides
import Derived.BigQuiet
import Derived.Deep.QuietTactic
import Derived.Deep.CutBlock
import Derived.Deep.DeepCutAuto
import Derived.Lib.IndexBytes
import Derived.RowKit3
namespace Go.Proofs.Qxb6000961a
open Go.RowKit
namespace Dig

theorem ret_int {k : IntKind} {a b : Int} (h : a = b) : Ending.returned (.int k a) = .returned (.int k b) := by rw [h]
theorem ret_bool {a b : Bool} (h : a = b) : Ending.returned (.bool a) = .returned (.bool b) := by rw [h]

/-! THE PLAIN FUNCTIONS -/
def isD (n : Int) : Bool := decide (48 ≤ n ∧ n ≤ 57)
def dB (c : UInt8) : Bool := isD (c.toNat : Int)
def allD (l : List UInt8) : Bool := l.all dB
def strip (l : List UInt8) : List UInt8 := l.dropWhile (fun c => c == 48)
def cmp : List UInt8 → List UInt8 → Int
  | [], [] => 0
  | [], _ :: _ => -1
  | _ :: _, [] => 1
  | x :: xs, y :: ys => if x < y then -1 else if y < x then 1 else cmp xs ys

theorem isDigit_any (c : Int) (h0 : 0 ≤ c) (h1 : c ≤ 255) (w : World) :
    Calls Try.prog 14 #[.int .u8 c] w fun e w' => e = .returned (.bool (isD c)) ∧ w' = w := by
  by_cases g1 : 48 ≤ c
  all_goals
    go_enter Try.func14, Try.ntmps14
    go_wp2
    go_ret
    exact ⟨ret_bool (by unfold isD; rw [Bool.eq_iff_iff]; simp <;> omega), rfl⟩

theorem take_snoc (s : ByteArray) (k : Nat) (h : k < s.size) : s.data.toList.take (k + 1) = s.data.toList.take k ++ [s[k]] := by
  rw [List.take_succ_eq_append_getElem (by simpa using h)]; rfl
theorem drop_cons (s : ByteArray) (k : Nat) (h : k < s.size) : s.data.toList.drop k = s[k] :: s.data.toList.drop (k + 1) := by
  rw [List.drop_eq_getElem_cons (by simpa using h)]; rfl

theorem allD_snoc (l : List UInt8) (c : UInt8) : allD (l ++ [c]) = (allD l && dB c) := by
  unfold allD; simp
theorem allD_false (s : ByteArray) (k : Nat) (h : k < s.size) (hd : dB s[k] = false) : allD s.data.toList = false := by
  unfold allD
  rw [List.all_eq_false]
  exact ⟨s[k], by rw [← List.take_append_drop k s.data.toList, drop_cons s k h]; simp, by simp [hd]⟩

set_option maxHeartbeats 400000 in
theorem allDigits_any (s : ByteArray) (hs : s.size ≤ maxLen) (w : World) :
    Calls Try.prog 17 #[.string s] w fun e w' => e = .returned (.bool (allD s.data.toList)) ∧ w' = w := by
  unfold maxLen at hs
  go_enter Try.func17, Try.ntmps17
  go_wp2
  go_loop [3] (fun i => ∃ k : Nat, k ≤ s.size ∧ i = .int .i64 k ∧ allD (s.data.toList.take k) = true) (fun i => s.size - (intOf i).toNat)
  case atStart => exact ⟨0, Nat.zero_le _, rfl, rfl⟩
  case round =>
    obtain ⟨k, hk, rfl, ha⟩ := hrel
    have HA : Hid (allD (s.data.toList.take k) = true) := ha
    clear ha
    by_cases hlt : k < s.size
    · have hb : s[k].toNat < 256 := s[k].toNat_lt
      by_cases hd : isD (s[k].toNat : Int) = true
      · go_wp2_with (go_at_call 14; refine (isDigit_any _ (by omega) (by omega) _).mono ?_; rintro e w' ⟨rfl, rfl⟩)
        go_round
        case rel => exact ⟨k + 1, by omega, by go_num, by rw [take_snoc s k hlt, allD_snoc, HA.out]; exact hd⟩
        case measure => simp [intOf]; omega
      · rw [Bool.not_eq_true] at hd
        go_wp2_with (go_at_call 14; refine (isDigit_any _ (by omega) (by omega) _).mono ?_; rintro e w' ⟨rfl, rfl⟩)
        go_ret
        exact ⟨ret_bool (allD_false s k hlt hd).symm, rfl⟩
    · go_wp2
      go_ret
      exact ⟨ret_bool (by have := HA.out; rw [List.take_of_length_le (by simp; omega)] at this; exact this.symm), rfl⟩

set_option maxHeartbeats 400000 in
theorem strip_any (s : ByteArray) (hs : s.size ≤ maxLen) (w : World) :
    Calls Try.prog 15 #[.string s] w fun e w' => (∃ R : ByteArray, e = .returned (.string R) ∧ R.data.toList = strip s.data.toList) ∧ w' = w := by
  unfold maxLen at hs
  go_enter Try.func15, Try.ntmps15
  go_wp2
  go_loop [3] (fun i => ∃ k : Nat, k ≤ s.size ∧ i = .int .i64 k ∧ strip s.data.toList = strip (s.data.toList.drop k)) (fun i => s.size - (intOf i).toNat)
  case atStart => exact ⟨0, Nat.zero_le _, rfl, rfl⟩
  case round =>
    obtain ⟨k, hk, rfl, ha⟩ := hrel
    have HA : Hid (strip s.data.toList = strip (s.data.toList.drop k)) := ha
    clear ha
    by_cases hlt : k < s.size
    · by_cases hz : s[k] = 48
      · have hz' : ((s[k].toNat : Int) == 48) = true := by rw [hz]; rfl
        have HZ : Hid (s[k] = 48) := hz
        clear hz
        go_wp2
        go_round
        case rel => exact ⟨k + 1, by omega, by go_num, by rw [HA.out, drop_cons s k hlt]; unfold strip; rw [List.dropWhile_cons, if_pos (by rw [HZ.out]; rfl)]⟩
        case measure => simp [intOf]; omega
      · have hz' : ((s[k].toNat : Int) == 48) = false := by
          rw [beq_eq_false_iff_ne]
          intro h
          exact hz (UInt8.toNat_inj.1 (by show s[k].toNat = 48; omega))
        have HZ : Hid (¬ s[k] = 48) := hz
        clear hz
        go_wp2
        go_ret
        refine ⟨⟨_, rfl, ?_⟩, rfl⟩
        rw [Lib.extract_to_end, HA.out, drop_cons s k hlt]
        unfold strip
        rw [List.dropWhile_cons, if_neg (by simpa using HZ.out)]
    · go_wp2
      go_ret
      refine ⟨⟨_, rfl, ?_⟩, rfl⟩
      rw [Lib.extract_to_end, HA.out, List.drop_eq_nil_of_le (by simp; omega)]
      rfl

theorem cmp_drop (s t : ByteArray) (k : Nat) (hs : k < s.size) (ht : k < t.size) :
    cmp (s.data.toList.drop k) (t.data.toList.drop k) = if s[k] < t[k] then -1 else if t[k] < s[k] then 1 else cmp (s.data.toList.drop (k + 1)) (t.data.toList.drop (k + 1)) := by
  rw [drop_cons s k hs, drop_cons t k ht]; rfl

set_option maxHeartbeats 800000 in
theorem cmpBytes_any (s t : ByteArray) (hs : s.size ≤ maxLen) (h1 : s.size ≤ t.size) (h2 : t.size ≤ s.size) (w : World) :
    Calls Try.prog 18 #[.string s, .string t] w fun e w' => e = .returned (.int .i64 (cmp s.data.toList t.data.toList)) ∧ Below w.heap.size w w' := by
  unfold maxLen at hs
  go_enter Try.func18, Try.ntmps18
  go_wp2
  go_loopw [6] (fun i wr => ∃ k : Nat, k ≤ s.size ∧ i = .int .i64 k ∧ cmp s.data.toList t.data.toList = cmp (s.data.toList.drop k) (t.data.toList.drop k) ∧ Below w.heap.size w wr) (fun i _ => s.size - (intOf i).toNat)
  case atStart => exact ⟨0, Nat.zero_le _, rfl, rfl, Below.refl _ _⟩
  case round =>
    obtain ⟨k, hk, rfl, ha, hb⟩ := hrel
    have HA : Hid (cmp s.data.toList t.data.toList = cmp (s.data.toList.drop k) (t.data.toList.drop k)) := ha
    have HB : Hid (Below w.heap.size w wr) := hb
    clear ha hb
    by_cases hlt : k < s.size
    · have hlt' : k < t.size := by omega
      have hI : (k : Int) < (s.size : Int) := by omega
      have hI' : (k : Int) < (t.size : Int) := by omega
      by_cases c1 : s[k].toNat < t[k].toNat
      · go_wp2
        go_quiet (fail)
        go_wp2
        go_ret
        refine ⟨ret_int ?_, below_drewN HB.out _⟩
        rw [HA.out, cmp_drop s t k hlt hlt', if_pos (UInt8.lt_iff_toNat_lt.2 c1)]
      · by_cases c2 : t[k].toNat < s[k].toNat
        · go_wp2
          go_quiet (fail)
          go_wp2
          go_quiet (fail)
          go_wp2
          go_ret
          refine ⟨ret_int ?_, ?_⟩
          · rw [HA.out, cmp_drop s t k hlt hlt', if_neg (fun h => c1 (UInt8.lt_iff_toNat_lt.1 h)), if_pos (UInt8.lt_iff_toNat_lt.2 c2)]
          · exact below_drewN (below_drewN HB.out _) _
        · go_wp2
          go_quiet (fail)
          go_wp2
          go_quiet (fail)
          go_wp2
          go_roundw
          case rel =>
            refine ⟨k + 1, by omega, by go_num, ?_, ?_⟩
            · rw [HA.out, cmp_drop s t k hlt hlt', if_neg (fun h => c1 (UInt8.lt_iff_toNat_lt.1 h)), if_neg (fun h => c2 (UInt8.lt_iff_toNat_lt.1 h))]
            · exact below_drewN HB.out _
          case measure => simp [intOf]; omega
    · go_wp2
      go_ret
      refine ⟨ret_int ?_, HB.out⟩
      rw [HA.out, List.drop_eq_nil_of_le (by simp; omega), List.drop_eq_nil_of_le (by simp; omega)]
      rfl

/-- the digits without their sign, as 'd[i:]' has them -/
def neg (l : List UInt8) : Bool := l.head? == some 45
def mag (l : List UInt8) : List UInt8 := if neg l then l.tail else l
def wfB (l : List UInt8) : Bool := !(mag l).isEmpty && allD (mag l)

theorem head_at (s : ByteArray) (h : 0 < s.size) : s.data.toList.head? = some s[0] := by
  have := drop_cons s 0 h
  rw [List.drop_zero] at this
  rw [this]; rfl
theorem neg_true (s : ByteArray) (h : 0 < s.size) (hd : s[0] = 45) : neg s.data.toList = true := by
  unfold neg; rw [head_at s h, hd]; rfl
theorem neg_false (s : ByteArray) (h : 0 < s.size) (hd : ¬ s[0] = 45) : neg s.data.toList = false := by
  unfold neg; rw [head_at s h]; simp [hd]
theorem neg_empty (s : ByteArray) (h : s.size = 0) : neg s.data.toList = false := by
  have : s.data.toList = [] := List.eq_nil_of_length_eq_zero (by simpa using h)
  rw [this]; rfl
theorem tail_drop (l : List UInt8) : l.tail = l.drop 1 := by cases l <;> rfl
theorem empty_size (s : ByteArray) (k : Nat) (h : k < s.size) : (s.data.toList.drop k).isEmpty = false := by
  rw [drop_cons s k h]; rfl

set_option maxHeartbeats 800000 in
theorem wellFormed_any (s : ByteArray) (hs : s.size ≤ maxLen) (w : World) :
    Calls Try.prog 13 #[.string s] w fun e w' => e = .returned (.bool (wfB s.data.toList)) ∧ w' = w := by
  have hm := hs
  unfold maxLen at hs
  by_cases h0 : s.size = 0
  · have h0' : ¬ 0 < s.size := by omega
    have e1 : s.data.toList = [] := List.eq_nil_of_length_eq_zero (by simpa using h0)
    have E1 : Hid (s.data.toList = []) := e1
    clear e1
    go_enter Try.func13, Try.ntmps13
    go_wp2
    go_ret
    exact ⟨ret_bool (by rw [E1.out]; rfl), rfl⟩
  · have hp : 0 < s.size := by omega
    by_cases hd : s[0] = 45
    · have hd' : ((s[0].toNat : Int) == 45) = true := by rw [hd]; rfl
      have hn := neg_true s hp hd
      have hmg : mag s.data.toList = s.data.toList.drop 1 := by unfold mag; rw [hn, if_pos rfl, tail_drop]
      have HM : Hid (mag s.data.toList = s.data.toList.drop 1) := hmg
      clear hmg hn hd
      by_cases h1 : s.size = 1
      · have E1 : Hid (s.size = 1) := h1
        have h1a : s.size ≤ 1 := by omega
        clear h1
        go_enter Try.func13, Try.ntmps13
        go_wp2
        go_ret
        refine ⟨ret_bool ?_, rfl⟩
        unfold wfB
        rw [HM.out, List.drop_eq_nil_of_le (by simp; omega)]
        rfl
      · have h1' : 1 < s.size := by omega
        clear h1
        go_enter Try.func13, Try.ntmps13
        go_wp2_with (go_at_call 17; refine (allDigits_any (s.extract 1 s.size) (by simp [maxLen]; omega) _).mono ?_; rintro e w' ⟨rfl, rfl⟩)
        go_ret
        refine ⟨ret_bool ?_, rfl⟩
        unfold wfB
        rw [HM.out, empty_size s 1 h1', tail_drop, List.take_of_length_le (by simp)]
        rfl
    · have hd' : ((s[0].toNat : Int) == 45) = false := by
        rw [beq_eq_false_iff_ne]
        intro h
        exact hd (UInt8.toNat_inj.1 (by show s[0].toNat = 45; omega))
      have hn := neg_false s hp hd
      have hmg : mag s.data.toList = s.data.toList.drop 0 := by unfold mag; rw [hn]; rfl
      have HM : Hid (mag s.data.toList = s.data.toList.drop 0) := hmg
      clear hmg hn hd
      go_enter Try.func13, Try.ntmps13
      go_wp2_with (go_at_call 17; refine (allDigits_any _ (by simp [maxLen]; omega) _).mono ?_; rintro e w' ⟨rfl, rfl⟩)
      go_ret
      refine ⟨ret_bool ?_, rfl⟩
      unfold wfB
      rw [HM.out, empty_size s 0 hp]
      first | rfl | (rw [Lib.extract_to_end]; rfl)

theorem zzBytes3_any (s : ByteArray) (p : Int) (w : World) (hs : s.size ≤ 1048576) :
    Calls Try.prog 11 #[.string s, .int .i64 p] w fun e w' => e = .returned (.bool true) ∧ w' = w := by
  go_enter Try.func11, Try.ntmps11
  go_wp2
  go_ret
  exact ⟨rfl, rfl⟩
theorem zzBytes3_no (s : ByteArray) (p : Int) (w : World) (hm : s.size ≤ maxLen) (hs : 1048576 < s.size) :
    Calls Try.prog 11 #[.string s, .int .i64 p] w fun e w' => e = .returned (.bool false) ∧ w' = w := by
  unfold maxLen at hm
  go_enter Try.func11, Try.ntmps11
  go_wp2
  go_ret
  exact ⟨rfl, rfl⟩
end Dig
end Go.Proofs.Qxb6000961a
