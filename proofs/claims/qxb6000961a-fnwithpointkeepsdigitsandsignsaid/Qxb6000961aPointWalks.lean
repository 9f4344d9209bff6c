import Derived.Test.Qxb6000961aDigitWalks
import Derived.Test.Qxb6000961aShelf
namespace Go.Proofs.Qxb6000961a
open Go.RowKit
namespace Dig

def sgn (l : List UInt8) : List UInt8 := if neg l then [45] else []
def pad (m : List UInt8) (p : Nat) : List UInt8 := if m.length ≤ p then List.replicate (p - m.length + 1) 48 ++ m else m
def wp (l : List UInt8) (p : Nat) : List UInt8 := sgn l ++ (pad (mag l) p).take ((pad (mag l) p).length - p) ++ [46] ++ (pad (mag l) p).drop ((pad (mag l) p).length - p)

theorem app_data (a b : ByteArray) : (a ++ b).data.toList = a.data.toList ++ b.data.toList := by simp

theorem rep_one (c : Nat) : Lib.repeatL [48] c = List.replicate c 48 := by
  have := Lib.repeatL_replicate 48 1 c
  simpa using this

theorem rep0 (c : Int) (h0 : 0 ≤ c) (h1 : c ≤ 65537) (w : World) :
    Calls Try.prog 32 #[.string ⟨#[48]⟩, .int .i64 c] w fun e w' => (∃ Z : ByteArray, e = .returned (.string Z) ∧ Z.data.toList = List.replicate c.toNat 48 ∧ Z.size = c.toNat) ∧ Below w.heap.size w w' := by
  obtain ⟨n, rfl⟩ := Int.eq_ofNat_of_zero_le h0
  refine (Try.strings_Repeat ⟨#[48]⟩ n w (by omega) (by simp only [ByteArray.size, Array.size]; simp; omega)).mono ?_
  rintro e w' ⟨rfl, hb⟩
  refine ⟨⟨_, rfl, ?_, ?_⟩, hb⟩
  · simp [rep_one]
  · simp [rep_one, ByteArray.size]

/-- the walk's own spelling of the result, read as a list of bytes -/
theorem spelt (g M : ByteArray) (a n : Nat) (hn : n = M.size) :
    (g ++ M.extract 0 a ++ ⟨#[46]⟩ ++ M.extract a n).data.toList = g.data.toList ++ M.data.toList.take a ++ [46] ++ M.data.toList.drop a := by
  subst hn
  rw [app_data, app_data, app_data, Lib.extract_to_end, Lib.extract_data]
  simp

theorem len_size (s : ByteArray) : s.data.toList.length = s.size := by simp

theorem finish (s g M : ByteArray) (p a n : Nat) (hn : n = M.size) (ha : a = M.size - p) (hg : sgn s.data.toList = g.data.toList) (hm : pad (mag s.data.toList) p = M.data.toList) :
    (g ++ M.extract 0 a ++ ⟨#[46]⟩ ++ M.extract a n).data.toList = wp s.data.toList p := by
  rw [spelt g M a n hn]
  unfold wp
  rw [hg, hm, len_size, ha]

theorem sgn_pos (s : ByteArray) (h : 1 ≤ s.size) (hd : ((s[0].toNat : Int) == 45) = false) : sgn s.data.toList = [] ∧ mag s.data.toList = s.data.toList := by
  have hn : neg s.data.toList = false := neg_false s h (fun e => by rw [e] at hd; simp at hd)
  unfold sgn mag; rw [hn]; exact ⟨rfl, rfl⟩
theorem sgn_neg (s : ByteArray) (h : 1 ≤ s.size) (hd : ((s[0].toNat : Int) == 45) = true) : sgn s.data.toList = [45] ∧ mag s.data.toList = s.data.toList.drop 1 := by
  have hn : neg s.data.toList = true := neg_true s h (UInt8.toNat_inj.1 (by have := eq_of_beq hd; show s[0].toNat = 45; omega))
  unfold sgn mag; rw [hn]; exact ⟨rfl, tail_drop _⟩

def PointEnd (s : ByteArray) (p : Nat) (e : Ending) : Prop := ∃ R : ByteArray, e = .returned (.string R) ∧ R.data.toList = wp s.data.toList p

set_option maxHeartbeats 800000 in
/-- no sign, more digits than p -/
theorem wp_pl (s : ByteArray) (p : Nat) (h1 : 1 ≤ p) (hp : p ≤ 65536) (hs : 1 ≤ s.size) (hs2 : s.size ≤ 65536) (hd : ((s[0].toNat : Int) == 45) = false) (hlong : p < s.size) (w : World) :
    Calls Try.prog 29 #[.string s, .int .i64 p] w fun e w' => PointEnd s p e ∧ Below w.heap.size w w' := by
  have hp0 : ((p : Int) == 0) = false := beq_eq_false_iff_ne.2 (by omega)
  go_enter Try.func29, Try.ntmps29
  go_wp2
  go_quiet (fail)
  go_wp2
  go_ret
  refine ⟨⟨_, rfl, ?_⟩, below_drewN (Below.refl _ _) _⟩
  obtain ⟨e1, e2⟩ := sgn_pos s hs hd
  exact finish s _ _ p _ _ rfl rfl e1 (by rw [e2]; unfold pad; rw [if_neg (by rw [len_size]; omega)])

set_option maxHeartbeats 800000 in
/-- no sign, at most p digits -/
theorem wp_ps (s : ByteArray) (p : Nat) (h1 : 1 ≤ p) (hp : p ≤ 65536) (hs : 1 ≤ s.size) (hs2 : s.size ≤ 65536) (hd : ((s[0].toNat : Int) == 45) = false) (hsh : s.size ≤ p) (w : World) :
    Calls Try.prog 29 #[.string s, .int .i64 p] w fun e w' => PointEnd s p e ∧ Below w.heap.size w w' := by
  have hp0 : ((p : Int) == 0) = false := beq_eq_false_iff_ne.2 (by omega)
  go_enter Try.func29, Try.ntmps29
  go_wp2_with (go_at_call 32; refine (rep0 _ (by omega) (by omega) _).mono ?_)
  rintro e w1 ⟨⟨Z, rfl, hz, hzs⟩, hb⟩
  have HZ : Hid (Z.data.toList = List.replicate ((p : Int) - (s.size : Int) + 1).toNat 48) := hz
  have HB : Hid (Below w.heap.size w w1) := hb
  have z1 : Z.size + s.size ≤ p + 1 := by omega
  have z2 : p + 1 ≤ Z.size + s.size := by omega
  clear hz hb hzs
  go_wp2
  go_quiet (fail)
  go_wp2
  go_ret
  refine ⟨⟨_, rfl, ?_⟩, below_drewN HB.out _⟩
  obtain ⟨e1, e2⟩ := sgn_pos s hs hd
  refine finish s _ _ p _ _ (by simp) (by simp) e1 ?_
  rw [e2, app_data, HZ.out]
  unfold pad
  rw [if_pos (by rw [len_size]; omega), len_size]
  congr 2
  omega

set_option maxHeartbeats 800000 in
/-- a sign, more digits than p -/
theorem wp_nl (s : ByteArray) (p : Nat) (h1 : 1 ≤ p) (hp : p ≤ 65536) (hs : 1 ≤ s.size) (hs2 : s.size ≤ 65537) (hd : ((s[0].toNat : Int) == 45) = true) (hlong : p < s.size - 1) (w : World) :
    Calls Try.prog 29 #[.string s, .int .i64 p] w fun e w' => PointEnd s p e ∧ Below w.heap.size w w' := by
  have hp0 : ((p : Int) == 0) = false := beq_eq_false_iff_ne.2 (by omega)
  go_enter Try.func29, Try.ntmps29
  go_wp2
  go_quiet (fail)
  go_wp2
  go_quiet (fail)
  go_wp2
  go_ret
  refine ⟨⟨_, rfl, ?_⟩, below_drewN (below_drewN (Below.refl _ _) _) _⟩
  obtain ⟨e1, e2⟩ := sgn_neg s hs hd
  exact finish s _ _ p _ _ (by simp) (by simp) e1 (by rw [e2, Lib.extract_to_end]; unfold pad; rw [if_neg (by rw [List.length_drop, len_size]; omega)])

set_option maxHeartbeats 800000 in
/-- a sign, at most p digits -/
theorem wp_ns (s : ByteArray) (p : Nat) (h1 : 1 ≤ p) (hp : p ≤ 65536) (hs : 1 ≤ s.size) (hs2 : s.size ≤ 65537) (hd : ((s[0].toNat : Int) == 45) = true) (hsh : s.size - 1 ≤ p) (w : World) :
    Calls Try.prog 29 #[.string s, .int .i64 p] w fun e w' => PointEnd s p e ∧ Below w.heap.size w w' := by
  have hp0 : ((p : Int) == 0) = false := beq_eq_false_iff_ne.2 (by omega)
  go_enter Try.func29, Try.ntmps29
  go_wp2
  go_quiet (fail)
  go_wp2_with (go_at_call 32; refine (rep0 _ (by omega) (by omega) _).mono ?_)
  rintro e w1 ⟨⟨Z, rfl, hz, hzs⟩, hb⟩
  have HZ : Hid (Z.data.toList = List.replicate ((p : Int) - ((s.size - 1 : Nat) : Int) + 1).toNat 48) := hz
  have HB : Hid (Below w.heap.size w w1) := (below_drewN (Below.refl _ _) _).trans hb
  have z1 : Z.size + (s.size - 1) ≤ p + 1 := by omega
  have z2 : p + 1 ≤ Z.size + (s.size - 1) := by omega
  clear hz hb hzs
  go_wp2
  go_quiet (fail)
  go_wp2
  go_ret
  refine ⟨⟨_, rfl, ?_⟩, below_drewN HB.out _⟩
  obtain ⟨e1, e2⟩ := sgn_neg s hs hd
  refine finish s _ _ p _ _ (by simp) (by simp) e1 ?_
  rw [e2, app_data, HZ.out, Lib.extract_to_end]
  unfold pad
  rw [if_pos (by rw [List.length_drop, len_size]; omega), List.length_drop, len_size]
  congr 2
  omega

theorem withPoint_any (s : ByteArray) (p : Nat) (h1 : 1 ≤ p) (hp : p ≤ 65536) (hs : 1 ≤ s.size) (hs2 : s.size ≤ 65536) (w : World) :
    Calls Try.prog 29 #[.string s, .int .i64 p] w fun e w' => PointEnd s p e ∧ Below w.heap.size w w' := by
  by_cases hd : ((s[0].toNat : Int) == 45) = true
  · by_cases hl : p < s.size - 1
    · exact wp_nl s p h1 hp hs (by omega) hd hl w
    · exact wp_ns s p h1 hp hs (by omega) hd (by omega) w
  · rw [Bool.not_eq_true] at hd
    by_cases hl : p < s.size
    · exact wp_pl s p h1 hp hs hs2 hd hl w
    · exact wp_ps s p h1 hp hs hs2 hd (by omega) w

theorem zzWithPoint_any (s : ByteArray) (p : Nat) (h1 : 1 ≤ p) (hp : p ≤ 65536) (hs : 1 ≤ s.size) (hs2 : s.size ≤ 65536) (w : World) :
    Calls Try.prog 12 #[.string s, .int .i64 p] w fun e w' => PointEnd s p e ∧ Below w.heap.size w w' := by
  go_enter Try.func12, Try.ntmps12
  go_wp2_with (go_at_call 29; refine (withPoint_any s p h1 hp hs hs2 _).mono ?_)
  rintro e w1 ⟨⟨R, rfl, hr⟩, hb⟩
  have HR : Hid (R.data.toList = wp s.data.toList p) := hr
  have HB : Hid (Below w.heap.size w w1) := hb
  clear hr hb
  go_wp2
  go_ret
  exact ⟨⟨R, rfl, HR.out⟩, HB.out⟩

theorem zzWithPoint_zero (s : ByteArray) (w : World) :
    Calls Try.prog 12 #[.string s, .int .i64 0] w fun e w' => e = .returned (.string s) ∧ w' = w := by
  go_enter Try.func12, Try.ntmps12
  go_wp2
  go_ret
  exact ⟨rfl, rfl⟩
end Dig
end Go.Proofs.Qxb6000961a
