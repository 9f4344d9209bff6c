import Derived.Test.Qxb6000961aPointWalks
namespace Go.Proofs.Qxb6000961a
open Go.RowKit
namespace Dig

/-! THE PLAIN LAWS on the order of digits with a point -/
theorem u8_lt_irrefl (x : UInt8) : ¬ x < x := by rw [UInt8.lt_iff_toNat_lt]; omega

theorem cmp_app (c a b : List UInt8) : cmp (c ++ a) (c ++ b) = cmp a b := by
  induction c with
  | nil => rfl
  | cons x xs ih => show (if x < x then (-1 : Int) else if x < x then 1 else cmp (xs ++ a) (xs ++ b)) = _; rw [if_neg (u8_lt_irrefl x), if_neg (u8_lt_irrefl x), ih]

theorem cmp_split : ∀ (a1 b1 a2 b2 : List UInt8), a1.length = b1.length → cmp (a1 ++ a2) (b1 ++ b2) = if cmp a1 b1 = 0 then cmp a2 b2 else cmp a1 b1
  | [], [], a2, b2, _ => by simp [cmp]
  | [], y :: ys, _, _, h => by simp at h
  | x :: xs, [], _, _, h => by simp at h
  | x :: xs, y :: ys, a2, b2, h => by
    have ih := cmp_split xs ys a2 b2 (by simpa using h)
    show (if x < y then (-1 : Int) else if y < x then 1 else cmp (xs ++ a2) (ys ++ b2)) = if (if x < y then (-1 : Int) else if y < x then 1 else cmp xs ys) = 0 then cmp a2 b2 else (if x < y then (-1 : Int) else if y < x then 1 else cmp xs ys)
    by_cases h1 : x < y
    · simp only [if_pos h1]; rfl
    · by_cases h2 : y < x
      · simp only [if_neg h1, if_pos h2]; rfl
      · simp only [if_neg h1, if_neg h2]; exact ih

theorem cmp_point (a b : List UInt8) (k : Nat) (h : a.length = b.length) :
    cmp ([] ++ a.take k ++ [46] ++ a.drop k) ([] ++ b.take k ++ [46] ++ b.drop k) = cmp a b := by
  have hl : (a.take k).length = (b.take k).length := by simp [h]
  have e : cmp a b = cmp (a.take k ++ a.drop k) (b.take k ++ b.drop k) := by rw [List.take_append_drop, List.take_append_drop]
  rw [e, cmp_split _ _ _ _ hl, List.nil_append, List.nil_append, List.append_assoc, List.append_assoc, cmp_split _ _ _ _ hl, cmp_app]

theorem neg_digit (l : List UInt8) (h : allD l = true) : neg l = false := by
  cases l with
  | nil => rfl
  | cons x xs =>
    have hx : dB x = true := by unfold allD at h; simp at h; exact h.1
    unfold neg
    by_cases e : x = 45
    · rw [e] at hx; exact absurd hx (by decide)
    · simp [e]

theorem wp_digit (l : List UInt8) (p : Nat) (h : allD l = true) : wp l p = [] ++ (pad l p).take ((pad l p).length - p) ++ [46] ++ (pad l p).drop ((pad l p).length - p) := by
  have hn := neg_digit l h
  unfold wp sgn mag
  rw [hn]
  rfl

theorem pad_length (l : List UInt8) (p : Nat) : (pad l p).length = if l.length ≤ p then p + 1 else l.length := by
  unfold pad; split
  · simp; omega
  · rfl

theorem cmp_wp (a b : List UInt8) (p : Nat) (ha : allD a = true) (hb : allD b = true) (h : a.length = b.length) : cmp (wp a p) (wp b p) = cmp a b := by
  have hp : (pad a p).length = (pad b p).length := by rw [pad_length, pad_length, h]
  rw [wp_digit a p ha, wp_digit b p hb, hp, cmp_point _ _ _ hp]
  unfold pad
  rw [h]
  split
  · exact cmp_app _ _ _
  · rfl

theorem wp_length (l : List UInt8) (p : Nat) (hp : p ≤ 65536) (hl : l.length ≤ 65536) (h : allD l = true) : (wp l p).length = (pad l p).length + 1 ∧ (pad l p).length ≤ 65537 := by
  have e := pad_length l p
  rw [wp_digit l p h]
  constructor
  · simp; omega
  · rw [e]; split <;> omega

theorem bt {w w1 w2 : World} (h : Below w.heap.size w w1) (k : Below w1.heap.size w1 w2) : Below w.heap.size w w2 := h.trans (k.mono h.size)
end Dig
end Go.Proofs.Qxb6000961a
