/-! PLAIN LAWS ON THE STEPS OF EUCLID'S ALGORITHM. No Go in sight. -/
namespace Go.Proofs.Qxb6000961a.Steps

/-- What holds at each head of the loop of 'wordSteps': magnitudes p0 r0 p1 r1 of u0 v0 u1 v1; b tells the parity of the steps. -/
structure Inv (X Y S x y p0 r0 p1 r1 : Nat) (b : Bool) : Prop where
  le : y ≤ x
  top : x ≤ X
  same : Nat.gcd x y = Nat.gcd X Y
  hX : r1 * x + r0 * y = X
  hY : p1 * x + p0 * y = Y
  det : if b then p0 * r1 + 1 = r0 * p1 else p0 * r1 = r0 * p1 + 1
  big : (b = false ∧ p0 = 1 ∧ r0 = 0 ∧ p1 = 0 ∧ r1 = 1) ∨ (S ≤ x ∧ p0 ≤ p1 ∧ r0 ≤ r1)

theorem Inv.start {X Y S : Nat} (h : Y ≤ X) : Inv X Y S X Y 1 0 0 1 false :=
  ⟨h, Nat.le_refl _, rfl, by simp, by simp, by simp, Or.inl ⟨rfl, rfl, rfl, rfl, rfl⟩⟩

theorem Inv.step {X Y S x y p0 r0 p1 r1 : Nat} {b : Bool} (h : Inv X Y S x y p0 r0 p1 r1 b) (hS : S ≤ y) (hy : 0 < y) :
    Inv X Y S y (x - x / y * y) p1 r1 (p0 + x / y * p1) (r0 + x / y * r1) (!b) := by
  obtain ⟨hle, htop, hg, hX, hY, hd, hb⟩ := h
  have hg' : Nat.gcd y (x - x / y * y) = Nat.gcd X Y := by
    have e : x - x / y * y = x % y := by have := Nat.div_add_mod x y; rw [Nat.mul_comm] at this; omega
    rw [e, Nat.gcd_comm, ← Nat.gcd_rec, Nat.gcd_comm]; exact hg
  have hq : 1 ≤ x / y := (Nat.le_div_iff_mul_le hy).2 (by omega)
  generalize hqq : x / y = q at *
  have hm : q * y ≤ x := by rw [← hqq]; exact Nat.div_mul_le_self x y
  have hlt : x - q * y < y := by
    have := Nat.lt_div_mul_add hy (a := x)
    rw [hqq] at this; omega
  have key : ∀ a c : Nat, (c + q * a) * y + a * (x - q * y) = a * x + c * y := by
    intro a c
    have e : a * (x - q * y) + a * (q * y) = a * x := by rw [← Nat.mul_add, Nat.sub_add_cancel hm]
    have e2 : q * a * y = a * (q * y) := by rw [Nat.mul_comm q a, Nat.mul_assoc]
    rw [Nat.add_mul, e2]; omega
  refine ⟨by omega, by omega, hg', by rw [key]; exact hX, by rw [key]; exact hY, ?_, Or.inr ⟨hS, ?_, ?_⟩⟩
  · have e1 : p1 * (r0 + q * r1) = r0 * p1 + q * (p1 * r1) := by rw [Nat.mul_add, Nat.mul_comm p1 r0, Nat.mul_left_comm]
    have e2 : r1 * (p0 + q * p1) = p0 * r1 + q * (p1 * r1) := by rw [Nat.mul_add, Nat.mul_comm r1 p0, Nat.mul_left_comm, Nat.mul_comm r1 p1]
    cases b <;> simp at hd ⊢ <;> omega
  · have : p1 ≤ q * p1 := Nat.le_mul_of_pos_left _ hq
    omega
  · have : r1 ≤ q * r1 := Nat.le_mul_of_pos_left _ hq
    omega

/-- The entries are small. -/
theorem Inv.bounds {X Y S x y p0 r0 p1 r1 : Nat} {b : Bool} (h : Inv X Y S x y p0 r0 p1 r1 b) (hb : b = true ∨ ¬ (p0 = 1 ∧ r0 = 0 ∧ p1 = 0 ∧ r1 = 1)) :
    S ≤ x ∧ p0 * S ≤ Y ∧ p1 * S ≤ Y ∧ r0 * S ≤ X ∧ r1 * S ≤ X := by
  obtain ⟨hle, _, _, hX, hY, hd, hbig⟩ := h
  rcases hbig with ⟨rfl, hbig⟩ | ⟨hs, h1, h2⟩
  · rcases hb with h | h
    · cases h
    · exact absurd hbig h
  · have a1 : p1 * S ≤ p1 * x := Nat.mul_le_mul_left _ hs
    have a2 : r1 * S ≤ r1 * x := Nat.mul_le_mul_left _ hs
    have a3 : p0 * S ≤ p1 * S := Nat.mul_le_mul_right _ h1
    have a4 : r0 * S ≤ r1 * S := Nat.mul_le_mul_right _ h2
    omega

/-- the step's new entries are small too -/
theorem Inv.next {X Y S x y p0 r0 p1 r1 : Nat} {b : Bool} (h : Inv X Y S x y p0 r0 p1 r1 b) (hS : S ≤ y) (hy : 0 < y) :
    (p0 + x / y * p1) * S ≤ Y ∧ (r0 + x / y * r1) * S ≤ X := by
  have h' := h.step hS hy
  obtain ⟨hle, _, _, hX, hY, hd, hbig⟩ := h'
  have a1 : (p0 + x / y * p1) * S ≤ (p0 + x / y * p1) * y := Nat.mul_le_mul_left _ hS
  have a2 : (r0 + x / y * r1) * S ≤ (r0 + x / y * r1) * y := Nat.mul_le_mul_left _ hS
  omega

/-- a signed entry -/
def sg (b : Bool) (n : Nat) : Int := if b then -(n : Int) else n

theorem sg_step (b : Bool) (p q r : Nat) : sg b p - (q : Int) * sg (!b) r = sg b (p + q * r) := by
  cases b <;> simp [sg, Int.mul_neg] <;> omega

theorem sg_abs (b : Bool) (n : Nat) : -(n : Int) ≤ sg b n ∧ sg b n ≤ n := by
  cases b <;> simp [sg] <;> omega

/-- The matrix maps (X, Y) to (x, y), in whole numbers. -/
theorem Inv.maps {X Y S x y p0 r0 p1 r1 : Nat} {b : Bool} (h : Inv X Y S x y p0 r0 p1 r1 b) :
    sg b p0 * X + sg (!b) r0 * Y = x ∧ sg (!b) p1 * X + sg b r1 * Y = y := by
  obtain ⟨hle, _, _, hX, hY, hd, _⟩ := h
  have eX : (X : Int) = r1 * x + r0 * y := by rw [← hX]; simp
  have eY : (Y : Int) = p1 * x + p0 * y := by rw [← hY]; simp
  have t1 : (p0 : Int) * X - r0 * Y = (p0 * r1 - r0 * p1) * x := by
    rw [eX, eY, Int.mul_add, Int.mul_add, Int.sub_mul, ← Int.mul_assoc, ← Int.mul_assoc, ← Int.mul_assoc, ← Int.mul_assoc, Int.mul_comm (r0 : Int) p0]; omega
  have t2 : (r1 : Int) * Y - p1 * X = (p0 * r1 - r0 * p1) * y := by
    rw [eX, eY, Int.mul_add, Int.mul_add, Int.sub_mul, ← Int.mul_assoc, ← Int.mul_assoc, ← Int.mul_assoc, ← Int.mul_assoc, Int.mul_comm (r1 : Int) p1, Int.mul_comm (r1 : Int) p0, Int.mul_comm (p1 : Int) r0]; omega
  cases b
  · simp at hd
    have e : (p0 : Int) * r1 - r0 * p1 = 1 := by
      have : ((p0 * r1 : Nat) : Int) = ((r0 * p1 + 1 : Nat) : Int) := by rw [hd]
      simp at this; omega
    rw [e, Int.one_mul] at t1 t2
    simp [sg, Int.neg_mul]; omega
  · simp at hd
    have e : (p0 : Int) * r1 - r0 * p1 = -1 := by
      have : ((p0 * r1 + 1 : Nat) : Int) = ((r0 * p1 : Nat) : Int) := by rw [hd]
      simp at this; omega
    rw [e] at t1 t2
    simp [sg, Int.neg_mul] at t1 t2 ⊢; omega

/-- the determinant -/
theorem Inv.deter {X Y S x y p0 r0 p1 r1 : Nat} {b : Bool} (h : Inv X Y S x y p0 r0 p1 r1 b) :
    sg b p0 * sg b r1 - sg (!b) r0 * sg (!b) p1 = sg b 1 := by
  obtain ⟨_, _, _, _, _, hd, _⟩ := h
  cases b <;> simp [sg, Int.neg_mul_neg] at hd ⊢
  · have : ((p0 * r1 : Nat) : Int) = ((r0 * p1 + 1 : Nat) : Int) := by rw [hd]
    simp at this; omega
  · have : ((p0 * r1 + 1 : Nat) : Int) = ((r0 * p1 : Nat) : Int) := by rw [hd]
    simp at this; omega

/-- All that the walk of one round wants to know of its numbers. -/
theorem Inv.round {X Y s x y p0 r0 p1 r1 : Nat} {b : Bool} (h : Inv X Y (2 ^ s) x y p0 r0 p1 r1 b) (hX : X < 18446744073709551616) (hYX : Y ≤ X) (hs : 1 ≤ s) (hy : 2 ^ s ≤ y) :
    0 < y ∧ s < 64 ∧ (x / y : Nat) ≤ 9223372036854775807 ∧ x / y * y ≤ x ∧
    ((-9223372036854775808 ≤ ((x / y : Nat) : Int) * sg (!b) p1 ∧ ((x / y : Nat) : Int) * sg (!b) p1 ≤ 9223372036854775807) ∧
     (-9223372036854775808 ≤ ((x / y : Nat) : Int) * sg b r1 ∧ ((x / y : Nat) : Int) * sg b r1 ≤ 9223372036854775807)) ∧
    ((-9223372036854775808 ≤ sg b (p0 + x / y * p1) ∧ sg b (p0 + x / y * p1) ≤ 9223372036854775807) ∧
     (-9223372036854775808 ≤ sg (!b) (r0 + x / y * r1) ∧ sg (!b) (r0 + x / y * r1) ≤ 9223372036854775807)) := by
  have hpos : 0 < 2 ^ s := Nat.two_pow_pos s
  have htwo : 2 ≤ 2 ^ s := by
    have := Nat.pow_le_pow_right (n := 2) (by decide) hs
    simpa using this
  have hy0 : 0 < y := by omega
  have htop := h.top
  have hle := h.le
  have hlt : s < 64 := by
    rcases Nat.lt_or_ge s 64 with h1 | h1
    · exact h1
    · have := Nat.pow_le_pow_right (n := 2) (by decide) h1
      have e : (2 : Nat) ^ 64 = 18446744073709551616 := by decide
      omega
  obtain ⟨n1, n2⟩ := h.next hy hy0
  have hq : x / y ≤ x / 2 := Nat.div_le_div_left (by omega) (by decide)
  have hm : x / y * y ≤ x := Nat.div_mul_le_self x y
  generalize x / y = q at *
  have m1 : (p0 + q * p1) * 2 ≤ (p0 + q * p1) * 2 ^ s := Nat.mul_le_mul_left _ htwo
  have m2 : (r0 + q * r1) * 2 ≤ (r0 + q * r1) * 2 ^ s := Nat.mul_le_mul_left _ htwo
  have k1 : ∀ (c : Bool) (n : Nat), (q : Int) * sg c n = sg c (q * n) := by
    intro c n; cases c <;> simp [sg, Int.mul_neg]
  rw [k1, k1]
  have a1 := sg_abs (!b) (q * p1)
  have a2 := sg_abs b (q * r1)
  have a3 := sg_abs b (p0 + q * p1)
  have a4 := sg_abs (!b) (r0 + q * r1)
  refine ⟨hy0, hlt, by omega, hm, ⟨⟨by omega, by omega⟩, by omega, by omega⟩, ⟨by omega, by omega⟩, by omega, by omega⟩

/-- Each entry is at most 2^(64-s), and the matrix is the first one where 64 ≤ s. -/
theorem Inv.small {X Y s x y p0 r0 p1 r1 : Nat} {b : Bool} (h : Inv X Y (2 ^ s) x y p0 r0 p1 r1 b) (hX : X < 18446744073709551616) (hYX : Y ≤ X) :
    (s ≤ 64 → p0 ≤ 2 ^ (64 - s) ∧ r0 ≤ 2 ^ (64 - s) ∧ p1 ≤ 2 ^ (64 - s) ∧ r1 ≤ 2 ^ (64 - s)) ∧ (64 ≤ s → p0 = 1 ∧ r0 = 0 ∧ p1 = 0 ∧ r1 = 1) := by
  have e64 : (2 : Nat) ^ 64 = 18446744073709551616 := by decide
  have hpos : 0 < 2 ^ (64 - s) := Nat.two_pow_pos _
  by_cases hin : p0 = 1 ∧ r0 = 0 ∧ p1 = 0 ∧ r1 = 1
  · obtain ⟨rfl, rfl, rfl, rfl⟩ := hin
    exact ⟨fun _ => by omega, fun _ => ⟨rfl, rfl, rfl, rfl⟩⟩
  · obtain ⟨h1, h2, h3, h4, h5⟩ := h.bounds (Or.inr hin)
    have htop := h.top
    constructor
    · intro hs
      have hp : 0 < 2 ^ s := Nat.two_pow_pos _
      have e : 2 ^ (64 - s) * 2 ^ s = 18446744073709551616 := by rw [← Nat.pow_add, ← e64]; congr 1; omega
      have k : ∀ n, n * 2 ^ s ≤ X → n ≤ 2 ^ (64 - s) := by
        intro n hn
        refine Nat.le_of_mul_le_mul_right ?_ hp
        omega
      exact ⟨k _ (by omega), k _ h4, k _ (by omega), k _ h5⟩
    · intro hs
      have := Nat.pow_le_pow_right (n := 2) (by decide) hs
      omega

/-- Each entry fits an int64 where 1 ≤ s. -/
theorem Inv.fit {X Y s x y p0 r0 p1 r1 : Nat} {b : Bool} (h : Inv X Y (2 ^ s) x y p0 r0 p1 r1 b) (hX : X < 18446744073709551616) (hYX : Y ≤ X) (hs : 1 ≤ s) :
    p0 ≤ 9223372036854775807 ∧ r0 ≤ 9223372036854775807 ∧ p1 ≤ 9223372036854775807 ∧ r1 ≤ 9223372036854775807 := by
  by_cases hin : p0 = 1 ∧ r0 = 0 ∧ p1 = 0 ∧ r1 = 1
  · obtain ⟨rfl, rfl, rfl, rfl⟩ := hin
    omega
  · obtain ⟨h1, h2, h3, h4, h5⟩ := h.bounds (Or.inr hin)
    have htwo : 2 ≤ 2 ^ s := by
      have := Nat.pow_le_pow_right (n := 2) (by decide) hs
      simpa using this
    have k : ∀ n, n * 2 ^ s ≤ X → n ≤ 9223372036854775807 := by
      intro n hn
      have := Nat.mul_le_mul_left n htwo
      omega
    exact ⟨k _ (by omega), k _ h4, k _ (by omega), k _ h5⟩

/-! ### Stein's algorithm -/
theorem gcd_both (a b : Nat) (ha : a % 2 = 0) (hb : b % 2 = 0) : Nat.gcd a b = 2 * Nat.gcd (a / 2) (b / 2) := by
  have e1 : a = 2 * (a / 2) := by omega
  have e2 : b = 2 * (b / 2) := by omega
  rw [← Nat.gcd_mul_left, ← e1, ← e2]

theorem cop2 (b : Nat) (hb : b % 2 = 1) : Nat.Coprime 2 b := by
  unfold Nat.Coprime
  rw [Nat.gcd_rec, hb, Nat.gcd_one_left]

theorem gcd_left (a b : Nat) (ha : a % 2 = 0) (hb : b % 2 = 1) : Nat.gcd a b = Nat.gcd (a / 2) b := by
  have e1 : a = 2 * (a / 2) := by omega
  conv => lhs; rw [e1]
  exact Nat.Coprime.gcd_mul_left_cancel _ (cop2 b hb)

theorem gcd_right (a b : Nat) (ha : a % 2 = 1) (hb : b % 2 = 0) : Nat.gcd a b = Nat.gcd a (b / 2) := by
  rw [Nat.gcd_comm, gcd_left b a hb ha, Nat.gcd_comm]

theorem gcd_sub (a b : Nat) (h : a ≤ b) : Nat.gcd a b = Nat.gcd a (b - a) := by
  have e : b = (b - a) + a := by omega
  conv => lhs; rw [e]
  rw [Nat.gcd_add_self_right]

end Go.Proofs.Qxb6000961a.Steps
