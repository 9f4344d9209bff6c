import Derived.Test.Qxb6600300aBuild
namespace Go.Proofs.Qxb6600300a
open Go.RowKit

/-! ### PLAIN LAWS on sums -/
theorem tot_congr (A L A' L' : Nat → Int) (n : Nat) (h : ∀ i, i < n → A i = A' i ∧ L i = L' i) : tot A L n = tot A' L' n := by
  induction n with
  | zero => rfl
  | succ n ih => simp only [tot]; rw [ih (fun i hi => h i (by omega)), (h n (by omega)).1, (h n (by omega)).2]

theorem tot_split (A L : Nat → Int) (k m : Nat) : tot A L (k + m) = tot A L k + tot (fun i => A (k + i)) (fun i => L (k + i)) m := by
  induction m with
  | zero => simp [tot]
  | succ m ih => rw [← Nat.add_assoc]; simp only [tot]; rw [ih]; omega

theorem tot_front (A L : Nat → Int) (n : Nat) : tot A L (n + 1) = (A 0 + L 0) + tot (fun i => A (1 + i)) (fun i => L (1 + i)) n := by
  rw [Nat.add_comm n 1, tot_split A L 1 n]; simp [tot]

theorem tot_rev (A L : Nat → Int) (n : Nat) : tot (fun i => A (n - 1 - i)) (fun i => L (n - 1 - i)) n = tot A L n := by
  induction n generalizing A L with
  | zero => rfl
  | succ n ih =>
    rw [tot_front A L n]
    simp only [tot]
    have e0 : n + 1 - 1 - n = 0 := by omega
    rw [e0, ← ih (fun i => A (1 + i)) (fun i => L (1 + i))]
    rw [tot_congr (fun i => A (n + 1 - 1 - i)) (fun i => L (n + 1 - 1 - i)) (fun i => A (1 + (n - 1 - i))) (fun i => L (1 + (n - 1 - i))) n (fun i hi => by
      have e : n + 1 - 1 - i = 1 + (n - 1 - i) := by omega
      exact ⟨by simp only [e], by simp only [e]⟩)]
    omega

theorem tot_bump (A L : Nat → Int) (k n : Nat) (h : k < n) : tot A (fun j => if j = k then L j + 1 else L j) n = tot A L n + 1 := by
  obtain ⟨m, rfl⟩ : ∃ m, n = k + 1 + m := ⟨n - (k + 1), by omega⟩
  rw [tot_split, tot_split A L (k + 1) m]
  simp only [tot]
  rw [tot_congr A (fun j => if j = k then L j + 1 else L j) A L k (fun i hi => ⟨rfl, if_neg (by omega)⟩)]
  rw [tot_congr (fun i => A (k + 1 + i)) (fun i => if k + 1 + i = k then L (k + 1 + i) + 1 else L (k + 1 + i)) (fun i => A (k + 1 + i)) (fun i => L (k + 1 + i)) m (fun i hi => ⟨rfl, if_neg (by omega)⟩)]
  rw [if_pos trivial]
  omega

theorem tot_nonneg (A L : Nat → Int) (n : Nat) (h : ∀ i, i < n → 0 ≤ A i ∧ 0 ≤ L i) : 0 ≤ tot A L n := by
  induction n with
  | zero => simp [tot]
  | succ n ih => simp only [tot]; have := ih (fun i hi => h i (by omega)); have := h n (by omega); omega

theorem tot_le (A L : Nat → Int) (k n : Nat) (hk : k ≤ n) (h : ∀ i, i < n → 0 ≤ A i ∧ 0 ≤ L i) : tot A L k ≤ tot A L n := by
  obtain ⟨m, rfl⟩ : ∃ m, n = k + m := ⟨n - k, by omega⟩
  rw [tot_split]
  have := tot_nonneg (fun i => A (k + i)) (fun i => L (k + i)) m (fun i hi => h (k + i) (by omega))
  omega

theorem tot_each (A L : Nat → Int) (n i : Nat) (hi : i < n) (h : ∀ i, i < n → 0 ≤ A i ∧ 0 ≤ L i) : A i ≤ tot A L n ∧ L i ≤ tot A L n := by
  have h1 := tot_le A L (i + 1) n (by omega) h
  have h2 := tot_nonneg A L i (fun j hj => h j (by omega))
  simp only [tot] at h1
  have := h i hi
  omega

/-- what both callees ask of the counts -/
structure Small (n : Nat) (A L : Nat → Int) : Prop where
  each : ∀ i, i < n → 0 ≤ A i ∧ A i ≤ 65537 ∧ 0 ≤ L i ∧ L i ≤ 65537
  sums : ∀ k, k ≤ n → 0 ≤ tot A L k ∧ tot A L k ≤ 65537

theorem small_of (n : Nat) (A L : Nat → Int) (h : ∀ i, i < n → 0 ≤ A i ∧ 0 ≤ L i) (hs : tot A L n ≤ 65537) : Small n A L :=
  ⟨fun i hi => by have h1 := tot_each A L n i hi h; have h2 := h i hi; omega,
   fun k hk => ⟨tot_nonneg A L k (fun i hi => h i (by omega)), by have := tot_le A L k n hk h; omega⟩⟩

theorem small_whole {n : Nat} {A L : Nat → Int} (f : Fit n A L) : Small n A L := small_of n A L f.pos (by have := f.sum; omega)
theorem small_front {n : Nat} {A L : Nat → Int} (f : Fit n A L) {k : Nat} (hk : k ≤ n) : Small k A L :=
  small_of k A L (fun i hi => f.pos i (by omega)) (by have := f.sum; have := tot_le A L k n hk f.pos; omega)
theorem small_back {n : Nat} {A L : Nat → Int} (f : Fit n A L) {k : Nat} (hk : k ≤ n) : Small (n - k) (fun i => A (k + i)) (fun i => L (k + i)) := by
  refine small_of _ _ _ (fun i hi => f.pos (k + i) (by omega)) ?_
  have h1 := tot_split A L k (n - k)
  rw [show k + (n - k) = n by omega] at h1
  have h2 := tot_nonneg A L k (fun i hi => f.pos i (by omega))
  have := f.sum
  omega
theorem small_rev {n : Nat} {A L : Nat → Int} (f : Fit n A L) : Small n (fun i => A (n - 1 - i)) (fun i => L (n - 1 - i)) :=
  small_of _ _ _ (fun i hi => f.pos (n - 1 - i) (by omega)) (by rw [tot_rev]; have := f.sum; omega)
theorem small_bump {n : Nat} {A L : Nat → Int} (f : Fit n A L) {k : Nat} (hk : k < n) : Small n A (fun j => if j = k then L j + 1 else L j) := by
  refine small_of _ _ _ (fun i hi => ?_) (by rw [tot_bump A L k n hk]; have := f.sum; omega)
  have := f.pos i hi
  by_cases e : i = k
  · rw [if_pos e]; omega
  · rw [if_neg e]; omega

theorem back_sum (A L : Nat → Int) {k n : Nat} (hk : k ≤ n) : tot A L n = tot A L k + tot (fun i => A (k + i)) (fun i => L (k + i)) (n - k) := by
  have h1 := tot_split A L k (n - k)
  rwa [show k + (n - k) = n by omega] at h1
end Go.Proofs.Qxb6600300a
