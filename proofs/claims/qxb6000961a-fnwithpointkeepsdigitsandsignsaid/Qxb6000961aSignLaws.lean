import Derived.Test.Qxb6000961aOrderLaws
namespace Go.Proofs.Qxb6000961a
open Go.RowKit
namespace Dig

/-- All that the law's second half wants to know of 'rest' (T), 'magnitude' (Mg), prec (p) and the point's place (k). -/
structure Rest (T Mg : ByteArray) (p k : Nat) : Prop where
  hk : 1 ≤ k
  sz : T.size = k + 1 + p
  dot : ∀ h : k < T.size, T[k] = 46
  dig : ∀ (i : Nat) (h : i < T.size), i ≠ k → dB T[i] = true
  join : strip (T.data.toList.take k ++ T.data.toList.drop (k + 1)) = strip Mg.data.toList
  long : p < Mg.size → k + p = Mg.size
  short : Mg.size ≤ p → k = 1

theorem strip_zeros (n : Nat) (l : List UInt8) : strip (List.replicate n 48 ++ l) = strip l := by
  induction n with
  | zero => rfl
  | succ n ih => rw [List.replicate_succ, List.cons_append]; unfold strip; rw [List.dropWhile_cons, if_pos (by rfl)]; exact ih

theorem strip_pad (m : List UInt8) (p : Nat) : strip (pad m p) = strip m := by
  unfold pad; split
  · exact strip_zeros _ _
  · rfl

theorem allD_pad (m : List UInt8) (p : Nat) (h : allD m = true) : allD (pad m p) = true := by
  unfold pad; split
  · unfold allD at h ⊢
    rw [List.all_append, h, Bool.and_true, List.all_eq_true]
    intro x hx
    rw [List.eq_of_mem_replicate hx]
    rfl
  · exact h

theorem rest_of (T Mg : ByteArray) (p : Nat) (hd : allD Mg.data.toList = true)
    (hT : T.data.toList = (pad Mg.data.toList p).take ((pad Mg.data.toList p).length - p) ++ [46] ++ (pad Mg.data.toList p).drop ((pad Mg.data.toList p).length - p)) :
    Rest T Mg p ((pad Mg.data.toList p).length - p) := by
  have hl := pad_length Mg.data.toList p
  rw [len_size] at hl
  have hM := allD_pad Mg.data.toList p hd
  have hst := strip_pad Mg.data.toList p
  generalize pad Mg.data.toList p = M at *
  have hlp : p + 1 ≤ M.length := by rw [hl]; split <;> omega
  have hk : (M.take (M.length - p)).length = M.length - p := by simp
  have hsz : T.size = M.length - p + 1 + p := by rw [← len_size, hT]; simp; omega
  have hget : ∀ (i : Nat) (h : i < T.size), T[i] = (T.data.toList)[i]'(by rw [len_size]; exact h) := fun i h => rfl
  refine ⟨by omega, hsz, ?_, ?_, ?_, ?_, ?_⟩
  · intro h
    rw [hget _ h]
    simp only [hT]
    rw [List.getElem_append_left (by simp), List.getElem_append_right (by simp)]
    simp
  · intro i h hne
    have hmem : T[i] ∈ M := by
      rw [hget i h]
      simp only [hT]
      by_cases hlt : i < M.length - p
      · rw [List.getElem_append_left (by simp; omega), List.getElem_append_left (by simp; omega)]
        exact List.mem_of_mem_take (List.getElem_mem _)
      · rw [List.getElem_append_right (by simp; omega)]
        exact List.mem_of_mem_drop (List.getElem_mem _)
    unfold allD at hM
    rw [List.all_eq_true] at hM
    exact hM _ hmem
  · rw [hT]
    have e1 : (M.take (M.length - p) ++ [46] ++ M.drop (M.length - p)).take (M.length - p) = M.take (M.length - p) := by
      rw [List.append_assoc, List.take_append_of_le_length (by simp), List.take_of_length_le (by simp)]
    have e2 : (M.take (M.length - p) ++ [46] ++ M.drop (M.length - p)).drop (M.length - p + 1) = M.drop (M.length - p) := by
      have : M.length - p + 1 = (M.take (M.length - p) ++ [46]).length := by simp
      rw [this, List.drop_left']
      rfl
    rw [e1, e2, List.take_append_drop]
    exact hst
  · intro h
    rw [hl, if_neg (by omega)]; omega
  · intro h
    rw [hl, if_pos h]; omega

theorem dB_not (c : UInt8) (h : dB c = true) : ((c.toNat : Int) == 46) = false ∧ ((c.toNat : Int) == 45) = false := by
  unfold dB isD at h
  simp only [decide_eq_true_eq] at h
  exact ⟨beq_eq_false_iff_ne.2 (by omega), beq_eq_false_iff_ne.2 (by omega)⟩

/-- a sign: 'rest' is what stands behind the sign -/
theorem rest_neg (s R : ByteArray) (p : Nat) (hs : 1 ≤ s.size) (hd : ((s[0].toNat : Int) == 45) = true) (hw : wfB s.data.toList = true) (hR : R.data.toList = wp s.data.toList p) :
    ∃ h : 0 < R.size, ((R[0].toNat : Int) == 45) = true ∧ Rest (R.extract 1 R.size) (s.extract 1 s.size) p ((pad (s.extract 1 s.size).data.toList p).length - p) := by
  obtain ⟨e1, e2⟩ := sgn_neg s hs hd
  have e3 : (s.extract 1 s.size).data.toList = s.data.toList.drop 1 := Lib.extract_to_end s 1
  have hdg : allD (mag s.data.toList) = true := by unfold wfB at hw; simp at hw; exact hw.2
  unfold wp at hR
  rw [e1, e2] at hR
  rw [e2] at hdg
  have hpos : 0 < R.size := by rw [← len_size, hR]; simp
  have h0 : R[0] = 45 := by
    have : R.data.toList.head? = some R[0] := head_at R hpos
    rw [hR] at this
    simpa using this.symm
  refine ⟨hpos, by rw [h0]; rfl, rest_of _ _ p (by rw [e3]; exact hdg) ?_⟩
  rw [Lib.extract_to_end, hR, e3]
  simp

theorem rest_pos (s R : ByteArray) (p : Nat) (hs : 1 ≤ s.size) (hd : ((s[0].toNat : Int) == 45) = false) (hw : wfB s.data.toList = true) (hR : R.data.toList = wp s.data.toList p) :
    ∃ h : 0 < R.size, ((R[0].toNat : Int) == 45) = false ∧ Rest R s p ((pad s.data.toList p).length - p) := by
  obtain ⟨e1, e2⟩ := sgn_pos s hs hd
  have hdg : allD (mag s.data.toList) = true := by unfold wfB at hw; simp at hw; exact hw.2
  unfold wp at hR
  rw [e1, e2, List.nil_append] at hR
  rw [e2] at hdg
  have hr := rest_of R s p hdg hR
  have hpos : 0 < R.size := by have := hr.sz; omega
  exact ⟨hpos, (dB_not _ (hr.dig 0 hpos (by have := hr.hk; omega))).2, hr⟩
end Dig
end Go.Proofs.Qxb6000961a
