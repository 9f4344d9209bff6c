/-
  THE PROOF OF 'Rows.FnWithPointKeepsDigitsAndSignSaid'. The frame was written by the kit's proof-skeleton tool for this program; the walk is ours.
-/
import Derived.Test.Qxb6000961aRows
import Derived.WalkKit
import Derived.ProofKit
import Derived.OpenShut
import Derived.ShutString
import Derived.Test.Qxb6000961aDigitWalks
import Derived.Test.Qxb6000961aShelf
import Derived.Test.Qxb6000961aPointWalks
import Derived.Test.Qxb6000961aOrderLaws
import Derived.Test.Qxb6000961aSignLaws
namespace Go.Proofs.Qxb6000961a.fnWithPointKeepsDigitsAndSign
open Go.ChangeShapes Go.WideShapes Go.ChangeAt Go.RowKit
open Go.ChangeMaps (open_string shut_string)
set_option linter.unusedVariables false      -- a walk need not use every 'w<i>' (that an integer argument fits its kind)

theorem own : ownKnob Try.prog.godebug = none := by kernel_rfl

/-! ### STEP 1: THE WALK: the Go text returns true. 'Below w.heap.size w w'': nothing that was there has turned (Derived/Below.lean). (strings.Repeat's builder freezes the bytes of a new block, so the frame's plainer word for the world does not hold here.) -/
def At (k n : Nat) (tp ti : Value) : Prop := ∃ i : Nat, i ≤ n ∧ ti = .int .i64 i ∧ ((i ≤ k ∧ tp = .int .i64 (-1)) ∨ (k < i ∧ tp = .int .i64 k))

set_option maxHeartbeats 2000000 in
theorem main_neg (s : ByteArray) (p : Nat) (w : World) (h1 : 1 ≤ p) (hp : p ≤ 65536) (ha : s.size ≤ 65536) (ha1 : 1 ≤ s.size) (hd : ((s[0].toNat : Int) == 45) = true)
    (hw : Dig.wfB s.data.toList = true) :
    Calls Try.prog 3 #[.string s, .int .i64 p] w fun e w' => e = .returned (.bool true) ∧ Below w.heap.size w w' := by
  have z0 : ((p : Int) == 0) = false := beq_eq_false_iff_ne.2 (by omega)
  have ma : s.size ≤ maxLen := by unfold maxLen; omega
  go_enter Try.func3, Try.ntmps3
  go_wp2_with (first | (go_at_call 11; refine (Dig.zzBytes3_any _ _ _ (by omega)).mono ?_; rintro e w' ⟨rfl, rfl⟩) | (go_at_call 13; refine (Dig.wellFormed_any s ma _).mono ?_; rintro e w' ⟨rfl, rfl⟩))
  refine (Dig.zzWithPoint_any s p h1 hp ha1 ha _).mono ?_
  rintro e w1 ⟨⟨R, rfl, hR⟩, hb1⟩
  obtain ⟨hpos, r0, hrest⟩ := Dig.rest_neg s R p ha1 hd hw hR
  have HB : Hid (Below w'.heap.size w' w1) := hb1
  clear hR hb1
  have HR : Hid (Dig.Rest (R.extract 1 R.size) (s.extract 1 s.size) p ((Dig.pad (s.extract 1 s.size).data.toList p).length - p)) := hrest
  have hRs : R.size ≤ 200000 := by
    have h2 := hrest.sz
    have h3 := hrest.long
    have h4 := hrest.short
    simp at h2 h3 h4
    omega
  clear hrest
  have r1 : ((R.size : Int) == 0) = false := beq_eq_false_iff_ne.2 (by omega)
  have r2 : ((R[0].toNat : Int) != 45) = false := by rw [bne_eq_false_iff_eq]; exact eq_of_beq r0
  clear r0
  go_wp2
  have hMg0 : (s.extract 1 s.size).size ≤ 65536 := by simp; omega
  generalize R.extract 1 R.size = T at HR ⊢
  generalize s.extract 1 s.size = Mg at HR hMg0 ⊢
  generalize (Dig.pad Mg.data.toList p).length - p = k at HR
  have hMg : Mg.size ≤ 65536 := hMg0
  clear hMg0
  have hk1 := HR.out.hk
  have sz1 : T.size ≤ k + 1 + p := by have := HR.out.sz; omega
  have sz2 : k + 1 + p ≤ T.size := by have := HR.out.sz; omega
  have hk2 : k ≤ 65537 := by have h2 := HR.out.long; have h3 := HR.out.short; omega
  have hkT : k < T.size := by omega
  go_loop [9, 10] (fun tp ti => At k T.size tp ti) (fun _ ti => T.size - (intOf ti).toNat)
  case atStart => exact ⟨0, Nat.zero_le _, rfl, Or.inl ⟨Nat.zero_le _, rfl⟩⟩
  case round =>
    obtain ⟨i, hi, rfl, hpt⟩ := hrel
    by_cases hlt : i < T.size
    · by_cases hik : i = k
      · subst hik
        have hdot : ((T[i].toNat : Int) == 46) = true := by rw [HR.out.dot hlt]; rfl
        rcases hpt with ⟨_, rfl⟩ | ⟨hc, _⟩
        · go_wp2_with fail
          go_round
          case rel => exact ⟨i + 1, by omega, by go_num, Or.inr ⟨by omega, rfl⟩⟩
          case measure => simp [intOf]; omega
        · omega
      · have hdg := HR.out.dig i hlt hik
        have hnd := (Dig.dB_not _ hdg).1
        have hdg' : Dig.isD (T[i].toNat : Int) = true := hdg
        have hbt : T[i].toNat < 256 := T[i].toNat_lt
        clear hdg
        rcases hpt with ⟨hc, rfl⟩ | ⟨hc, rfl⟩
        · go_wp2_with (go_at_call 14; refine (Dig.isDigit_any _ (by omega) (by omega) _).mono ?_; rintro e w' ⟨rfl, rfl⟩)
          go_round
          case rel => exact ⟨i + 1, by omega, by go_num, Or.inl ⟨by omega, rfl⟩⟩
          case measure => simp [intOf]; omega
        · go_wp2_with (go_at_call 14; refine (Dig.isDigit_any _ (by omega) (by omega) _).mono ?_; rintro e w' ⟨rfl, rfl⟩)
          go_round
          case rel => exact ⟨i + 1, by omega, by go_num, Or.inr ⟨by omega, rfl⟩⟩
          case measure => simp [intOf]; omega
    · rcases hpt with ⟨hc, _⟩ | ⟨hc, rfl⟩
      · omega
      · have hne : ((T.size : Int) - (k : Int) - 1 != (p : Int)) = false := by rw [bne_eq_false_iff_eq]; omega
        go_wp2_with fail
        go_quiet (fail)
        go_wp2_with fail
        have hJ : (T.extract 0 k ++ T.extract (k + 1) T.size).data.toList = T.data.toList.take k ++ T.data.toList.drop (k + 1) := by
          rw [Dig.app_data, Lib.extract_to_end, Lib.extract_data]; simp
        have hJs : (T.extract 0 k ++ T.extract (k + 1) T.size).size = k + p := by
          rw [← Dig.len_size, hJ]; simp; omega
        have HJ : Hid (Dig.strip (T.extract 0 k ++ T.extract (k + 1) T.size).data.toList = Dig.strip Mg.data.toList) := by
          show Dig.strip (T.extract 0 k ++ T.extract (k + 1) T.size).data.toList = Dig.strip Mg.data.toList
          rw [hJ]; exact HR.out.join
        clear hJ
        generalize T.extract 0 k ++ T.extract (k + 1) T.size = J at HJ hJs ⊢
        have j1 : J.size ≤ k + p := by omega
        have j2 : k + p ≤ J.size := by omega
        clear hJs
        refine (Dig.strip_any J (by unfold maxLen; omega) _).mono ?_
        rintro e w' ⟨⟨A, rfl, hA⟩, rfl⟩
        have HA : Hid (A.data.toList = Dig.strip J.data.toList) := hA
        clear hA
        go_wp2_with fail
        refine (Dig.strip_any Mg (by unfold maxLen; omega) _).mono ?_
        rintro e w' ⟨⟨B, rfl, hB⟩, rfl⟩
        have hAB : A = B := by
          have : A.data.toList = B.data.toList := by rw [HA.out, HJ.out, hB]
          exact ByteArray.ext (Array.toList_inj.1 this)
        clear hB HA
        subst hAB
        by_cases hml : p < Mg.size
        · have hl := HR.out.long hml
          have e1 : ((J.size : Int) == (Mg.size : Int)) = true := by rw [beq_iff_eq]; omega
          clear hl
          go_wp2_with fail
          go_ret
          exact ⟨rfl, below_drewN HB.out _⟩
        · have hl := HR.out.short (by omega)
          have e1 : ((k : Int) == 1) = true := by rw [beq_iff_eq]; omega
          clear hl
          go_wp2_with fail
          go_ret
          exact ⟨rfl, below_drewN HB.out _⟩
set_option maxHeartbeats 2000000 in
theorem main_pos (s : ByteArray) (p : Nat) (w : World) (h1 : 1 ≤ p) (hp : p ≤ 65536) (ha : s.size ≤ 65536) (ha1 : 1 ≤ s.size) (hd : ((s[0].toNat : Int) == 45) = false)
    (hw : Dig.wfB s.data.toList = true) :
    Calls Try.prog 3 #[.string s, .int .i64 p] w fun e w' => e = .returned (.bool true) ∧ Below w.heap.size w w' := by
  have z0 : ((p : Int) == 0) = false := beq_eq_false_iff_ne.2 (by omega)
  have ma : s.size ≤ maxLen := by unfold maxLen; omega
  go_enter Try.func3, Try.ntmps3
  go_wp2_with (first | (go_at_call 11; refine (Dig.zzBytes3_any _ _ _ (by omega)).mono ?_; rintro e w' ⟨rfl, rfl⟩) | (go_at_call 13; refine (Dig.wellFormed_any s ma _).mono ?_; rintro e w' ⟨rfl, rfl⟩))
  refine (Dig.zzWithPoint_any s p h1 hp ha1 ha _).mono ?_
  rintro e w1 ⟨⟨R, rfl, hR⟩, hb1⟩
  obtain ⟨hpos, r0, hrest⟩ := Dig.rest_pos s R p ha1 hd hw hR
  have HB : Hid (Below w'.heap.size w' w1) := hb1
  clear hR hb1
  have HR : Hid (Dig.Rest R s p ((Dig.pad s.data.toList p).length - p)) := hrest
  have hRs : R.size ≤ 200000 := by
    have h2 := hrest.sz
    have h3 := hrest.long
    have h4 := hrest.short
    omega
  clear hrest
  have r1 : ((R.size : Int) == 0) = false := beq_eq_false_iff_ne.2 (by omega)
  go_wp2
  generalize (Dig.pad s.data.toList p).length - p = k at HR
  have hk1 := HR.out.hk
  have sz1 : R.size ≤ k + 1 + p := by have := HR.out.sz; omega
  have sz2 : k + 1 + p ≤ R.size := by have := HR.out.sz; omega
  have hk2 : k ≤ 65537 := by have h2 := HR.out.long; have h3 := HR.out.short; omega
  have hkT : k < R.size := by omega
  go_loop [9, 10] (fun tp ti => At k R.size tp ti) (fun _ ti => R.size - (intOf ti).toNat)
  case atStart => exact ⟨0, Nat.zero_le _, rfl, Or.inl ⟨Nat.zero_le _, rfl⟩⟩
  case round =>
    obtain ⟨i, hi, rfl, hpt⟩ := hrel
    by_cases hlt : i < R.size
    · by_cases hik : i = k
      · subst hik
        have hdot : ((R[i].toNat : Int) == 46) = true := by rw [HR.out.dot hlt]; rfl
        rcases hpt with ⟨_, rfl⟩ | ⟨hc, _⟩
        · go_wp2_with fail
          go_round
          case rel => exact ⟨i + 1, by omega, by go_num, Or.inr ⟨by omega, rfl⟩⟩
          case measure => simp [intOf]; omega
        · omega
      · have hdg := HR.out.dig i hlt hik
        have hnd := (Dig.dB_not _ hdg).1
        have hdg' : Dig.isD (R[i].toNat : Int) = true := hdg
        have hbt : R[i].toNat < 256 := R[i].toNat_lt
        clear hdg
        rcases hpt with ⟨hc, rfl⟩ | ⟨hc, rfl⟩
        · go_wp2_with (go_at_call 14; refine (Dig.isDigit_any _ (by omega) (by omega) _).mono ?_; rintro e w' ⟨rfl, rfl⟩)
          go_round
          case rel => exact ⟨i + 1, by omega, by go_num, Or.inl ⟨by omega, rfl⟩⟩
          case measure => simp [intOf]; omega
        · go_wp2_with (go_at_call 14; refine (Dig.isDigit_any _ (by omega) (by omega) _).mono ?_; rintro e w' ⟨rfl, rfl⟩)
          go_round
          case rel => exact ⟨i + 1, by omega, by go_num, Or.inr ⟨by omega, rfl⟩⟩
          case measure => simp [intOf]; omega
    · rcases hpt with ⟨hc, _⟩ | ⟨hc, rfl⟩
      · omega
      · have hne : ((R.size : Int) - (k : Int) - 1 != (p : Int)) = false := by rw [bne_eq_false_iff_eq]; omega
        go_wp2_with fail
        go_quiet (fail)
        go_wp2_with fail
        have hJ : (R.extract 0 k ++ R.extract (k + 1) R.size).data.toList = R.data.toList.take k ++ R.data.toList.drop (k + 1) := by
          rw [Dig.app_data, Lib.extract_to_end, Lib.extract_data]; simp
        have hJs : (R.extract 0 k ++ R.extract (k + 1) R.size).size = k + p := by
          rw [← Dig.len_size, hJ]; simp; omega
        have HJ : Hid (Dig.strip (R.extract 0 k ++ R.extract (k + 1) R.size).data.toList = Dig.strip s.data.toList) := by
          show Dig.strip (R.extract 0 k ++ R.extract (k + 1) R.size).data.toList = Dig.strip s.data.toList
          rw [hJ]; exact HR.out.join
        clear hJ
        generalize R.extract 0 k ++ R.extract (k + 1) R.size = J at HJ hJs ⊢
        have j1 : J.size ≤ k + p := by omega
        have j2 : k + p ≤ J.size := by omega
        clear hJs
        refine (Dig.strip_any J (by unfold maxLen; omega) _).mono ?_
        rintro e w' ⟨⟨A, rfl, hA⟩, rfl⟩
        have HA : Hid (A.data.toList = Dig.strip J.data.toList) := hA
        clear hA
        go_wp2_with fail
        refine (Dig.strip_any s (by unfold maxLen; omega) _).mono ?_
        rintro e w' ⟨⟨B, rfl, hB⟩, rfl⟩
        have hAB : A = B := by
          have : A.data.toList = B.data.toList := by rw [HA.out, HJ.out, hB]
          exact ByteArray.ext (Array.toList_inj.1 this)
        clear hB HA
        subst hAB
        by_cases hml : p < s.size
        · have hl := HR.out.long hml
          have e1 : ((J.size : Int) == (s.size : Int)) = true := by rw [beq_iff_eq]; omega
          clear hl
          go_wp2_with fail
          go_ret
          exact ⟨rfl, below_drewN HB.out _⟩
        · have hl := HR.out.short (by omega)
          have e1 : ((k : Int) == 1) = true := by rw [beq_iff_eq]; omega
          clear hl
          go_wp2_with fail
          go_ret
          exact ⟨rfl, below_drewN HB.out _⟩
set_option maxHeartbeats 1000000 in
theorem walk (a0 : ByteArray) (a1 : Int) (w0 : a0.size ≤ maxLen) (w1 : (Lit.int .i64 a1).wf = true) (w : World) :
    Calls Try.prog 3 #[.string a0, .int .i64 a1] w fun e w' => e = .returned (.bool true) ∧ Below w.heap.size w w' := by
  have k0 : a0.size ≤ 9223372036854775807 := w0
  by_cases hz : a0.size ≤ 1048576
  case neg =>
    have hz' : 1048576 < a0.size := by omega
    go_enter Try.func3, Try.ntmps3
    go_wp2_with (go_at_call 11; refine (Dig.zzBytes3_no _ _ _ w0 hz').mono ?_; rintro e w' ⟨rfl, rfl⟩)
    go_ret
    exact ⟨rfl, Below.refl _ _⟩
  by_cases c1 : 65536 < a0.size
  · go_enter Try.func3, Try.ntmps3
    go_wp2_with (go_at_call 11; refine (Dig.zzBytes3_any _ _ _ hz).mono ?_; rintro e w' ⟨rfl, rfl⟩)
    go_ret
    exact ⟨rfl, Below.refl _ _⟩
  by_cases c3 : a1 < 0
  · go_enter Try.func3, Try.ntmps3
    go_wp2_with (go_at_call 11; refine (Dig.zzBytes3_any _ _ _ hz).mono ?_; rintro e w' ⟨rfl, rfl⟩)
    go_ret
    exact ⟨rfl, Below.refl _ _⟩
  by_cases c4 : 65536 < a1
  · go_enter Try.func3, Try.ntmps3
    go_wp2_with (go_at_call 11; refine (Dig.zzBytes3_any _ _ _ hz).mono ?_; rintro e w' ⟨rfl, rfl⟩)
    go_ret
    exact ⟨rfl, Below.refl _ _⟩
  obtain ⟨p, rfl⟩ := Int.eq_ofNat_of_zero_le (show 0 ≤ a1 by omega)
  by_cases hp : p = 0
  · subst hp
    go_enter Try.func3, Try.ntmps3
    go_wp2_with (first | (go_at_call 11; refine (Dig.zzBytes3_any _ _ _ hz).mono ?_; rintro e w' ⟨rfl, rfl⟩) | (go_at_call 12; refine (Dig.zzWithPoint_zero _ _).mono ?_; rintro e w' ⟨rfl, rfl⟩))
    go_ret
    exact ⟨rfl, Below.refl _ _⟩
  have z0 : ((p : Int) == 0) = false := beq_eq_false_iff_ne.2 (by omega)
  by_cases hw : Dig.wfB a0.data.toList = true
  case neg =>
    rw [Bool.not_eq_true] at hw
    go_enter Try.func3, Try.ntmps3
    go_wp2_with (first | (go_at_call 11; refine (Dig.zzBytes3_any _ _ _ hz).mono ?_; rintro e w' ⟨rfl, rfl⟩) | (go_at_call 13; refine (Dig.wellFormed_any a0 w0 _).mono ?_; rintro e w' ⟨rfl, rfl⟩))
    go_ret
    exact ⟨rfl, Below.refl _ _⟩
  have hs1 : 1 ≤ a0.size := by
    rcases Nat.lt_or_ge 0 a0.size with h | h
    · exact h
    · have e : a0.data.toList = [] := List.eq_nil_of_length_eq_zero (by rw [Dig.len_size]; omega)
      rw [e] at hw; exact absurd hw (by decide)
  by_cases hd : ((a0[0].toNat : Int) == 45) = true
  · exact main_neg a0 p w (by omega) (by omega) (by omega) hs1 hd hw
  · rw [Bool.not_eq_true] at hd
    exact main_pos a0 p w (by omega) (by omega) (by omega) hs1 hd hw

/-! ### THE ROW's STEP: WRITTEN OUT: LEAVE IT -/
set_option maxRecDepth 100000 in
theorem lifted (os : Os) (started : os.Started) (H : Type) (enc : TypeId × Value → H) :
    ReturnsInHanded {} Try.checked os 3 .any (Rows.fnWithPointKeepsDigitsAndSignSpec.pre6 enc Try.prog Try.f3 Rows.fnWithPointKeepsDigitsAndSignRow.domain false) (Rows.fnWithPointKeepsDigitsAndSignSpec.post enc Try.prog Try.f3 false true false false) := by
  refine returnsInHanded_of_change (C := Try.checked) own started (by kernel_rfl) Try.func3
    (ChangeSpec.witness6 (enc := enc) (C := Try.checked) false ⟨#[], #[.string ByteArray.empty, .int .i64 0], []⟩ 8 (by kernel_rfl) (by kernel_rfl) (by kernel_rfl) (by kernel_rfl)) ?_
  intro W base args ds gs before hval0 hW hcnd _
  have hval : ∀ (j : Nat) t v, Try.f3.params[j]? = some t → args[j]? = some v → Value.okWide Try.prog W .any base t v := hval0
  have hW' := hW
  obtain ⟨p, q, hA0, hV, rfl, hfz, hnd⟩ := hW
  have hA : DataW.TrodAll enc Try.prog W 0 (fun _ => true) true Try.f3.params.toList args.toList ds p := hA0
  rw [Try.params3] at hA hval
  obtain ⟨v0, vs0, d0, ds0, p0, q0, hargs, rfl, rfl, h0, r0⟩ := trodAll_cons hA
  obtain ⟨v1, vs1, d1, ds1, p1, q1, rfl, rfl, rfl, h1, r1⟩ := trodAll_cons r0
  obtain ⟨rfl, rfl, rfl⟩ := trodAll_nil r1
  obtain rfl : args = #[v0, v1] := by cases args; simp_all
  obtain ⟨rfl, rfl⟩ := trodVars_none hV
  obtain ⟨a0, rfl, rfl, rfl, w0⟩ := open_string Try.underlying9 (hval 0 9 v0 rfl rfl) h0
  obtain ⟨a1, rfl, rfl, rfl, w1⟩ := open_int Try.underlying3 (hval 1 3 v1 rfl rfl) h1
  clear hA0 hval0
  simp only [List.append_nil] at hW'
  refine (walk a0 a1 w0 w1 W).mono fun e W' ⟨he, hg⟩ => ?_
  subst he
  exact ⟨_, rfl, _, _, _, [], [], [], hW', (trodAll_cons_mk (shut_bool Try.underlying4 _) trodAll_mk0), (trodAll_cons_mk (shut_string Try.underlying9 w0) (trodAll_cons_mk (shut_int Try.underlying3 w1) trodAll_mk0)), rfl, hg.frame _, fun h => by cases h⟩

theorem over : Rows.fnWithPointKeepsDigitsAndSignRow.holds Try.pinned (OpenSpec.ofChange Rows.fnWithPointKeepsDigitsAndSignSpec) :=
  OpenClaim.holds_of_wide 3 Try.f3 rfl rfl rfl rfl rfl rfl rfl ⟨rfl, rfl, rfl, rfl, rfl⟩ rfl rfl rfl rfl rfl (by kernel_rfl) Try.func3 (by kernel_rfl)
    (of_decide_eq_true (by kernel_rfl)) (by unfold Func.isWrapper; first | (rw [if_pos (by decide +kernel)]; kernel_rfl) | (rw [if_neg (by decide +kernel)]; exact ⟨rfl, rfl⟩))
    (fun os started H enc _ => lifted os started H enc)

/-- ████ THE STATEMENT ████ -/
theorem proved : Rows.FnWithPointKeepsDigitsAndSignSaid :=
  over
#print axioms proved
end Go.Proofs.Qxb6000961a.fnWithPointKeepsDigitsAndSign
