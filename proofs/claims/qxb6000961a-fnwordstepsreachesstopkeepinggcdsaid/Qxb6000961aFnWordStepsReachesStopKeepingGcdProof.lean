/-
  THE PROOF OF 'Rows.FnWordStepsReachesStopKeepingGcdSaid'. The frame was written by the kit's proof-skeleton tool for this program; the walk is ours.
-/
import Derived.Test.Qxb6000961aRows
import Derived.WalkKit
import Derived.ProofKit
import Derived.OpenShut
import Derived.ShutString
import Derived.Test.Qxb6000961aSteps
import Derived.Test.Qxb6000961aWordWalks
import Derived.Test.Qxb6000961aGcdWalks
namespace Go.Proofs.Qxb6000961a.fnWordStepsReachesStopKeepingGcd
open Go.ChangeShapes Go.WideShapes Go.ChangeAt Go.RowKit
open Go.ChangeMaps (open_string shut_string)
set_option linter.unusedVariables false      -- a walk need not use every 'w<i>' (that an integer argument fits its kind)

theorem own : ownKnob Try.prog.godebug = none := by kernel_rfl

/-! ### STEP 1: THE WALK: the Go text returns true. 'Grown w w'': the world has at most new blocks (Derived/RowKit3.lean). Part the cases AHEAD of 'go_enter' where a test parts the walk; take each callee by a contract of your own. -/
theorem walk (a0 : Int) (a1 : Int) (a2 : Int) (w0 : (Lit.int .u64 a0).wf = true) (w1 : (Lit.int .u64 a1).wf = true) (w2 : (Lit.int .u64 a2).wf = true) (w : World) :
    Calls Try.prog 9 #[.int .u64 a0, .int .u64 a1, .int .u64 a2] w fun e w' => e = .returned (.bool true) ∧ Grown w w' := by
  have b0 := bounds_u64 w0
  have b1 := bounds_u64 w1
  have b2 := bounds_u64 w2
  clear w0 w1 w2
  obtain ⟨X, rfl⟩ := Int.eq_ofNat_of_zero_le b0.1
  obtain ⟨Y, rfl⟩ := Int.eq_ofNat_of_zero_le b1.1
  obtain ⟨s, rfl⟩ := Int.eq_ofNat_of_zero_le b2.1
  obtain ⟨_, b0⟩ := b0
  obtain ⟨_, b1⟩ := b1
  obtain ⟨_, b2⟩ := b2
  by_cases hs : 65536 < s
  · go_enter Try.func9, Try.ntmps9
    go_wp2
    go_ret
    exact ⟨rfl, Grown.refl _⟩
  by_cases hxy : X < Y
  · go_enter Try.func9, Try.ntmps9
    go_wp2
    go_ret
    exact ⟨rfl, Grown.refl _⟩
  go_enter Try.func9, Try.ntmps9
  go_wp2_with (go_at_call 24; refine (bitLen_any X (by omega) _).mono ?_)
  rintro e w' ⟨⟨n, rfl, hn, hn0⟩, rfl⟩
  by_cases hc : 2 * s < n
  · clear hn0
    go_wp2
    go_ret
    exact ⟨rfl, Grown.refl _⟩
  have hsX : 1 ≤ s ∨ X = 0 := by omega
  clear hn0
  go_wp2_with (go_at_call 25; refine (zzWordSteps_any X Y s (by omega) (by omega) hsX (by omega) _).mono ?_)
  rintro e w' ⟨⟨x, y, p0, r0, p1, r1, b, rfl, hi, hlt⟩, rfl⟩
  have HI : Hid (Steps.Inv X Y (2 ^ s) x y p0 r0 p1 r1 b ∧ y < 2 ^ s) := ⟨hi, hlt⟩
  have hyx := hi.le
  have hxX := hi.top
  have ty := shr_zero y s (by omega) hlt
  clear hi hlt hsX
  go_wp2_with (go_at_call 27; refine (Stein.applyPair_any _ _ _ _ X Y x y HI.out.1.maps.1 HI.out.1.maps.2 (by omega) (by omega) _).mono ?_)
  rintro e w' ⟨rfl, rfl⟩
  have HS : Hid (Nat.gcd x y = Nat.gcd X Y) := HI.out.1.same
  by_cases hY : 2 ^ s ≤ Y
  · have hs64 : s < 64 := by
      rcases Nat.lt_or_ge s 64 with h1 | h1
      · exact h1
      · have := Nat.pow_le_pow_right (n := 2) (by decide) h1
        have e : (2 : Nat) ^ 64 = 18446744073709551616 := by decide
        omega
    have hx : 2 ^ s ≤ x := by
      have h := HI.out
      rcases h.1.big with ⟨_, h1, h2, h3, h4⟩ | h1
      · have := h.1.hY
        rw [h1, h3] at this
        omega
      · exact h1.1
    have t1 := shr_pos Y s hY
    have t2 := shr_pos x s hx
    have t3 : ((x : Int) / 2 ^ s == 0) = false := by rw [bne_iff_ne] at t2; exact beq_eq_false_iff_ne.2 t2
    clear hx hY HI t2
    rw [Nat.min_eq_left (by omega)] at ty
    go_wp2_with fail
    refine (Stein.binaryGcd_any x y (by omega) (by omega) _).mono ?_
    rintro e w' ⟨rfl, rfl⟩
    rw [HS.out]
    go_wp2_with fail
    refine (Stein.binaryGcd_any X Y (by omega) (by omega) _).mono ?_
    rintro e w' ⟨rfl, rfl⟩
    go_wp2_with fail
    go_ret
    exact ⟨rfl, Grown.refl _⟩
  · have t1 := shr_zero Y s (by omega) (by omega)
    clear hY HI
    go_wp2_with fail
    refine (Stein.binaryGcd_any x y (by omega) (by omega) _).mono ?_
    rintro e w' ⟨rfl, rfl⟩
    rw [HS.out]
    go_wp2_with fail
    refine (Stein.binaryGcd_any X Y (by omega) (by omega) _).mono ?_
    rintro e w' ⟨rfl, rfl⟩
    go_wp2_with fail
    go_ret
    exact ⟨rfl, Grown.refl _⟩

/-! ### THE ROW's STEP: WRITTEN OUT: LEAVE IT -/
set_option maxRecDepth 100000 in
theorem lifted (os : Os) (started : os.Started) (H : Type) (enc : TypeId × Value → H) :
    ReturnsInHanded {} Try.checked os 9 .any (Rows.fnWordStepsReachesStopKeepingGcdSpec.pre6 enc Try.prog Try.f9 Rows.fnWordStepsReachesStopKeepingGcdRow.domain false) (Rows.fnWordStepsReachesStopKeepingGcdSpec.post enc Try.prog Try.f9 false true false false) := by
  refine returnsInHanded_of_change (C := Try.checked) own started (by kernel_rfl) Try.func9
    (ChangeSpec.witness6 (enc := enc) (C := Try.checked) false ⟨#[], #[.int .u64 0, .int .u64 0, .int .u64 0], []⟩ 8 (by kernel_rfl) (by kernel_rfl) (by kernel_rfl) (by kernel_rfl)) ?_
  intro W base args ds gs before hval0 hW hcnd _
  have hval : ∀ (j : Nat) t v, Try.f9.params[j]? = some t → args[j]? = some v → Value.okWide Try.prog W .any base t v := hval0
  have hW' := hW
  obtain ⟨p, q, hA0, hV, rfl, hfz, hnd⟩ := hW
  have hA : DataW.TrodAll enc Try.prog W 0 (fun _ => true) true Try.f9.params.toList args.toList ds p := hA0
  rw [Try.params9] at hA hval
  obtain ⟨v0, vs0, d0, ds0, p0, q0, hargs, rfl, rfl, h0, r0⟩ := trodAll_cons hA
  obtain ⟨v1, vs1, d1, ds1, p1, q1, rfl, rfl, rfl, h1, r1⟩ := trodAll_cons r0
  obtain ⟨v2, vs2, d2, ds2, p2, q2, rfl, rfl, rfl, h2, r2⟩ := trodAll_cons r1
  obtain ⟨rfl, rfl, rfl⟩ := trodAll_nil r2
  obtain rfl : args = #[v0, v1, v2] := by cases args; simp_all
  obtain ⟨rfl, rfl⟩ := trodVars_none hV
  obtain ⟨a0, rfl, rfl, rfl, w0⟩ := open_int Try.underlying34 (hval 0 34 v0 rfl rfl) h0
  obtain ⟨a1, rfl, rfl, rfl, w1⟩ := open_int Try.underlying34 (hval 1 34 v1 rfl rfl) h1
  obtain ⟨a2, rfl, rfl, rfl, w2⟩ := open_int Try.underlying35 (hval 2 35 v2 rfl rfl) h2
  clear hA0 hval0
  simp only [List.append_nil] at hW'
  refine (walk a0 a1 a2 w0 w1 w2 W).mono fun e W' ⟨he, hg⟩ => ?_
  subst he
  exact ⟨_, rfl, post_of_same (pa := []) (pv := []) hW' (fun _ _ _ => (trodAll_cons_mk (shut_bool Try.underlying4 _) trodAll_mk0)) (fun sp _ => (trodAll_cons_mk (shut_int Try.underlying34 w0) (trodAll_cons_mk (shut_int Try.underlying34 w1) (trodAll_cons_mk (shut_int Try.underlying35 w2) trodAll_mk0)))) (fun _ _ => rfl) rfl
    (hg.frame _) hg.2.1 (ok_one (by kernel_rfl) rfl (okWide_bool_mk Try.underlying4 _))⟩

theorem over : Rows.fnWordStepsReachesStopKeepingGcdRow.holds Try.pinned (OpenSpec.ofChange Rows.fnWordStepsReachesStopKeepingGcdSpec) :=
  OpenClaim.holds_of_wide 9 Try.f9 rfl rfl rfl rfl rfl rfl rfl ⟨rfl, rfl, rfl, rfl, rfl⟩ rfl rfl rfl rfl rfl (by kernel_rfl) Try.func9 (by kernel_rfl)
    (of_decide_eq_true (by kernel_rfl)) (by unfold Func.isWrapper; first | (rw [if_pos (by decide +kernel)]; kernel_rfl) | (rw [if_neg (by decide +kernel)]; exact ⟨rfl, rfl⟩))
    (fun os started H enc _ => lifted os started H enc)

/-- ████ THE STATEMENT ████ -/
theorem proved : Rows.FnWordStepsReachesStopKeepingGcdSaid :=
  over
#print axioms proved
end Go.Proofs.Qxb6000961a.fnWordStepsReachesStopKeepingGcd
