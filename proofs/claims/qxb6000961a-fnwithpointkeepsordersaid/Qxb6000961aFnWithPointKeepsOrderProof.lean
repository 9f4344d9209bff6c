/-
  THE PROOF OF 'Rows.FnWithPointKeepsOrderSaid'. The frame was written by the kit's proof-skeleton tool for this program; the walk is ours.
-/
import Derived.Test.Qxb6000961aRows
import Derived.WalkKit
import Derived.ProofKit
import Derived.OpenShut
import Derived.ShutString
import Derived.Test.Qxb6000961aDigitWalks
import Derived.Test.Qxb6000961aShelf
import Derived.Test.Qxb6000961aPointWalks
import Derived.Test.Qxb6000961aOrderLaws
namespace Go.Proofs.Qxb6000961a.fnWithPointKeepsOrder
open Go.ChangeShapes Go.WideShapes Go.ChangeAt Go.RowKit
open Go.ChangeMaps (open_string shut_string)
set_option linter.unusedVariables false      -- a walk need not use every 'w<i>' (that an integer argument fits its kind)

theorem own : ownKnob Try.prog.godebug = none := by kernel_rfl

/-! ### STEP 1: THE WALK: the Go text returns true. 'Below w.heap.size w w'': nothing that was there has turned (Derived/Below.lean). (strings.Repeat's builder freezes the bytes of a new block, so the frame's plainer word for the world does not hold here.) -/
theorem zz_yes (a b : ByteArray) (p : Int) (w : World) (h : a.size + b.size ≤ 1048576) :
    Calls Try.prog 16 #[.string a, .string b, .int .i64 p] w fun e w' => e = .returned (.bool true) ∧ w' = w := by
  go_enter Try.func16, Try.ntmps16
  go_wp2
  go_ret
  exact ⟨rfl, rfl⟩
theorem zz_no (a b : ByteArray) (p : Int) (w : World) (ha : a.size ≤ maxLen) (hb : b.size ≤ maxLen) (h : 1048576 < a.size + b.size) :
    Calls Try.prog 16 #[.string a, .string b, .int .i64 p] w fun e w' => e = .returned (.bool false) ∧ w' = w := by
  unfold maxLen at ha hb
  by_cases h1 : 1048576 < a.size
  · go_enter Try.func16, Try.ntmps16
    go_wp2
    go_ret
    exact ⟨rfl, rfl⟩
  · by_cases h2 : 1048576 < b.size
    · go_enter Try.func16, Try.ntmps16
      go_wp2
      go_ret
      exact ⟨rfl, rfl⟩
    · go_enter Try.func16, Try.ntmps16
      go_wp2
      go_ret
      exact ⟨rfl, rfl⟩

set_option maxHeartbeats 1000000 in
/-- the main way, p at least 1 -/
theorem main_pos (a b : ByteArray) (p : Nat) (w : World) (h1 : 1 ≤ p) (hp : p ≤ 65536) (ha : a.size ≤ 65536) (ha1 : 1 ≤ a.size) (h2 : a.size ≤ b.size) (h3 : b.size ≤ a.size)
    (da : Dig.allD a.data.toList = true) (db : Dig.allD b.data.toList = true) :
    Calls Try.prog 4 #[.string a, .string b, .int .i64 p] w fun e w' => e = .returned (.bool true) ∧ Below w.heap.size w w' := by
  have z0 : ((a.size : Int) == 0) = false := beq_eq_false_iff_ne.2 (by omega)
  have z1 : ((a.size : Int) != (b.size : Int)) = false := by rw [bne_eq_false_iff_eq]; omega
  have ma : a.size ≤ maxLen := by unfold maxLen; omega
  have mb : b.size ≤ maxLen := by unfold maxLen; omega
  go_enter Try.func4, Try.ntmps4
  go_wp2_with (go_at_call 16; refine (zz_yes _ _ _ _ (by omega)).mono ?_; rintro e w' ⟨rfl, rfl⟩)
  refine (Dig.allDigits_any a ma _).mono ?_
  rintro e w' ⟨rfl, rfl⟩
  go_wp2_with fail
  refine (Dig.allDigits_any b mb _).mono ?_
  rintro e w' ⟨rfl, rfl⟩
  go_wp2_with fail
  refine (Dig.zzWithPoint_any a p h1 hp ha1 ha _).mono ?_
  rintro e w1 ⟨⟨R, rfl, hR⟩, hb1⟩
  have HR : Hid (R.data.toList = Dig.wp a.data.toList p ∧ Below w'.heap.size w' w1) := ⟨hR, hb1⟩
  clear hR hb1
  go_wp2_with fail
  refine (Dig.zzWithPoint_any b p h1 hp (by omega) (by omega) _).mono ?_
  rintro e w2 ⟨⟨T, rfl, hT⟩, hb2⟩
  have HT : Hid (T.data.toList = Dig.wp b.data.toList p ∧ Below w1.heap.size w1 w2) := ⟨hT, hb2⟩
  clear hT hb2
  have lR : R.size = (Dig.wp a.data.toList p).length := by rw [← HR.out.1, Dig.len_size]
  have lT : T.size = (Dig.wp b.data.toList p).length := by rw [← HT.out.1, Dig.len_size]
  have la := Dig.wp_length a.data.toList p hp (by rw [Dig.len_size]; exact ha) da
  have lb := Dig.wp_length b.data.toList p hp (by rw [Dig.len_size]; omega) db
  have lp : (Dig.pad a.data.toList p).length = (Dig.pad b.data.toList p).length := by rw [Dig.pad_length, Dig.pad_length, Dig.len_size, Dig.len_size]; split <;> split <;> omega
  have r1 : R.size ≤ T.size := by omega
  have r2 : T.size ≤ R.size := by omega
  have mR : R.size ≤ maxLen := by unfold maxLen; omega
  clear lR lT la lb lp
  have HC : Hid (Dig.cmp R.data.toList T.data.toList = Dig.cmp a.data.toList b.data.toList) := by
    show Dig.cmp R.data.toList T.data.toList = Dig.cmp a.data.toList b.data.toList
    rw [HR.out.1, HT.out.1]
    exact Dig.cmp_wp _ _ p da db (by rw [Dig.len_size, Dig.len_size]; omega)
  go_wp2_with fail
  refine (Dig.cmpBytes_any R T mR r1 r2 _).mono ?_
  rintro e w3 ⟨rfl, hb3⟩
  have H3 : Hid (Below w2.heap.size w2 w3) := hb3
  clear hb3
  rw [HC.out]
  go_wp2_with fail
  refine (Dig.cmpBytes_any a b ma h2 h3 _).mono ?_
  rintro e w4 ⟨rfl, hb4⟩
  have H4 : Hid (Below w3.heap.size w3 w4) := hb4
  clear hb4
  go_wp2_with fail
  go_ret
  exact ⟨rfl, Dig.bt (Dig.bt (Dig.bt HR.out.2 HT.out.2) H3.out) H4.out⟩

set_option maxHeartbeats 1000000 in
/-- the main way, p = 0 -/
theorem main_zero (a b : ByteArray) (w : World) (ha : a.size ≤ 65536) (ha1 : 1 ≤ a.size) (h2 : a.size ≤ b.size) (h3 : b.size ≤ a.size)
    (da : Dig.allD a.data.toList = true) (db : Dig.allD b.data.toList = true) :
    Calls Try.prog 4 #[.string a, .string b, .int .i64 0] w fun e w' => e = .returned (.bool true) ∧ Below w.heap.size w w' := by
  have z0 : ((a.size : Int) == 0) = false := beq_eq_false_iff_ne.2 (by omega)
  have z1 : ((a.size : Int) != (b.size : Int)) = false := by rw [bne_eq_false_iff_eq]; omega
  have ma : a.size ≤ maxLen := by unfold maxLen; omega
  have mb : b.size ≤ maxLen := by unfold maxLen; omega
  go_enter Try.func4, Try.ntmps4
  go_wp2_with (go_at_call 16; refine (zz_yes _ _ _ _ (by omega)).mono ?_; rintro e w' ⟨rfl, rfl⟩)
  refine (Dig.allDigits_any a ma _).mono ?_
  rintro e w' ⟨rfl, rfl⟩
  go_wp2_with fail
  refine (Dig.allDigits_any b mb _).mono ?_
  rintro e w' ⟨rfl, rfl⟩
  go_wp2_with fail
  refine (Dig.zzWithPoint_zero a _).mono ?_
  rintro e w' ⟨rfl, rfl⟩
  go_wp2_with fail
  refine (Dig.zzWithPoint_zero b _).mono ?_
  rintro e w' ⟨rfl, rfl⟩
  go_wp2_with fail
  refine (Dig.cmpBytes_any a b ma h2 h3 _).mono ?_
  rintro e w3 ⟨rfl, hb3⟩
  have H3 : Hid (Below w'.heap.size w' w3) := hb3
  clear hb3
  go_wp2_with fail
  refine (Dig.cmpBytes_any a b ma h2 h3 _).mono ?_
  rintro e w4 ⟨rfl, hb4⟩
  have H4 : Hid (Below w3.heap.size w3 w4) := hb4
  clear hb4
  go_wp2_with fail
  go_ret
  exact ⟨rfl, Dig.bt H3.out H4.out⟩

set_option maxHeartbeats 1000000 in
theorem walk (a0 : ByteArray) (a1 : ByteArray) (a2 : Int) (w0 : a0.size ≤ maxLen) (w1 : a1.size ≤ maxLen) (w2 : (Lit.int .i64 a2).wf = true) (w : World) :
    Calls Try.prog 4 #[.string a0, .string a1, .int .i64 a2] w fun e w' => e = .returned (.bool true) ∧ Below w.heap.size w w' := by
  have k0 : a0.size ≤ 9223372036854775807 := w0
  have k1 : a1.size ≤ 9223372036854775807 := w1
  by_cases hz : a0.size + a1.size ≤ 1048576
  case neg =>
    have hz' : 1048576 < a0.size + a1.size := by omega
    go_enter Try.func4, Try.ntmps4
    go_wp2_with (go_at_call 16; refine (zz_no _ _ _ _ w0 w1 hz').mono ?_; rintro e w' ⟨rfl, rfl⟩)
    go_ret
    exact ⟨rfl, Below.refl _ _⟩
  by_cases c1 : 65536 < a0.size
  · go_enter Try.func4, Try.ntmps4
    go_wp2_with (go_at_call 16; refine (zz_yes _ _ _ _ hz).mono ?_; rintro e w' ⟨rfl, rfl⟩)
    go_ret
    exact ⟨rfl, Below.refl _ _⟩
  by_cases c2 : 65536 < a1.size
  · go_enter Try.func4, Try.ntmps4
    go_wp2_with (go_at_call 16; refine (zz_yes _ _ _ _ hz).mono ?_; rintro e w' ⟨rfl, rfl⟩)
    go_ret
    exact ⟨rfl, Below.refl _ _⟩
  by_cases c3 : a2 < 0
  · go_enter Try.func4, Try.ntmps4
    go_wp2_with (go_at_call 16; refine (zz_yes _ _ _ _ hz).mono ?_; rintro e w' ⟨rfl, rfl⟩)
    go_ret
    exact ⟨rfl, Below.refl _ _⟩
  by_cases c4 : 65536 < a2
  · go_enter Try.func4, Try.ntmps4
    go_wp2_with (go_at_call 16; refine (zz_yes _ _ _ _ hz).mono ?_; rintro e w' ⟨rfl, rfl⟩)
    go_ret
    exact ⟨rfl, Below.refl _ _⟩
  by_cases c5 : a0.size = 0
  · have c5' : ((a0.size : Int) == 0) = true := by rw [beq_iff_eq]; omega
    have c5a : a0.size ≤ 0 := by omega
    clear c5
    go_enter Try.func4, Try.ntmps4
    go_wp2_with (go_at_call 16; refine (zz_yes _ _ _ _ hz).mono ?_; rintro e w' ⟨rfl, rfl⟩)
    go_ret
    exact ⟨rfl, Below.refl _ _⟩
  have z0 : ((a0.size : Int) == 0) = false := beq_eq_false_iff_ne.2 (by omega)
  by_cases c6 : a0.size = a1.size
  case neg =>
    have z1 : ((a0.size : Int) != (a1.size : Int)) = true := by rw [bne_iff_ne]; omega
    go_enter Try.func4, Try.ntmps4
    go_wp2_with (go_at_call 16; refine (zz_yes _ _ _ _ hz).mono ?_; rintro e w' ⟨rfl, rfl⟩)
    go_ret
    exact ⟨rfl, Below.refl _ _⟩
  have z1 : ((a0.size : Int) != (a1.size : Int)) = false := by rw [bne_eq_false_iff_eq]; omega
  have e1 : a0.size ≤ a1.size := by omega
  have e2 : a1.size ≤ a0.size := by omega
  clear c6
  by_cases da : Dig.allD a0.data.toList = true
  case neg =>
    rw [Bool.not_eq_true] at da
    go_enter Try.func4, Try.ntmps4
    go_wp2_with (go_at_call 16; refine (zz_yes _ _ _ _ hz).mono ?_; rintro e w' ⟨rfl, rfl⟩)
    refine (Dig.allDigits_any a0 w0 _).mono ?_
    rintro e w' ⟨rfl, rfl⟩
    go_wp2_with fail
    go_ret
    exact ⟨rfl, Below.refl _ _⟩
  by_cases db : Dig.allD a1.data.toList = true
  case neg =>
    rw [Bool.not_eq_true] at db
    go_enter Try.func4, Try.ntmps4
    go_wp2_with (go_at_call 16; refine (zz_yes _ _ _ _ hz).mono ?_; rintro e w' ⟨rfl, rfl⟩)
    refine (Dig.allDigits_any a0 w0 _).mono ?_
    rintro e w' ⟨rfl, rfl⟩
    go_wp2_with fail
    refine (Dig.allDigits_any a1 w1 _).mono ?_
    rintro e w' ⟨rfl, rfl⟩
    go_wp2_with fail
    go_ret
    exact ⟨rfl, Below.refl _ _⟩
  obtain ⟨p, rfl⟩ := Int.eq_ofNat_of_zero_le (show 0 ≤ a2 by omega)
  by_cases hp : p = 0
  · subst hp
    exact main_zero a0 a1 w (by omega) (by omega) e1 e2 da db
  · exact main_pos a0 a1 p w (by omega) (by omega) (by omega) (by omega) e1 e2 da db

/-! ### THE ROW's STEP: WRITTEN OUT: LEAVE IT -/
set_option maxRecDepth 100000 in
theorem lifted (os : Os) (started : os.Started) (H : Type) (enc : TypeId × Value → H) :
    ReturnsInHanded {} Try.checked os 4 .any (Rows.fnWithPointKeepsOrderSpec.pre6 enc Try.prog Try.f4 Rows.fnWithPointKeepsOrderRow.domain false) (Rows.fnWithPointKeepsOrderSpec.post enc Try.prog Try.f4 false true false false) := by
  refine returnsInHanded_of_change (C := Try.checked) own started (by kernel_rfl) Try.func4
    (ChangeSpec.witness6 (enc := enc) (C := Try.checked) false ⟨#[], #[.string ByteArray.empty, .string ByteArray.empty, .int .i64 0], []⟩ 8 (by kernel_rfl) (by kernel_rfl) (by kernel_rfl) (by kernel_rfl)) ?_
  intro W base args ds gs before hval0 hW hcnd _
  have hval : ∀ (j : Nat) t v, Try.f4.params[j]? = some t → args[j]? = some v → Value.okWide Try.prog W .any base t v := hval0
  have hW' := hW
  obtain ⟨p, q, hA0, hV, rfl, hfz, hnd⟩ := hW
  have hA : DataW.TrodAll enc Try.prog W 0 (fun _ => true) true Try.f4.params.toList args.toList ds p := hA0
  rw [Try.params4] at hA hval
  obtain ⟨v0, vs0, d0, ds0, p0, q0, hargs, rfl, rfl, h0, r0⟩ := trodAll_cons hA
  obtain ⟨v1, vs1, d1, ds1, p1, q1, rfl, rfl, rfl, h1, r1⟩ := trodAll_cons r0
  obtain ⟨v2, vs2, d2, ds2, p2, q2, rfl, rfl, rfl, h2, r2⟩ := trodAll_cons r1
  obtain ⟨rfl, rfl, rfl⟩ := trodAll_nil r2
  obtain rfl : args = #[v0, v1, v2] := by cases args; simp_all
  obtain ⟨rfl, rfl⟩ := trodVars_none hV
  obtain ⟨a0, rfl, rfl, rfl, w0⟩ := open_string Try.underlying9 (hval 0 9 v0 rfl rfl) h0
  obtain ⟨a1, rfl, rfl, rfl, w1⟩ := open_string Try.underlying9 (hval 1 9 v1 rfl rfl) h1
  obtain ⟨a2, rfl, rfl, rfl, w2⟩ := open_int Try.underlying3 (hval 2 3 v2 rfl rfl) h2
  clear hA0 hval0
  simp only [List.append_nil] at hW'
  refine (walk a0 a1 a2 w0 w1 w2 W).mono fun e W' ⟨he, hg⟩ => ?_
  subst he
  exact ⟨_, rfl, _, _, _, [], [], [], hW', (trodAll_cons_mk (shut_bool Try.underlying4 _) trodAll_mk0), (trodAll_cons_mk (shut_string Try.underlying9 w0) (trodAll_cons_mk (shut_string Try.underlying9 w1) (trodAll_cons_mk (shut_int Try.underlying3 w2) trodAll_mk0))), rfl, hg.frame _, fun h => by cases h⟩

theorem over : Rows.fnWithPointKeepsOrderRow.holds Try.pinned (OpenSpec.ofChange Rows.fnWithPointKeepsOrderSpec) :=
  OpenClaim.holds_of_wide 4 Try.f4 rfl rfl rfl rfl rfl rfl rfl ⟨rfl, rfl, rfl, rfl, rfl⟩ rfl rfl rfl rfl rfl (by kernel_rfl) Try.func4 (by kernel_rfl)
    (of_decide_eq_true (by kernel_rfl)) (by unfold Func.isWrapper; first | (rw [if_pos (by decide +kernel)]; kernel_rfl) | (rw [if_neg (by decide +kernel)]; exact ⟨rfl, rfl⟩))
    (fun os started H enc _ => lifted os started H enc)

/-- ████ THE STATEMENT ████ -/
theorem proved : Rows.FnWithPointKeepsOrderSaid :=
  over
#print axioms proved
end Go.Proofs.Qxb6000961a.fnWithPointKeepsOrder
