/-
  THE PROOF OF 'Rows.FnAssertionsAddsOverASplitAndIgnoresOrderSaid'. The frame is the kit's (proof-skeleton.mjs, for a slice), turned by us to a slice of structs of two integers; the walk is ours.
-/
import Derived.Test.Qxb6600300aRows
import Derived.WalkKit
import Derived.ProofKit
import Derived.OpenShut
import Derived.ShutString
import Derived.ChangeOld
import Derived.Below
import Derived.Deep.SlicePairs
import Derived.Test.Qxb6600300aLaw
namespace Go.Proofs.Qxb6600300a.fnAssertionsAddsOverASplitAndIgnoresOrder
open Go.ChangeShapes Go.WideShapes Go.ChangeAt Go.RowKit
open Go.ChangeMaps (open_string shut_string)
set_option linter.unusedVariables false

theorem own : ownKnob Try.prog.godebug = none := by kernel_rfl
theorem laidOut : laidOutB Try.prog = true := by kernel_rfl

/-- WHAT THE WALK IS TOLD OF THE SLICE THAT CAME IN ('Src'): where it is not empty its elements' two cells lie in old memory, and hold A i and L i. -/
theorem opened {H : Type} {enc : TypeId × Value → H} {W : World} {fuel : Nat} {a0 : Option Addr} {len0 cap0 : Nat} {x : DataW H × List MemPlace}
    (hf : DataW.trod enc Try.prog W 0 (fun _ => true) true fuel 22 [.slice a0 len0 cap0] = some x) : ∃ A L : Nat → Int, len0 ≤ 9223372036854775807 ∧ Src W a0 len0 A L := by
  rcases Go.Deep.open_slice_pairs Try.underlying22 Try.underlying30 (by kernel_rfl) rfl rfl (by kernel_rfl) (by kernel_rfl) hf with ⟨hcs, _⟩ | ⟨a, len, cap, m, n, V0, V1, D0, D1, P0, P1, hcs, _, hl, hm, hmm, _, hx⟩
  · simp at hcs
    obtain ⟨rfl, rfl, rfl⟩ := hcs
    exact ⟨fun _ => 0, fun _ => 0, by decide, fun h => by omega⟩
  · simp at hcs
    obtain ⟨rfl, rfl, rfl⟩ := hcs
    have hmc : m = cap0 := by simpa using hmm
    have hm' : cap0 ≤ 9223372036854775807 := hm
    refine ⟨fun i => intOf (V0 i), fun i => intOf (V1 i), by omega, fun h0 => ?_⟩
    obtain ⟨c0, _⟩ := hx 0 (by omega)
    obtain ⟨b, off, spot⟩ := a
    have hspot : spot = none := by simpa [Addr.add] using World.cell?_spot c0
    subst hspot
    refine ⟨b, off, rfl, by simpa [Addr.add] using World.block_lt_of_cell? W _ c0, fun j hj => ?_⟩
    obtain ⟨g0, g1, t0, t1⟩ := hx j (by omega)
    rw [Go.WideShapes.add_plain] at g0 g1
    obtain ⟨x0, e0, _, _⟩ := DataW.trod_int Try.underlying3 t0
    obtain ⟨x1, e1, _, _⟩ := DataW.trod_int Try.underlying3 t1
    simp only [List.cons.injEq, and_true] at e0 e1
    unfold PairAt
    simp only [e0, e1, intOf] at g0 g1 ⊢
    exact ⟨g0, by rw [Nat.add_assoc]; exact g1⟩

/-! ### STEP 1: THE WALK: the Go text returns true, and writes nothing that was there -/
theorem walk (a0 : Option Addr) (len0 cap0 : Nat) (A L : Nat → Int) (a1 : Int) (w : World) (hl : len0 ≤ 9223372036854775807) (w0 : Src w a0 len0 A L) (w1 : (Lit.int .i64 a1).wf = true) :
    Calls Try.prog 3 #[.slice a0 len0 cap0, .int .i64 a1] w fun e w' => e = .returned (.bool true) ∧ Below w.heap.size w w' :=
  walk_pairs a0 len0 cap0 A L a1 w hl w0 (bounds_i64 w1).1 (bounds_i64 w1).2

/-! ### THE ROW's STEP: WRITTEN OUT: LEAVE IT -/
set_option maxRecDepth 100000 in
theorem lifted (os : Os) (started : os.Started) (H : Type) (enc : TypeId × Value → H) :
    ReturnsInHanded {} Try.checked os 3 .any (Rows.fnAssertionsAddsOverASplitAndIgnoresOrderSpec.pre6 enc Try.prog Try.f3 Rows.fnAssertionsAddsOverASplitAndIgnoresOrderRow.domain false) (Rows.fnAssertionsAddsOverASplitAndIgnoresOrderSpec.post enc Try.prog Try.f3 false true false false) := by
  refine returnsInHanded_of_change (C := Try.checked) own started (by kernel_rfl) Try.func3
    (ChangeSpec.witness6 (enc := enc) (C := Try.checked) false ⟨#[], #[.slice none 0 0, .int .i64 0], []⟩ 8 (by kernel_rfl) (by kernel_rfl) (by kernel_rfl) (by kernel_rfl)) ?_
  intro W base args ds gs before hval0 hW hcnd _
  have hval : ∀ (j : Nat) t v, Try.f3.params[j]? = some t → args[j]? = some v → Value.okWide Try.prog W .any base t v := hval0
  have hW' := hW
  obtain ⟨p, q, hA0, hV, rfl, hfz, hnd⟩ := hW
  have hA : DataW.TrodAll enc Try.prog W 0 (fun _ => true) true Try.f3.params.toList args.toList ds p := hA0
  rw [Try.params3] at hA hval
  obtain ⟨v0, vs0, d0, ds0, p0, q0, hargs, rfl, rfl, h0, r0⟩ := trodAll_cons hA
  obtain ⟨v1, vs1, d1, ds1, p1, q1, rfl, rfl, rfl, h1, r1⟩ := trodAll_cons r0
  obtain ⟨rfl, rfl, rfl⟩ := trodAll_nil r1
  obtain rfl : args = #[v0, v1] := by cases args; simp_all
  obtain ⟨rfl, rfl⟩ := trodVars_none hV
  obtain ⟨a0, len0, cap0, rfl⟩ := okWide_slice Try.underlying22 (hval 0 22 v0 rfl rfl)
  have k0 := h0
  have lt0 : ∀ x ∈ p0, x.block < W.heap.size := by obtain ⟨m, hm⟩ := k0; exact DataW.trod_lt m _ _ _ hm
  obtain ⟨A, L, hl0, w0⟩ : ∃ A L : Nat → Int, len0 ≤ 9223372036854775807 ∧ Src W a0 len0 A L := by
    obtain ⟨fuel, hf⟩ := h0
    exact opened hf
  obtain ⟨a1, rfl, rfl, rfl, w1⟩ := open_int Try.underlying3 (hval 1 3 v1 rfl rfl) h1
  clear hA0 hval0
  refine (walk a0 len0 cap0 A L a1 W hl0 w0 w1).mono fun e W' ⟨he, bel⟩ => ?_
  subst he
  exact ⟨_, rfl, _, _, _, [], _, [], hW', trodAll_mk1 (shut_bool Try.underlying4 _), (trodAll_cons_mk (Below.trod laidOut (by kernel_rfl) (of_decide_eq_true (by kernel_rfl)) k0 bel lt0) (trodAll_cons_mk (shut_int Try.underlying3 w1) trodAll_mk0)), rfl, bel.frame _, fun h => by cases h⟩

theorem over : Rows.fnAssertionsAddsOverASplitAndIgnoresOrderRow.holds Try.pinned (OpenSpec.ofChange Rows.fnAssertionsAddsOverASplitAndIgnoresOrderSpec) :=
  OpenClaim.holds_of_wide 3 Try.f3 rfl rfl rfl rfl rfl rfl rfl ⟨rfl, rfl, rfl, rfl, rfl⟩ rfl rfl rfl rfl rfl (by kernel_rfl) Try.func3 (by kernel_rfl)
    (of_decide_eq_true (by kernel_rfl)) (by unfold Func.isWrapper; first | (rw [if_pos (by decide +kernel)]; kernel_rfl) | (rw [if_neg (by decide +kernel)]; exact ⟨rfl, rfl⟩))
    (fun os started H enc _ => lifted os started H enc)

/-- ████ THE STATEMENT ████ -/
theorem proved : Rows.FnAssertionsAddsOverASplitAndIgnoresOrderSaid := over
#print axioms proved
end Go.Proofs.Qxb6600300a.fnAssertionsAddsOverASplitAndIgnoresOrder
