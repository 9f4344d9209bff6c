import Derived.Test.Qxb6600300aKeep
namespace Go.Proofs.Qxb6600300a
open Go.RowKit
set_option maxHeartbeats 4000000 in
theorem main_lt (b off n cap : Nat) (A L : Nat → Int) (k : Nat) (w : World) (hn : n ≤ 65536) (hn0 : 0 < n) (hk : k < n) (hbw : b < w.heap.size) (hP : Pairs w b off n A L) :
    Calls Try.prog 3 #[.slice (some ⟨b, off, none⟩) n cap, .int .i64 k] w fun e w' => e = .returned (.bool true) ∧ Below w.heap.size w w' := by
  have HP : Hid (Pairs w b off n A L) := hP
  clear hP
  have hkn : k ≤ n := by omega
  go_enter Try.func3, Try.ntmps3
  go_wp2_with (go_at_call 7; refine (zz_yes _ _ _ _ _ (by omega)).mono ?_; rintro e w' ⟨rfl, rfl⟩)
  refine (countsFit_any b off n cap A L _ (by omega) (fun i hi => (HP.out i hi).1) (fun i hi => (HP.out i hi).2)).mono ?_
  rintro e w' ⟨⟨r, rfl, hr⟩, rfl⟩
  cases r with
  | false =>
    clear hr
    go_wp2_with fail
    go_ret
    exact ⟨rfl, Below.refl _ _⟩
  | true =>
    have HF : Hid (Fit n A L) := hr rfl
    clear hr
    go_wp2_with fail
    refine (clone_some b off n cap A L _ hn hbw HP.out).mono ?_
    rintro e w1 ⟨rfl, hb1, hp1, hlt1⟩
    have H1 : Hid (Keep w' w1 w'.heap.size n A L) := ⟨hp1, hlt1, hb1⟩
    clear hb1 hp1 hlt1
    have hg0 : w'.heap.size ≤ w'.heap.size := Nat.le_refl _
    generalize hgg : w'.heap.size = g at H1 hg0 ⊢
    rw [← hgg] at hg0
    clear hgg
    go_wp2_with fail
    refine (build_any _ n n A L _ hn (H1.out.src (Nat.le_refl _)) (small_whole HF.out).each).mono ?_
    rintro e w2 ⟨fb, rfl, hf2, hb2⟩
    have HK2 : Hid (Keep w' w2 g n A L) := H1.out.step hb2
    have HF2 : Hid (FileAt w2 fb n A L) := hf2
    clear hf2 hb2 H1
    go_wp2_with fail
    refine (assertions_any fb n A L _ HF2.out hn (small_whole HF.out).sums).mono ?_
    rintro e w3 ⟨rfl, hb3⟩
    have HK3 : Hid (Keep w' w3 g n A L) := HK2.out.step hb3
    clear hb3 HK2 HF2
    go_wp2_with fail
    refine (build_any _ k n A L _ (by omega) (HK3.out.src hkn) (small_front HF.out hkn).each).mono ?_
    rintro e w4 ⟨fb4, rfl, hf4, hb4⟩
    have HK4 : Hid (Keep w' w4 g n A L) := HK3.out.step hb4
    have HF4 : Hid (FileAt w4 fb4 k A L) := hf4
    clear hf4 hb4 HK3
    go_wp2_with fail
    refine (assertions_any fb4 k A L _ HF4.out (by omega) (small_front HF.out hkn).sums).mono ?_
    rintro e w5 ⟨rfl, hb5⟩
    have HK5 : Hid (Keep w' w5 g n A L) := HK4.out.step hb5
    clear hb5 HK4 HF4
    go_wp2_with fail
    refine (build_any _ (n - k) (n - k) (fun i => A (k + i)) (fun i => L (k + i)) _ (by omega) (Src.back HK5.out.lt HK5.out.pairs k _ (fun _ => rfl)) (small_back HF.out hkn).each).mono ?_
    rintro e w6 ⟨fb6, rfl, hf6, hb6⟩
    have HK6 : Hid (Keep w' w6 g n A L) := HK5.out.step hb6
    have HF6 : Hid (FileAt w6 fb6 (n - k) (fun i => A (k + i)) (fun i => L (k + i))) := hf6
    clear hf6 hb6 HK5
    go_wp2_with fail
    refine (assertions_any fb6 (n - k) _ _ _ HF6.out (by omega) (small_back HF.out hkn).sums).mono ?_
    rintro e w7 ⟨rfl, hb7⟩
    have HK7 : Hid (Keep w' w7 g n A L) := HK6.out.step hb7
    clear hb7 HK6 HF6
    have q1 := (small_whole HF.out).sums n (Nat.le_refl _)
    have q2 := (small_front HF.out hkn).sums k (Nat.le_refl _)
    have q3 := (small_back HF.out hkn).sums (n - k) (Nat.le_refl _)
    have hsum := back_sum A L hkn
    have htest : (tot A L n != tot A L k + tot (fun i => A (k + i)) (fun i => L (k + i)) (n - k)) = false := by rw [bne_eq_false_iff_eq]; exact hsum
    have htest' : tot (fun i => A (k + i)) (fun i => L (k + i)) (n - k) = tot A L n - tot A L k := by omega
    clear hsum
    have hmk := make22 n hn
    
    go_wp2_with fail
    have hgr : g < w7.heap.size := HK7.out.lt
    have HBr : Hid (w'.heap.size ≤ w7.heap.size) := HK7.out.bel.size
    go_loopw [9] (fun i wr => ∃ j : Nat, j ≤ n ∧ i = .int .i64 j ∧ RevAt w' wr g w7.heap.size n j A L) (fun i _ => n - (intOf i).toNat)
    case atStart => exact ⟨0, Nat.zero_le _, rfl, RevAt.start HK7.out⟩
    case round =>
      obtain ⟨j, hj, rfl, hrv⟩ := hrel
      have HRV : Hid (RevAt w' wr g w7.heap.size n j A L) := hrv
      clear hrv
      by_cases hlt : j < n
      · obtain ⟨u0, f0⟩ := HRV.out.row.has ((n - 1 - j) * 2) (by omega)
        obtain ⟨u1, f1⟩ := HRV.out.row.has ((n - 1 - j) * 2 + 1) (by omega)
        have z0 := HRV.out.row.free ((n - 1 - j) * 2)
        have z1 := HRV.out.row.free ((n - 1 - j) * 2 + 1)
        obtain ⟨s0, s1⟩ := HRV.out.keep.pairs j hlt
        rw [Nat.zero_add] at s0 s1
        go_wp2_with fail
        go_roundw
        case rel => exact ⟨j + 1, by omega, by go_num, HRV.out.next hgr HBr.out hlt⟩
        case measure => simp [intOf]; omega
      · have hjn : j = n := by omega
        have HRN : Hid (RevAt w' wr g w7.heap.size n n A L) := by have h := HRV.out; rw [hjn] at h; exact h
        clear hjn HRV HK7
        go_wp2_with fail
        refine (build_any _ n n (fun i => A (n - 1 - i)) (fun i => L (n - 1 - i)) _ hn HRN.out.all (small_rev HF.out).each).mono ?_
        rintro e w8 ⟨fb8, rfl, hf8, hb8⟩
        have HK8 : Hid (Keep w' w8 g n A L) := HRN.out.keep.step hb8
        have HF8 : Hid (FileAt w8 fb8 n (fun i => A (n - 1 - i)) (fun i => L (n - 1 - i))) := hf8
        clear hf8 hb8 HRN hgr HBr
        go_wp2_with fail
        refine (assertions_any fb8 n _ _ _ HF8.out hn (small_rev HF.out).sums).mono ?_
        rintro e w9 ⟨rfl, hb9⟩
        have HK9 : Hid (Keep w' w9 g n A L) := HK8.out.step hb9
        clear hb9 HK8 HF8
        rw [tot_rev]
        go_wp2_with fail
        have hgr : g < w9.heap.size := HK9.out.lt
        have HBr : Hid (w'.heap.size ≤ w9.heap.size) := HK9.out.bel.size
        go_loopw [11] (fun i wr => ∃ j : Nat, j ≤ n ∧ i = .int .i64 j ∧ CopyAt w' wr g w9.heap.size n j A L) (fun i _ => n - (intOf i).toNat)
        case atStart => exact ⟨0, Nat.zero_le _, rfl, CopyAt.start HK9.out⟩
        case round =>
          obtain ⟨j2, hj2, rfl, hcp⟩ := hrel
          have HCP : Hid (CopyAt w' wr g w9.heap.size n j2 A L) := hcp
          clear hcp
          by_cases hlt2 : j2 < n
          · obtain ⟨u0, f0⟩ := HCP.out.row.has (j2 * 2) (by omega)
            obtain ⟨u1, f1⟩ := HCP.out.row.has (j2 * 2 + 1) (by omega)
            have z0 := HCP.out.row.free (j2 * 2)
            have z1 := HCP.out.row.free (j2 * 2 + 1)
            obtain ⟨s0, s1⟩ := HCP.out.keep.pairs j2 hlt2
            rw [Nat.zero_add] at s0 s1
            go_wp2_with fail
            go_roundw
            case rel => exact ⟨j2 + 1, by omega, by go_num, HCP.out.next hgr HBr.out hlt2⟩
            case measure => simp [intOf]; omega
          · have hjn : j2 = n := by omega
            have HCN : Hid (CopyAt w' wr g w9.heap.size n n A L) := by have h := HCP.out; rw [hjn] at h; exact h
            clear hjn HCP
            obtain ⟨f0, f1⟩ := HCN.out.done k hk
            rw [Nat.zero_add] at f0 f1
            have z1 := HCN.out.row.free (k * 2 + 1)
            obtain ⟨p1, p2, p3, p4⟩ := (small_whole HF.out).each k hk
            go_wp2_with fail
            have HBu := HCN.out.bump hgr HBr.out hk
            have HK10 : Hid (Keep w' (wr.setCell ⟨w9.heap.size, k * 2 + 1, none⟩ (.int .i64 (L k + 1))) g n A L) := HBu.1
            refine (build_any _ n n A (fun j => if j = k then L j + 1 else L j) _ hn HBu.2 (small_bump HF.out hk).each).mono ?_
            rintro e w11 ⟨fb11, rfl, hf11, hb11⟩
            have HK11 : Hid (Keep w' w11 g n A L) := HK10.out.step hb11
            have HF11 : Hid (FileAt w11 fb11 n A (fun j => if j = k then L j + 1 else L j)) := hf11
            clear hf11 hb11 HBu HK10
            go_wp2_with fail
            refine (assertions_any fb11 n _ _ _ HF11.out hn (small_bump HF.out hk).sums).mono ?_
            rintro e w12 ⟨rfl, hb12⟩
            have HK12 : Hid (Keep w' w12 g n A L) := HK11.out.step hb12
            clear hb12 HK11 HF11
            rw [tot_bump A L k n hk]
            go_wp2_with fail
            go_ret
            exact ⟨rfl, HK12.out.bel⟩
set_option maxHeartbeats 4000000 in
theorem main_eq (b off n cap : Nat) (A L : Nat → Int) (w : World) (hn : n ≤ 65536) (hn0 : 0 < n) (hbw : b < w.heap.size) (hP : Pairs w b off n A L) :
    Calls Try.prog 3 #[.slice (some ⟨b, off, none⟩) n cap, .int .i64 n] w fun e w' => e = .returned (.bool true) ∧ Below w.heap.size w w' := by
  have HP : Hid (Pairs w b off n A L) := hP
  clear hP
  have hkn : n ≤ n := Nat.le_refl _
  go_enter Try.func3, Try.ntmps3
  go_wp2_with (go_at_call 7; refine (zz_yes _ _ _ _ _ (by omega)).mono ?_; rintro e w' ⟨rfl, rfl⟩)
  refine (countsFit_any b off n cap A L _ (by omega) (fun i hi => (HP.out i hi).1) (fun i hi => (HP.out i hi).2)).mono ?_
  rintro e w' ⟨⟨r, rfl, hr⟩, rfl⟩
  cases r with
  | false =>
    clear hr
    go_wp2_with fail
    go_ret
    exact ⟨rfl, Below.refl _ _⟩
  | true =>
    have HF : Hid (Fit n A L) := hr rfl
    clear hr
    go_wp2_with fail
    refine (clone_some b off n cap A L _ hn hbw HP.out).mono ?_
    rintro e w1 ⟨rfl, hb1, hp1, hlt1⟩
    have H1 : Hid (Keep w' w1 w'.heap.size n A L) := ⟨hp1, hlt1, hb1⟩
    clear hb1 hp1 hlt1
    have hg0 : w'.heap.size ≤ w'.heap.size := Nat.le_refl _
    generalize hgg : w'.heap.size = g at H1 hg0 ⊢
    rw [← hgg] at hg0
    clear hgg
    go_wp2_with fail
    refine (build_any _ n n A L _ hn (H1.out.src (Nat.le_refl _)) (small_whole HF.out).each).mono ?_
    rintro e w2 ⟨fb, rfl, hf2, hb2⟩
    have HK2 : Hid (Keep w' w2 g n A L) := H1.out.step hb2
    have HF2 : Hid (FileAt w2 fb n A L) := hf2
    clear hf2 hb2 H1
    go_wp2_with fail
    refine (assertions_any fb n A L _ HF2.out hn (small_whole HF.out).sums).mono ?_
    rintro e w3 ⟨rfl, hb3⟩
    have HK3 : Hid (Keep w' w3 g n A L) := HK2.out.step hb3
    clear hb3 HK2 HF2
    go_wp2_with fail
    refine (build_any _ n n A L _ (by omega) (HK3.out.src hkn) (small_front HF.out hkn).each).mono ?_
    rintro e w4 ⟨fb4, rfl, hf4, hb4⟩
    have HK4 : Hid (Keep w' w4 g n A L) := HK3.out.step hb4
    have HF4 : Hid (FileAt w4 fb4 n A L) := hf4
    clear hf4 hb4 HK3
    go_wp2_with fail
    refine (assertions_any fb4 n A L _ HF4.out (by omega) (small_front HF.out hkn).sums).mono ?_
    rintro e w5 ⟨rfl, hb5⟩
    have HK5 : Hid (Keep w' w5 g n A L) := HK4.out.step hb5
    clear hb5 HK4 HF4
    go_wp2_with fail
    refine (build_any _ 0 0 A L _ (by omega) (fun h => by omega) (fun i hi => by omega)).mono ?_
    rintro e w6 ⟨fb6, rfl, hf6, hb6⟩
    have HK6 : Hid (Keep w' w6 g n A L) := HK5.out.step hb6
    have HF6 : Hid (FileAt w6 fb6 0 A L) := hf6
    clear hf6 hb6 HK5
    go_wp2_with fail
    refine (assertions_any fb6 0 A L _ HF6.out (by omega) (sums_zero A L)).mono ?_
    rintro e w7 ⟨rfl, hb7⟩
    have HK7 : Hid (Keep w' w7 g n A L) := HK6.out.step hb7
    clear hb7 HK6 HF6
    have e0 : tot A L 0 = 0 := rfl
    rw [e0]
    clear e0
    have q1 := (small_whole HF.out).sums n (Nat.le_refl _)
    have hmk := make22 n hn
    
    go_wp2_with fail
    have hgr : g < w7.heap.size := HK7.out.lt
    have HBr : Hid (w'.heap.size ≤ w7.heap.size) := HK7.out.bel.size
    go_loopw [9] (fun i wr => ∃ j : Nat, j ≤ n ∧ i = .int .i64 j ∧ RevAt w' wr g w7.heap.size n j A L) (fun i _ => n - (intOf i).toNat)
    case atStart => exact ⟨0, Nat.zero_le _, rfl, RevAt.start HK7.out⟩
    case round =>
      obtain ⟨j, hj, rfl, hrv⟩ := hrel
      have HRV : Hid (RevAt w' wr g w7.heap.size n j A L) := hrv
      clear hrv
      by_cases hlt : j < n
      · obtain ⟨u0, f0⟩ := HRV.out.row.has ((n - 1 - j) * 2) (by omega)
        obtain ⟨u1, f1⟩ := HRV.out.row.has ((n - 1 - j) * 2 + 1) (by omega)
        have z0 := HRV.out.row.free ((n - 1 - j) * 2)
        have z1 := HRV.out.row.free ((n - 1 - j) * 2 + 1)
        obtain ⟨s0, s1⟩ := HRV.out.keep.pairs j hlt
        rw [Nat.zero_add] at s0 s1
        go_wp2_with fail
        go_roundw
        case rel => exact ⟨j + 1, by omega, by go_num, HRV.out.next hgr HBr.out hlt⟩
        case measure => simp [intOf]; omega
      · have hjn : j = n := by omega
        have HRN : Hid (RevAt w' wr g w7.heap.size n n A L) := by have h := HRV.out; rw [hjn] at h; exact h
        clear hjn HRV HK7
        go_wp2_with fail
        refine (build_any _ n n (fun i => A (n - 1 - i)) (fun i => L (n - 1 - i)) _ hn HRN.out.all (small_rev HF.out).each).mono ?_
        rintro e w8 ⟨fb8, rfl, hf8, hb8⟩
        have HK8 : Hid (Keep w' w8 g n A L) := HRN.out.keep.step hb8
        have HF8 : Hid (FileAt w8 fb8 n (fun i => A (n - 1 - i)) (fun i => L (n - 1 - i))) := hf8
        clear hf8 hb8 HRN hgr HBr
        go_wp2_with fail
        refine (assertions_any fb8 n _ _ _ HF8.out hn (small_rev HF.out).sums).mono ?_
        rintro e w9 ⟨rfl, hb9⟩
        have HK9 : Hid (Keep w' w9 g n A L) := HK8.out.step hb9
        clear hb9 HK8 HF8
        rw [tot_rev]
        go_wp2_with fail
        go_ret
        exact ⟨rfl, HK9.out.bel⟩


theorem build0 (a : Option Addr) (cap : Nat) (w : World) :
    Calls Try.prog 10 #[.slice a 0 cap] w fun e w' => BuildEnd w w' 0 (fun _ => 0) (fun _ => 0) e :=
  build_any a 0 cap _ _ w (by decide) (fun h => absurd h (by decide)) (fun i hi => absurd hi (Nat.not_lt_zero i))

theorem assert0 (fb : Nat) (w : World) (hF : FileAt w fb 0 (fun _ => 0) (fun _ => 0)) :
    Calls Try.prog 11 #[.pointer (some ⟨fb, 0, none⟩)] w fun e w' => e = .returned (.int .i64 0) ∧ Below w.heap.size w w' :=
  assertions_any fb 0 _ _ w hF (by decide) (sums_zero _ _)

set_option maxHeartbeats 4000000 in
theorem main_zero (a : Option Addr) (cap : Nat) (w : World) :
    Calls Try.prog 3 #[.slice a 0 cap, .int .i64 0] w fun e w' => e = .returned (.bool true) ∧ Below w.heap.size w w' := by
  go_enter Try.func3, Try.ntmps3
  go_wp2_with (go_at_call 7; refine (zz_yes _ _ _ _ _ (by decide)).mono ?_; rintro e w' ⟨rfl, rfl⟩)
  refine (countsFit_zero a cap (fun _ => 0) (fun _ => 0) _).mono ?_
  rintro e w' ⟨⟨r, rfl, hr⟩, rfl⟩
  clear hr
  cases r with
  | false =>
    go_wp2_with fail
    go_ret
    exact ⟨rfl, Below.refl _ _⟩
  | true =>
    go_wp2_with fail
    refine (clone_zero a cap _).mono ?_
    rintro e w1 ⟨⟨a', rfl⟩, hb1⟩
    have H1 : Hid (Below w'.heap.size w' w1) := hb1
    clear hb1
    cases a'
    all_goals
      go_wp2_with fail
      refine (build0 _ _ _).mono ?_
      rintro e w2 ⟨fb, rfl, hf2, hb2⟩
      have H2 : Hid (Below w'.heap.size w' w2 ∧ FileAt w2 fb 0 (fun _ => 0) (fun _ => 0)) := ⟨bt H1.out hb2, hf2⟩
      clear hf2 hb2 H1
      go_wp2_with fail
      refine (assert0 fb _ H2.out.2).mono ?_
      rintro e w3 ⟨rfl, hb3⟩
      have H3 : Hid (Below w'.heap.size w' w3) := bt H2.out.1 hb3
      clear hb3 H2
      go_wp2_with fail
      refine (build0 _ _ _).mono ?_
      rintro e w2 ⟨fb, rfl, hf2, hb2⟩
      have H2 : Hid (Below w'.heap.size w' w2 ∧ FileAt w2 fb 0 (fun _ => 0) (fun _ => 0)) := ⟨bt H3.out hb2, hf2⟩
      clear hf2 hb2 H3
      go_wp2_with fail
      refine (assert0 fb _ H2.out.2).mono ?_
      rintro e w4 ⟨rfl, hb3⟩
      have H4 : Hid (Below w'.heap.size w' w4) := bt H2.out.1 hb3
      clear hb3 H2
      go_wp2_with fail
      refine (build0 _ _ _).mono ?_
      rintro e w2 ⟨fb, rfl, hf2, hb2⟩
      have H2 : Hid (Below w'.heap.size w' w2 ∧ FileAt w2 fb 0 (fun _ => 0) (fun _ => 0)) := ⟨bt H4.out hb2, hf2⟩
      clear hf2 hb2 H4
      go_wp2_with fail
      refine (assert0 fb _ H2.out.2).mono ?_
      rintro e w5 ⟨rfl, hb3⟩
      have H5 : Hid (Below w'.heap.size w' w5) := bt H2.out.1 hb3
      clear hb3 H2
      have hmk := make22_0
      go_wp2_with fail
      have H6 : Hid (Below w'.heap.size w' (w5.alloc (zeros30 0))) := H5.out.alloc H5.out.size _
      clear hmk
      refine wp_loop_rounds 1 ?_
      rw [rounds_succ]
      go_wp2_with fail
      refine (build0 _ _ _).mono ?_
      rintro e w2 ⟨fb, rfl, hf2, hb2⟩
      have H2 : Hid (Below w'.heap.size w' w2 ∧ FileAt w2 fb 0 (fun _ => 0) (fun _ => 0)) := ⟨bt H6.out hb2, hf2⟩
      clear hf2 hb2 H6 H5
      go_wp2_with fail
      refine (assert0 fb _ H2.out.2).mono ?_
      rintro e w7 ⟨rfl, hb3⟩
      have H7 : Hid (Below w'.heap.size w' w7) := bt H2.out.1 hb3
      clear hb3 H2
      go_wp2_with fail
      go_ret
      exact ⟨rfl, H7.out⟩

theorem countsFit_src (a : Option Addr) (n cap : Nat) (A L : Nat → Int) (w : World) (hn : n ≤ 9223372036854775807) (hs : Src w a n A L) :
    Calls Try.prog 8 #[.slice a n cap] w fun e w' => FitEnd n A L e ∧ w' = w := by
  rcases Nat.eq_zero_or_pos n with h0 | h0
  · subst h0; exact countsFit_zero a cap A L w
  · obtain ⟨b, off, rfl, _, hp⟩ := hs h0
    exact countsFit_any b off n cap A L w hn (fun i hi => (hp i hi).1) (fun i hi => (hp i hi).2)

set_option maxHeartbeats 1000000 in
theorem walk_pairs (a0 : Option Addr) (len0 cap0 : Nat) (A L : Nat → Int) (a1 : Int) (w : World) (hl : len0 ≤ 9223372036854775807) (hs : Src w a0 len0 A L) (b0 : -9223372036854775808 ≤ a1) (b1 : a1 ≤ 9223372036854775807) :
    Calls Try.prog 3 #[.slice a0 len0 cap0, .int .i64 a1] w fun e w' => e = .returned (.bool true) ∧ Below w.heap.size w w' := by
  have HS : Hid (Src w a0 len0 A L) := hs
  clear hs
  by_cases hz : len0 ≤ 1048576
  case neg =>
    have hz' : 1048576 < len0 := by omega
    go_enter Try.func3, Try.ntmps3
    go_wp2_with (go_at_call 7; refine (zz_no _ _ _ _ _ hl hz').mono ?_; rintro e w' ⟨rfl, rfl⟩)
    go_ret
    exact ⟨rfl, Below.refl _ _⟩
  by_cases c1 : 65536 < len0
  · go_enter Try.func3, Try.ntmps3
    go_wp2_with (go_at_call 7; refine (zz_yes _ _ _ _ _ hz).mono ?_; rintro e w' ⟨rfl, rfl⟩)
    go_ret
    exact ⟨rfl, Below.refl _ _⟩
  by_cases c2 : a1 < 0
  · go_enter Try.func3, Try.ntmps3
    go_wp2_with (go_at_call 7; refine (zz_yes _ _ _ _ _ hz).mono ?_; rintro e w' ⟨rfl, rfl⟩)
    refine (countsFit_src a0 len0 cap0 A L _ hl HS.out).mono ?_
    rintro e w' ⟨⟨r, rfl, hr⟩, rfl⟩
    clear hr
    cases r
    all_goals
      go_wp2_with fail
      go_ret
      exact ⟨rfl, Below.refl _ _⟩
  by_cases c3 : (len0 : Int) < a1
  · go_enter Try.func3, Try.ntmps3
    go_wp2_with (go_at_call 7; refine (zz_yes _ _ _ _ _ hz).mono ?_; rintro e w' ⟨rfl, rfl⟩)
    refine (countsFit_src a0 len0 cap0 A L _ hl HS.out).mono ?_
    rintro e w' ⟨⟨r, rfl, hr⟩, rfl⟩
    clear hr
    cases r
    all_goals
      go_wp2_with fail
      go_ret
      exact ⟨rfl, Below.refl _ _⟩
  obtain ⟨k, rfl⟩ := Int.eq_ofNat_of_zero_le (show 0 ≤ a1 by omega)
  rcases Nat.eq_zero_or_pos len0 with h0 | h0
  · subst h0
    have hk : k = 0 := by omega
    subst hk
    exact main_zero a0 cap0 w
  · obtain ⟨b, off, rfl, hbw, hp⟩ := HS.out h0
    by_cases hk : k < len0
    · exact main_lt b off len0 cap0 A L k w (by omega) h0 hk hbw hp
    · have hk' : k = len0 := by omega
      subst hk'
      exact main_eq b off k cap0 A L w (by omega) h0 hbw hp
end Go.Proofs.Qxb6600300a
