import Derived.Test.Qxb6000961aUserWalks
namespace Go.Proofs.Qxb6000961a
open Go.RowKit
namespace User
set_option maxHeartbeats 1000000 in
theorem encodeUser_any (r : Int) (h0 : 57344 ≤ r) (h1 : r ≤ 59237) (w : World) :
    Calls Try.prog 19 #[.int .i32 r] w fun e w' => e = .returned (.tuple #[.int .u8 (enc0 r), .int .u8 (enc1 r)]) ∧ w' = w := by
  by_cases g1 : r - 57344 < 564
  · have e0 : enc0 r = 170 + (r - 57344) / 94 := by unfold enc0; rw [if_pos g1]
    have e1 : enc1 r = 161 + (r - 57344) % 94 := by unfold enc1; rw [if_pos g1]
    rw [e0, e1]; clear e0 e1
    go_enter Try.func19, Try.ntmps19
    go_wp2
    go_ret2
    exact ⟨rfl, rfl⟩
  · by_cases g2 : r - 57344 - 564 < 658
    · have e0 : enc0 r = 248 + (r - 57344 - 564) / 94 := by unfold enc0; rw [if_neg g1, if_pos g2]
      have e1 : enc1 r = 161 + (r - 57344 - 564) % 94 := by unfold enc1; rw [if_neg g1, if_pos g2]
      rw [e0, e1]; clear e0 e1
      go_enter Try.func19, Try.ntmps19
      go_wp2
      go_ret2
      exact ⟨rfl, rfl⟩
    · by_cases g3 : 127 ≤ 64 + (r - 57344 - 564 - 658) % 96
      · have e0 : enc0 r = 161 + (r - 57344 - 564 - 658) / 96 := by unfold enc0; rw [if_neg g1, if_neg g2]
        have e1 : enc1 r = 64 + (r - 57344 - 564 - 658) % 96 + 1 := by unfold enc1; rw [if_neg g1, if_neg g2, if_pos g3]
        rw [e0, e1]; clear e0 e1
        go_enter Try.func19, Try.ntmps19
        go_wp2
        go_ret2
        exact ⟨rfl, rfl⟩
      · have e0 : enc0 r = 161 + (r - 57344 - 564 - 658) / 96 := by unfold enc0; rw [if_neg g1, if_neg g2]
        have e1 : enc1 r = 64 + (r - 57344 - 564 - 658) % 96 := by unfold enc1; rw [if_neg g1, if_neg g2, if_neg g3]
        rw [e0, e1]; clear e0 e1
        go_enter Try.func19, Try.ntmps19
        go_wp2
        go_ret2
        exact ⟨rfl, rfl⟩
end User
end Go.Proofs.Qxb6000961a
