/- The walk of 'Growth.ShrinkTo'. -/
import Derived.Test.Qxb6603131aProg
import Derived.Test.Qxb6603131aPlain
import Derived.WalkKit
namespace Go.Proofs.Qxb6603131a
open Go.RowKit

set_option maxHeartbeats 400000 in
theorem shrink_any (f d s : Int) (p : Bool) (n room fl : Int) (w : World) (hf : 1 ≤ f) (hr : room ≤ 9223372036854775807) :
    Calls Try.prog 6 #[.agg #[.int .i64 f, .int .i64 d, .int .i64 s, .bool p], .int .i64 n, .int .i64 room, .int .i64 fl] w fun e w' => ∃ r, e = .returned (.int .i64 r) ∧ Qy.Shrunk f n room fl r ∧ w.alloc (.cells #[.int .i64 f, .int .i64 d, .int .i64 s, .bool p] 23) = w' := by
  by_cases h0 : room ≤ fl
  · go_enter Try.func6, Try.ntmps6
    go_wp2
    go_ret
    exact ⟨room, rfl, .inl ⟨h0, rfl⟩, rfl⟩
  · go_enter Try.func6, Try.ntmps6
    go_wp2
    go_loop [9] (fun sz => ∃ (j : Nat) (z : Int), sz = .int .i64 z ∧ z ≤ 9223372036854775807 ∧ Hid (Qy.Went f n room j) ∧ Hid (z = Qy.at_ f room j)) (fun sz => (intOf sz).toNat)
    case atStart => exact ⟨0, room, rfl, hr, fun i hi => absurd hi (by omega), (rfl : room = Qy.at_ f room 0)⟩
    case round =>
      obtain ⟨j, z, rfl, hz, HW, HZ⟩ := hrel
      by_cases c0 : f < z
      · by_cases c1 : n ≤ z / 4
        · have HS : Hid (f < Qy.at_ f room j ∧ n ≤ Qy.at_ f room j / 4) := by
            show f < Qy.at_ f room j ∧ n ≤ Qy.at_ f room j / 4
            rw [← HZ.out]; exact ⟨c0, c1⟩
          have HN : Hid ((if z / 2 < f then f else z / 2) = Qy.at_ f room (j + 1)) := by
            show (if z / 2 < f then f else z / 2) = Qy.at_ f room (j + 1)
            rw [← Qy.at_succ HS.out.1, ← HZ.out]
            split <;> omega
          go_wp2
          go_round
          case rel => exact ⟨j + 1, _, rfl, by split <;> omega, Qy.went_succ HW.out HS.out.1 HS.out.2, HN⟩
          case measure => simp [intOf]; omega
        · have HF : Hid (Qy.Shrunk f n room fl z) := .inr ⟨by omega, j, HW.out, HZ.out, fun h => c1 h.2⟩
          go_wp2
          go_ret
          exact ⟨z, rfl, HF.out, rfl⟩
      · have HF : Hid (Qy.Shrunk f n room fl z) := .inr ⟨by omega, j, HW.out, HZ.out, fun h => c0 h.1⟩
        go_wp2
        go_ret
        exact ⟨z, rfl, HF.out, rfl⟩
end Go.Proofs.Qxb6603131a
