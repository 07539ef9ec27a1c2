/- The walk of 'FnShrinkToLargestQuarterFilledHalving'. -/
import Derived.Test.Qxb6603131aModel
namespace Go.Proofs.Qxb6603131a
open Go.RowKit

theorem two63 : (2 : Int) ^ 63 = 9223372036854775808 := by decide
theorem shrunk_model {f n room fl r m : Int} (hf : 1 ≤ f) (hr : room ≤ 9223372036854775807) (h : Qy.Shrunk f n room fl r) (hm : Modelled f n room fl m) : r = m := by
  rcases h with ⟨h1, h2⟩ | ⟨h1, h2⟩
  · rcases hm with ⟨_, h3⟩ | ⟨h3, _, _⟩ | ⟨h3, _, _⟩ <;> omega
  · rcases hm with ⟨h3, _⟩ | ⟨_, h3, h4⟩ | ⟨_, h3, h4⟩
    · omega
    · obtain ⟨j, hw, hj, _⟩ := h2
      cases j with
      | zero => rw [h4, hj]; rfl
      | succ k => have := Qy.went_zero (by omega) hw; omega
    · exact Qy.model hf h3 (by rw [two63]; omega) h2 h4

set_option maxHeartbeats 400000 in
theorem largest_walk (f d s : Int) (p : Bool) (n room fl : Int) (w : World) (hr : room ≤ 9223372036854775807) :
    Calls Try.prog 3 #[.int .i64 f, .int .i64 d, .int .i64 s, .bool p, .int .i64 n, .int .i64 room, .int .i64 fl] w fun e w' => e = .returned (.bool true) ∧ Grown w w' := by
  by_cases hf : f < 1
  · go_enter Try.func3, Try.ntmps3
    go_wp2
    go_ret
    exact ⟨rfl, Grown.refl _⟩
  · have hf1 : 1 ≤ f := by omega
    go_enter Try.func3, Try.ntmps3
    go_wp2_with fail
    refine (shrink_any f d s p n room fl _ hf1 hr).mono ?_
    rintro e w1 ⟨r, rfl, hS, rfl⟩
    have HS : Hid (Qy.Shrunk f n room fl r) := hS
    clear hS
    go_wp2_with fail
    refine (model_any f n room fl _ hf1 hr).mono ?_
    rintro e w2 ⟨m, rfl, hM, rfl⟩
    have e2 := shrunk_model hf1 hr HS.out hM
    clear hM
    subst e2
    go_wp2
    go_ret
    exact ⟨rfl, by repeat (first | exact Grown.refl _ | apply Grown.alloc)⟩
end Go.Proofs.Qxb6603131a
