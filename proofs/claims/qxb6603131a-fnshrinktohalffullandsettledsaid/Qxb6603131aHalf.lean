/- The walk of 'FnShrinkToHalfFullAndSettled'. -/
import Derived.Test.Qxb6603131aShrink
namespace Go.Proofs.Qxb6603131a
open Go.RowKit

set_option maxHeartbeats 400000 in
theorem half_walk (f d s : Int) (p : Bool) (n room fl : Int) (w : World) (hr : room ≤ 9223372036854775807) :
    Calls Try.prog 4 #[.int .i64 f, .int .i64 d, .int .i64 s, .bool p, .int .i64 n, .int .i64 room, .int .i64 fl] w fun e w' => e = .returned (.bool true) ∧ Grown w w' := by
  by_cases hf : f < 1
  · go_enter Try.func4, Try.ntmps4
    go_wp2
    go_ret
    exact ⟨rfl, Grown.refl _⟩
  · have hf1 : 1 ≤ f := by omega
    go_enter Try.func4, Try.ntmps4
    go_wp2_with fail
    refine (shrink_any f d s p n room fl _ hf1 hr).mono ?_
    rintro e w1 ⟨r, rfl, hS, rfl⟩
    have HS : Hid (Qy.Shrunk f n room fl r) := hS
    have hle := Qy.half_le hf1 hS
    clear hS
    by_cases hne : r = room
    · subst hne
      go_wp2_with fail
      refine (shrink_any f d s p n r fl _ hf1 (by omega)).mono ?_
      rintro e w2 ⟨r2, rfl, hS2, rfl⟩
      have e2 := Qy.half_again HS.out hS2
      clear hS2
      subst e2
      go_wp2
      go_ret
      exact ⟨rfl, by repeat (first | exact Grown.refl _ | apply Grown.alloc)⟩
    · obtain ⟨q1, q2, q3⟩ := Qy.half_ne HS.out hne
      have d0 : (r != room) = true := by rw [bne_iff_ne]; exact hne
      have d1 : ¬ room ≤ fl := by omega
      clear hne
      go_wp2_with fail
      refine (shrink_any f d s p n r fl _ hf1 (by omega)).mono ?_
      rintro e w2 ⟨r2, rfl, hS2, rfl⟩
      have e2 := Qy.half_again HS.out hS2
      clear hS2
      subst e2
      go_wp2
      go_ret
      exact ⟨rfl, by repeat (first | exact Grown.refl _ | apply Grown.alloc)⟩
end Go.Proofs.Qxb6603131a
