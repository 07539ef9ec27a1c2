/- The walk of 'shrinkToModel'. -/
import Derived.Test.Qxb6603131aShrink
namespace Go.Proofs.Qxb6603131a
open Go.RowKit

/-- What the model answers. -/
def Modelled (f n room fl r : Int) : Prop := (room ≤ fl ∧ r = room) ∨ (fl < room ∧ room ≤ f ∧ r = room) ∨ (fl < room ∧ f < room ∧ Qy.Best f n room 64 r)

set_option maxHeartbeats 400000 in
theorem model_any (f n room fl : Int) (w : World) (hf : 1 ≤ f) (hr : room ≤ 9223372036854775807) :
    Calls Try.prog 7 #[.int .i64 f, .int .i64 n, .int .i64 room, .int .i64 fl] w fun e w' => ∃ r, e = .returned (.int .i64 r) ∧ Modelled f n room fl r ∧ w = w' := by
  by_cases h0 : room ≤ fl
  · go_enter Try.func7, Try.ntmps7
    go_wp2
    go_ret
    exact ⟨room, rfl, .inl ⟨h0, rfl⟩, rfl⟩
  · by_cases h1 : room ≤ f
    · go_enter Try.func7, Try.ntmps7
      go_wp2
      go_ret
      exact ⟨room, rfl, .inr (.inl ⟨by omega, h1, rfl⟩), rfl⟩
    · go_enter Try.func7, Try.ntmps7
      go_wp2
      go_loop [9, 10] (fun sb sk => ∃ (k : Nat) (b : Int), k ≤ 64 ∧ sk = .int .i64 k ∧ sb = .int .i64 b ∧ Hid (Qy.Best f n room k b)) (fun _ sk => 64 - (intOf sk).toNat)
      case atStart => exact ⟨0, f, Nat.zero_le _, rfl, rfl, Qy.best_zero f n room⟩
      case round =>
        obtain ⟨k, b, hk, rfl, rfl, HB⟩ := hrel
        by_cases c0 : k < 64
        · have q0 : 0 ≤ room / 2 ^ k := Int.ediv_nonneg (by omega) (Int.le_of_lt (Int.pow_pos (by omega)))
          have q1 : room / 2 ^ k ≤ 9223372036854775807 := by
            have h := Qy.div_mono room (by omega) (Nat.zero_le k)
            simp at h
            omega
          by_cases t0 : f < room / 2 ^ k
          · by_cases t1 : room / 2 ^ k / 4 < n
            · by_cases t2 : b < room / 2 ^ k
              · go_wp2
                go_round
                case rel => exact ⟨k + 1, room / 2 ^ k, by omega, by go_num, rfl, Qy.best_take HB.out t0 t1 t2⟩
                case measure => simp [intOf]; omega
              · go_wp2
                go_round
                case rel => exact ⟨k + 1, b, by omega, by go_num, rfl, Qy.best_keep HB.out (by omega)⟩
                case measure => simp [intOf]; omega
            · go_wp2
              go_round
              case rel => exact ⟨k + 1, b, by omega, by go_num, rfl, Qy.best_keep HB.out (by omega)⟩
              case measure => simp [intOf]; omega
          · go_wp2
            go_round
            case rel => exact ⟨k + 1, b, by omega, by go_num, rfl, Qy.best_keep HB.out (by omega)⟩
            case measure => simp [intOf]; omega
        · have e : k = 64 := by omega
          have HF : Hid (Modelled f n room fl b) := .inr (.inr ⟨by omega, by omega, by rw [← e]; exact HB.out⟩)
          clear e
          go_wp2
          go_ret
          exact ⟨b, rfl, HF.out, rfl⟩
end Go.Proofs.Qxb6603131a
