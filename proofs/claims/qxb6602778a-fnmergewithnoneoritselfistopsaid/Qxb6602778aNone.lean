/- The walk of 'FnMergeWithNoneOrItselfIsTop'. -/
import Derived.Test.Qxb6602778aEqual
import Derived.Test.Qxb6602778aClone
import Derived.Test.Qxb6602778aBytes
import Derived.Test.Qxb6602778aReads
import Derived.Test.Qxb6602778aTop
namespace Go.Proofs.Qxb6602778a
open Go.RowKit

theorem eqB_same (xs : List Int) : eqB xs xs = true := decide_eq_true rfl
theorem rd_nil (w : World) : Rd w none 0 0 [] := ⟨rfl, Nat.le_refl _, Nat.zero_le _, fun h => absurd h (by omega)⟩

set_option maxHeartbeats 1000000 in
theorem none_walk (a0 : Option Addr) (n0 c0 : Nat) (xs : List Int) (m : Int) (w : World) (h0 : n0 ≤ 1048576 → Rd w a0 n0 c0 xs) :
    Calls Try.prog 5 #[.slice a0 n0 c0, .int .i64 m] w fun e w' => e = .returned (.bool true) ∧ Below w.heap.size w w' := by
  by_cases hb : n0 ≤ 1048576
  · have HB : Hid (bytB n0 = true) := bytB_yes hb
    by_cases g0 : 4096 < n0
    · clear h0
      have g0' : (4096 : Int) < (n0 : Int) := by omega
      go_enter Try.func5, Try.ntmps5
      go_wp2_with fail
      refine (bytes18 a0 n0 c0 _ _).mono ?_
      rintro e w1 ⟨rfl, rfl⟩
      rw [HB.out]
      go_wp2
      go_ret
      exact ⟨rfl, Below.refl _ _⟩
    · have g0' : ¬ (4096 : Int) < (n0 : Int) := by omega
      have H0 : Hid (Rd w a0 n0 c0 xs) := h0 (by omega)
      clear h0
      by_cases hm : m < 0
      · clear H0
        go_enter Try.func5, Try.ntmps5
        go_wp2_with fail
        refine (bytes18 a0 n0 c0 _ _).mono ?_
        rintro e w1 ⟨rfl, rfl⟩
        rw [HB.out]
        go_wp2
        go_ret
        exact ⟨rfl, Below.refl _ _⟩
      · obtain ⟨N, rfl⟩ := Int.eq_ofNat_of_zero_le (show 0 ≤ m by omega)
        cases hR : rsB xs with
        | false =>
          have HR : Hid (rsB xs = false) := hR
          clear hR
          go_enter Try.func5, Try.ntmps5
          go_wp2_with fail
          refine (bytes18 a0 n0 c0 _ _).mono ?_
          rintro e w1 ⟨rfl, rfl⟩
          rw [HB.out]
          go_wp2_with fail
          refine (roundSet_any a0 n0 c0 xs _ H0.out).mono ?_
          rintro e w1 ⟨rfl, b1⟩
          rw [HR.out]
          go_wp2
          go_ret
          exact ⟨rfl, b1⟩
        | true =>
          have HR : Hid (rsB xs = true) := hR
          clear hR
          go_enter Try.func5, Try.ntmps5
          go_wp2_with fail
          refine (bytes18 a0 n0 c0 _ _).mono ?_
          rintro e w1 ⟨rfl, rfl⟩
          rw [HB.out]
          go_wp2_with fail
          refine (roundSet_any a0 n0 c0 xs _ H0.out).mono ?_
          rintro e w1 ⟨rfl, b1⟩
          rw [HR.out]
          have H0 : Hid (Rd w1 a0 n0 c0 xs) := H0.out.below b1
          go_wp2_with fail
          refine (clone_any a0 n0 c0 xs _ H0.out).mono ?_
          rintro e w3 ⟨x0, rfl, R0, b3⟩
          have H0 : Hid (Rd w3 x0 n0 n0 xs) := R0
          have B3 := bnext b1 b3
          clear R0 b1 b3
          go_wp2_with fail
          refine (zzTop_any x0 n0 n0 xs _ _ H0.out).mono ?_
          rintro e w4 ⟨at', nt, ct, rfl, RT, b4⟩
          rw [Int.toNat_natCast] at RT
          have HT : Hid (Rd w4 at' nt ct (xs.take N)) := RT
          have H0 : Hid (Rd w4 x0 n0 n0 xs) := H0.out.below b4
          have B4 := bnext B3 b4
          clear B3 b4 RT
          go_wp2_with fail
          refine (zzMerge_any x0 n0 n0 xs none 0 0 [] N _ H0.out (rd_nil _) (by omega)).mono ?_
          rintro e w5 ⟨a5, n5, c5, rfl, R5, b5⟩
          rw [Qx.mg_none] at R5
          have H5 : Hid (Rd w5 a5 n5 c5 (xs.take N)) := R5
          have HT : Hid (Rd w5 at' nt ct (xs.take N)) := HT.out.below b5
          have H0 : Hid (Rd w5 x0 n0 n0 xs) := H0.out.below b5
          have B5 := bnext B4 b5
          clear B4 b5 R5
          go_wp2_with fail
          refine (zzMerge_any none 0 0 [] x0 n0 n0 xs N _ (rd_nil _) H0.out (by omega)).mono ?_
          rintro e w6 ⟨a6, n6, c6, rfl, R6, b6⟩
          rw [Qx.none_mg] at R6
          have H6 : Hid (Rd w6 a6 n6 c6 (xs.take N)) := R6
          have H5 : Hid (Rd w6 a5 n5 c5 (xs.take N)) := H5.out.below b6
          have HT : Hid (Rd w6 at' nt ct (xs.take N)) := HT.out.below b6
          have H0 : Hid (Rd w6 x0 n0 n0 xs) := H0.out.below b6
          have B6 := bnext B5 b6
          clear B5 b6 R6
          go_wp2_with fail
          refine (zzMerge_any x0 n0 n0 xs x0 n0 n0 xs N _ H0.out H0.out (by omega)).mono ?_
          rintro e w7 ⟨a7, n7, c7, rfl, R7, b7⟩
          rw [Qx.mg_self] at R7
          have H7 : Hid (Rd w7 a7 n7 c7 (xs.take N)) := R7
          have H6 : Hid (Rd w7 a6 n6 c6 (xs.take N)) := H6.out.below b7
          have H5 : Hid (Rd w7 a5 n5 c5 (xs.take N)) := H5.out.below b7
          have HT : Hid (Rd w7 at' nt ct (xs.take N)) := HT.out.below b7
          have B7 := bnext B6 b7
          clear B6 b7 R7
          go_wp2_with fail
          refine (sameInts_any a5 n5 c5 _ at' nt ct _ _ H5.out HT.out).mono ?_
          rintro e w8 ⟨rfl, b8⟩
          rw [eqB_same]
          have H7 : Hid (Rd w8 a7 n7 c7 (xs.take N)) := H7.out.below b8
          have H6 : Hid (Rd w8 a6 n6 c6 (xs.take N)) := H6.out.below b8
          have HT : Hid (Rd w8 at' nt ct (xs.take N)) := HT.out.below b8
          have B8 := bnext B7 b8
          clear B7 b8
          go_wp2_with fail
          refine (sameInts_any a6 n6 c6 _ at' nt ct _ _ H6.out HT.out).mono ?_
          rintro e w9 ⟨rfl, b9⟩
          rw [eqB_same]
          have H7 : Hid (Rd w9 a7 n7 c7 (xs.take N)) := H7.out.below b9
          have HT : Hid (Rd w9 at' nt ct (xs.take N)) := HT.out.below b9
          have B9 := bnext B8 b9
          clear B8 b9
          go_wp2_with fail
          refine (sameInts_any a7 n7 c7 _ at' nt ct _ _ H7.out HT.out).mono ?_
          rintro e w10 ⟨rfl, b10⟩
          rw [eqB_same]
          have B10 := bnext B9 b10
          clear B9 b10
          go_wp2
          go_ret
          exact ⟨rfl, B10⟩
  · clear h0
    have HB : Hid (bytB n0 = false) := bytB_no hb
    go_enter Try.func5, Try.ntmps5
    go_wp2_with fail
    refine (bytes18 a0 n0 c0 _ _).mono ?_
    rintro e w1 ⟨rfl, rfl⟩
    rw [HB.out]
    go_wp2
    go_ret
    exact ⟨rfl, Below.refl _ _⟩
end Go.Proofs.Qxb6602778a
