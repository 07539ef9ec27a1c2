/- The walk of 'FnTopKeepsRankBelowM'. -/
import Derived.Test.Qxb6602778aEqual
import Derived.Test.Qxb6602778aClone
import Derived.Test.Qxb6602778aBytes
import Derived.Test.Qxb6602778aReads
import Derived.Test.Qxb6602778aTop
import Derived.Test.Qxb6602778aRank
namespace Go.Proofs.Qxb6602778a
open Go.RowKit

theorem eqB_one (xs : List Int) : eqB xs xs = true := decide_eq_true rfl

set_option maxHeartbeats 1000000 in
theorem keeps_walk (a0 : Option Addr) (n0 c0 : Nat) (xs : List Int) (m : Int) (w : World) (h0 : n0 ≤ 1048576 → Rd w a0 n0 c0 xs) :
    Calls Try.prog 9 #[.slice a0 n0 c0, .int .i64 m] w fun e w' => e = .returned (.bool true) ∧ Below w.heap.size w w' := by
  by_cases hb : n0 ≤ 1048576
  · have HB : Hid (bytB n0 = true) := bytB_yes hb
    by_cases g0 : 4096 < n0
    · clear h0
      have g0' : (4096 : Int) < (n0 : Int) := by omega
      go_enter Try.func9, Try.ntmps9
      go_wp2_with fail
      refine (bytes25 a0 n0 c0 _ _).mono ?_
      rintro e w1 ⟨rfl, rfl⟩
      rw [HB.out]
      go_wp2
      go_ret
      exact ⟨rfl, Below.refl _ _⟩
    · have g0' : ¬ (4096 : Int) < (n0 : Int) := by omega
      have H0 : Hid (Rd w a0 n0 c0 xs) := h0 (by omega)
      clear h0
      cases hR : rsB xs with
      | false =>
        have HR : Hid (rsB xs = false) := hR
        clear hR
        go_enter Try.func9, Try.ntmps9
        go_wp2_with fail
        refine (bytes25 a0 n0 c0 _ _).mono ?_
        rintro e w1 ⟨rfl, rfl⟩
        rw [HB.out]
        go_wp2_with fail
        refine (roundSet_any a0 n0 c0 xs _ H0.out).mono ?_
        rintro e w1 ⟨rfl, b1⟩
        rw [HR.out]
        go_wp2
        go_ret
        exact ⟨rfl, b1⟩
      | true =>
        have HR : Hid (rsB xs = true) := hR
        clear hR
        go_enter Try.func9, Try.ntmps9
        go_wp2_with fail
        refine (bytes25 a0 n0 c0 _ _).mono ?_
        rintro e w1 ⟨rfl, rfl⟩
        rw [HB.out]
        go_wp2_with fail
        refine (roundSet_any a0 n0 c0 xs _ H0.out).mono ?_
        rintro e w1 ⟨rfl, b1⟩
        rw [HR.out]
        have H0 : Hid (Rd w1 a0 n0 c0 xs) := H0.out.below b1
        go_wp2_with fail
        refine (clone_any a0 n0 c0 xs _ H0.out).mono ?_
        rintro e w3 ⟨x0, rfl, R0, b3⟩
        have H0 : Hid (Rd w3 x0 n0 n0 xs) := R0
        have B3 := bnext b1 b3
        clear R0 b1 b3
        go_wp2_with fail
        refine (zzTop_any x0 n0 n0 xs _ _ H0.out).mono ?_
        rintro e w4 ⟨at', nt, ct, rfl, RT, b4⟩
        have HT : Hid (Rd w4 at' nt ct (xs.take m.toNat)) := RT
        have H0 : Hid (Rd w4 x0 n0 n0 xs) := H0.out.below b4
        have B4 := bnext B3 b4
        clear B3 b4 RT
        go_wp2_with fail
        refine (rank_any x0 n0 n0 xs m _ H0.out).mono ?_
        rintro e w5 ⟨a5, n5, c5, rfl, R5, b5⟩
        rw [Qx.rank_take xs (rsB_desc HR.out)] at R5
        have H5 : Hid (Rd w5 a5 n5 c5 (xs.take m.toNat)) := R5
        have HT : Hid (Rd w5 at' nt ct (xs.take m.toNat)) := HT.out.below b5
        have B5 := bnext B4 b5
        clear B4 b5 R5
        go_wp2_with fail
        refine (sameInts_any at' nt ct _ a5 n5 c5 _ _ HT.out H5.out).mono ?_
        rintro e w6 ⟨rfl, b6⟩
        rw [eqB_one]
        have B6 := bnext B5 b6
        clear B5 b6
        go_wp2
        go_ret
        exact ⟨rfl, B6⟩
  · clear h0
    have HB : Hid (bytB n0 = false) := bytB_no hb
    go_enter Try.func9, Try.ntmps9
    go_wp2_with fail
    refine (bytes25 a0 n0 c0 _ _).mono ?_
    rintro e w1 ⟨rfl, rfl⟩
    rw [HB.out]
    go_wp2
    go_ret
    exact ⟨rfl, Below.refl _ _⟩
end Go.Proofs.Qxb6602778a
