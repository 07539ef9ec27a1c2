/- The walk of 'FnMergeIsTopOfSortedUnion'. -/
import Derived.Test.Qxb6602778aEqual
import Derived.Test.Qxb6602778aClone
import Derived.Test.Qxb6602778aBytes
import Derived.Test.Qxb6602778aReads
import Derived.Test.Qxb6602778aTop
import Derived.Test.Qxb6602778aUnion
namespace Go.Proofs.Qxb6602778a
open Go.RowKit

theorem eqB_both (xs : List Int) : eqB xs xs = true := decide_eq_true rfl

set_option maxHeartbeats 1000000 in
theorem topUnion_walk (a0 : Option Addr) (n0 c0 : Nat) (xs : List Int) (a1 : Option Addr) (n1 c1 : Nat) (ys : List Int) (m : Int) (w : World) (h0 : n0 ≤ 1048576 → Rd w a0 n0 c0 xs) (h1 : n1 ≤ 1048576 → Rd w a1 n1 c1 ys) :
    Calls Try.prog 3 #[.slice a0 n0 c0, .slice a1 n1 c1, .int .i64 m] w fun e w' => e = .returned (.bool true) ∧ Below w.heap.size w w' := by
  by_cases hb : n0 + n1 ≤ 1048576
  · have HB : Hid (bytB (n0 + n1) = true) := bytB_yes hb
    by_cases g0 : 4096 < n0
    · clear h0 h1
      have g0' : (4096 : Int) < (n0 : Int) := by omega
      go_enter Try.func3, Try.ntmps3
      go_wp2_with fail
      refine (bytes11 a0 n0 c0 a1 n1 c1 m _).mono ?_
      rintro e w1 ⟨rfl, rfl⟩
      rw [HB.out]
      go_wp2
      go_ret
      exact ⟨rfl, Below.refl _ _⟩
    · by_cases g1 : 4096 < n1
      · clear h0 h1
        have g0' : ¬ (4096 : Int) < (n0 : Int) := by omega
        have g1' : (4096 : Int) < (n1 : Int) := by omega
        go_enter Try.func3, Try.ntmps3
        go_wp2_with fail
        refine (bytes11 a0 n0 c0 a1 n1 c1 m _).mono ?_
        rintro e w1 ⟨rfl, rfl⟩
        rw [HB.out]
        go_wp2
        go_ret
        exact ⟨rfl, Below.refl _ _⟩
      · have g0' : ¬ (4096 : Int) < (n0 : Int) := by omega
        have g1' : ¬ (4096 : Int) < (n1 : Int) := by omega
        have H0 : Hid (Rd w a0 n0 c0 xs) := h0 (by omega)
        have H1 : Hid (Rd w a1 n1 c1 ys) := h1 (by omega)
        clear h0 h1
        by_cases hm : m < 0
        · clear H0 H1
          go_enter Try.func3, Try.ntmps3
          go_wp2_with fail
          refine (bytes11 a0 n0 c0 a1 n1 c1 m _).mono ?_
          rintro e w1 ⟨rfl, rfl⟩
          rw [HB.out]
          go_wp2
          go_ret
          exact ⟨rfl, Below.refl _ _⟩
        · obtain ⟨N, rfl⟩ := Int.eq_ofNat_of_zero_le (show 0 ≤ m by omega)
          cases hR : rsB xs with
          | false =>
            have HR : Hid (rsB xs = false) := hR
            clear hR
            go_enter Try.func3, Try.ntmps3
            go_wp2_with fail
            refine (bytes11 a0 n0 c0 a1 n1 c1 _ _).mono ?_
            rintro e w1 ⟨rfl, rfl⟩
            rw [HB.out]
            go_wp2_with fail
            refine (roundSet_any a0 n0 c0 xs _ H0.out).mono ?_
            rintro e w1 ⟨rfl, b1⟩
            rw [HR.out]
            go_wp2
            go_ret
            exact ⟨rfl, b1⟩
          | true =>
            have HR : Hid (rsB xs = true) := hR
            clear hR
            cases hS : rsB ys with
            | false =>
              have HS : Hid (rsB ys = false) := hS
              clear hS
              go_enter Try.func3, Try.ntmps3
              go_wp2_with fail
              refine (bytes11 a0 n0 c0 a1 n1 c1 _ _).mono ?_
              rintro e w1 ⟨rfl, rfl⟩
              rw [HB.out]
              go_wp2_with fail
              refine (roundSet_any a0 n0 c0 xs _ H0.out).mono ?_
              rintro e w1 ⟨rfl, b1⟩
              rw [HR.out]
              have H1 : Hid (Rd w1 a1 n1 c1 ys) := H1.out.below b1
              go_wp2_with fail
              refine (roundSet_any a1 n1 c1 ys _ H1.out).mono ?_
              rintro e w2 ⟨rfl, b2⟩
              rw [HS.out]
              have B2 := bnext b1 b2
              clear b1 b2
              go_wp2
              go_ret
              exact ⟨rfl, B2⟩
            | true =>
              have HS : Hid (rsB ys = true) := hS
              clear hS
              go_enter Try.func3, Try.ntmps3
              go_wp2_with fail
              refine (bytes11 a0 n0 c0 a1 n1 c1 _ _).mono ?_
              rintro e w1 ⟨rfl, rfl⟩
              rw [HB.out]
              go_wp2_with fail
              refine (roundSet_any a0 n0 c0 xs _ H0.out).mono ?_
              rintro e w1 ⟨rfl, b1⟩
              rw [HR.out]
              have H0 : Hid (Rd w1 a0 n0 c0 xs) := H0.out.below b1
              have H1 : Hid (Rd w1 a1 n1 c1 ys) := H1.out.below b1
              go_wp2_with fail
              refine (roundSet_any a1 n1 c1 ys _ H1.out).mono ?_
              rintro e w2 ⟨rfl, b2⟩
              rw [HS.out]
              have H0 : Hid (Rd w2 a0 n0 c0 xs) := H0.out.below b2
              have H1 : Hid (Rd w2 a1 n1 c1 ys) := H1.out.below b2
              have B2 := bnext b1 b2
              clear b1 b2
              go_wp2_with fail
              refine (clone_any a0 n0 c0 xs _ H0.out).mono ?_
              rintro e w3 ⟨x0, rfl, R0, b3⟩
              have H1 : Hid (Rd w3 a1 n1 c1 ys) := H1.out.below b3
              have H0 : Hid (Rd w3 x0 n0 n0 xs) := R0
              have B3 := bnext B2 b3
              clear R0 B2 b3
              go_wp2_with fail
              refine (clone_any a1 n1 c1 ys _ H1.out).mono ?_
              rintro e w4 ⟨x1, rfl, R1, b4⟩
              have H0 : Hid (Rd w4 x0 n0 n0 xs) := H0.out.below b4
              have H1 : Hid (Rd w4 x1 n1 n1 ys) := R1
              have B4 := bnext B3 b4
              clear R1 B3 b4
              go_wp2_with fail
              refine (zzMerge_any x0 n0 n0 xs x1 n1 n1 ys N _ H0.out H1.out hb).mono ?_
              rintro e w5 ⟨a5, n5, c5, rfl, R5, b5⟩
              have H5 : Hid (Rd w5 a5 n5 c5 (Qx.mg xs ys N)) := R5
              have H0 : Hid (Rd w5 x0 n0 n0 xs) := H0.out.below b5
              have H1 : Hid (Rd w5 x1 n1 n1 ys) := H1.out.below b5
              have B5 := bnext B4 b5
              clear B4 b5 R5
              go_wp2_with fail
              refine (union_any x0 n0 n0 xs x1 n1 n1 ys N _ H0.out H1.out hb (rsB_desc HR.out) (rsB_desc HS.out)).mono ?_
              rintro e w6 ⟨a6, n6, c6, rfl, R6, b6⟩
              have H6 : Hid (Rd w6 a6 n6 c6 (Qx.mg xs ys N)) := R6
              have H5 : Hid (Rd w6 a5 n5 c5 (Qx.mg xs ys N)) := H5.out.below b6
              have B6 := bnext B5 b6
              clear B5 b6 R6
              go_wp2_with fail
              refine (sameInts_any a5 n5 c5 _ a6 n6 c6 _ _ H5.out H6.out).mono ?_
              rintro e w7 ⟨rfl, b7⟩
              rw [eqB_both]
              have B7 := bnext B6 b7
              clear B6 b7
              go_wp2
              go_ret
              exact ⟨rfl, B7⟩
  · clear h0 h1
    have HB : Hid (bytB (n0 + n1) = false) := bytB_no hb
    go_enter Try.func3, Try.ntmps3
    go_wp2_with fail
    refine (bytes11 a0 n0 c0 a1 n1 c1 m _).mono ?_
    rintro e w1 ⟨rfl, rfl⟩
    rw [HB.out]
    go_wp2
    go_ret
    exact ⟨rfl, Below.refl _ _⟩
end Go.Proofs.Qxb6602778a
