/- The walk of 'FnEqualAgreesWithMergeSize'. -/
import Derived.Test.Qxb6602778aEqual
import Derived.Test.Qxb6602778aClone
import Derived.Test.Qxb6602778aBytes
import Derived.Test.Qxb6602778aReads
import Derived.Test.Qxb6602778aTop
namespace Go.Proofs.Qxb6602778a
open Go.RowKit

theorem agrees {xs ys : List Int} {n0 n1 nu : Nat} (hx : rsB xs = true) (hy : rsB ys = true) (h0 : xs.length = n0) (h1 : ys.length = n1) (hu : (Qx.mg xs ys (n0 + n1)).length = nu) : eqB xs ys = (decide (n0 = n1) && decide (nu = n0)) := by
  have h := Qx.agree xs ys (rsB_desc hx) (rsB_desc hy)
  rw [h0, h1, hu] at h
  unfold eqB
  rw [← Bool.decide_and, decide_eq_decide]
  exact h

set_option maxHeartbeats 1000000 in
theorem agree_walk (a0 : Option Addr) (n0 c0 : Nat) (xs : List Int) (a1 : Option Addr) (n1 c1 : Nat) (ys : List Int) (w : World) (h0 : n0 ≤ 1048576 → Rd w a0 n0 c0 xs) (h1 : n1 ≤ 1048576 → Rd w a1 n1 c1 ys) :
    Calls Try.prog 7 #[.slice a0 n0 c0, .slice a1 n1 c1] w fun e w' => e = .returned (.bool true) ∧ Below w.heap.size w w' := by
  by_cases hb : n0 + n1 ≤ 1048576
  · have HB : Hid (bytB (n0 + n1) = true) := bytB_yes hb
    by_cases g0 : 4096 < n0
    · clear h0 h1
      have g0' : (4096 : Int) < (n0 : Int) := by omega
      go_enter Try.func7, Try.ntmps7
      go_wp2_with fail
      refine (bytes23 a0 n0 c0 a1 n1 c1 _).mono ?_
      rintro e w1 ⟨rfl, rfl⟩
      rw [HB.out]
      go_wp2
      go_ret
      exact ⟨rfl, Below.refl _ _⟩
    · by_cases g1 : 4096 < n1
      · clear h0 h1
        have g0' : ¬ (4096 : Int) < (n0 : Int) := by omega
        have g1' : (4096 : Int) < (n1 : Int) := by omega
        go_enter Try.func7, Try.ntmps7
        go_wp2_with fail
        refine (bytes23 a0 n0 c0 a1 n1 c1 _).mono ?_
        rintro e w1 ⟨rfl, rfl⟩
        rw [HB.out]
        go_wp2
        go_ret
        exact ⟨rfl, Below.refl _ _⟩
      · have g0' : ¬ (4096 : Int) < (n0 : Int) := by omega
        have g1' : ¬ (4096 : Int) < (n1 : Int) := by omega
        have H0 : Hid (Rd w a0 n0 c0 xs) := h0 (by omega)
        have H1 : Hid (Rd w a1 n1 c1 ys) := h1 (by omega)
        clear h0 h1
        cases hR : rsB xs with
        | false =>
          have HR : Hid (rsB xs = false) := hR
          clear hR
          go_enter Try.func7, Try.ntmps7
          go_wp2_with fail
          refine (bytes23 a0 n0 c0 a1 n1 c1 _).mono ?_
          rintro e w1 ⟨rfl, rfl⟩
          rw [HB.out]
          go_wp2_with fail
          refine (roundSet_any a0 n0 c0 xs _ H0.out).mono ?_
          rintro e w1 ⟨rfl, b1⟩
          rw [HR.out]
          go_wp2
          go_ret
          exact ⟨rfl, b1⟩
        | true =>
          have HR : Hid (rsB xs = true) := hR
          clear hR
          cases hS : rsB ys with
          | false =>
            have HS : Hid (rsB ys = false) := hS
            clear hS
            go_enter Try.func7, Try.ntmps7
            go_wp2_with fail
            refine (bytes23 a0 n0 c0 a1 n1 c1 _).mono ?_
            rintro e w1 ⟨rfl, rfl⟩
            rw [HB.out]
            go_wp2_with fail
            refine (roundSet_any a0 n0 c0 xs _ H0.out).mono ?_
            rintro e w1 ⟨rfl, b1⟩
            rw [HR.out]
            have H1 : Hid (Rd w1 a1 n1 c1 ys) := H1.out.below b1
            go_wp2_with fail
            refine (roundSet_any a1 n1 c1 ys _ H1.out).mono ?_
            rintro e w2 ⟨rfl, b2⟩
            rw [HS.out]
            have B2 := bnext b1 b2
            clear b1 b2
            go_wp2
            go_ret
            exact ⟨rfl, B2⟩
          | true =>
            have HS : Hid (rsB ys = true) := hS
            clear hS
            go_enter Try.func7, Try.ntmps7
            go_wp2_with fail
            refine (bytes23 a0 n0 c0 a1 n1 c1 _).mono ?_
            rintro e w1 ⟨rfl, rfl⟩
            rw [HB.out]
            go_wp2_with fail
            refine (roundSet_any a0 n0 c0 xs _ H0.out).mono ?_
            rintro e w1 ⟨rfl, b1⟩
            rw [HR.out]
            have H0 : Hid (Rd w1 a0 n0 c0 xs) := H0.out.below b1
            have H1 : Hid (Rd w1 a1 n1 c1 ys) := H1.out.below b1
            go_wp2_with fail
            refine (roundSet_any a1 n1 c1 ys _ H1.out).mono ?_
            rintro e w2 ⟨rfl, b2⟩
            rw [HS.out]
            have H0 : Hid (Rd w2 a0 n0 c0 xs) := H0.out.below b2
            have H1 : Hid (Rd w2 a1 n1 c1 ys) := H1.out.below b2
            have B2 := bnext b1 b2
            clear b1 b2
            go_wp2_with fail
            refine (clone_any a0 n0 c0 xs _ H0.out).mono ?_
            rintro e w3 ⟨x0, rfl, R0, b3⟩
            have H1 : Hid (Rd w3 a1 n1 c1 ys) := H1.out.below b3
            have H0 : Hid (Rd w3 x0 n0 n0 xs) := R0
            have B3 := bnext B2 b3
            clear R0 B2 b3
            go_wp2_with fail
            refine (clone_any a1 n1 c1 ys _ H1.out).mono ?_
            rintro e w4 ⟨x1, rfl, R1, b4⟩
            have H0 : Hid (Rd w4 x0 n0 n0 xs) := H0.out.below b4
            have H1 : Hid (Rd w4 x1 n1 n1 ys) := R1
            have B4 := bnext B3 b4
            clear R1 B3 b4
            go_wp2_with fail
            rw [show (n0 : Int) + (n1 : Int) = ((n0 + n1 : Nat) : Int) from by omega]
            refine (zzMerge_any x0 n0 n0 xs x1 n1 n1 ys (n0 + n1) _ H0.out H1.out hb).mono ?_
            rintro e w5 ⟨au, nu, cu, rfl, RU, b5⟩
            have HE : Hid (eqB xs ys = (decide (n0 = n1) && decide (nu = n0))) := agrees HR.out HS.out H0.out.1 H1.out.1 RU.1
            have H0 : Hid (Rd w5 x0 n0 n0 xs) := H0.out.below b5
            have H1 : Hid (Rd w5 x1 n1 n1 ys) := H1.out.below b5
            have B5 := bnext B4 b5
            clear B4 b5 RU
            by_cases q0 : n0 = n1
            · by_cases q1 : nu = n0
              · have HE' : Hid (eqB xs ys = true) := by
                  show eqB xs ys = true
                  rw [HE.out]; simp [q0, q1]
                have d0 : ((n0 : Int) == (n1 : Int)) = true := beq_iff_eq.2 (by omega)
                have d1 : ((nu : Int) == (n0 : Int)) = true := beq_iff_eq.2 (by omega)
                clear q0 q1 HE
                go_wp2_with fail
                refine (zzEqual_any x0 n0 n0 xs x1 n1 n1 ys _ H0.out H1.out).mono ?_
                rintro e w6 ⟨rfl, b6⟩
                have B6 := bnext B5 b6
                clear B5 b6
                rw [HE'.out]
                go_wp2
                go_ret
                exact ⟨rfl, B6⟩
              · have HE' : Hid (eqB xs ys = false) := by
                  show eqB xs ys = false
                  rw [HE.out]; simp [q0]
                  omega
                have d0 : ((n0 : Int) == (n1 : Int)) = true := beq_iff_eq.2 (by omega)
                have d1 : ((nu : Int) == (n0 : Int)) = false := beq_eq_false_iff_ne.2 (by omega)
                clear q0 q1 HE
                go_wp2_with fail
                refine (zzEqual_any x0 n0 n0 xs x1 n1 n1 ys _ H0.out H1.out).mono ?_
                rintro e w6 ⟨rfl, b6⟩
                have B6 := bnext B5 b6
                clear B5 b6
                rw [HE'.out]
                go_wp2
                go_ret
                exact ⟨rfl, B6⟩
            · have HE' : Hid (eqB xs ys = false) := by
                show eqB xs ys = false
                rw [HE.out]; simp [q0]
              have d0 : ((n0 : Int) == (n1 : Int)) = false := beq_eq_false_iff_ne.2 (by omega)
              clear q0 HE
              go_wp2_with fail
              refine (zzEqual_any x0 n0 n0 xs x1 n1 n1 ys _ H0.out H1.out).mono ?_
              rintro e w6 ⟨rfl, b6⟩
              have B6 := bnext B5 b6
              clear B5 b6
              rw [HE'.out]
              go_wp2
              go_ret
              exact ⟨rfl, B6⟩
  · clear h0 h1
    have HB : Hid (bytB (n0 + n1) = false) := bytB_no hb
    go_enter Try.func7, Try.ntmps7
    go_wp2_with fail
    refine (bytes23 a0 n0 c0 a1 n1 c1 _).mono ?_
    rintro e w1 ⟨rfl, rfl⟩
    rw [HB.out]
    go_wp2
    go_ret
    exact ⟨rfl, Below.refl _ _⟩
end Go.Proofs.Qxb6602778a
