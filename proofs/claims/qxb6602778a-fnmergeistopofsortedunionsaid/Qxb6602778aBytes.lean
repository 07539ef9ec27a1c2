/- The walks of the bounds on total length ('zzBytes_..'). -/
import Derived.Test.Qxb6602778aBase
namespace Go.Proofs.Qxb6602778a
open Go.RowKit

/-- May the law go on? -/
def bytB (m : Nat) : Bool := decide (m ≤ 1048576)
theorem bytB_yes {m : Nat} (h : m ≤ 1048576) : bytB m = true := decide_eq_true h
theorem bytB_no {m : Nat} (h : ¬ m ≤ 1048576) : bytB m = false := decide_eq_false h

set_option maxHeartbeats 400000 in
theorem bytes20 (a0 : Option Addr) (n0 c0 : Nat) (a1 : Option Addr) (n1 c1 : Nat) (w : World) :
    Calls Try.prog 20 #[.slice a0 n0 c0, .slice a1 n1 c1] w fun e w' => e = .returned (.bool (bytB (n0 + n1))) ∧ w = w' := by
  by_cases h0 : n0 ≤ 1048576
  · have g0 : (n0 : Int) ≤ 1048576 := by omega
    by_cases h1 : n1 ≤ 1048576
    · have g1 : (n1 : Int) ≤ 1048576 := by omega
      by_cases h2 : n0 + n1 ≤ 1048576
      · have g2 : (n0 : Int) + (n1 : Int) ≤ 1048576 := by omega
        have HB : Hid (bytB (n0 + n1) = true) := bytB_yes h2
        go_enter Try.func20, Try.ntmps20
        go_wp2
        go_ret
        exact ⟨ret_bool HB.out.symm, rfl⟩
      · have g2 : (1048576 : Int) < (n0 : Int) + (n1 : Int) := by omega
        have HB : Hid (bytB (n0 + n1) = false) := bytB_no h2
        go_enter Try.func20, Try.ntmps20
        go_wp2
        go_ret
        exact ⟨ret_bool HB.out.symm, rfl⟩
    · have g1 : (1048576 : Int) < (n1 : Int) := by omega
      have HB : Hid (bytB (n0 + n1) = false) := bytB_no (by omega)
      go_enter Try.func20, Try.ntmps20
      go_wp2
      go_ret
      exact ⟨ret_bool HB.out.symm, rfl⟩
  · have g1 : (1048576 : Int) < (n0 : Int) := by omega
    have HB : Hid (bytB (n0 + n1) = false) := bytB_no (by omega)
    go_enter Try.func20, Try.ntmps20
    go_wp2
    go_ret
    exact ⟨ret_bool HB.out.symm, rfl⟩

set_option maxHeartbeats 400000 in
theorem bytes23 (a0 : Option Addr) (n0 c0 : Nat) (a1 : Option Addr) (n1 c1 : Nat) (w : World) :
    Calls Try.prog 23 #[.slice a0 n0 c0, .slice a1 n1 c1] w fun e w' => e = .returned (.bool (bytB (n0 + n1))) ∧ w = w' := by
  by_cases h0 : n0 ≤ 1048576
  · have g0 : (n0 : Int) ≤ 1048576 := by omega
    by_cases h1 : n1 ≤ 1048576
    · have g1 : (n1 : Int) ≤ 1048576 := by omega
      by_cases h2 : n0 + n1 ≤ 1048576
      · have g2 : (n0 : Int) + (n1 : Int) ≤ 1048576 := by omega
        have HB : Hid (bytB (n0 + n1) = true) := bytB_yes h2
        go_enter Try.func23, Try.ntmps23
        go_wp2
        go_ret
        exact ⟨ret_bool HB.out.symm, rfl⟩
      · have g2 : (1048576 : Int) < (n0 : Int) + (n1 : Int) := by omega
        have HB : Hid (bytB (n0 + n1) = false) := bytB_no h2
        go_enter Try.func23, Try.ntmps23
        go_wp2
        go_ret
        exact ⟨ret_bool HB.out.symm, rfl⟩
    · have g1 : (1048576 : Int) < (n1 : Int) := by omega
      have HB : Hid (bytB (n0 + n1) = false) := bytB_no (by omega)
      go_enter Try.func23, Try.ntmps23
      go_wp2
      go_ret
      exact ⟨ret_bool HB.out.symm, rfl⟩
  · have g1 : (1048576 : Int) < (n0 : Int) := by omega
    have HB : Hid (bytB (n0 + n1) = false) := bytB_no (by omega)
    go_enter Try.func23, Try.ntmps23
    go_wp2
    go_ret
    exact ⟨ret_bool HB.out.symm, rfl⟩

set_option maxHeartbeats 400000 in
theorem bytes24 (a0 : Option Addr) (n0 c0 : Nat) (a1 : Option Addr) (n1 c1 : Nat) (w : World) :
    Calls Try.prog 24 #[.slice a0 n0 c0, .slice a1 n1 c1] w fun e w' => e = .returned (.bool (bytB (n0 + n1))) ∧ w = w' := by
  by_cases h0 : n0 ≤ 1048576
  · have g0 : (n0 : Int) ≤ 1048576 := by omega
    by_cases h1 : n1 ≤ 1048576
    · have g1 : (n1 : Int) ≤ 1048576 := by omega
      by_cases h2 : n0 + n1 ≤ 1048576
      · have g2 : (n0 : Int) + (n1 : Int) ≤ 1048576 := by omega
        have HB : Hid (bytB (n0 + n1) = true) := bytB_yes h2
        go_enter Try.func24, Try.ntmps24
        go_wp2
        go_ret
        exact ⟨ret_bool HB.out.symm, rfl⟩
      · have g2 : (1048576 : Int) < (n0 : Int) + (n1 : Int) := by omega
        have HB : Hid (bytB (n0 + n1) = false) := bytB_no h2
        go_enter Try.func24, Try.ntmps24
        go_wp2
        go_ret
        exact ⟨ret_bool HB.out.symm, rfl⟩
    · have g1 : (1048576 : Int) < (n1 : Int) := by omega
      have HB : Hid (bytB (n0 + n1) = false) := bytB_no (by omega)
      go_enter Try.func24, Try.ntmps24
      go_wp2
      go_ret
      exact ⟨ret_bool HB.out.symm, rfl⟩
  · have g1 : (1048576 : Int) < (n0 : Int) := by omega
    have HB : Hid (bytB (n0 + n1) = false) := bytB_no (by omega)
    go_enter Try.func24, Try.ntmps24
    go_wp2
    go_ret
    exact ⟨ret_bool HB.out.symm, rfl⟩

set_option maxHeartbeats 400000 in
theorem bytes11 (a0 : Option Addr) (n0 c0 : Nat) (a1 : Option Addr) (n1 c1 : Nat) (m : Int) (w : World) :
    Calls Try.prog 11 #[.slice a0 n0 c0, .slice a1 n1 c1, .int .i64 m] w fun e w' => e = .returned (.bool (bytB (n0 + n1))) ∧ w = w' := by
  by_cases h0 : n0 ≤ 1048576
  · have g0 : (n0 : Int) ≤ 1048576 := by omega
    by_cases h1 : n1 ≤ 1048576
    · have g1 : (n1 : Int) ≤ 1048576 := by omega
      by_cases h2 : n0 + n1 ≤ 1048576
      · have g2 : (n0 : Int) + (n1 : Int) ≤ 1048576 := by omega
        have HB : Hid (bytB (n0 + n1) = true) := bytB_yes h2
        go_enter Try.func11, Try.ntmps11
        go_wp2
        go_ret
        exact ⟨ret_bool HB.out.symm, rfl⟩
      · have g2 : (1048576 : Int) < (n0 : Int) + (n1 : Int) := by omega
        have HB : Hid (bytB (n0 + n1) = false) := bytB_no h2
        go_enter Try.func11, Try.ntmps11
        go_wp2
        go_ret
        exact ⟨ret_bool HB.out.symm, rfl⟩
    · have g1 : (1048576 : Int) < (n1 : Int) := by omega
      have HB : Hid (bytB (n0 + n1) = false) := bytB_no (by omega)
      go_enter Try.func11, Try.ntmps11
      go_wp2
      go_ret
      exact ⟨ret_bool HB.out.symm, rfl⟩
  · have g1 : (1048576 : Int) < (n0 : Int) := by omega
    have HB : Hid (bytB (n0 + n1) = false) := bytB_no (by omega)
    go_enter Try.func11, Try.ntmps11
    go_wp2
    go_ret
    exact ⟨ret_bool HB.out.symm, rfl⟩

set_option maxHeartbeats 400000 in
theorem bytes18 (a0 : Option Addr) (n0 c0 : Nat) (m : Int) (w : World) :
    Calls Try.prog 18 #[.slice a0 n0 c0, .int .i64 m] w fun e w' => e = .returned (.bool (bytB n0)) ∧ w = w' := by
  by_cases h0 : n0 ≤ 1048576
  · have g0 : (n0 : Int) ≤ 1048576 := by omega
    have HB : Hid (bytB n0 = true) := bytB_yes h0
    go_enter Try.func18, Try.ntmps18
    go_wp2
    go_ret
    exact ⟨ret_bool HB.out.symm, rfl⟩
  · have g1 : (1048576 : Int) < (n0 : Int) := by omega
    have HB : Hid (bytB n0 = false) := bytB_no (by omega)
    go_enter Try.func18, Try.ntmps18
    go_wp2
    go_ret
    exact ⟨ret_bool HB.out.symm, rfl⟩

set_option maxHeartbeats 400000 in
theorem bytes25 (a0 : Option Addr) (n0 c0 : Nat) (m : Int) (w : World) :
    Calls Try.prog 25 #[.slice a0 n0 c0, .int .i64 m] w fun e w' => e = .returned (.bool (bytB n0)) ∧ w = w' := by
  by_cases h0 : n0 ≤ 1048576
  · have g0 : (n0 : Int) ≤ 1048576 := by omega
    have HB : Hid (bytB n0 = true) := bytB_yes h0
    go_enter Try.func25, Try.ntmps25
    go_wp2
    go_ret
    exact ⟨ret_bool HB.out.symm, rfl⟩
  · have g1 : (1048576 : Int) < (n0 : Int) := by omega
    have HB : Hid (bytB n0 = false) := bytB_no (by omega)
    go_enter Try.func25, Try.ntmps25
    go_wp2
    go_ret
    exact ⟨ret_bool HB.out.symm, rfl⟩

end Go.Proofs.Qxb6602778a
