/- The walks of 'top', 'ZZTop' and 'ZZMerge'. -/
import Derived.Test.Qxb6602778aMerge
namespace Go.Proofs.Qxb6602778a
open Go.RowKit

theorem Rd.take {w : World} {a : Option Addr} {n c : Nat} {xs : List Int} (h : Rd w a n c xs) (m : Nat) (hm : m ≤ n) : Rd w a m c (xs.take m) := by
  obtain ⟨h1, h2, h3, h4⟩ := h
  refine ⟨by simp; omega, by omega, by omega, fun h0 => ?_⟩
  obtain ⟨b, off, ea, hb, hc⟩ := h4 (by omega)
  refine ⟨b, off, ea, hb, fun i hi => ?_⟩
  rw [hc i (by omega)]
  simp only [List.getD_eq_getElem?_getD]
  rw [List.getElem?_take, if_pos hi]

set_option maxHeartbeats 400000 in
theorem top_any (a : Option Addr) (n c : Nat) (xs : List Int) (m : Int) (w : World) (h : Rd w a n c xs) :
    Calls Try.prog 30 #[.slice a n c, .int .i64 m] w fun e w' => ∃ a' n' c', e = .returned (.slice a' n' c') ∧ Rd w' a' n' c' (xs.take m.toNat) ∧ Below w.heap.size w w' := by
  have H : Hid (Rd w a n c xs) := h
  have hn : n ≤ 1048576 := h.2.2.1
  have hc : n ≤ c := h.2.1
  clear h
  by_cases hneg : m < 0
  · by_cases h0 : n = 0
    · subst h0
      have HR : Hid (Rd w a 0 c (xs.take m.toNat)) := by
        rw [show m.toNat = 0 by omega]
        exact H.out.take 0 (Nat.zero_le _)
      go_enter Try.func30, Try.ntmps30
      go_wp2
      go_ret
      exact ⟨_, _, _, rfl, HR.out, Below.refl _ _⟩
    · obtain ⟨b, off, ea, _⟩ := H.out.2.2.2 (by omega)
      subst ea
      have HR : Hid (Rd w (some ⟨b, off, none⟩) 0 c (xs.take m.toNat)) := by
        rw [show m.toNat = 0 by omega]
        exact H.out.take 0 (Nat.zero_le _)
      have d0 : ¬ (n : Int) ≤ 0 := by omega
      go_enter Try.func30, Try.ntmps30
      go_wp2
      go_ret
      exact ⟨_, _, _, rfl, HR.out, Below.refl _ _⟩
  · obtain ⟨M, rfl⟩ := Int.eq_ofNat_of_zero_le (show 0 ≤ m by omega)
    rw [Int.toNat_natCast]
    by_cases hge : n ≤ M
    · have HR : Hid (Rd w a n c (xs.take M)) := by
        rw [List.take_of_length_le (by rw [H.out.1]; exact hge)]
        exact H.out
      have d0 : (n : Int) ≤ (M : Int) := by omega
      go_enter Try.func30, Try.ntmps30
      go_wp2
      go_ret
      exact ⟨_, _, _, rfl, HR.out, Below.refl _ _⟩
    · obtain ⟨b, off, ea, _⟩ := H.out.2.2.2 (by omega)
      subst ea
      have HR : Hid (Rd w (some ⟨b, off, none⟩) M c (xs.take M)) := H.out.take M (by omega)
      have d0 : ¬ (n : Int) ≤ (M : Int) := by omega
      have d1 : M ≤ c := by omega
      go_enter Try.func30, Try.ntmps30
      go_wp2
      go_ret
      exact ⟨_, _, _, rfl, HR.out, Below.refl _ _⟩

theorem zzTop_any (a : Option Addr) (n c : Nat) (xs : List Int) (m : Int) (w : World) (h : Rd w a n c xs) :
    Calls Try.prog 19 #[.slice a n c, .int .i64 m] w fun e w' => ∃ a' n' c', e = .returned (.slice a' n' c') ∧ Rd w' a' n' c' (xs.take m.toNat) ∧ Below w.heap.size w w' := by
  have H : Hid (Rd w a n c xs) := h
  clear h
  go_enter Try.func19, Try.ntmps19
  go_wp2_with fail
  refine (top_any a n c xs m _ H.out).mono ?_
  rintro e w1 ⟨a', n', c', rfl, hR, hb⟩
  have HR : Hid (Rd w1 a' n' c' (xs.take m.toNat)) := hR
  clear hR
  go_wp2
  go_ret
  exact ⟨_, _, _, rfl, HR.out, hb⟩

theorem zzMerge_any (a0 : Option Addr) (n0 c0 : Nat) (R : List Int) (a1 : Option Addr) (n1 c1 : Nat) (S : List Int) (N : Nat) (w : World) (h0 : Rd w a0 n0 c0 R) (h1 : Rd w a1 n1 c1 S) (hs : n0 + n1 ≤ 1048576) :
    Calls Try.prog 14 #[.slice a0 n0 c0, .slice a1 n1 c1, .int .i64 N] w fun e w' => ∃ a n c, e = .returned (.slice a n c) ∧ Rd w' a n c (Qx.mg R S N) ∧ Below w.heap.size w w' := by
  have H0 : Hid (Rd w a0 n0 c0 R) := h0
  have H1 : Hid (Rd w a1 n1 c1 S) := h1
  clear h0 h1
  go_enter Try.func14, Try.ntmps14
  go_wp2_with fail
  refine (merge_any a0 n0 c0 R a1 n1 c1 S N _ H0.out H1.out hs).mono ?_
  rintro e w1 ⟨a, n, c, rfl, hR, hb⟩
  have HR : Hid (Rd w1 a n c (Qx.mg R S N)) := hR
  clear hR
  go_wp2
  go_ret
  exact ⟨_, _, _, rfl, HR.out, hb⟩
end Go.Proofs.Qxb6602778a
