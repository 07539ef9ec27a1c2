/- The walk of 'FnEqualReflexiveAndSymmetric'. -/
import Derived.Test.Qxb6602778aEqual
import Derived.Test.Qxb6602778aClone
import Derived.Test.Qxb6602778aBytes
namespace Go.Proofs.Qxb6602778a
open Go.RowKit

theorem eqB_self (xs : List Int) : eqB xs xs = true := decide_eq_true rfl
theorem eqB_comm (xs ys : List Int) : (eqB xs ys == eqB ys xs) = true := by
  have : eqB xs ys = eqB ys xs := by unfold eqB; rw [decide_eq_decide]; exact eq_comm
  rw [this]; simp

set_option maxHeartbeats 400000 in
theorem refl_walk (a0 : Option Addr) (n0 c0 : Nat) (xs : List Int) (a1 : Option Addr) (n1 c1 : Nat) (ys : List Int) (w : World) (h0 : n0 ≤ 1048576 → Rd w a0 n0 c0 xs) (h1 : n1 ≤ 1048576 → Rd w a1 n1 c1 ys) :
    Calls Try.prog 8 #[.slice a0 n0 c0, .slice a1 n1 c1] w fun e w' => e = .returned (.bool true) ∧ Below w.heap.size w w' := by
  by_cases hb : n0 + n1 ≤ 1048576
  · have HB : Hid (bytB (n0 + n1) = true) := bytB_yes hb
    by_cases g0 : 4096 < n0
    · clear h0 h1
      have g0' : (4096 : Int) < (n0 : Int) := by omega
      go_enter Try.func8, Try.ntmps8
      go_wp2_with fail
      refine (bytes24 a0 n0 c0 a1 n1 c1 _).mono ?_
      rintro e w1 ⟨rfl, rfl⟩
      rw [HB.out]
      go_wp2
      go_ret
      exact ⟨rfl, Below.refl _ _⟩
    · by_cases g1 : 4096 < n1
      · clear h0 h1
        have g0' : ¬ (4096 : Int) < (n0 : Int) := by omega
        have g1' : (4096 : Int) < (n1 : Int) := by omega
        go_enter Try.func8, Try.ntmps8
        go_wp2_with fail
        refine (bytes24 a0 n0 c0 a1 n1 c1 _).mono ?_
        rintro e w1 ⟨rfl, rfl⟩
        rw [HB.out]
        go_wp2
        go_ret
        exact ⟨rfl, Below.refl _ _⟩
      · have g0' : ¬ (4096 : Int) < (n0 : Int) := by omega
        have g1' : ¬ (4096 : Int) < (n1 : Int) := by omega
        have H0 : Hid (Rd w a0 n0 c0 xs) := h0 (by omega)
        have H1 : Hid (Rd w a1 n1 c1 ys) := h1 (by omega)
        clear h0 h1
        go_enter Try.func8, Try.ntmps8
        go_wp2_with fail
        refine (bytes24 a0 n0 c0 a1 n1 c1 _).mono ?_
        rintro e w1 ⟨rfl, rfl⟩
        rw [HB.out]
        go_wp2_with fail
        refine (clone_any a0 n0 c0 xs _ H0.out).mono ?_
        rintro e w1 ⟨x0, rfl, R0, B1⟩
        have H1 : Hid (Rd w1 a1 n1 c1 ys) := H1.out.below B1
        have H0 : Hid (Rd w1 x0 n0 n0 xs) := R0
        clear R0
        go_wp2_with fail
        refine (clone_any a1 n1 c1 ys _ H1.out).mono ?_
        rintro e w2 ⟨x1, rfl, R1, B2⟩
        have H0 : Hid (Rd w2 x0 n0 n0 xs) := H0.out.below B2
        have H1 : Hid (Rd w2 x1 n1 n1 ys) := R1
        have B3 := bnext B1 B2
        clear R1 B1 B2
        obtain ⟨i0, hi, hz0, hz1, hz2⟩ := info_parts Try.info3
        go_wp2_with (at_make; refine wpList_make_full _ rfl _ _ 22 rfl w2.heap.size 3 i0 (.int .i64 0) 1 Try.underlying22 hi hz0 hz1 _ _ _ _ n0 rfl rfl rfl rfl ?b2 ?b3 (Nat.le_refl _) ?_)
        case b2 => rw [hz2]; omega
        case b3 => unfold maxLen; omega
        intro w3 hown0 hgrow0
        have hO0 := own_made hown0
        have hB0 : Below w2.heap.size w2 w3 := (Below.refl _ _).grown hgrow0 (Nat.le_refl _) (fun k h => by cases h)
        clear hown0 hgrow0
        go_wp2
        go_loopw [6] (fun i wr => ∃ (k : Nat) (zs : List Int), k ≤ n0 ∧ i = .int .i64 k ∧ Own wr w2.heap.size w2.heap.size n0 n0 zs ∧ (∀ i, i < k → zs.getD i 0 = xs.getD i 0) ∧ Below w2.heap.size w2 wr) (fun i _ => n0 - (intOf i).toNat)
        case atStart => exact ⟨0, _, Nat.zero_le _, rfl, hO0, fun i hi => absurd hi (by omega), hB0⟩
        case round =>
          obtain ⟨k, zs, hk, rfl, hO, hall, hB⟩ := hrel
          have HA : Hid (∀ i, i < k → zs.getD i 0 = xs.getD i 0) := hall
          clear hall hO0 hB0
          by_cases hlt : k < n0
          · obtain ⟨_, _, _, hr⟩ := H0.out
            obtain ⟨b, off, ea, hb', hc⟩ := hr (by omega)
            subst ea
            have q0 : wr.cell? ⟨b, off + k, none⟩ = some (.int .i64 (xs.getD k 0)) := (hB.cell (p := ⟨b, off + k, none⟩) hb').trans (hc k hlt)
            have q1 := hO.cell k hlt
            have q2 := hO.frozen k
            obtain ⟨x, hx⟩ : ∃ x, xs.getD k 0 = x := ⟨_, rfl⟩
            obtain ⟨y, hy⟩ : ∃ y, zs.getD k 0 = y := ⟨_, rfl⟩
            rw [hx] at q0
            rw [hy] at q1
            have HX : Hid (xs.getD k 0 = x) := hx
            clear hx hy hc hr
            go_wp2
            go_roundw
            case rel => exact ⟨k + 1, _, by omega, by go_num, hO.set k x, by rw [← HX.out]; exact set_step (by rw [hO.len]; exact hlt) HA.out, hB.setCell (by exact Nat.le_refl _) _⟩
            case measure => simp [intOf]; omega
          · have e : zs = xs := all_eq (by rw [hO.len]; exact H0.out.1) fun i hi => HA.out i (by have := H0.out.1; omega)
            rw [e] at hO
            clear e HA
            have HR : Hid (Rd wr x0 n0 n0 xs) := H0.out.below hB
            have HS : Hid (Rd wr x1 n1 n1 ys) := H1.out.below hB
            have HC : Hid (Rd wr (some ⟨w2.heap.size, 0, none⟩) n0 n0 xs) := hO.rd (by omega)
            have B4 := bnext B3 hB
            clear H0 H1 hO hB B3
            go_wp2_with fail
            refine (zzEqual_any x0 n0 n0 xs x0 n0 n0 xs _ HR.out HR.out).mono ?_
            rintro e w4 ⟨rfl, b4⟩
            rw [eqB_self]
            have HR : Hid (Rd w4 x0 n0 n0 xs) := HR.out.below b4
            have HS : Hid (Rd w4 x1 n1 n1 ys) := HS.out.below b4
            have HC : Hid (Rd w4 (some ⟨w2.heap.size, 0, none⟩) n0 n0 xs) := HC.out.below b4
            have B5 := bnext B4 b4
            clear B4 b4
            go_wp2_with fail
            refine (zzEqual_any x0 n0 n0 xs _ n0 n0 xs _ HR.out HC.out).mono ?_
            rintro e w5 ⟨rfl, b5⟩
            rw [eqB_self]
            have HR : Hid (Rd w5 x0 n0 n0 xs) := HR.out.below b5
            have HS : Hid (Rd w5 x1 n1 n1 ys) := HS.out.below b5
            have HC : Hid (Rd w5 (some ⟨w2.heap.size, 0, none⟩) n0 n0 xs) := HC.out.below b5
            have B6 := bnext B5 b5
            clear B5 b5
            go_wp2_with fail
            refine (zzEqual_any _ n0 n0 xs x0 n0 n0 xs _ HC.out HR.out).mono ?_
            rintro e w6 ⟨rfl, b6⟩
            rw [eqB_self]
            have HR : Hid (Rd w6 x0 n0 n0 xs) := HR.out.below b6
            have HS : Hid (Rd w6 x1 n1 n1 ys) := HS.out.below b6
            have B7 := bnext B6 b6
            clear B6 b6 HC
            go_wp2_with fail
            refine (zzEqual_any x0 n0 n0 xs x1 n1 n1 ys _ HR.out HS.out).mono ?_
            rintro e w7 ⟨rfl, b7⟩
            have HR : Hid (Rd w7 x0 n0 n0 xs) := HR.out.below b7
            have HS : Hid (Rd w7 x1 n1 n1 ys) := HS.out.below b7
            have B8 := bnext B7 b7
            clear B7 b7
            go_wp2_with fail
            refine (zzEqual_any x1 n1 n1 ys x0 n0 n0 xs _ HS.out HR.out).mono ?_
            rintro e w8 ⟨rfl, b8⟩
            have B9 := bnext B8 b8
            clear B8 b8
            have HE := eqB_comm xs ys
            go_wp2
            go_ret
            exact ⟨rfl, B9⟩
  · clear h0 h1
    have HB : Hid (bytB (n0 + n1) = false) := bytB_no hb
    go_enter Try.func8, Try.ntmps8
    go_wp2_with fail
    refine (bytes24 a0 n0 c0 a1 n1 c1 _).mono ?_
    rintro e w1 ⟨rfl, rfl⟩
    rw [HB.out]
    go_wp2
    go_ret
    exact ⟨rfl, Below.refl _ _⟩
end Go.Proofs.Qxb6602778a
