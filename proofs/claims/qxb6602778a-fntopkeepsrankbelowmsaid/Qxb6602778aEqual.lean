/- The walks of 'equal', 'ZZEqual' and 'zzSameInts': they compare two slices number by number. -/
import Derived.Test.Qxb6602778aBase
namespace Go.Proofs.Qxb6602778a
open Go.RowKit

set_option maxHeartbeats 400000 in
theorem equal_any (a0 : Option Addr) (n0 c0 : Nat) (xs : List Int) (a1 : Option Addr) (n1 c1 : Nat) (ys : List Int) (w : World) (h0 : Rd w a0 n0 c0 xs) (h1 : Rd w a1 n1 c1 ys) :
    Calls Try.prog 32 #[.slice a0 n0 c0, .slice a1 n1 c1] w fun e w' => e = .returned (.bool (eqB xs ys)) ∧ Below w.heap.size w w' := by
  obtain ⟨l0, _, m0, r0⟩ := h0
  obtain ⟨l1, _, m1, r1⟩ := h1
  by_cases hne : n0 = n1
  · subst hne
    have HL : Hid (xs.length = ys.length) := by rw [l0, l1]; exact rfl
    have HX : Hid (xs.length = n0) := l0
    clear l0 l1
    have R : Hid (0 < n0 → ∃ b off b' off', a0 = some ⟨b, off, none⟩ ∧ a1 = some ⟨b', off', none⟩ ∧ ∀ w', Below w.heap.size w w' → ∀ i, i < n0 → w'.cell? ⟨b, off + i, none⟩ = some (.int .i64 (xs.getD i 0)) ∧ w'.cell? ⟨b', off' + i, none⟩ = some (.int .i64 (ys.getD i 0))) := by
      intro h
      obtain ⟨b, off, e, hb, hc⟩ := r0 h
      obtain ⟨b', off', e', hb', hc'⟩ := r1 h
      exact ⟨b, off, b', off', e, e', fun w' hw i hi => ⟨(hw.cell (p := ⟨b, off + i, none⟩) hb).trans (hc i hi), (hw.cell (p := ⟨b', off' + i, none⟩) hb').trans (hc' i hi)⟩⟩
    clear r0 r1
    go_enter Try.func32, Try.ntmps32
    go_wp2
    go_loopw [13] (fun i wr => ∃ k : Nat, k ≤ n0 ∧ i = .int .i64 k ∧ (∀ i, i < k → xs.getD i 0 = ys.getD i 0) ∧ Below w.heap.size w wr) (fun i _ => n0 - (intOf i).toNat)
    case atStart => exact ⟨0, Nat.zero_le _, rfl, fun i hi => absurd hi (by omega), Below.refl _ _⟩
    case round =>
      obtain ⟨k, hk, rfl, hall, hb⟩ := hrel
      have HA : Hid (∀ i, i < k → xs.getD i 0 = ys.getD i 0) := hall
      clear hall
      by_cases hlt : k < n0
      · obtain ⟨b, off, b', off', e0, e1, hc⟩ := R.out (by omega)
        subst e0
        subst e1
        obtain ⟨g0, g1⟩ := hc wr hb k hlt
        obtain ⟨x, hx⟩ : ∃ x, xs.getD k 0 = x := ⟨_, rfl⟩
        obtain ⟨y, hy⟩ : ∃ y, ys.getD k 0 = y := ⟨_, rfl⟩
        rw [hx] at g0
        rw [hy] at g1
        have HX' : Hid (xs.getD k 0 = x) := hx
        have HY' : Hid (ys.getD k 0 = y) := hy
        clear hx hy hc
        have hlt' : (k : Int) < (n0 : Int) := by omega
        go_wp2
        go_quiet (fail)
        go_wp2
        · have hxy : x ≠ y := by
            have : (x != y) = true := by assumption
            simpa using this
          go_ret
          exact ⟨ret_bool (eqB_at k (by rw [HX'.out, HY'.out]; exact hxy)).symm, bdrewN hb _⟩
        · have hxy : x = y := by
            have : (x != y) = false := by assumption
            simpa using this
          go_roundw
          case rel => exact ⟨k + 1, by omega, by go_num, step_all HA.out (by rw [HX'.out, HY'.out]; exact hxy), bdrewN hb _⟩
          case measure => simp [intOf]; omega
      · go_wp2
        go_ret
        exact ⟨ret_bool (eqB_all HL.out fun i hi => HA.out i (by have := HX.out; omega)).symm, hb⟩
  · have hd : ((n0 : Int) != (n1 : Int)) = true := by rw [bne_iff_ne]; omega
    have HF : Hid (eqB xs ys = false) := eqB_len (by omega)
    clear l0 l1 r0 r1
    go_enter Try.func32, Try.ntmps32
    go_wp2
    go_ret
    exact ⟨ret_bool HF.out.symm, Below.refl _ _⟩

set_option maxHeartbeats 400000 in
theorem sameInts_any (a0 : Option Addr) (n0 c0 : Nat) (xs : List Int) (a1 : Option Addr) (n1 c1 : Nat) (ys : List Int) (w : World) (h0 : Rd w a0 n0 c0 xs) (h1 : Rd w a1 n1 c1 ys) :
    Calls Try.prog 16 #[.slice a0 n0 c0, .slice a1 n1 c1] w fun e w' => e = .returned (.bool (eqB xs ys)) ∧ Below w.heap.size w w' := by
  obtain ⟨l0, _, m0, r0⟩ := h0
  obtain ⟨l1, _, m1, r1⟩ := h1
  by_cases hne : n0 = n1
  · subst hne
    have HL : Hid (xs.length = ys.length) := by rw [l0, l1]; exact rfl
    have HX : Hid (xs.length = n0) := l0
    clear l0 l1
    have R : Hid (0 < n0 → ∃ b off b' off', a0 = some ⟨b, off, none⟩ ∧ a1 = some ⟨b', off', none⟩ ∧ ∀ w', Below w.heap.size w w' → ∀ i, i < n0 → w'.cell? ⟨b, off + i, none⟩ = some (.int .i64 (xs.getD i 0)) ∧ w'.cell? ⟨b', off' + i, none⟩ = some (.int .i64 (ys.getD i 0))) := by
      intro h
      obtain ⟨b, off, e, hb, hc⟩ := r0 h
      obtain ⟨b', off', e', hb', hc'⟩ := r1 h
      exact ⟨b, off, b', off', e, e', fun w' hw i hi => ⟨(hw.cell (p := ⟨b, off + i, none⟩) hb).trans (hc i hi), (hw.cell (p := ⟨b', off' + i, none⟩) hb').trans (hc' i hi)⟩⟩
    clear r0 r1
    go_enter Try.func16, Try.ntmps16
    go_wp2
    go_loopw [5] (fun i wr => ∃ k : Nat, k ≤ n0 ∧ i = .int .i64 k ∧ (∀ i, i < k → xs.getD i 0 = ys.getD i 0) ∧ Below w.heap.size w wr) (fun i _ => n0 - (intOf i).toNat)
    case atStart => exact ⟨0, Nat.zero_le _, rfl, fun i hi => absurd hi (by omega), Below.refl _ _⟩
    case round =>
      obtain ⟨k, hk, rfl, hall, hb⟩ := hrel
      have HA : Hid (∀ i, i < k → xs.getD i 0 = ys.getD i 0) := hall
      clear hall
      by_cases hlt : k < n0
      · obtain ⟨b, off, b', off', e0, e1, hc⟩ := R.out (by omega)
        subst e0
        subst e1
        obtain ⟨g0, g1⟩ := hc wr hb k hlt
        obtain ⟨x, hx⟩ : ∃ x, xs.getD k 0 = x := ⟨_, rfl⟩
        obtain ⟨y, hy⟩ : ∃ y, ys.getD k 0 = y := ⟨_, rfl⟩
        rw [hx] at g0
        rw [hy] at g1
        have HX' : Hid (xs.getD k 0 = x) := hx
        have HY' : Hid (ys.getD k 0 = y) := hy
        clear hx hy hc
        have hlt' : (k : Int) < (n0 : Int) := by omega
        go_wp2
        go_quiet (fail)
        go_wp2
        · have hxy : x ≠ y := by
            have : (x != y) = true := by assumption
            simpa using this
          go_ret
          exact ⟨ret_bool (eqB_at k (by rw [HX'.out, HY'.out]; exact hxy)).symm, bdrewN hb _⟩
        · have hxy : x = y := by
            have : (x != y) = false := by assumption
            simpa using this
          go_roundw
          case rel => exact ⟨k + 1, by omega, by go_num, step_all HA.out (by rw [HX'.out, HY'.out]; exact hxy), bdrewN hb _⟩
          case measure => simp [intOf]; omega
      · go_wp2
        go_ret
        exact ⟨ret_bool (eqB_all HL.out fun i hi => HA.out i (by have := HX.out; omega)).symm, hb⟩
  · have hd : ((n0 : Int) != (n1 : Int)) = true := by rw [bne_iff_ne]; omega
    have HF : Hid (eqB xs ys = false) := eqB_len (by omega)
    clear l0 l1 r0 r1
    go_enter Try.func16, Try.ntmps16
    go_wp2
    go_ret
    exact ⟨ret_bool HF.out.symm, Below.refl _ _⟩

theorem zzEqual_any (a0 : Option Addr) (n0 c0 : Nat) (xs : List Int) (a1 : Option Addr) (n1 c1 : Nat) (ys : List Int) (w : World) (h0 : Rd w a0 n0 c0 xs) (h1 : Rd w a1 n1 c1 ys) :
    Calls Try.prog 22 #[.slice a0 n0 c0, .slice a1 n1 c1] w fun e w' => e = .returned (.bool (eqB xs ys)) ∧ Below w.heap.size w w' := by
  have H0 : Hid (Rd w a0 n0 c0 xs) := h0
  have H1 : Hid (Rd w a1 n1 c1 ys) := h1
  clear h0 h1
  go_enter Try.func22, Try.ntmps22
  go_wp2_with fail
  refine (equal_any a0 n0 c0 xs a1 n1 c1 ys _ H0.out H1.out).mono ?_
  rintro e w1 ⟨rfl, hb⟩
  go_wp2
  go_ret
  exact ⟨rfl, hb⟩
end Go.Proofs.Qxb6602778a
