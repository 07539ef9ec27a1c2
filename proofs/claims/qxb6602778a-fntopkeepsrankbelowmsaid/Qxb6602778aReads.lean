/- The walks of the functions that only read: 'zzIsRoundSet', 'zzContains', 'zzContainsAll'. -/
import Derived.Test.Qxb6602778aBase
namespace Go.Proofs.Qxb6602778a
open Go.RowKit

/-- Is it a round set? -/
def rsB (xs : List Int) : Bool := decide (xs.Pairwise (fun a b => b < a))
theorem rsB_yes {xs : List Int} (h : Qx.Desc xs) : rsB xs = true := decide_eq_true (show xs.Pairwise (fun a b => b < a) from h)
theorem rsB_desc {xs : List Int} (h : rsB xs = true) : Qx.Desc xs := of_decide_eq_true (p := xs.Pairwise (fun a b => b < a)) h
theorem rsB_no {xs : List Int} {k : Nat} (h1 : 1 ≤ k) (hk : k < xs.length) (h : xs.getD (k - 1) 0 ≤ xs.getD k 0) : rsB xs = false := by
  refine decide_eq_false fun hd => ?_
  have := List.pairwise_iff_getElem.1 hd (k - 1) k (by omega) hk (by omega)
  simp only [List.getD_eq_getElem?_getD, List.getElem?_eq_getElem hk, List.getElem?_eq_getElem (show k - 1 < xs.length by omega), Option.getD_some] at h
  omega
theorem desc_step {xs : List Int} {k : Nat} (h1 : 1 ≤ k) (hk : k < xs.length) (hd : Qx.Desc (xs.take k)) (h : xs.getD k 0 < xs.getD (k - 1) 0) : Qx.Desc (xs.take (k + 1)) := by
  simp only [List.getD_eq_getElem?_getD, List.getElem?_eq_getElem hk, List.getElem?_eq_getElem (show k - 1 < xs.length by omega), Option.getD_some] at h
  rw [List.take_succ_eq_append_getElem hk]
  refine List.pairwise_append.2 ⟨hd, by simp, fun a ha b hb => ?_⟩
  simp at hb; subst hb
  obtain ⟨q, hq⟩ := List.mem_iff_getElem.1 ha
  obtain ⟨hq1, hq2⟩ := hq
  have hq3 : q < k := by simp at hq1; omega
  rw [List.getElem_take] at hq2
  by_cases e : q = k - 1
  · subst e; omega
  · have := List.pairwise_iff_getElem.1 hd q (k - 1) (by simp; omega) (by simp; omega) (by omega)
    simp only [List.getElem_take] at this
    omega
theorem desc_one (xs : List Int) : Qx.Desc (xs.take 1) := by
  cases xs with
  | nil => exact List.Pairwise.nil
  | cons a l => simp [Qx.Desc]

set_option maxHeartbeats 400000 in
theorem roundSet_any (a : Option Addr) (n c : Nat) (xs : List Int) (w : World) (h : Rd w a n c xs) :
    Calls Try.prog 12 #[.slice a n c] w fun e w' => e = .returned (.bool (rsB xs)) ∧ Below w.heap.size w w' := by
  have H : Hid (Rd w a n c xs) := h
  have hn : n ≤ 1048576 := h.2.2.1
  clear h
  go_enter Try.func12, Try.ntmps12
  go_wp2
  go_loopw [3] (fun i wr => ∃ k : Nat, 1 ≤ k ∧ (k ≤ n ∨ k = 1) ∧ i = .int .i64 k ∧ Qx.Desc (xs.take k) ∧ Below w.heap.size w wr) (fun i _ => n - (intOf i).toNat)
  case atStart => exact ⟨1, Nat.le_refl _, .inr rfl, rfl, desc_one xs, Below.refl _ _⟩
  case round =>
    obtain ⟨k, hk1, hk, rfl, hd, hB⟩ := hrel
    have HD : Hid (Qx.Desc (xs.take k)) := hd
    clear hd
    by_cases hlt : k < n
    · obtain ⟨hl, _, _, hr⟩ := H.out
      obtain ⟨b, off, ea, hb, hc⟩ := hr (by omega)
      have HL : Hid (xs.length = n) := hl
      subst ea
      have g0 : wr.cell? ⟨b, off + (k - 1), none⟩ = some (.int .i64 (xs.getD (k - 1) 0)) := (hB.cell (p := ⟨b, off + (k - 1), none⟩) hb).trans (hc (k - 1) (by omega))
      have g1 : wr.cell? ⟨b, off + k, none⟩ = some (.int .i64 (xs.getD k 0)) := (hB.cell (p := ⟨b, off + k, none⟩) hb).trans (hc k hlt)
      obtain ⟨x, hx⟩ : ∃ x, xs.getD (k - 1) 0 = x := ⟨_, rfl⟩
      obtain ⟨y, hy⟩ : ∃ y, xs.getD k 0 = y := ⟨_, rfl⟩
      rw [hx] at g0
      rw [hy] at g1
      have HX : Hid (xs.getD (k - 1) 0 = x) := hx
      have HY : Hid (xs.getD k 0 = y) := hy
      clear hx hy hc hr hl
      have d0 : (k : Int) < (n : Int) := by omega
      have d1 : (k : Int) - 1 < (n : Int) := by omega
      have d2 : (0 : Int) ≤ (k : Int) - 1 := by omega
      go_wp2
      go_quiet (fail)
      go_wp2
      · go_ret
        exact ⟨ret_bool (rsB_no hk1 (by rw [HL.out]; exact hlt) (by rw [HX.out, HY.out]; assumption)).symm, bdrewN hB _⟩
      · have hyx : y < x := by assumption
        go_roundw
        case rel => exact ⟨k + 1, by omega, by omega, by go_num, desc_step hk1 (by rw [HL.out]; exact hlt) HD.out (by rw [HX.out, HY.out]; exact hyx), bdrewN hB _⟩
        case measure => simp [intOf]; omega
    · have e : rsB xs = true := rsB_yes (by have h := HD.out; rwa [List.take_of_length_le (by rw [H.out.1]; omega)] at h)
      have HE : Hid (rsB xs = true) := e
      clear e
      go_wp2
      go_ret
      exact ⟨ret_bool HE.out.symm, hB⟩

/-- Does x occur? -/
def memB (xs : List Int) (x : Int) : Bool := decide (x ∈ xs)
theorem memB_yes {xs : List Int} {x : Int} {k : Nat} (hk : k < xs.length) (h : xs.getD k 0 = x) : memB xs x = true := by
  refine decide_eq_true ?_
  rw [← h]
  simp [hk]
theorem memB_no {xs : List Int} {x : Int} (h : ∀ i, i < xs.length → xs.getD i 0 ≠ x) : memB xs x = false := by
  refine decide_eq_false fun hm => ?_
  obtain ⟨i, hi, e⟩ := List.mem_iff_getElem.1 hm
  exact h i hi (by simpa [hi] using e)

set_option maxHeartbeats 400000 in
theorem contains_any (a : Option Addr) (n c : Nat) (xs : List Int) (x : Int) (w : World) (h : Rd w a n c xs) :
    Calls Try.prog 31 #[.slice a n c, .int .i64 x] w fun e w' => e = .returned (.bool (memB xs x)) ∧ Below w.heap.size w w' := by
  have H : Hid (Rd w a n c xs) := h
  have hn : n ≤ 1048576 := h.2.2.1
  clear h
  go_enter Try.func31, Try.ntmps31
  go_wp2
  go_loopw [5] (fun i wr => ∃ k : Nat, k ≤ n ∧ i = .int .i64 k ∧ (∀ i, i < k → xs.getD i 0 ≠ x) ∧ Below w.heap.size w wr) (fun i _ => n - (intOf i).toNat)
  case atStart => exact ⟨0, Nat.zero_le _, rfl, fun i hi => absurd hi (by omega), Below.refl _ _⟩
  case round =>
    obtain ⟨k, hk, rfl, hd, hB⟩ := hrel
    have HD : Hid (∀ i, i < k → xs.getD i 0 ≠ x) := hd
    clear hd
    by_cases hlt : k < n
    · obtain ⟨hl, _, _, hr⟩ := H.out
      obtain ⟨b, off, ea, hb, hc⟩ := hr (by omega)
      have HL : Hid (xs.length = n) := hl
      subst ea
      have g1 : wr.cell? ⟨b, off + k, none⟩ = some (.int .i64 (xs.getD k 0)) := (hB.cell (p := ⟨b, off + k, none⟩) hb).trans (hc k hlt)
      obtain ⟨y, hy⟩ : ∃ y, xs.getD k 0 = y := ⟨_, rfl⟩
      rw [hy] at g1
      have HY : Hid (xs.getD k 0 = y) := hy
      clear hy hc hr hl
      by_cases hyx : y = x
      · have d0 : (y == x) = true := by simp [hyx]
        have HE : Hid (y = x) := hyx
        clear hyx
        go_wp2
        go_ret
        exact ⟨ret_bool (memB_yes (by rw [HL.out]; exact hlt) (by rw [HY.out]; exact HE.out)).symm, hB⟩
      · have d0 : (y == x) = false := by simp [hyx]
        have HE : Hid (y ≠ x) := hyx
        clear hyx
        go_wp2
        go_roundw
        case rel =>
          refine ⟨k + 1, by omega, by go_num, fun i hi => ?_, hB⟩
          by_cases e : i = k
          · subst e; rw [HY.out]; exact HE.out
          · exact HD.out i (by omega)
        case measure => simp [intOf]; omega
    · have e : memB xs x = false := memB_no fun i hi => HD.out i (by have := H.out.1; omega)
      have HE : Hid (memB xs x = false) := e
      clear e
      go_wp2
      go_ret
      exact ⟨ret_bool HE.out.symm, hB⟩

/-- Does every number of the second occur in the first? -/
def allB (xs ys : List Int) : Bool := decide (∀ y ∈ ys, y ∈ xs)
theorem allB_yes {xs ys : List Int} (h : ∀ i, i < ys.length → memB xs (ys.getD i 0) = true) : allB xs ys = true := by
  refine decide_eq_true fun y hy => ?_
  obtain ⟨i, hi, e⟩ := List.mem_iff_getElem.1 hy
  have := of_decide_eq_true (h i hi)
  rw [← e]
  simpa [hi] using this
theorem allB_no {xs ys : List Int} {k : Nat} (hk : k < ys.length) (h : memB xs (ys.getD k 0) = false) : allB xs ys = false := by
  refine decide_eq_false fun hm => ?_
  have h1 := of_decide_eq_false h
  exact h1 (hm _ (by simp [hk]))

set_option maxHeartbeats 400000 in
theorem containsAll_any (a : Option Addr) (n c : Nat) (xs : List Int) (a1 : Option Addr) (n1 c1 : Nat) (ys : List Int) (w : World) (h : Rd w a n c xs) (h1 : Rd w a1 n1 c1 ys) :
    Calls Try.prog 21 #[.slice a n c, .slice a1 n1 c1] w fun e w' => e = .returned (.bool (allB xs ys)) ∧ Below w.heap.size w w' := by
  have H : Hid (Rd w a n c xs) := h
  have H1 : Hid (Rd w a1 n1 c1 ys) := h1
  have hn : n1 ≤ 1048576 := h1.2.2.1
  clear h h1
  go_enter Try.func21, Try.ntmps21
  go_wp2
  go_loopw [5] (fun i wr => ∃ k : Nat, k ≤ n1 ∧ i = .int .i64 k ∧ (∀ i, i < k → memB xs (ys.getD i 0) = true) ∧ Below w.heap.size w wr) (fun i _ => n1 - (intOf i).toNat)
  case atStart => exact ⟨0, Nat.zero_le _, rfl, fun i hi => absurd hi (by omega), Below.refl _ _⟩
  case round =>
    obtain ⟨k, hk, rfl, hd, hB⟩ := hrel
    have HD : Hid (∀ i, i < k → memB xs (ys.getD i 0) = true) := hd
    clear hd
    by_cases hlt : k < n1
    · obtain ⟨hl, _, _, hr⟩ := H1.out
      obtain ⟨b, off, ea, hb, hc⟩ := hr (by omega)
      have HL : Hid (ys.length = n1) := hl
      subst ea
      have g1 : wr.cell? ⟨b, off + k, none⟩ = some (.int .i64 (ys.getD k 0)) := (hB.cell (p := ⟨b, off + k, none⟩) hb).trans (hc k hlt)
      obtain ⟨y, hy⟩ : ∃ y, ys.getD k 0 = y := ⟨_, rfl⟩
      rw [hy] at g1
      have HY : Hid (ys.getD k 0 = y) := hy
      clear hy hc hr hl
      have HR : Hid (Rd wr a n c xs) := H.out.below hB
      go_wp2_with fail
      refine (contains_any a n c xs y _ HR.out).mono ?_
      rintro e w1 ⟨rfl, b1⟩
      have B1 := bnext hB b1
      clear b1
      cases hm : memB xs y with
      | false =>
        have HE : Hid (memB xs y = false) := hm
        clear hm
        go_wp2
        go_ret
        exact ⟨ret_bool (allB_no (by rw [HL.out]; exact hlt) (by rw [HY.out]; exact HE.out)).symm, B1⟩
      | true =>
        have HE : Hid (memB xs y = true) := hm
        clear hm
        go_wp2
        go_roundw
        case rel =>
          refine ⟨k + 1, by omega, by go_num, fun i hi => ?_, B1⟩
          by_cases e : i = k
          · subst e; rw [HY.out]; exact HE.out
          · exact HD.out i (by omega)
        case measure => simp [intOf]; omega
    · have e : allB xs ys = true := allB_yes fun i hi => HD.out i (by have := H1.out.1; omega)
      have HE : Hid (allB xs ys = true) := e
      clear e
      go_wp2
      go_ret
      exact ⟨ret_bool HE.out.symm, hB⟩
end Go.Proofs.Qxb6602778a
