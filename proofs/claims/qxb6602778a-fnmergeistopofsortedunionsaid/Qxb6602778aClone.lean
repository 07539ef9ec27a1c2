/- The walk of 'zzClone': a fresh row with the same numbers. -/
import Derived.Test.Qxb6602778aBase
import Derived.Lib.SliceRun
namespace Go.Proofs.Qxb6602778a
open Go.RowKit

theorem set_step {xs ys : List Int} {k : Nat} (hk : k < ys.length) (h : ∀ i, i < k → ys.getD i 0 = xs.getD i 0) : ∀ i, i < k + 1 → (ys.set k (xs.getD k 0)).getD i 0 = xs.getD i 0 := fun i hi => by
  by_cases e : i = k
  · subst e; simp [hk]
  · have := h i (by omega)
    simp only [List.getD_eq_getElem?_getD] at this ⊢
    rw [List.getElem?_set_ne (fun h => e h.symm)]
    exact this
theorem all_eq {xs ys : List Int} (hl : xs.length = ys.length) (h : ∀ i, i < xs.length → ys.getD i 0 = xs.getD i 0) : ys = xs := by
  refine List.ext_getElem hl.symm fun i h1 h2 => ?_
  have := h i h2
  simpa [h1, h2] using this

set_option maxHeartbeats 400000 in
theorem clone_some (x : Addr) (n c : Nat) (xs : List Int) (w : World) (hl : xs.length = n) (hn : n ≤ 1048576) (hr : 0 < n → ∃ b off, x = ⟨b, off, none⟩ ∧ b < w.heap.size ∧ ∀ i, i < n → w.cell? ⟨b, off + i, none⟩ = some (.int .i64 (xs.getD i 0))) :
    Calls Try.prog 13 #[.slice (some x) n c] w fun e w' => e = .returned (.slice (some ⟨w.heap.size, 0, none⟩) n n) ∧ Own w' w.heap.size w.heap.size n n xs ∧ Below w.heap.size w w' := by
  obtain ⟨i0, hi, hz0, hz1, hz2⟩ := info_parts Try.info3
  have q22 : ∀ (w : World) (a : Option Addr) (n c n' c' : Nat), (binOp .eql 22 (.slice a n c) (.slice none n' c')).run Try.prog w = .ok (.bool a.isNone) w := fun w a n c n' c' => Lib.run_eql_slice_nil w _ _ a n c n' c' Try.underlying22
  have HL : Hid (xs.length = n) := hl
  have HR : Hid (0 < n → ∃ b off, x = ⟨b, off, none⟩ ∧ b < w.heap.size ∧ ∀ i, i < n → w.cell? ⟨b, off + i, none⟩ = some (.int .i64 (xs.getD i 0))) := hr
  clear hl hr
  go_enter Try.func13, Try.ntmps13
  go_wp2_with (at_make; refine wpList_make_full _ rfl _ _ 22 rfl w.heap.size 3 i0 (.int .i64 0) 1 Try.underlying22 hi hz0 hz1 _ _ _ _ n rfl rfl rfl rfl ?b2 ?b3 (Nat.le_refl _) ?_)
  case b2 => rw [hz2]; omega
  case b3 => unfold maxLen; omega
  intro w0 hown0 hgrow0
  have hO0 := own_made hown0
  have hB0 : Below w.heap.size w w0 := (Below.refl _ _).grown hgrow0 (Nat.le_refl _) (fun k h => by cases h)
  clear hown0 hgrow0
  go_wp2
  go_loopw [4] (fun i wr => ∃ (k : Nat) (ys : List Int), k ≤ n ∧ i = .int .i64 k ∧ Own wr w.heap.size w.heap.size n n ys ∧ (∀ i, i < k → ys.getD i 0 = xs.getD i 0) ∧ Below w.heap.size w wr) (fun i _ => n - (intOf i).toNat)
  case atStart => exact ⟨0, _, Nat.zero_le _, rfl, hO0, fun i hi => absurd hi (by omega), hB0⟩
  case round =>
    obtain ⟨k, ys, hk, rfl, hO, hall, hB⟩ := hrel
    have HA : Hid (∀ i, i < k → ys.getD i 0 = xs.getD i 0) := hall
    clear hall hO0 hB0
    by_cases hlt : k < n
    · obtain ⟨b, off, ea, hb, hc⟩ := HR.out (by omega)
      subst ea
      have g0 : wr.cell? ⟨b, off + k, none⟩ = some (.int .i64 (xs.getD k 0)) := (hB.cell (p := ⟨b, off + k, none⟩) hb).trans (hc k hlt)
      have g1 := hO.cell k hlt
      have g2 := hO.frozen k
      obtain ⟨x, hx⟩ : ∃ x, xs.getD k 0 = x := ⟨_, rfl⟩
      obtain ⟨y, hy⟩ : ∃ y, ys.getD k 0 = y := ⟨_, rfl⟩
      rw [hx] at g0
      rw [hy] at g1
      have HX : Hid (xs.getD k 0 = x) := hx
      clear hx hy hc
      go_wp2
      go_roundw
      case rel => exact ⟨k + 1, _, by omega, by go_num, hO.set k x, by rw [← HX.out]; exact set_step (by rw [hO.len]; exact hlt) HA.out, hB.setCell (by exact Nat.le_refl _) _⟩
      case measure => simp [intOf]; omega
    · have e : ys = xs := all_eq (by rw [hO.len, HL.out]) fun i hi => HA.out i (by have := HL.out; omega)
      rw [e] at hO
      clear e
      go_wp2
      go_ret
      exact ⟨rfl, hO, hB⟩

/-- nil, empty or not: what comes back reads as what went in, and nothing old has turned. -/
theorem clone_any (a : Option Addr) (n c : Nat) (xs : List Int) (w : World) (h : Rd w a n c xs) :
    Calls Try.prog 13 #[.slice a n c] w fun e w' => ∃ a', e = .returned (.slice a' n n) ∧ Rd w' a' n n xs ∧ Below w.heap.size w w' := by
  obtain ⟨hl, _, hn, hr⟩ := h
  cases a with
  | none =>
    have h0 : n = 0 := Nat.eq_zero_of_not_pos fun h => by obtain ⟨_, _, e, _⟩ := hr h; cases e
    subst h0
    have q22 : ∀ (w : World) (a : Option Addr) (n c n' c' : Nat), (binOp .eql 22 (.slice a n c) (.slice none n' c')).run Try.prog w = .ok (.bool a.isNone) w := fun w a n c n' c' => Lib.run_eql_slice_nil w _ _ a n c n' c' Try.underlying22
    have HL : Hid (xs.length = 0) := hl
    clear hl hr
    go_enter Try.func13, Try.ntmps13
    go_wp2
    go_ret
    exact ⟨none, rfl, ⟨HL.out, Nat.le_refl _, Nat.zero_le _, fun h => absurd h (by omega)⟩, Below.refl _ _⟩
  | some x =>
    refine (clone_some x n c xs w hl hn fun h => ?_).mono ?_
    · obtain ⟨b, off, e, hb, hc⟩ := hr h
      exact ⟨b, off, by cases e; rfl, hb, hc⟩
    · rintro e w1 ⟨rfl, hO, hB⟩
      exact ⟨_, rfl, hO.rd hn, hB⟩
end Go.Proofs.Qxb6602778a
