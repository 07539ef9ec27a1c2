/- The plain laws of the halving: integers alone; no Go in sight. -/
namespace Qy

/-- Where the halving stands after j rounds. -/
def at_ (f room : Int) (j : Nat) : Int := if j = 0 then room else max (room / 2 ^ j) f
/-- The first j sizes were each above the floor and no more than a quarter full. -/
def Went (f n room : Int) (j : Nat) : Prop := ∀ i : Nat, i < j → f < room / 2 ^ i ∧ n ≤ room / 2 ^ i / 4
/-- What the loop leaves. -/
def Halved (f n room r : Int) : Prop := ∃ j, Went f n room j ∧ r = at_ f room j ∧ ¬ (f < r ∧ n ≤ r / 4)
/-- What ShrinkTo answers. -/
def Shrunk (f n room fl r : Int) : Prop := (room ≤ fl ∧ r = room) ∨ (fl < room ∧ Halved f n room r)

theorem div_succ (room : Int) (j : Nat) : room / 2 ^ (j + 1) = room / 2 ^ j / 2 := by
  have e : (2 : Int) ^ (j + 1) = 2 ^ j * 2 := Int.pow_succ 2 j
  rw [e, Int.ediv_ediv_of_nonneg (Int.le_of_lt (Int.pow_pos (by omega)))]
theorem at_above {f room : Int} {j : Nat} (h : f < at_ f room j) : at_ f room j = room / 2 ^ j := by
  unfold at_ at *
  split
  · subst_vars; simp
  · rename_i hj
    rw [if_neg hj] at h
    omega
theorem went_succ {f n room : Int} {j : Nat} (hw : Went f n room j) (h1 : f < at_ f room j) (h2 : n ≤ at_ f room j / 4) : Went f n room (j + 1) := by
  intro i hi
  by_cases e : i = j
  · subst e; rw [← at_above h1]; exact ⟨h1, h2⟩
  · exact hw i (by omega)
theorem at_succ {f room : Int} {j : Nat} (h1 : f < at_ f room j) : max (at_ f room j / 2) f = at_ f room (j + 1) := by
  rw [at_above h1]
  unfold at_
  rw [if_neg (by omega), div_succ]
theorem at_le {f room : Int} {j : Nat} (hf : 1 ≤ f) (h : f < room) : at_ f room j ≤ room := by
  induction j with
  | zero => simp [at_]
  | succ j ih =>
    by_cases h1 : f < at_ f room j
    · rw [← at_succ h1]; omega
    · have e : at_ f room (j + 1) = f := by
        unfold at_ at *
        rw [if_neg (by omega), div_succ]
        split at h1
        · omega
        · omega
      omega
theorem went_zero {f n room : Int} {j : Nat} (hj : 0 < j) (hw : Went f n room j) : f < room ∧ n ≤ room / 4 := by
  have := hw 0 hj
  simpa using this

/-! ### half full, and settled -/
theorem half_le {f n room fl r : Int} (hf : 1 ≤ f) (h : Shrunk f n room fl r) : r ≤ room := by
  rcases h with ⟨_, h⟩ | ⟨_, j, hw, hr, _⟩
  · omega
  · by_cases hj : j = 0
    · subst hj; simp [at_] at hr; omega
    · rw [hr]; exact at_le hf (went_zero (by omega) hw).1
theorem half_ne {f n room fl r : Int} (h : Shrunk f n room fl r) (hne : r ≠ room) : fl < room ∧ f ≤ r ∧ n ≤ r / 2 := by
  rcases h with ⟨_, h⟩ | ⟨h0, j, hw, hr, _⟩
  · omega
  · obtain ⟨k, rfl⟩ : ∃ k, j = k + 1 := by
      cases j with
      | zero => simp [at_] at hr; omega
      | succ k => exact ⟨k, rfl⟩
    have h1 := hw k (by omega)
    have h2 := div_succ room k
    unfold at_ at hr
    rw [if_neg (by omega)] at hr
    refine ⟨h0, by omega, ?_⟩
    omega
theorem half_again {f n room fl r s : Int} (h : Shrunk f n room fl r) (h' : Shrunk f n r fl s) : s = r := by
  rcases h' with ⟨_, h'⟩ | ⟨h0, j, hw, hs, _⟩
  · exact h'
  · cases j with
    | zero => simpa [at_] using hs
    | succ k =>
      have h1 := went_zero (by omega) hw
      rcases h with ⟨h2, h3⟩ | ⟨_, _, _, _, h2⟩
      · omega
      · exact absurd h1 h2

/-! ### the model -/
/-- The best of the first k candidates. -/
def Best (f n room : Int) (k : Nat) (b : Int) : Prop :=
  f ≤ b ∧ (b = f ∨ ∃ i, i < k ∧ b = room / 2 ^ i ∧ f < b ∧ b / 4 < n) ∧ ∀ i, i < k → f < room / 2 ^ i → room / 2 ^ i / 4 < n → room / 2 ^ i ≤ b
theorem best_zero (f n room : Int) : Best f n room 0 f := ⟨Int.le_refl _, .inl rfl, fun i hi => absurd hi (by omega)⟩
theorem best_take {f n room b : Int} {k : Nat} (h : Best f n room k b) (h1 : f < room / 2 ^ k) (h2 : room / 2 ^ k / 4 < n) (h3 : b < room / 2 ^ k) : Best f n room (k + 1) (room / 2 ^ k) := by
  obtain ⟨_, _, h5⟩ := h
  refine ⟨by omega, .inr ⟨k, by omega, rfl, h1, h2⟩, fun i hi a1 a2 => ?_⟩
  by_cases e : i = k
  · subst e; omega
  · have := h5 i (by omega) a1 a2; omega
theorem best_keep {f n room b : Int} {k : Nat} (h : Best f n room k b) (h1 : ¬ (f < room / 2 ^ k ∧ room / 2 ^ k / 4 < n ∧ b < room / 2 ^ k)) : Best f n room (k + 1) b := by
  obtain ⟨h3, h4, h5⟩ := h
  refine ⟨h3, ?_, fun i hi a1 a2 => ?_⟩
  · rcases h4 with h4 | ⟨i, hi, h4⟩
    · exact .inl h4
    · exact .inr ⟨i, by omega, h4⟩
  · by_cases e : i = k
    · subst e; omega
    · exact h5 i (by omega) a1 a2

theorem div_mono (room : Int) (h : 0 ≤ room) {i j : Nat} (hij : i ≤ j) : room / 2 ^ j ≤ room / 2 ^ i := by
  induction j with
  | zero => have : i = 0 := by omega
            subst this; omega
  | succ j ih =>
    by_cases e : i = j + 1
    · subst e; omega
    · have h1 := ih (by omega)
      have h2 := div_succ room j
      have h3 : 0 ≤ room / 2 ^ j := Int.ediv_nonneg h (Int.le_of_lt (Int.pow_pos (by omega)))
      omega

theorem model {f n room r b : Int} (hf : 1 ≤ f) (hr : f < room) (hb : room < 2 ^ 63) (h : Halved f n room r) (hB : Best f n room 64 b) : r = b := by
  obtain ⟨j, hw, hj, hx⟩ := h
  obtain ⟨b1, b2, b3⟩ := hB
  have hbig : ∀ i : Nat, f < room / 2 ^ i → i < 64 := fun i hi => by
    refine Nat.lt_of_not_le fun hle => ?_
    have h1 := div_mono room (by omega) (show 63 ≤ i by omega)
    have h2 : room / 2 ^ 63 = 0 := Int.ediv_eq_zero_of_lt (by omega) hb
    omega
  by_cases hc : f < at_ f room j
  · have e := at_above hc
    rw [← hj] at e hc
    have h1 := b3 j (hbig j (by omega)) (by omega) (by omega)
    rcases b2 with b2 | ⟨i, _, c1, c2, c3⟩
    · omega
    · by_cases hij : i < j
      · have := hw i hij; omega
      · have := div_mono room (by omega) (show j ≤ i by omega); omega
  · have hjp : j ≠ 0 := fun h => by subst h; simp [at_] at hc; omega
    have hjv : r = max (room / 2 ^ j) f := by rw [hj]; unfold at_; rw [if_neg hjp]
    rw [← hj] at hc
    rcases b2 with b2 | ⟨i, _, c1, c2, c3⟩
    · omega
    · by_cases hij : i < j
      · have := hw i hij; omega
      · have := div_mono room (by omega) (show j ≤ i by omega); omega
end Qy
