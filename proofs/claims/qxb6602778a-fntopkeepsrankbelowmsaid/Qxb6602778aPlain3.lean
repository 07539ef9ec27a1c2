/- The plain steps of the merge's loop. -/
import Derived.Test.Qxb6602778aPlain2
namespace Qx

theorem drop_getD (l : List Int) (i : Nat) (h : i < l.length) : l.drop i = l.getD i 0 :: l.drop (i + 1) := by
  rw [List.drop_eq_getElem_cons h]; simp [h]

theorem mg_r {R S xs : List Int} {i j : Nat} (hx : xs ++ mu (R.drop i) (S.drop j) = mu R S) (hi : i < R.length) (h : S.length ≤ j ∨ (j < S.length ∧ S.getD j 0 < R.getD i 0)) : (xs ++ [R.getD i 0]) ++ mu (R.drop (i + 1)) (S.drop j) = mu R S := by
  rw [← hx, drop_getD R i hi]
  rcases h with h | ⟨h, h'⟩
  · rw [List.drop_eq_nil_of_le h, mu_nil_right, mu_nil_right]; simp
  · rw [drop_getD S j h, mu_gt _ _ _ _ h']; simp
theorem mg_s {R S xs : List Int} {i j : Nat} (hx : xs ++ mu (R.drop i) (S.drop j) = mu R S) (hj : j < S.length) (h : R.length ≤ i ∨ (i < R.length ∧ R.getD i 0 < S.getD j 0)) : (xs ++ [S.getD j 0]) ++ mu (R.drop i) (S.drop (j + 1)) = mu R S := by
  rw [← hx, drop_getD S j hj]
  rcases h with h | ⟨h, h'⟩
  · rw [List.drop_eq_nil_of_le h, mu_nil_left, mu_nil_left]; simp
  · rw [drop_getD R i h, mu_lt _ _ _ _ h']; simp
theorem mg_b {R S xs : List Int} {i j : Nat} (hx : xs ++ mu (R.drop i) (S.drop j) = mu R S) (hi : i < R.length) (hj : j < S.length) (h : R.getD i 0 = S.getD j 0) : (xs ++ [R.getD i 0]) ++ mu (R.drop (i + 1)) (S.drop (j + 1)) = mu R S := by
  rw [← hx, drop_getD R i hi, drop_getD S j hj, ← h, mu_eq]; simp

theorem mg_room {R S xs : List Int} {i j : Nat} (hx : xs ++ mu (R.drop i) (S.drop j) = mu R S) (h : i < R.length ∨ j < S.length) : xs.length < R.length + S.length := by
  have h1 := mu_len R S
  rw [← hx, List.length_append] at h1
  have h2 : 0 < (mu (R.drop i) (S.drop j)).length := by
    rcases h with h | h
    · exact List.length_pos_of_mem ((mu_mem _ _ (R.getD i 0)).2 (.inl (by rw [drop_getD R i h]; simp)))
    · exact List.length_pos_of_mem ((mu_mem _ _ (S.getD j 0)).2 (.inr (by rw [drop_getD S j h]; simp)))
  omega

theorem mg_full {R S xs : List Int} {i j n : Nat} (hx : xs ++ mu (R.drop i) (S.drop j) = mu R S) (h : xs.length = n) : xs = mg R S n := by
  unfold mg
  rw [← hx, ← h]; simp
theorem mg_out {R S xs : List Int} {i j n : Nat} (hx : xs ++ mu (R.drop i) (S.drop j) = mu R S) (hn : xs.length ≤ n) (hi : R.length ≤ i) (hj : S.length ≤ j) : xs = mg R S n := by
  rw [List.drop_eq_nil_of_le hi, List.drop_eq_nil_of_le hj, mu_nil_left, List.append_nil] at hx
  unfold mg
  rw [← hx, List.take_of_length_le hn]
theorem mg_length_le (R S : List Int) (n : Nat) : (mg R S n).length ≤ R.length + S.length := by
  have := mu_len R S
  unfold mg
  rw [List.length_take]; omega
end Qx
