/- The plain laws of the insertion sort and of the dropping of repeats. -/
import Derived.Test.Qxb6602778aPlain
namespace Qx

/-- Largest first, repeats let. -/
def NI (l : List Int) : Prop := l.Pairwise (fun a b => b ≤ a)

theorem ni_take (l : List Int) (h : NI l) (j : Nat) : NI (l.take j) := List.Pairwise.sublist (List.take_sublist _ _) h
theorem ni_drop (l : List Int) (h : NI l) (j : Nat) : NI (l.drop j) := List.Pairwise.sublist (List.drop_sublist _ _) h

theorem ni_get (l : List Int) (h : NI l) (i j : Nat) (hi : i ≤ j) (a b : Int) (ha : l[i]? = some a) (hb : l[j]? = some b) : b ≤ a := by
  obtain ⟨hi', ea⟩ := List.getElem?_eq_some_iff.1 ha
  obtain ⟨hj', eb⟩ := List.getElem?_eq_some_iff.1 hb
  by_cases e : i = j
  · subst e; rw [ha] at hb; cases hb; omega
  · have := List.pairwise_iff_getElem.1 h i j hi' hj' (by omega)
    omega

/-- x laid in its place among the sorted. -/
theorem ni_insert (s : List Int) (hs : NI s) (j : Nat) (hj : j ≤ s.length) (x : Int) (h1 : ∀ t ∈ s.drop j, t < x) (h2 : 0 < j → ∀ a, s[j - 1]? = some a → x ≤ a) : NI (s.take j ++ x :: s.drop j) := by
  refine List.pairwise_append.2 ⟨ni_take s hs j, List.pairwise_cons.2 ⟨fun a ha => by have := h1 a ha; omega, ni_drop s hs j⟩, ?_⟩
  intro a ha b hb
  obtain ⟨k, hk⟩ := List.mem_iff_getElem?.1 ha
  have hkj : k < j := by
    have := (List.getElem?_eq_some_iff.1 hk).1
    simp at this; omega
  have hk' : s[k]? = some a := by rw [List.getElem?_take] at hk; simpa [hkj] using hk
  have hx : x ≤ a := by
    have hl : j - 1 < s.length := by omega
    have e : s[j - 1]? = some s[j - 1] := List.getElem?_eq_getElem hl
    have h3 := h2 (by omega) _ e
    have h4 := ni_get s hs k (j - 1) (by omega) a _ hk' e
    omega
  rcases List.mem_cons.1 hb with e | e
  · omega
  · have := h1 b e; omega

/-- The row in the middle of an insertion: the sorted s, cut at j, a cell between, the rest behind. -/
def mid (s : List Int) (j : Nat) (y : Int) (r : List Int) : List Int := s.take j ++ y :: (s.drop j ++ r)

theorem mid_length (s : List Int) (j : Nat) (y : Int) (r : List Int) (hj : j ≤ s.length) : (mid s j y r).length = s.length + 1 + r.length := by
  simp [mid]; omega
theorem mid_at (s : List Int) (j : Nat) (y : Int) (r : List Int) (hj : j ≤ s.length) : (mid s j y r)[j]? = some y := by
  unfold mid
  rw [List.getElem?_append_right (by simp; omega)]
  have : j - (s.take j).length = 0 := by simp; omega
  rw [this]; rfl
theorem mid_below (s : List Int) (j k : Nat) (y : Int) (r : List Int) (hj : j ≤ s.length) (hk : k < j) : (mid s j y r)[k]? = s[k]? := by
  unfold mid
  rw [List.getElem?_append_left (by simp; omega), List.getElem?_take, if_pos hk]
theorem mid_set (s : List Int) (j : Nat) (y z : Int) (r : List Int) (hj : j ≤ s.length) : (mid s j y r).set j z = mid s j z r := by
  unfold mid
  have : (s.take j).length = j := by simp; omega
  rw [List.set_append_right _ _ (by omega), this]
  simp
/-- One step of the shift: the cell below is laid into cell j. -/
theorem mid_shift (s : List Int) (j : Nat) (y z : Int) (r : List Int) (hj : j + 1 ≤ s.length) (hz : s[j]? = some z) : (mid s (j + 1) y r).set (j + 1) z = mid s j z r := by
  rw [mid_set s (j + 1) y z r hj]
  obtain ⟨h, e⟩ := List.getElem?_eq_some_iff.1 hz
  unfold mid
  rw [List.take_succ_eq_append_getElem h, List.drop_eq_getElem_cons h, e]
  simp
theorem mid_start (l : List Int) (i : Nat) (x : Int) (hx : l[i]? = some x) : mid (l.take i) i x (l.drop (i + 1)) = l := by
  obtain ⟨h, e⟩ := List.getElem?_eq_some_iff.1 hx
  unfold mid
  rw [List.take_take, Nat.min_self, List.drop_eq_nil_of_le (by simp; omega), List.nil_append]
  conv => rhs; rw [← List.take_append_drop i l, List.drop_eq_getElem_cons h, e]
theorem mid_perm (s : List Int) (j : Nat) (y : Int) (r : List Int) : (mid s j y r).Perm (s ++ y :: r) := by
  unfold mid
  have h : (s.take j ++ y :: (s.drop j ++ r)).Perm (y :: (s.take j ++ (s.drop j ++ r))) := List.perm_middle
  refine h.trans ?_
  rw [← List.append_assoc, List.take_append_drop]
  exact List.perm_middle.symm
theorem mid_take (s : List Int) (j : Nat) (y : Int) (r : List Int) (hj : j ≤ s.length) : (mid s j y r).take (s.length + 1) = s.take j ++ y :: s.drop j := by
  unfold mid
  have e : s.take j ++ y :: (s.drop j ++ r) = (s.take j ++ y :: s.drop j) ++ r := by simp
  rw [e, List.take_append_of_le_length (by simp; omega), List.take_of_length_le (by simp; omega)]

/-- What a round of the sort leaves. -/
theorem sort_round (l0 l : List Int) (i j : Nat) (x : Int) (hi : i < l.length) (hx : l[i]? = some x) (hp : l.Perm l0) (hs : NI (l.take i)) (hj : j ≤ i) (h1 : ∀ t ∈ (l.take i).drop j, t < x) (h2 : 0 < j → ∀ a, (l.take i)[j - 1]? = some a → x ≤ a) :
    (mid (l.take i) j x (l.drop (i + 1))).Perm l0 ∧ NI ((mid (l.take i) j x (l.drop (i + 1))).take (i + 1)) := by
  have hlen : (l.take i).length = i := by simp; omega
  constructor
  · refine (mid_perm _ _ _ _).trans (List.Perm.trans ?_ hp)
    have e : l = l.take i ++ x :: l.drop (i + 1) := by
      obtain ⟨h, e⟩ := List.getElem?_eq_some_iff.1 hx
      conv => lhs; rw [← List.take_append_drop i l, List.drop_eq_getElem_cons h, e]
    rw [← e]
  · have := mid_take (l.take i) j x (l.drop (i + 1)) (by omega)
    rw [hlen] at this
    rw [this]
    exact ni_insert _ hs j (by omega) x h1 h2

/-! ### dropping the repeats -/
theorem take_succ_mem (l : List Int) (i : Nat) (x : Int) (hx : l[i]? = some x) (z : Int) : z ∈ l.take (i + 1) ↔ z ∈ l.take i ∨ z = x := by
  obtain ⟨h, e⟩ := List.getElem?_eq_some_iff.1 hx
  rw [List.take_succ_eq_append_getElem h, e]
  simp
theorem dd_skip (l out : List Int) (i : Nat) (x : Int) (hi : 0 < i) (hx : l[i]? = some x) (hy : l[i - 1]? = some x) (hm : ∀ z, z ∈ out ↔ z ∈ l.take i) : ∀ z, z ∈ out ↔ z ∈ l.take (i + 1) := by
  intro z
  rw [take_succ_mem l i x hx, hm]
  constructor
  · exact .inl
  · rintro (h | rfl)
    · exact h
    · refine List.mem_iff_getElem?.2 ⟨i - 1, ?_⟩
      rw [List.getElem?_take, if_pos (by omega)]; exact hy
theorem dd_lay (l out : List Int) (hl : NI l) (i : Nat) (x : Int) (hx : l[i]? = some x) (hy : 0 < i → l[i - 1]? ≠ some x) (hd : Desc out) (hm : ∀ z, z ∈ out ↔ z ∈ l.take i) : Desc (out ++ [x]) ∧ ∀ z, z ∈ out ++ [x] ↔ z ∈ l.take (i + 1) := by
  constructor
  · refine List.pairwise_append.2 ⟨hd, by simp, fun a ha b hb => ?_⟩
    simp at hb; subst hb
    obtain ⟨k, hk⟩ := List.mem_iff_getElem?.1 ((hm a).1 ha)
    have hki : k < i := by
      have := (List.getElem?_eq_some_iff.1 hk).1
      simp at this; omega
    rw [List.getElem?_take, if_pos hki] at hk
    have hil := (List.getElem?_eq_some_iff.1 hx).1
    have e : l[i - 1]? = some l[i - 1] := List.getElem?_eq_getElem (by omega)
    have h1 := ni_get l hl k (i - 1) (by omega) a _ hk e
    have h2 := ni_get l hl (i - 1) i (by omega) _ b e hx
    have h3 : l[i - 1] ≠ b := fun h => hy (by omega) (by rw [e, h])
    omega
  · intro z
    rw [take_succ_mem l i x hx, List.mem_append, hm]
    simp
theorem dd_end (r s l out : List Int) (n i : Nat) (hr : Desc r) (hs : Desc s) (hp : l.Perm (r ++ s)) (hl : NI l) (hd : Desc out) (hm : ∀ z, z ∈ out ↔ z ∈ l.take i) (hn : out.length ≤ n) (he : l.length ≤ i ∨ n ≤ out.length) : out = mg r s n := by
  have hmem : ∀ z, z ∈ l ↔ z ∈ mu r s := fun z => by rw [hp.mem_iff, mu_mem]; simp
  have hu := mu_desc r s hr hs
  by_cases hi : l.length ≤ i
  · have e : out = mu r s := desc_ext out (mu r s) hd hu fun z => by rw [hm, List.take_of_length_le hi, hmem]
    unfold mg
    rw [← e, List.take_of_length_le hn]
  · have hn' : out.length = n := by omega
    have e := desc_prefix out (mu r s) hd hu (fun z hz => (hmem z).1 (List.mem_of_mem_take ((hm z).1 hz))) ?_
    · unfold mg; rw [← hn']; exact e
    · intro z hz hno y hy
      obtain ⟨k, hk⟩ := List.mem_iff_getElem?.1 ((hmem z).2 hz)
      have hik : i ≤ k := by
        refine Nat.le_of_not_lt fun h => hno ((hm z).2 (List.mem_iff_getElem?.2 ⟨k, ?_⟩))
        rw [List.getElem?_take, if_pos h]; exact hk
      obtain ⟨q, hq⟩ := List.mem_iff_getElem?.1 ((hm y).1 hy)
      have hqi : q < i := by
        have := (List.getElem?_eq_some_iff.1 hq).1
        simp at this; omega
      rw [List.getElem?_take, if_pos hqi] at hq
      have h1 := ni_get l hl q k (by omega) y z hq hk
      have h2 : z ≠ y := fun h => hno (h ▸ hy)
      omega
end Qx
