/- The plain laws of the round sets: lists of integers alone; no Go in sight. -/
namespace Qx

/-- Largest first, no number twice. -/
def Desc (l : List Int) : Prop := l.Pairwise (fun a b => b < a)

theorem desc_ext : ∀ (l m : List Int), Desc l → Desc m → (∀ x, x ∈ l ↔ x ∈ m) → l = m
  | [], [], _, _, _ => rfl
  | [], y :: m, _, _, h => by have := (h y).2 (by simp); simp at this
  | x :: l, [], _, _, h => by have := (h x).1 (by simp); simp at this
  | x :: l, y :: m, hl, hm, h => by
    obtain ⟨hx, hl'⟩ := List.pairwise_cons.1 hl
    obtain ⟨hy, hm'⟩ := List.pairwise_cons.1 hm
    have hxy : x = y := by
      have h1 := (h x).1 (by simp)
      have h2 := (h y).2 (by simp)
      rcases List.mem_cons.1 h1 with e | e
      · exact e
      rcases List.mem_cons.1 h2 with e' | e'
      · exact e'.symm
      have a := hy x e
      have b := hx y e'
      omega
    subst hxy
    rw [desc_ext l m hl' hm' ?_]
    intro z
    constructor
    · intro hz
      have := (h z).1 (List.mem_cons_of_mem _ hz)
      rcases List.mem_cons.1 this with e | e
      · have := hx z hz; omega
      · exact e
    · intro hz
      have := (h z).2 (List.mem_cons_of_mem _ hz)
      rcases List.mem_cons.1 this with e | e
      · have := hy z hz; omega
      · exact e

theorem desc_eq_iff (l m : List Int) (hl : Desc l) (hm : Desc m) : l = m ↔ (∀ x ∈ m, x ∈ l) ∧ (∀ x ∈ l, x ∈ m) :=
  ⟨fun h => by subst h; simp, fun h => desc_ext l m hl hm fun x => ⟨h.2 x, h.1 x⟩⟩

/-- What begins a descending list. -/
theorem desc_prefix (o u : List Int) (ho : Desc o) (hu : Desc u) (hs : ∀ x ∈ o, x ∈ u) (hr : ∀ x ∈ u, x ∉ o → ∀ y ∈ o, x < y) : o = u.take o.length := by
  have e : o ++ u.filter (fun x => decide (x ∉ o)) = u := by
    refine desc_ext _ _ ?_ hu fun x => ?_
    · refine List.pairwise_append.2 ⟨ho, List.Pairwise.filter _ hu, fun a ha b hb => ?_⟩
      have := List.mem_filter.1 hb
      exact hr b this.1 (by simpa using this.2) a ha
    · simp only [List.mem_append, List.mem_filter, decide_eq_true_eq]
      constructor
      · rintro (h | h)
        · exact hs x h
        · exact h.1
      · intro h
        by_cases hx : x ∈ o
        · exact .inl hx
        · exact .inr ⟨h, hx⟩
  conv => rhs; rw [← e]
  simp

/-! ### the merge -/
def mstep (x : Int) (r : List Int) (f : List Int → List Int) : List Int → List Int
  | [] => x :: r
  | y :: s => if y < x then x :: f (y :: s) else if x < y then y :: mstep x r f s else x :: f s
def mu : List Int → List Int → List Int
  | [], s => s
  | x :: r, s => mstep x r (mu r) s

theorem mu_nil_left (s : List Int) : mu [] s = s := rfl
theorem mu_nil_right (r : List Int) : mu r [] = r := by cases r <;> rfl
theorem mu_gt (x y : Int) (r s : List Int) (h : y < x) : mu (x :: r) (y :: s) = x :: mu r (y :: s) := by simp [mu, mstep, h]
theorem mu_lt (x y : Int) (r s : List Int) (h : x < y) : mu (x :: r) (y :: s) = y :: mu (x :: r) s := by
  have : ¬ y < x := by omega
  simp [mu, mstep, h, this]
theorem mu_eq (x : Int) (r s : List Int) : mu (x :: r) (x :: s) = x :: mu r s := by simp [mu, mstep]

theorem mu_mem : ∀ (r s : List Int) (x : Int), x ∈ mu r s ↔ x ∈ r ∨ x ∈ s
  | [], s, x => by simp [mu]
  | a :: r, s, x => by
    induction s with
    | nil => simp [mu_nil_right]
    | cons b s ih =>
      by_cases h1 : b < a
      · rw [mu_gt _ _ _ _ h1, List.mem_cons, mu_mem r (b :: s) x]
        simp only [List.mem_cons]
        constructor
        · rintro (h | h | h)
          · exact .inl (.inl h)
          · exact .inl (.inr h)
          · exact .inr h
        · rintro ((h | h) | h)
          · exact .inl h
          · exact .inr (.inl h)
          · exact .inr (.inr h)
      · by_cases h2 : a < b
        · rw [mu_lt _ _ _ _ h2, List.mem_cons, ih]
          simp only [List.mem_cons]
          constructor
          · rintro (h | h | h)
            · exact .inr (.inl h)
            · exact .inl h
            · exact .inr (.inr h)
          · rintro (h | h | h)
            · exact .inr (.inl h)
            · exact .inl h
            · exact .inr (.inr h)
        · have : a = b := by omega
          subst this
          rw [mu_eq, List.mem_cons, mu_mem r s x]
          simp only [List.mem_cons]
          constructor
          · rintro (h | h | h)
            · exact .inl (.inl h)
            · exact .inl (.inr h)
            · exact .inr (.inr h)
          · rintro ((h | h) | h | h)
            · exact .inl h
            · exact .inr (.inl h)
            · exact .inl h
            · exact .inr (.inr h)

theorem mu_desc : ∀ (r s : List Int), Desc r → Desc s → Desc (mu r s)
  | [], s, _, hs => hs
  | a :: r, s, hr, hs => by
    induction s with
    | nil => rw [mu_nil_right]; exact hr
    | cons b s ih =>
      obtain ⟨ha, hr'⟩ := List.pairwise_cons.1 hr
      obtain ⟨hb, hs'⟩ := List.pairwise_cons.1 hs
      by_cases h1 : b < a
      · rw [mu_gt _ _ _ _ h1]
        refine List.pairwise_cons.2 ⟨fun y hy => ?_, mu_desc r (b :: s) hr' hs⟩
        rcases (mu_mem r (b :: s) y).1 hy with h | h
        · exact ha y h
        · rcases List.mem_cons.1 h with e | e
          · omega
          · have := hb y e; omega
      · by_cases h2 : a < b
        · rw [mu_lt _ _ _ _ h2]
          refine List.pairwise_cons.2 ⟨fun y hy => ?_, ih hs'⟩
          rcases (mu_mem (a :: r) s y).1 hy with h | h
          · rcases List.mem_cons.1 h with e | e
            · omega
            · have := ha y e; omega
          · exact hb y h
        · have : a = b := by omega
          subst this
          rw [mu_eq]
          refine List.pairwise_cons.2 ⟨fun y hy => ?_, mu_desc r s hr' hs'⟩
          rcases (mu_mem r s y).1 hy with h | h
          · exact ha y h
          · exact hb y h

theorem mu_len : ∀ (r s : List Int), (mu r s).length ≤ r.length + s.length
  | [], s => by simp [mu]
  | a :: r, s => by
    induction s with
    | nil => simp [mu_nil_right]
    | cons b s ih =>
      by_cases h1 : b < a
      · have := mu_len r (b :: s); rw [mu_gt _ _ _ _ h1]; simp at this ⊢; omega
      · by_cases h2 : a < b
        · rw [mu_lt _ _ _ _ h2]; simp at ih ⊢; omega
        · have : a = b := by omega
          subst this
          have := mu_len r s; rw [mu_eq]; simp; omega

theorem mu_self (r : List Int) : mu r r = r := by
  induction r with
  | nil => rfl
  | cons a r ih => rw [mu_eq, ih]

/-- The merge, as the Go text's loop leaves it. -/
def mg (r s : List Int) (n : Nat) : List Int := (mu r s).take n

theorem mg_none (r : List Int) (n : Nat) : mg r [] n = r.take n := by rw [mg, mu_nil_right]
theorem none_mg (r : List Int) (n : Nat) : mg [] r n = r.take n := by rw [mg, mu_nil_left]
theorem mg_self (r : List Int) (n : Nat) : mg r r n = r.take n := by rw [mg, mu_self]

theorem mg_whole (r s : List Int) : mg r s (r.length + s.length) = mu r s := List.take_of_length_le (mu_len r s)

/-- A descending list that holds all of another one's and is no longer is that other one. -/
theorem desc_sub_len (l m : List Int) (hl : Desc l) (hm : Desc m) (hs : ∀ x ∈ l, x ∈ m) (hlen : m.length ≤ l.length) : l = m := by
  induction l generalizing m with
  | nil => cases m with
    | nil => rfl
    | cons _ _ => simp at hlen
  | cons a l ih =>
    cases m with
    | nil => have := hs a (by simp); simp at this
    | cons b m =>
      obtain ⟨ha, hl'⟩ := List.pairwise_cons.1 hl
      obtain ⟨hb, hm'⟩ := List.pairwise_cons.1 hm
      have hab : a ≤ b := by
        rcases List.mem_cons.1 (hs a (by simp)) with e | e
        · omega
        · have := hb a e; omega
      have hs' : ∀ x ∈ l, x ∈ m := fun x hx => by
        rcases List.mem_cons.1 (hs x (List.mem_cons_of_mem _ hx)) with e | e
        · have := ha x hx; omega
        · exact e
      have e := ih m hl' hm' hs' (by simpa using hlen)
      subst e
      rcases List.mem_cons.1 (hs a (by simp)) with e | e
      · rw [e]
      · have := ha a e; omega

theorem agree (r s : List Int) (hr : Desc r) (hs : Desc s) : r = s ↔ r.length = s.length ∧ (mg r s (r.length + s.length)).length = r.length := by
  rw [mg_whole]
  constructor
  · rintro rfl
    exact ⟨rfl, by rw [mu_self]⟩
  · rintro ⟨h1, h2⟩
    have hu := mu_desc r s hr hs
    have e1 := desc_sub_len r (mu r s) hr hu (fun x hx => (mu_mem r s x).2 (.inl hx)) (by omega)
    have e2 := desc_sub_len s (mu r s) hs hu (fun x hx => (mu_mem r s x).2 (.inr hx)) (by omega)
    rw [e1]; exact e2.symm

/-! ### the top by rank -/
/-- How many of l are above x. -/
def above (l : List Int) (x : Int) : Nat := l.countP (fun y => decide (x < y))
def rank (l : List Int) (m : Int) : List Int := l.filter (fun x => decide ((above l x : Int) < m))

theorem above_cons (a : Int) (l : List Int) (x : Int) : above (a :: l) x = above l x + if x < a then 1 else 0 := by
  unfold above
  rw [List.countP_cons]
  simp
theorem above_zero (l : List Int) (x : Int) (h : ∀ y ∈ l, y < x) : above l x = 0 := by
  unfold above
  rw [List.countP_eq_zero]
  intro y hy
  have := h y hy
  simp; omega

theorem rank_take (l : List Int) (hl : Desc l) (m : Int) : rank l m = l.take m.toNat := by
  unfold rank
  induction l generalizing m with
  | nil => simp
  | cons a l ih =>
    obtain ⟨ha, hl'⟩ := List.pairwise_cons.1 hl
    have e0 : above (a :: l) a = 0 := by rw [above_cons, above_zero l a ha]; simp
    have e1 : l.filter (fun x => decide ((above (a :: l) x : Int) < m)) = l.filter (fun x => decide ((above l x : Int) < m - 1)) := by
      refine List.filter_congr fun x hx => ?_
      rw [above_cons, if_pos (ha x hx)]
      rw [decide_eq_decide]
      omega
    rw [List.filter_cons, e0, e1, ih hl']
    by_cases hm : 0 < m
    · obtain ⟨k, hk⟩ : ∃ k, (m - 1).toNat = k := ⟨_, rfl⟩
      have e2 : m.toNat = k + 1 := by omega
      rw [hk, e2]
      simp [hm]
    · have e2 : m.toNat = 0 := by omega
      have e3 : (m - 1).toNat = 0 := by omega
      simp [hm, e2, e3]
end Qx
