/- The plain steps of the insertion's loops. -/
import Derived.Test.Qxb6602778aPlain3
namespace Qx

theorem getD_get {l : List Int} {k : Nat} {z : Int} (hk : k < l.length) (h : l.getD k 0 = z) : l[k]? = some z := by
  rw [List.getElem?_eq_getElem hk, ← h]; simp [hk]

/-- The cell below j, as the row shows it, is the sorted part's own. -/
theorem mid_prev {L Z : List Int} {p j : Nat} {y z : Int} (hp : p < L.length) (h0 : 0 < j) (hj : j ≤ p) (hZ : Z = mid (L.take p) j y (L.drop (p + 1))) (hz : Z.getD (j - 1) 0 = z) : (L.take p)[j - 1]? = some z := by
  have hl : (L.take p).length = p := by simp; omega
  have e := mid_below (L.take p) j (j - 1) y (L.drop (p + 1)) (by omega) (by omega)
  rw [← e, ← hZ]
  refine getD_get ?_ hz
  rw [hZ, mid_length _ _ _ _ (by omega)]
  omega

theorem shift_step {L Z : List Int} {p j : Nat} {x y z : Int} (hp : p < L.length) (h0 : 0 < j) (hj : j ≤ p) (hZ : Z = mid (L.take p) j y (L.drop (p + 1))) (hz : Z.getD (j - 1) 0 = z) (hzx : z < x) (hJ : ∀ t ∈ (L.take p).drop j, t < x) :
    Z.set j z = mid (L.take p) (j - 1) z (L.drop (p + 1)) ∧ ∀ t ∈ (L.take p).drop (j - 1), t < x := by
  have hl : (L.take p).length = p := by simp; omega
  have e := mid_prev hp h0 hj hZ hz
  obtain ⟨k, rfl⟩ : ∃ k, j = k + 1 := ⟨j - 1, by omega⟩
  simp only [Nat.add_sub_cancel] at *
  constructor
  · rw [hZ]
    exact mid_shift (L.take p) k y z (L.drop (p + 1)) (by omega) e
  · intro t ht
    obtain ⟨hk, e2⟩ := List.getElem?_eq_some_iff.1 e
    rw [List.drop_eq_getElem_cons hk, e2] at ht
    rcases List.mem_cons.1 ht with h | h
    · omega
    · exact hJ t h

theorem lay_step {l0 L Z : List Int} {p j : Nat} {x y : Int} (hp : p < L.length) (hj : j ≤ p) (hx : L[p]? = some x) (hZ : Z = mid (L.take p) j y (L.drop (p + 1))) (hJ : ∀ t ∈ (L.take p).drop j, t < x) (hL : L.Perm l0 ∧ NI (L.take p))
    (h2 : 0 < j → x ≤ Z.getD (j - 1) 0) : (Z.set j x).Perm l0 ∧ NI ((Z.set j x).take (p + 1)) := by
  have hl : (L.take p).length = p := by simp; omega
  have e : Z.set j x = mid (L.take p) j x (L.drop (p + 1)) := by
    rw [hZ]; exact mid_set (L.take p) j y x (L.drop (p + 1)) (by omega)
  rw [e]
  refine sort_round l0 L p j x hp hx hL.1 hL.2 hj hJ fun h0 a ha => ?_
  have h3 := mid_prev hp h0 hj hZ rfl
  rw [ha] at h3
  have h4 := Option.some.inj h3
  have := h2 h0
  omega
end Qx
