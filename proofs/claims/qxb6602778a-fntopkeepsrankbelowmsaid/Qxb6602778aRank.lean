/- The walk of 'zzTopByRank': the numbers that have fewer than m above them. -/
import Derived.Test.Qxb6602778aMerge
namespace Go.Proofs.Qxb6602778a
open Go.RowKit

/-- Of the first k numbers those of rank below m. -/
def keep (xs : List Int) (m : Int) (k : Nat) : List Int := (xs.take k).filter (fun x => decide ((Qx.above xs x : Int) < m))
theorem keep_yes {xs : List Int} {m : Int} {k : Nat} {x : Int} (hk : k < xs.length) (hx : xs.getD k 0 = x) (h : (Qx.above xs x : Int) < m) : keep xs m (k + 1) = keep xs m k ++ [x] := by
  have e : xs[k] = x := by rw [← hx]; simp [hk]
  unfold keep
  rw [List.take_succ_eq_append_getElem hk, List.filter_append, e]
  simp [h]
theorem keep_no {xs : List Int} {m : Int} {k : Nat} {x : Int} (hk : k < xs.length) (hx : xs.getD k 0 = x) (h : ¬ (Qx.above xs x : Int) < m) : keep xs m (k + 1) = keep xs m k := by
  have e : xs[k] = x := by rw [← hx]; simp [hk]
  unfold keep
  rw [List.take_succ_eq_append_getElem hk, List.filter_append, e]
  simp [h]
theorem keep_len (xs : List Int) (m : Int) (k : Nat) : (keep xs m k).length ≤ k := by
  unfold keep
  exact Nat.le_trans (List.length_filter_le _ _) (by simp; omega)
theorem keep_all {xs : List Int} {m : Int} {k : Nat} (hk : xs.length ≤ k) : keep xs m k = Qx.rank xs m := by
  unfold keep Qx.rank
  rw [List.take_of_length_le hk]
theorem above_yes {xs : List Int} {q : Nat} {x y : Int} (hq : q < xs.length) (hy : xs.getD q 0 = y) (h : x < y) : Qx.above (xs.take (q + 1)) x = Qx.above (xs.take q) x + 1 := by
  have e : xs[q] = y := by rw [← hy]; simp [hq]
  unfold Qx.above
  rw [List.take_succ_eq_append_getElem hq, List.countP_append, e]
  simp [h]
theorem above_no {xs : List Int} {q : Nat} {x y : Int} (hq : q < xs.length) (hy : xs.getD q 0 = y) (h : ¬ x < y) : Qx.above (xs.take (q + 1)) x = Qx.above (xs.take q) x := by
  have e : xs[q] = y := by rw [← hy]; simp [hq]
  unfold Qx.above
  rw [List.take_succ_eq_append_getElem hq, List.countP_append, e]
  simp [h]
theorem above_le (xs : List Int) (q : Nat) (x : Int) : Qx.above (xs.take q) x ≤ q := by
  unfold Qx.above
  exact Nat.le_trans List.countP_le_length (by simp; omega)
theorem above_all {xs : List Int} {q : Nat} {x : Int} (h : xs.length ≤ q) : Qx.above (xs.take q) x = Qx.above xs x := by rw [List.take_of_length_le h]

set_option maxHeartbeats 1000000 in
set_option maxRecDepth 100000 in
theorem rank_any (a : Option Addr) (n c : Nat) (xs : List Int) (m : Int) (w : World) (h : Rd w a n c xs) :
    Calls Try.prog 26 #[.slice a n c, .int .i64 m] w fun e w' => ∃ a' n' c', e = .returned (.slice a' n' c') ∧ Rd w' a' n' c' (Qx.rank xs m) ∧ Below w.heap.size w w' := by
  obtain ⟨i0, hi, hz0, hz1, hz2⟩ := info_parts Try.info3
  have H : Hid (Rd w a n c xs) := h
  have hn : n ≤ 1048576 := h.2.2.1
  have HL : Hid (xs.length = n) := h.1
  clear h
  go_enter Try.func26, Try.ntmps26
  go_wp2_with (at_make; refine wpList_make_own _ rfl _ _ 22 rfl w.heap.size 3 i0 (.int .i64 0) 1 Try.underlying22 hi hz0 hz1 _ _ _ n rfl rfl rfl ?b2 ?b3 (Nat.le_refl _) ?_)
  case b2 => rw [hz2]; omega
  case b3 => unfold maxLen; omega
  intro w0 hown0 hgrow0
  have hO0 := own_none hown0
  have hB0 : Below w.heap.size w w0 := (Below.refl _ _).grown hgrow0 (Nat.le_refl _) (fun k h => by cases h)
  clear hown0 hgrow0
  go_wp2
  go_loopw [5, 6] (fun out si wr => ∃ (k q : Nat), k ≤ n ∧ si = .int .i64 k ∧ q ≤ k ∧ out = .slice (some ⟨w.heap.size, 0, none⟩) q n ∧ Own wr w.heap.size w.heap.size q n (keep xs m k) ∧ Below w.heap.size w wr) (fun _ si _ => n - (intOf si).toNat)
  case atStart => exact ⟨0, 0, Nat.zero_le _, rfl, Nat.le_refl _, rfl, hO0, hB0⟩
  case round =>
    obtain ⟨k, q, hk, rfl, hq, rfl, hO, hB⟩ := hrel
    clear hO0 hB0 w0
    by_cases hlt : k < n
    · obtain ⟨b, off, ea, hb, hc⟩ := H.out.2.2.2 (by omega)
      subst ea
      have HC : Hid (∀ wr, Below w.heap.size w wr → ∀ i, i < n → wr.cell? ⟨b, off + i, none⟩ = some (.int .i64 (xs.getD i 0))) := fun wr hB i h => (hB.cell (p := ⟨b, off + i, none⟩) hb).trans (hc i h)
      obtain ⟨x, hx⟩ : ∃ x, xs.getD k 0 = x := ⟨_, rfl⟩
      have HX : Hid (xs.getD k 0 = x) := hx
      clear hc hx
      go_wp2
      obtain ⟨wo, ewo⟩ : ∃ wo : World, wo = wr := ⟨_, rfl⟩
      subst ewo
      go_loopw [7, 8] (fun ab sj wr => ∃ (j : Nat), j ≤ n ∧ sj = .int .i64 j ∧ ab = .int .i64 (Qx.above (xs.take j) x) ∧ Own wr w.heap.size w.heap.size q n (keep xs m k) ∧ Below w.heap.size w wr) (fun _ sj _ => n - (intOf sj).toNat)
      case atStart => exact ⟨0, Nat.zero_le _, rfl, by simp [Qx.above], hO, hB⟩
      case round =>
        obtain ⟨j, hj, rfl, rfl, hO2, hB2⟩ := hrel
        clear hO hB
        have hab := above_le xs j x
        by_cases hjn : j < n
        · have g0 := HC.out wr hB2 k hlt
          have g1 := HC.out wr hB2 j hjn
          obtain ⟨y, hy⟩ : ∃ y, xs.getD j 0 = y := ⟨_, rfl⟩
          rw [HX.out] at g0
          rw [hy] at g1
          have HY : Hid (xs.getD j 0 = y) := hy
          clear hy
          have d0 : (k : Int) < (n : Int) := by omega
          have d1 : (j : Int) < (n : Int) := by omega
          go_wp2
          go_quiet (fail)
          go_wp2
          · have hxy : x < y := by assumption
            go_roundw
            case rel => exact ⟨j + 1, by omega, by go_num, by rw [above_yes (by rw [HL.out]; exact hjn) HY.out hxy]; go_num, hO2.drewN _, bdrewN hB2 _⟩
            case measure => simp [intOf]; omega
          · have hxy : ¬ x < y := by omega
            go_roundw
            case rel => exact ⟨j + 1, by omega, by go_num, by rw [above_no (by rw [HL.out]; exact hjn) HY.out hxy], hO2.drewN _, bdrewN hB2 _⟩
            case measure => simp [intOf]; omega
        · have HA : Hid (Qx.above (xs.take j) x = Qx.above xs x) := above_all (by rw [HL.out]; omega)
          have g0 := HC.out wr hB2 k hlt
          rw [HX.out] at g0
          have d0 : (k : Int) < (n : Int) := by omega
          by_cases ht : (Qx.above (xs.take j) x : Int) < m
          · have hK : keep xs m (k + 1) = keep xs m k ++ [x] := keep_yes (by rw [HL.out]; exact hlt) HX.out (by rw [← HA.out]; exact ht)
            have HK : Hid (keep xs m (k + 1) = keep xs m k ++ [x]) := hK
            clear hK
            go_wp2_with (at_builtin; refine wpList_append_fits _ rfl (.tmp 38) (.tmp 43) 22 rfl w.heap.size 3 i0 1 Try.underlying22 hi hz1 w.heap.size q n _ rfl (World.ownsRow.alloc (w := wr) hO2 _) ⟨wr.heap.size, 0, none⟩ 1 1 [.int .i64 x] rfl rfl ?c1 ?c2 ?c3 ?_)
            case c1 => exact one_cell wr x
            case c2 => exact one_one x
            case c3 => omega
            intro w1 hown1 hgrow1
            have hO1 := Own.push hown1
            rw [← HK.out] at hO1
            have hB1 : Below w.heap.size w w1 := (hB2.alloc hB2.size _).grown hgrow1 (by simp; have := hB2.size; omega) (fun k hk => by cases hk; exact Nat.le_refl _)
            clear hown1 hgrow1
            go_wp2
            go_roundw
            case rel => exact ⟨k + 1, q + 1, by omega, by go_num, by omega, rfl, hO1, hB1⟩
            case measure => simp [intOf]; omega
          · have hK : keep xs m (k + 1) = keep xs m k := keep_no (by rw [HL.out]; exact hlt) HX.out (by rw [← HA.out]; exact ht)
            rw [← hK] at hO2
            clear hK
            go_wp2
            go_roundw
            case rel => exact ⟨k + 1, q, by omega, by go_num, by omega, rfl, hO2, hB2⟩
            case measure => simp [intOf]; omega
    · have hR : Rd wr (some ⟨w.heap.size, 0, none⟩) q n (Qx.rank xs m) := by
        rw [keep_all (by rw [HL.out]; omega)] at hO
        exact hO.rd (by omega)
      have HR : Hid (Rd wr (some ⟨w.heap.size, 0, none⟩) q n (Qx.rank xs m)) := hR
      clear hR hO
      go_wp2
      go_ret
      exact ⟨_, _, _, rfl, HR.out, hB⟩
end Go.Proofs.Qxb6602778a
