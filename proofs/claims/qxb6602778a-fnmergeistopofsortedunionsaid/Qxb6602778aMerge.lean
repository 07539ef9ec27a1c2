/- The walk of 'merge': the n largest of the union. -/
import Derived.Test.Qxb6602778aBase
import Derived.Test.Qxb6602778aPlain3
namespace Go.Proofs.Qxb6602778a
open Go.RowKit

theorem Own.push {w : World} {B g n cap : Nat} {ys : List Int} {x : Int} (h : w.ownsRow B 3 1 (.slice (some ⟨g, 0, none⟩) (n + 1) cap) (n + 1) (ys.map (Value.int .i64) ++ [.int .i64 x])) : Own w B g (n + 1) cap (ys ++ [x]) := by
  unfold Own
  rw [List.map_append]
  exact h
theorem own_none {w : World} {B g cap : Nat} (h : w.ownsRow B 3 1 (.slice (some ⟨g, 0, none⟩) 0 cap) 0 []) : Own w B g 0 cap [] := h
/-- The one cell that 'append' has laid for its element. -/
theorem one_cell (w : World) (x : Int) : ∀ (j : Nat) (u : Value), [Value.int .i64 x][j]? = some u → (w.alloc (.cells #[.int .i64 x] 3)).cell? ((⟨w.heap.size, 0, none⟩ : Addr).add j) = some u := by
  intro j u hj
  match j, hj with
  | 0, hj => simp at hj; subst hj; simp [Addr.add]
theorem one_one (x : Int) : ∀ u ∈ [Value.int .i64 x], u.oneCell' = true := by intro u hu; simp at hu; subst hu; rfl

set_option maxHeartbeats 4000000 in
set_option maxRecDepth 100000 in
theorem merge_any (a0 : Option Addr) (n0 c0 : Nat) (R : List Int) (a1 : Option Addr) (n1 c1 : Nat) (S : List Int) (N : Nat) (w : World) (h0 : Rd w a0 n0 c0 R) (h1 : Rd w a1 n1 c1 S) (hs : n0 + n1 ≤ 1048576) :
    Calls Try.prog 29 #[.slice a0 n0 c0, .slice a1 n1 c1, .int .i64 N] w fun e w' => ∃ a n c, e = .returned (.slice a n c) ∧ Rd w' a n c (Qx.mg R S N) ∧ Below w.heap.size w w' := by
  obtain ⟨i0, hi, hz0, hz1, hz2⟩ := info_parts Try.info3
  obtain ⟨K, hK⟩ : ∃ K : Nat, K = min (n0 + n1) N := ⟨_, rfl⟩
  have hK1 : K ≤ n0 + n1 := by omega
  have HK : Hid (K = min (n0 + n1) N) := hK
  have H0 : Hid (Rd w a0 n0 c0 R) := h0
  have H1 : Hid (Rd w a1 n1 c1 S) := h1
  clear h0 h1 hK
  rcases Nat.lt_or_ge N (n0 + n1) with hm | hm
  all_goals
    go_enter Try.func29, Try.ntmps29
    go_wp2_with (at_make; refine wpList_make_own _ rfl _ _ 33 rfl w.heap.size 3 i0 (.int .i64 0) 1 Try.underlying33 hi hz0 hz1 _ _ _ K rfl rfl ?e1 ?b2 ?b3 (Nat.le_refl _) ?_)
    case e1 => have := HK.out; omega
    case b2 => rw [hz2]; omega
    case b3 => unfold maxLen; omega
    intro w0 hown0 hgrow0
    have hO0 := own_none hown0
    have hB0 : Below w.heap.size w w0 := (Below.refl _ _).grown hgrow0 (Nat.le_refl _) (fun k h => by cases h)
    clear hown0 hgrow0
    go_wp2
    go_loopw [7, 8, 9] (fun out si sj wr => ∃ (i j m : Nat) (xs : List Int), i ≤ n0 ∧ j ≤ n1 ∧ m ≤ N ∧ si = .int .i64 i ∧ sj = .int .i64 j ∧ out = .slice (some ⟨w.heap.size, 0, none⟩) m K ∧ Own wr w.heap.size w.heap.size m K xs ∧ Hid (xs ++ Qx.mu (R.drop i) (S.drop j) = Qx.mu R S) ∧ Below w.heap.size w wr)
      (fun _ si sj _ => (n0 - (intOf si).toNat) + (n1 - (intOf sj).toNat))
    case atStart => exact ⟨0, 0, 0, [], Nat.zero_le _, Nat.zero_le _, Nat.zero_le _, rfl, rfl, rfl, hO0, (by simp : [] ++ Qx.mu (R.drop 0) (S.drop 0) = Qx.mu R S), hB0⟩
    case round =>
      obtain ⟨i, j, m, xs, hi0, hj1, hmN, rfl, rfl, rfl, hO, HX, hB⟩ := hrel
      clear hO0 hB0 w0
      have hcell0 : Hid (i < n0 → ∃ b off, a0 = some ⟨b, off, none⟩ ∧ wr.cell? ⟨b, off + i, none⟩ = some (.int .i64 (R.getD i 0))) := by
        intro h
        obtain ⟨_, _, _, hr⟩ := H0.out
        obtain ⟨b, off, ea, hb', hc⟩ := hr (by omega)
        exact ⟨b, off, ea, (hB.cell (p := ⟨b, off + i, none⟩) hb').trans (hc i h)⟩
      have hcell1 : Hid (j < n1 → ∃ b off, a1 = some ⟨b, off, none⟩ ∧ wr.cell? ⟨b, off + j, none⟩ = some (.int .i64 (S.getD j 0))) := by
        intro h
        obtain ⟨_, _, _, hr⟩ := H1.out
        obtain ⟨b, off, ea, hb', hc⟩ := hr (by omega)
        exact ⟨b, off, ea, (hB.cell (p := ⟨b, off + j, none⟩) hb').trans (hc j h)⟩
      have hroom : (i < n0 ∨ j < n1) → m < N → m + 1 ≤ K := fun h h' => by
        have := Qx.mg_room HX.out (by rw [H0.out.1, H1.out.1]; exact h)
        rw [H0.out.1, H1.out.1, hO.len] at this
        have := HK.out
        omega
      by_cases c0 : m < N
      · by_cases c1 : j < n1
        · by_cases c2 : i < n0
          · -- both have a next
            obtain ⟨b, off, ea, g0⟩ := hcell0.out c2
            subst ea
            obtain ⟨b', off', eb, g1⟩ := hcell1.out c1
            subst eb
            have hr := hroom (.inr c1) c0
            obtain ⟨x, hx⟩ : ∃ x, R.getD i 0 = x := ⟨_, rfl⟩
            rw [hx] at g0
            have HXV : Hid (R.getD i 0 = x) := hx
            clear hx
            obtain ⟨y, hy⟩ : ∃ y, S.getD j 0 = y := ⟨_, rfl⟩
            rw [hy] at g1
            have HYV : Hid (S.getD j 0 = y) := hy
            clear hy
            clear hroom hcell0 hcell1
            have d0 : (m : Int) < (N : Int) := by omega
            have d1 : (i : Int) < (n0 : Int) := by omega
            have dj : (j : Int) < (n1 : Int) := by omega
            have d2 : ((j : Int) == (n1 : Int)) = false := beq_eq_false_iff_ne.2 (by omega)
            have d3 : ((i : Int) == (n0 : Int)) = false := beq_eq_false_iff_ne.2 (by omega)
            by_cases q1 : y < x
            · go_wp2
              go_quiet (fail)
              go_wp2_with (at_builtin; refine wpList_append_fits _ rfl (.tmp 67) (.tmp 72) 33 rfl w.heap.size 3 i0 1 Try.underlying33 hi hz1 w.heap.size m K _ rfl (World.ownsRow.alloc (w := wr.drewN _) hO _) ⟨wr.heap.size, 0, none⟩ 1 1 [.int .i64 x] rfl rfl ?c1 ?c2 ?c3 ?_)
              case c1 => exact one_cell (wr.drewN _) x
              case c2 => exact one_one x
              case c3 => exact hr
              intro w1 hown1 hgrow1
              have hO1 := Own.push hown1
              have hB1 : Below w.heap.size w w1 := ((bdrewN hB _).alloc hB.size _).grown hgrow1 (by simp; have := hB.size; omega) (fun k hk => by cases hk; exact Nat.le_refl _)
              clear hown1 hgrow1
              go_wp2
              go_roundw
              case rel => exact ⟨i + 1, j, m + 1, xs ++ [x], by omega, by omega, by omega, by go_num, rfl, rfl, hO1, (by rw [← HXV.out]; exact Qx.mg_r HX.out (by rw [H0.out.1]; exact c2) (.inr ⟨by rw [H1.out.1]; exact c1, by rw [HXV.out, HYV.out]; exact q1⟩) : (xs ++ [x]) ++ Qx.mu (R.drop (i + 1)) (S.drop j) = Qx.mu R S), hB1⟩
              case measure => simp [intOf]; omega
            · by_cases q2 : x < y
              · have q1' : ¬ y < x := q1
                go_wp2
                go_quiet (fail)
                go_wp2
                go_quiet (fail)
                go_wp2_with (at_builtin; refine wpList_append_fits _ rfl (.tmp 92) (.tmp 97) 33 rfl w.heap.size 3 i0 1 Try.underlying33 hi hz1 w.heap.size m K _ rfl (World.ownsRow.alloc (w := wr.drewN _) hO _) ⟨wr.heap.size, 0, none⟩ 1 1 [.int .i64 y] rfl rfl ?c1 ?c2 ?c3 ?_)
                case c1 => exact one_cell (wr.drewN _) y
                case c2 => exact one_one y
                case c3 => exact hr
                intro w1 hown1 hgrow1
                have hO1 := Own.push hown1
                have hB1 : Below w.heap.size w w1 := ((bdrewN hB _).alloc hB.size _).grown hgrow1 (by simp; have := hB.size; omega) (fun k hk => by cases hk; exact Nat.le_refl _)
                clear hown1 hgrow1
                go_wp2
                go_roundw
                case rel => exact ⟨i, j + 1, m + 1, xs ++ [y], by omega, by omega, by omega, rfl, by go_num, rfl, hO1, (by rw [← HYV.out]; exact Qx.mg_s HX.out (by rw [H1.out.1]; exact c1) (.inr ⟨by rw [H0.out.1]; exact c2, by rw [HXV.out, HYV.out]; exact q2⟩) : (xs ++ [y]) ++ Qx.mu (R.drop i) (S.drop (j + 1)) = Qx.mu R S), hB1⟩
                case measure => simp [intOf]; omega
              · go_wp2
                go_quiet (fail)
                go_wp2
                go_quiet (fail)
                go_wp2_with (at_builtin; refine wpList_append_fits _ rfl (.tmp 34) (.tmp 39) 33 rfl w.heap.size 3 i0 1 Try.underlying33 hi hz1 w.heap.size m K _ rfl (World.ownsRow.alloc (w := wr.drewN _) hO _) ⟨wr.heap.size, 0, none⟩ 1 1 [.int .i64 x] rfl rfl ?c1 ?c2 ?c3 ?_)
                case c1 => exact one_cell (wr.drewN _) x
                case c2 => exact one_one x
                case c3 => exact hr
                intro w1 hown1 hgrow1
                have hO1 := Own.push hown1
                have hB1 : Below w.heap.size w w1 := ((bdrewN hB _).alloc hB.size _).grown hgrow1 (by simp; have := hB.size; omega) (fun k hk => by cases hk; exact Nat.le_refl _)
                clear hown1 hgrow1
                go_wp2
                go_roundw
                case rel => exact ⟨i + 1, j + 1, m + 1, xs ++ [x], by omega, by omega, by omega, by go_num, by go_num, rfl, hO1, (by rw [← HXV.out]; exact Qx.mg_b HX.out (by rw [H0.out.1]; exact c2) (by rw [H1.out.1]; exact c1) (by rw [HXV.out, HYV.out]; omega) : (xs ++ [x]) ++ Qx.mu (R.drop (i + 1)) (S.drop (j + 1)) = Qx.mu R S), hB1⟩
                case measure => simp [intOf]; omega
          · -- R is used up: S's next
            obtain ⟨b', off', eb, g1⟩ := hcell1.out c1
            subst eb
            have hr := hroom (.inr c1) c0
            have e1 : i = n0 := by omega
            subst e1
            obtain ⟨y, hy⟩ : ∃ y, S.getD j 0 = y := ⟨_, rfl⟩
            rw [hy] at g1
            have HYV : Hid (S.getD j 0 = y) := hy
            clear hy
            clear hroom hcell0 hcell1
            have d0 : (m : Int) < (N : Int) := by omega
            have dj : (j : Int) < (n1 : Int) := by omega
            have d1 : decide ((i : Int) < (i : Int)) = false := by simp
            have d3 : ((i : Int) == (i : Int)) = true := by simp
            have d2 : ((j : Int) == (n1 : Int)) = false := beq_eq_false_iff_ne.2 (by omega)
            go_wp2
            go_quiet (fail)
            go_wp2
            go_quiet (fail)
            go_wp2_with (at_builtin; refine wpList_append_fits _ rfl (.tmp 92) (.tmp 97) 33 rfl w.heap.size 3 i0 1 Try.underlying33 hi hz1 w.heap.size m K _ rfl (World.ownsRow.alloc (w := wr.drewN _) hO _) ⟨wr.heap.size, 0, none⟩ 1 1 [.int .i64 y] rfl rfl ?c1 ?c2 ?c3 ?_)
            case c1 => exact one_cell (wr.drewN _) y
            case c2 => exact one_one y
            case c3 => exact hr
            intro w1 hown1 hgrow1
            have hO1 := Own.push hown1
            have hB1 : Below w.heap.size w w1 := ((bdrewN hB _).alloc hB.size _).grown hgrow1 (by simp; have := hB.size; omega) (fun k hk => by cases hk; exact Nat.le_refl _)
            clear hown1 hgrow1
            go_wp2
            go_roundw
            case rel => exact ⟨i, j + 1, m + 1, xs ++ [y], by omega, by omega, by omega, rfl, by go_num, rfl, hO1, (by rw [← HYV.out]; exact Qx.mg_s HX.out (by rw [H1.out.1]; exact c1) (.inl (by rw [H0.out.1]; exact Nat.le_refl _)) : (xs ++ [y]) ++ Qx.mu (R.drop i) (S.drop (j + 1)) = Qx.mu R S), hB1⟩
            case measure => simp [intOf]; omega
        · by_cases c2 : i < n0
          · -- S is used up: R's next
            obtain ⟨b, off, ea, g0⟩ := hcell0.out c2
            subst ea
            have hr := hroom (.inl c2) c0
            have e1 : j = n1 := by omega
            subst e1
            obtain ⟨x, hx⟩ : ∃ x, R.getD i 0 = x := ⟨_, rfl⟩
            rw [hx] at g0
            have HXV : Hid (R.getD i 0 = x) := hx
            clear hx
            clear hroom hcell0 hcell1
            have d0 : (m : Int) < (N : Int) := by omega
            have d1 : (i : Int) < (n0 : Int) := by omega
            have d2 : ((j : Int) == (j : Int)) = true := by simp
            go_wp2
            go_quiet (fail)
            go_wp2_with (at_builtin; refine wpList_append_fits _ rfl (.tmp 67) (.tmp 72) 33 rfl w.heap.size 3 i0 1 Try.underlying33 hi hz1 w.heap.size m K _ rfl (World.ownsRow.alloc (w := wr.drewN _) hO _) ⟨wr.heap.size, 0, none⟩ 1 1 [.int .i64 x] rfl rfl ?c1 ?c2 ?c3 ?_)
            case c1 => exact one_cell (wr.drewN _) x
            case c2 => exact one_one x
            case c3 => exact hr
            intro w1 hown1 hgrow1
            have hO1 := Own.push hown1
            have hB1 : Below w.heap.size w w1 := ((bdrewN hB _).alloc hB.size _).grown hgrow1 (by simp; have := hB.size; omega) (fun k hk => by cases hk; exact Nat.le_refl _)
            clear hown1 hgrow1
            go_wp2
            go_roundw
            case rel => exact ⟨i + 1, j, m + 1, xs ++ [x], by omega, by omega, by omega, by go_num, rfl, rfl, hO1, (by rw [← HXV.out]; exact Qx.mg_r HX.out (by rw [H0.out.1]; exact c2) (.inl (by rw [H1.out.1]; exact Nat.le_refl _)) : (xs ++ [x]) ++ Qx.mu (R.drop (i + 1)) (S.drop j) = Qx.mu R S), hB1⟩
            case measure => simp [intOf]; omega
          · have d0 : (m : Int) < (N : Int) := by omega
            have d1 : ¬ (i : Int) < (n0 : Int) := by omega
            have dj : ¬ (j : Int) < (n1 : Int) := by omega
            have e : xs = Qx.mg R S N := Qx.mg_out HX.out (by rw [hO.len]; omega) (by rw [H0.out.1]; omega) (by rw [H1.out.1]; omega)
            have hl := hO.bounds.2.2
            have hO2 : Rd wr (some ⟨w.heap.size, 0, none⟩) m K (Qx.mg R S N) := by rw [← e]; exact hO.rd (by omega)
            clear e hroom hcell0 hcell1 hO HX
            have HR : Hid (Rd wr (some ⟨w.heap.size, 0, none⟩) m K (Qx.mg R S N)) := hO2
            clear hO2
            go_wp2
            go_ret
            exact ⟨_, _, _, rfl, HR.out, hB⟩
      · have d0 : ¬ (m : Int) < (N : Int) := by omega
        have e : xs = Qx.mg R S N := Qx.mg_full HX.out (by rw [hO.len]; omega)
        have hl := hO.bounds.2.2
        have hO2 : Rd wr (some ⟨w.heap.size, 0, none⟩) m K (Qx.mg R S N) := by rw [← e]; exact hO.rd (by omega)
        clear e hroom hcell0 hcell1 hO HX
        have HR : Hid (Rd wr (some ⟨w.heap.size, 0, none⟩) m K (Qx.mg R S N)) := hO2
        clear hO2
        go_wp2
        go_ret
        exact ⟨_, _, _, rfl, HR.out, hB⟩
end Go.Proofs.Qxb6602778a
