/- The walk of 'zzSortedUnionTop': all numbers in one row, sorted by insertion, repeats dropped, the first n kept. -/
import Derived.Test.Qxb6602778aMerge
import Derived.Test.Qxb6602778aPlain4
namespace Go.Proofs.Qxb6602778a
open Go.RowKit

theorem Own.kept {w w' : World} {B g n cap : Nat} {ys : List Int} {row : Option Nat} (h : Own w B g n cap ys) (hg : w.grownBy w' row) (hr : row ≠ some g) : Own w' B g n cap ys :=
  World.ownsRow.kept h hg (by simpa [Value.ownBlock] using fun e => hr e.symm)
theorem Own.alloc {w : World} {B g n cap : Nat} {ys : List Int} (h : Own w B g n cap ys) (o : Obj) : Own (w.alloc o) B g n cap ys := World.ownsRow.alloc h o

theorem take_push {l : List Int} {k : Nat} {x : Int} (hk : k < l.length) (hx : l.getD k 0 = x) : l.take k ++ [x] = l.take (k + 1) := by
  have e : l[k] = x := by rw [← hx]; simp [hk]
  rw [List.take_succ_eq_append_getElem hk, e]
theorem getD_some {l : List Int} {k : Nat} {x : Int} (hk : k < l.length) (hx : l.getD k 0 = x) : l[k]? = some x := by
  rw [List.getElem?_eq_getElem hk, ← hx]; simp [hk]
theorem some_getD {l : List Int} {k : Nat} {x : Int} (hx : l[k]? = some x) : l.getD k 0 = x := by simp [hx]

theorem ni_one (l : List Int) : Qx.NI (l.take 1) := by
  cases l with
  | nil => exact List.Pairwise.nil
  | cons a l => simp [Qx.NI]

set_option maxHeartbeats 4000000 in
set_option maxRecDepth 100000 in
theorem union_any (a0 : Option Addr) (n0 c0 : Nat) (R : List Int) (a1 : Option Addr) (n1 c1 : Nat) (S : List Int) (N : Nat) (w : World) (h0 : Rd w a0 n0 c0 R) (h1 : Rd w a1 n1 c1 S) (hs : n0 + n1 ≤ 1048576) (hR : Qx.Desc R) (hS : Qx.Desc S) :
    Calls Try.prog 15 #[.slice a0 n0 c0, .slice a1 n1 c1, .int .i64 N] w fun e w' => ∃ a n c, e = .returned (.slice a n c) ∧ Rd w' a n c (Qx.mg R S N) ∧ Below w.heap.size w w' := by
  obtain ⟨i0, hi, hz0, hz1, hz2⟩ := info_parts Try.info3
  have H0 : Hid (Rd w a0 n0 c0 R) := h0
  have H1 : Hid (Rd w a1 n1 c1 S) := h1
  have HR : Hid (Qx.Desc R) := hR
  have HS : Hid (Qx.Desc S) := hS
  clear h0 h1 hR hS
  obtain ⟨T, hT⟩ : ∃ T : Nat, T = n0 + n1 := ⟨_, rfl⟩
  have HT : Hid (T = n0 + n1) := hT
  have hT1 : T ≤ 1048576 := by omega
  have hTl : T ≤ n0 + n1 := by omega
  have hTr : n0 + n1 ≤ T := by omega
  clear hT
  go_enter Try.func15, Try.ntmps15
  go_wp2_with (at_make; refine wpList_make_own _ rfl _ _ 22 rfl w.heap.size 3 i0 (.int .i64 0) 1 Try.underlying22 hi hz0 hz1 _ _ _ T rfl rfl ?e1 ?b2 ?b3 (Nat.le_refl _) ?_)
  case e1 => omega
  case b2 => rw [hz2]; omega
  case b3 => unfold maxLen; omega
  intro w0 hown0 hgrow0
  have hO0 := own_none hown0
  have hB0 : Below w.heap.size w w0 := (Below.refl _ _).grown hgrow0 (Nat.le_refl _) (fun k h => by cases h)
  clear hown0 hgrow0
  go_wp2
  go_loopw [7, 8] (fun al si wr => ∃ (k : Nat) (L : List Int), k ≤ n0 ∧ si = .int .i64 k ∧ al = .slice (some ⟨w.heap.size, 0, none⟩) k T ∧ Own wr w.heap.size w.heap.size k T L ∧ Hid (L = R.take k) ∧ Below w.heap.size w wr) (fun _ si _ => n0 - (intOf si).toNat)
  case atStart => exact ⟨0, [], Nat.zero_le _, rfl, rfl, hO0, (rfl : [] = R.take 0), hB0⟩
  case round =>
    obtain ⟨k, L, hk, rfl, rfl, hO, HLk, hB⟩ := hrel
    clear hO0 hB0 w0
    by_cases hlt : k < n0
    · obtain ⟨b, off, ea, hb, hc⟩ := H0.out.2.2.2 (by omega)
      subst ea
      have g0 : wr.cell? ⟨b, off + k, none⟩ = some (.int .i64 (R.getD k 0)) := (hB.cell (p := ⟨b, off + k, none⟩) hb).trans (hc k hlt)
      obtain ⟨x, hx⟩ : ∃ x, R.getD k 0 = x := ⟨_, rfl⟩
      rw [hx] at g0
      have HX : Hid (R.getD k 0 = x) := hx
      clear hc hx
      go_wp2_with (at_builtin; refine wpList_append_fits _ rfl (.tmp 27) (.tmp 32) 22 rfl w.heap.size 3 i0 1 Try.underlying22 hi hz1 w.heap.size k T _ rfl (World.ownsRow.alloc (w := wr) hO _) ⟨wr.heap.size, 0, none⟩ 1 1 [.int .i64 x] rfl rfl ?c1 ?c2 ?c3 ?_)
      case c1 => exact one_cell wr x
      case c2 => exact one_one x
      case c3 => omega
      intro w1 hown1 hgrow1
      have hO1 := Own.push hown1
      have HL1 : Hid (L ++ [x] = R.take (k + 1)) := by
        show L ++ [x] = R.take (k + 1)
        rw [HLk.out]; exact take_push (by rw [H0.out.1]; exact hlt) HX.out
      have hB1 : Below w.heap.size w w1 := (hB.alloc hB.size _).grown hgrow1 (by simp; have := hB.size; omega) (fun k hk => by cases hk; exact Nat.le_refl _)
      clear hown1 hgrow1
      go_wp2
      go_roundw
      case rel => exact ⟨k + 1, _, by omega, by go_num, rfl, hO1, HL1, hB1⟩
      case measure => simp [intOf]; omega
    · have ek : k = n0 := by omega
      subst ek
      rw [HLk.out, List.take_of_length_le (by rw [H0.out.1]; exact Nat.le_refl _)] at hO
      clear HLk
      go_wp2
      obtain ⟨wo, ewo⟩ : ∃ wo : World, wo = wr := ⟨_, rfl⟩
      subst ewo
      go_loopw [7, 9] (fun al si wr => ∃ (q : Nat) (L : List Int), q ≤ n1 ∧ si = .int .i64 q ∧ al = .slice (some ⟨w.heap.size, 0, none⟩) (k + q) T ∧ Own wr w.heap.size w.heap.size (k + q) T L ∧ Hid (L = R ++ S.take q) ∧ Below w.heap.size w wr) (fun _ si _ => n1 - (intOf si).toNat)
      case atStart => exact ⟨0, R, Nat.zero_le _, rfl, rfl, hO, (by simp : R = R ++ S.take 0), hB⟩
      case round =>
        clear hO hB
        obtain ⟨q, L, hq, rfl, rfl, hO, HLq, hB⟩ := hrel
        by_cases hlt : q < n1
        · obtain ⟨b, off, ea, hb, hc⟩ := H1.out.2.2.2 (by omega)
          subst ea
          have g0 : wr.cell? ⟨b, off + q, none⟩ = some (.int .i64 (S.getD q 0)) := (hB.cell (p := ⟨b, off + q, none⟩) hb).trans (hc q hlt)
          obtain ⟨x, hx⟩ : ∃ x, S.getD q 0 = x := ⟨_, rfl⟩
          rw [hx] at g0
          have HX : Hid (S.getD q 0 = x) := hx
          clear hc hx
          go_wp2_with (at_builtin; refine wpList_append_fits _ rfl (.tmp 40) (.tmp 45) 22 rfl w.heap.size 3 i0 1 Try.underlying22 hi hz1 w.heap.size (k + q) T _ rfl (World.ownsRow.alloc (w := wr) hO _) ⟨wr.heap.size, 0, none⟩ 1 1 [.int .i64 x] rfl rfl ?c1 ?c2 ?c3 ?_)
          case c1 => exact one_cell wr x
          case c2 => exact one_one x
          case c3 => omega
          intro w1 hown1 hgrow1
          have hO1 := Own.push hown1
          have HL1 : Hid (L ++ [x] = R ++ S.take (q + 1)) := by
            show L ++ [x] = R ++ S.take (q + 1)
            rw [HLq.out, List.append_assoc, take_push (by rw [H1.out.1]; exact hlt) HX.out]
          have hB1 : Below w.heap.size w w1 := (hB.alloc hB.size _).grown hgrow1 (by simp; have := hB.size; omega) (fun k hk => by cases hk; exact Nat.le_refl _)
          clear hown1 hgrow1
          go_wp2
          go_roundw
          case rel => exact ⟨q + 1, _, by omega, by go_num, rfl, hO1, HL1, hB1⟩
          case measure => simp [intOf]; omega
        · have ek : q = n1 := by omega
          subst ek
          rw [HLq.out, List.take_of_length_le (by rw [H1.out.1]; exact Nat.le_refl _)] at hO
          clear HLq
          have eT : T = k + q := by omega
          subst eT
          clear HT hTl hTr
          have hLen : (R ++ S).length = k + q := hO.len
          have HLen : Hid ((R ++ S).length = k + q) := hLen
          clear hLen
          go_wp2
          obtain ⟨wo, ewo⟩ : ∃ wo : World, wo = wr := ⟨_, rfl⟩
          subst ewo
          go_loopw [10] (fun si wr => ∃ (p : Nat) (L : List Int), 1 ≤ p ∧ (p ≤ k + q ∨ p = 1) ∧ si = .int .i64 p ∧ Own wr w.heap.size w.heap.size (k + q) (k + q) L ∧ Hid (L.Perm (R ++ S) ∧ Qx.NI (L.take p)) ∧ Below w.heap.size w wr) (fun si _ => k + q - (intOf si).toNat)
          case atStart => exact ⟨1, _, Nat.le_refl _, .inr rfl, rfl, hO, ⟨List.Perm.refl _, ni_one _⟩, hB⟩
          case round =>
            clear hO hB
            obtain ⟨p, L, hp1, hp, rfl, hO, HLs, hB⟩ := hrel
            by_cases hlt : p < k + q
            · have hlen := hO.len
              have HLL : Hid (L.length = k + q) := hlen
              clear hlen
              have g0 := hO.cell p hlt
              obtain ⟨x, hx⟩ : ∃ x, L.getD p 0 = x := ⟨_, rfl⟩
              rw [hx] at g0
              have HX : Hid (L[p]? = some x) := getD_some (by rw [HLL.out]; exact hlt) hx
              clear hx
              go_wp2
              obtain ⟨wq, ewq⟩ : ∃ wq : World, wq = wr := ⟨_, rfl⟩
              subst ewq
              go_loopw [12] (fun sj wr => ∃ (j : Nat) (y : Int) (Z : List Int), j ≤ p ∧ sj = .int .i64 j ∧ Own wr w.heap.size w.heap.size (k + q) (k + q) Z ∧ Hid (Z = Qx.mid (L.take p) j y (L.drop (p + 1))) ∧ Hid (∀ t ∈ (L.take p).drop j, t < x) ∧ Below w.heap.size w wr) (fun sj _ => (intOf sj).toNat)
              case atStart => exact ⟨p, x, L, Nat.le_refl _, rfl, hO, (Qx.mid_start L p x HX.out).symm, (fun t ht => by simp at ht), hB⟩
              case round =>
                clear hO hB g0
                obtain ⟨j, y, Z, hj, rfl, hO, HZ, HJ, hB⟩ := hrel
                by_cases hj0 : 0 < j
                · have g0 := hO.cell (j - 1) (by omega)
                  obtain ⟨z, hz⟩ : ∃ z, Z.getD (j - 1) 0 = z := ⟨_, rfl⟩
                  rw [hz] at g0
                  have HZZ : Hid (Z.getD (j - 1) 0 = z) := hz
                  clear hz
                  have d0 : (0 : Int) < (j : Int) := by omega
                  have d1 : (j : Int) - 1 < (k : Int) + (q : Int) := by omega
                  have d2 : (0 : Int) ≤ (j : Int) - 1 := by omega
                  by_cases hzx : z < x
                  · have HST := Qx.shift_step (by rw [HLL.out]; exact hlt) hj0 hj HZ.out HZZ.out hzx HJ.out
                    have HS1 : Hid (Z.set j z = Qx.mid (L.take p) (j - 1) z (L.drop (p + 1))) := HST.1
                    have HS2 : Hid (∀ t ∈ (L.take p).drop (j - 1), t < x) := HST.2
                    clear HST
                    have q1 := hO.cell j (by omega)
                    have q2 := hO.frozen j
                    obtain ⟨v, hv⟩ : ∃ v, Z.getD j 0 = v := ⟨_, rfl⟩
                    rw [hv] at q1
                    clear hv
                    have dj : (j : Int) < (k : Int) + (q : Int) := by omega
                    go_wp2
                    go_roundw
                    case rel => exact ⟨j - 1, z, _, by omega, by go_num, hO.set j z, HS1, HS2, hB.setCell (by exact Nat.le_refl _) _⟩
                    case measure => simp [intOf]; omega
                  · have H2 : Hid (0 < j → x ≤ Z.getD (j - 1) 0) := fun _ => by rw [HZZ.out]; omega
                    have hO3 := hO.set j x
                    have HLS : Hid ((Z.set j x).Perm (R ++ S) ∧ Qx.NI ((Z.set j x).take (p + 1))) := Qx.lay_step (by rw [HLL.out]; exact hlt) hj HX.out HZ.out HJ.out HLs.out H2.out
                    have hB3 : Below w.heap.size w (wr.setCell ⟨w.heap.size, j, none⟩ (.int .i64 x)) := hB.setCell (by exact Nat.le_refl _) _
                    have q1 := hO.cell j (by omega)
                    have q2 := hO.frozen j
                    obtain ⟨v, hv⟩ : ∃ v, Z.getD j 0 = v := ⟨_, rfl⟩
                    rw [hv] at q1
                    clear hv
                    have dj : (j : Int) < (k : Int) + (q : Int) := by omega
                    go_wp2
                    go_roundw
                    case rel => exact ⟨p + 1, _, by omega, by omega, by go_num, hO3, HLS, hB3⟩
                    case measure => simp [intOf]; omega
                · have H2 : Hid (0 < j → x ≤ Z.getD (j - 1) 0) := fun h => absurd h hj0
                  have d0 : ¬ (0 : Int) < (j : Int) := by omega
                  have hO3 := hO.set j x
                  have HLS : Hid ((Z.set j x).Perm (R ++ S) ∧ Qx.NI ((Z.set j x).take (p + 1))) := Qx.lay_step (by rw [HLL.out]; exact hlt) hj HX.out HZ.out HJ.out HLs.out H2.out
                  have hB3 : Below w.heap.size w (wr.setCell ⟨w.heap.size, j, none⟩ (.int .i64 x)) := hB.setCell (by exact Nat.le_refl _) _
                  have q1 := hO.cell j (by omega)
                  have q2 := hO.frozen j
                  obtain ⟨v, hv⟩ : ∃ v, Z.getD j 0 = v := ⟨_, rfl⟩
                  rw [hv] at q1
                  clear hv
                  have dj : (j : Int) < (k : Int) + (q : Int) := by omega
                  go_wp2
                  go_roundw
                  case rel => exact ⟨p + 1, _, by omega, by omega, by go_num, hO3, HLS, hB3⟩
                  case measure => simp [intOf]; omega
            · have hlen := hO.len
              have HLL : Hid (L.length = k + q) := hlen
              have HNL : Hid (L.Perm (R ++ S) ∧ Qx.NI L) := by
                have h := HLs.out
                rw [List.take_of_length_le (by omega)] at h
                exact h
              clear hlen HLs
              obtain ⟨wo, ewo⟩ : ∃ wo : World, wo = wr := ⟨_, rfl⟩
              subst ewo
              have hgo : w.heap.size < wo.heap.size := hO.bounds.2.1
              go_wp2_with (at_make; refine wpList_make_own _ rfl _ _ 22 rfl w.heap.size 3 i0 (.int .i64 0) 1 Try.underlying22 hi hz0 hz1 _ _ _ (k + q) rfl rfl ?e1 ?b2 ?b3 hB.size ?_)
              case e1 => omega
              case b2 => rw [hz2]; omega
              case b3 => unfold maxLen; omega
              intro w6 hown6 hgrow6
              have hO6 := own_none hown6
              have hL6 : Own w6 w.heap.size w.heap.size (k + q) (k + q) L := hO.kept hgrow6 (by simp)
              have hB6 : Below w.heap.size w w6 := hB.grown hgrow6 hB.size (fun k h => by cases h)
              clear hown6 hgrow6 hO hB
              go_wp2
              go_loopw [13, 14] (fun out si wr => ∃ (i m : Nat) (O : List Int), i ≤ k + q ∧ m ≤ i ∧ m ≤ N ∧ si = .int .i64 i ∧ out = .slice (some ⟨wo.heap.size, 0, none⟩) m (k + q) ∧ Own wr w.heap.size wo.heap.size m (k + q) O ∧ Own wr w.heap.size w.heap.size (k + q) (k + q) L ∧ Hid (Qx.Desc O ∧ ∀ z, z ∈ O ↔ z ∈ L.take i) ∧ Below w.heap.size w wr) (fun _ si _ => k + q - (intOf si).toNat)
              case atStart => exact ⟨0, 0, [], Nat.zero_le _, Nat.le_refl _, Nat.zero_le _, rfl, rfl, hO6, hL6, ⟨List.Pairwise.nil, fun z => by simp⟩, hB6⟩
              case round =>
                clear hO6 hL6 hB6 w6
                obtain ⟨i, m, O, hik, hmi, hmN, rfl, rfl, hOo, hOl, HD, hB⟩ := hrel
                by_cases c0 : i < k + q
                · have d0 : (i : Int) < (k : Int) + (q : Int) := by omega
                  by_cases c1 : m < N
                  · have d1 : (m : Int) < (N : Int) := by omega
                    have g0 := hOl.cell i c0
                    obtain ⟨x, hx⟩ : ∃ x, L.getD i 0 = x := ⟨_, rfl⟩
                    rw [hx] at g0
                    have HX : Hid (L[i]? = some x) := getD_some (by rw [HLL.out]; exact c0) hx
                    clear hx
                    by_cases c2 : 0 < i
                    · have d2 : (0 : Int) < (i : Int) := by omega
                      have d3 : (i : Int) - 1 < (k : Int) + (q : Int) := by omega
                      have d4 : (0 : Int) ≤ (i : Int) - 1 := by omega
                      have g1 := hOl.cell (i - 1) (by omega)
                      obtain ⟨z, hz⟩ : ∃ z, L.getD (i - 1) 0 = z := ⟨_, rfl⟩
                      rw [hz] at g1
                      have HZ : Hid (L[i - 1]? = some z) := getD_some (by rw [HLL.out]; omega) hz
                      clear hz
                      by_cases c3 : x = z
                      · have d5 : (x == z) = true := beq_iff_eq.2 c3
                        have HN : Hid (Qx.Desc O ∧ ∀ z, z ∈ O ↔ z ∈ L.take (i + 1)) := ⟨HD.out.1, Qx.dd_skip L O i x c2 HX.out (by rw [HZ.out, c3]) HD.out.2⟩
                        clear c3
                        go_wp2
                        go_quiet (fail)
                        go_wp2
                        go_roundw
                        case rel => exact ⟨i + 1, m, O, by omega, by omega, by omega, by go_num, rfl, hOo.drewN _, hOl.drewN _, HN, bdrewN hB _⟩
                        case measure => simp [intOf]; omega
                      · have d5 : (x == z) = false := beq_eq_false_iff_ne.2 c3
                        have HN : Hid (Qx.Desc (O ++ [x]) ∧ ∀ z, z ∈ O ++ [x] ↔ z ∈ L.take (i + 1)) := Qx.dd_lay L O HNL.out.2 i x HX.out (fun _ h => c3 (by rw [HZ.out] at h; exact (Option.some.inj h).symm)) HD.out.1 HD.out.2
                        clear c3
                        go_wp2
                        go_quiet (fail)
                        go_wp2_with (at_builtin; refine wpList_append_fits _ rfl (.tmp 112) (.tmp 117) 22 rfl w.heap.size 3 i0 1 Try.underlying22 hi hz1 wo.heap.size m (k + q) _ rfl (World.ownsRow.alloc (w := wr.drewN _) hOo _) ⟨wr.heap.size, 0, none⟩ 1 1 [.int .i64 x] rfl rfl ?c1 ?c2 ?c3 ?_)
                        case c1 => exact one_cell (wr.drewN _) x
                        case c2 => exact one_one x
                        case c3 => omega
                        intro w1 hown1 hgrow1
                        have hO1 := Own.push hown1
                        have hL1 : Own w1 w.heap.size w.heap.size (k + q) (k + q) L := Own.kept (Own.alloc (hOl.drewN _) _) hgrow1 (by intro e; have := Option.some.inj e; omega)
                        have hB1 : Below w.heap.size w w1 := ((bdrewN hB _).alloc hB.size _).grown hgrow1 (by simp; have := hB.size; omega) (fun k hk => by cases hk; omega)
                        clear hown1 hgrow1
                        go_wp2
                        go_roundw
                        case rel => exact ⟨i + 1, m + 1, _, by omega, by omega, by omega, by go_num, rfl, hO1, hL1, HN, hB1⟩
                        case measure => simp [intOf]; omega
                    · have d2 : decide ((0 : Int) < (i : Int)) = false := by simp; omega
                      have HN : Hid (Qx.Desc (O ++ [x]) ∧ ∀ z, z ∈ O ++ [x] ↔ z ∈ L.take (i + 1)) := Qx.dd_lay L O HNL.out.2 i x HX.out (fun h => absurd h c2) HD.out.1 HD.out.2
                      go_wp2
                      go_quiet (fail)
                      go_wp2_with (at_builtin; refine wpList_append_fits _ rfl (.tmp 112) (.tmp 117) 22 rfl w.heap.size 3 i0 1 Try.underlying22 hi hz1 wo.heap.size m (k + q) _ rfl (World.ownsRow.alloc (w := wr.drewN _) hOo _) ⟨wr.heap.size, 0, none⟩ 1 1 [.int .i64 x] rfl rfl ?c1 ?c2 ?c3 ?_)
                      case c1 => exact one_cell (wr.drewN _) x
                      case c2 => exact one_one x
                      case c3 => omega
                      intro w1 hown1 hgrow1
                      have hO1 := Own.push hown1
                      have hL1 : Own w1 w.heap.size w.heap.size (k + q) (k + q) L := Own.kept (Own.alloc (hOl.drewN _) _) hgrow1 (by intro e; have := Option.some.inj e; omega)
                      have hB1 : Below w.heap.size w w1 := ((bdrewN hB _).alloc hB.size _).grown hgrow1 (by simp; have := hB.size; omega) (fun k hk => by cases hk; omega)
                      clear hown1 hgrow1
                      go_wp2
                      go_roundw
                      case rel => exact ⟨i + 1, m + 1, _, by omega, by omega, by omega, by go_num, rfl, hO1, hL1, HN, hB1⟩
                      case measure => simp [intOf]; omega
                  · have d1 : ¬ (m : Int) < (N : Int) := by omega
                    have e := Qx.dd_end R S L O N i HR.out HS.out HNL.out.1 HNL.out.2 HD.out.1 HD.out.2 (by rw [hOo.len]; exact hmN) (by rw [hOo.len, HLL.out]; omega)
                    have hRd : Rd wr (some ⟨wo.heap.size, 0, none⟩) m (k + q) (Qx.mg R S N) := by rw [← e]; exact hOo.rd (by omega)
                    have HRd : Hid (Rd wr (some ⟨wo.heap.size, 0, none⟩) m (k + q) (Qx.mg R S N)) := hRd
                    clear e hRd
                    go_wp2
                    go_ret
                    exact ⟨_, _, _, rfl, HRd.out, hB⟩
                · have d0 : ¬ (i : Int) < (k : Int) + (q : Int) := by omega
                  have e := Qx.dd_end R S L O N i HR.out HS.out HNL.out.1 HNL.out.2 HD.out.1 HD.out.2 (by rw [hOo.len]; exact hmN) (by rw [hOo.len, HLL.out]; omega)
                  have hRd : Rd wr (some ⟨wo.heap.size, 0, none⟩) m (k + q) (Qx.mg R S N) := by rw [← e]; exact hOo.rd (by omega)
                  have HRd : Hid (Rd wr (some ⟨wo.heap.size, 0, none⟩) m (k + q) (Qx.mg R S N)) := hRd
                  clear e hRd
                  go_wp2
                  go_ret
                  exact ⟨_, _, _, rfl, HRd.out, hB⟩
end Go.Proofs.Qxb6602778a
