/-
  What every walk of this seat is told of a slice: 'Rd w a n c xs': the slice value '.slice a n c' reads, in the world w, as the numbers xs. And that it reads so in every world that has grown above it.
-/
import Derived.Test.Qxb6602778aProg
import Derived.Test.Qxb6602778aPlain2
import Derived.WalkKit
import Derived.Deep.QuietTactic
import Derived.BigQuiet
import Derived.ProofKit
namespace Go.Proofs.Qxb6602778a
open Go.RowKit

theorem Try.info3 : (Try.prog.info? 3).map (fun i => (i.zero, i.size, i.bytes)) = some (some (.int .i64 0), 1, 8) := by kernel_rfl

/-- The slice reads as xs. -/
def Rd (w : World) (a : Option Addr) (n c : Nat) (xs : List Int) : Prop :=
  xs.length = n ∧ n ≤ c ∧ n ≤ 1048576 ∧ (0 < n → ∃ b off, a = some ⟨b, off, none⟩ ∧ b < w.heap.size ∧ ∀ i, i < n → w.cell? ⟨b, off + i, none⟩ = some (.int .i64 (xs.getD i 0)))

theorem Rd.below {w w' : World} {a : Option Addr} {n c : Nat} {xs : List Int} (h : Rd w a n c xs) (hb : Below w.heap.size w w') : Rd w' a n c xs := by
  obtain ⟨h1, h2, h3, h4⟩ := h
  refine ⟨h1, h2, h3, fun hn => ?_⟩
  obtain ⟨b, off, ha, hlt, hc⟩ := h4 hn
  exact ⟨b, off, ha, Nat.lt_of_lt_of_le hlt hb.size, fun i hi => (hb.cell (p := ⟨b, off + i, none⟩) hlt).trans (hc i hi)⟩

/-- Two calls one behind the other. -/
theorem bnext {w w1 w2 : World} (h1 : Below w.heap.size w w1) (h2 : Below w1.heap.size w1 w2) : Below w.heap.size w w2 := h1.trans (h2.mono h1.size)

theorem bdrewN {B : Nat} {w w1 : World} (h : Below B w w1) (k : Nat) : Below B w (w1.drewN k) := h.trans ⟨rfl, rfl, rfl, Nat.le_refl _, fun _ _ => rfl⟩

/-! ### a row of integers of the call's own -/
def Own (w : World) (B g n cap : Nat) (ys : List Int) : Prop := w.ownsRow B 3 1 (.slice (some ⟨g, 0, none⟩) n cap) n (ys.map (Value.int .i64))

theorem Own.len {w : World} {B g n cap : Nat} {ys : List Int} (h : Own w B g n cap ys) : ys.length = n := by simpa using h.1
theorem Own.cell {w : World} {B g n cap : Nat} {ys : List Int} (h : Own w B g n cap ys) (j : Nat) (hj : j < n) : w.cell? ⟨g, j, none⟩ = some (.int .i64 (ys.getD j 0)) := by
  have hl := h.len
  rw [World.ownsRow.cellAt h j (by omega)]
  simp [show j < ys.length by omega]
theorem Own.frozen {w : World} {B g n cap : Nat} {ys : List Int} (h : Own w B g n cap ys) (j : Nat) : w.frozen? ⟨g, j, none⟩ = false := World.ownsRow.frozenAt h j
theorem Own.bounds {w : World} {B g n cap : Nat} {ys : List Int} (h : Own w B g n cap ys) : B ≤ g ∧ g < w.heap.size ∧ n ≤ cap := by
  rcases h.2 with ⟨h', _⟩ | ⟨g', cap', cur, h', hb, hg, hnc, _, _, _⟩
  · simp at h'
  · simp only [Value.slice.injEq, Option.some.injEq, Addr.mk.injEq, and_true, true_and] at h'
    obtain ⟨rfl, rfl⟩ := h'
    refine ⟨hb, ?_, hnc⟩
    have := (Array.getElem?_eq_some_iff.1 hg).1
    exact this
theorem Own.set {w : World} {B g n cap : Nat} {ys : List Int} (h : Own w B g n cap ys) (j : Nat) (v : Int) : Own (w.setCell ⟨g, j, none⟩ (.int .i64 v)) B g n cap (ys.set j v) := by
  have := (World.ownsRow.stored h j (.int .i64 v)).1
  rw [← List.map_set] at this
  exact this
theorem Own.rd {w : World} {B g n cap : Nat} {ys : List Int} (h : Own w B g n cap ys) (hn : n ≤ 1048576) : Rd w (some ⟨g, 0, none⟩) n cap ys :=
  ⟨h.len, h.bounds.2.2, hn, fun _ => ⟨g, 0, rfl, h.bounds.2.1, fun i hi => by rw [Nat.zero_add]; exact h.cell i hi⟩⟩
theorem Own.drewN {w : World} {B g n cap : Nat} {ys : List Int} (h : Own w B g n cap ys) (k : Nat) : Own (w.drewN k) B g n cap ys := h
theorem own_made {w : World} {B g n : Nat} (h : w.ownsRow B 3 1 (.slice (some ⟨g, 0, none⟩) n n) n (madeCells #[.int .i64 0] n).toList) : Own w B g n n (List.replicate n 0) := by
  unfold Own
  rw [List.map_replicate]
  rw [toList_madeCells_one] at h
  exact h

/-- A slice that came in ('IsRow' of the shells, written out). -/
theorem rd_of_row {w : World} {a : Option Addr} {n c : Nat} {zs : List Int}
    (h : (a = none ∧ n = 0 ∧ c = 0 ∧ zs = []) ∨ ∃ x, a = some x ∧ n ≤ c ∧ c ≤ maxLen ∧ zs.length = c ∧ (∀ i, i < zs.length → w.cell? (x.add i) = some (.int .i64 (zs.getD i 0))) ∧ ∀ n ∈ zs, (Lit.int .i64 n).wf = true)
    (hn : n ≤ 1048576) : Rd w a n c (zs.take n) := by
  rcases h with ⟨rfl, rfl, rfl, rfl⟩ | ⟨x, rfl, hnc, _, hl, hc, _⟩
  · exact ⟨rfl, Nat.le_refl _, hn, fun h => absurd h (by omega)⟩
  · refine ⟨by simp; omega, hnc, hn, fun h0 => ?_⟩
    obtain ⟨b, off, spot⟩ := x
    have hs : spot = none := by simpa [Addr.add] using World.cell?_spot (hc 0 (by omega))
    subst hs
    refine ⟨b, off, rfl, ?_, fun i hi => ?_⟩
    · have h1 := hc 0 (by omega)
      refine Nat.lt_of_not_le fun hle => ?_
      have h2 : w.heap[b]? = none := Array.getElem?_eq_none hle
      simp [World.cell?, Addr.add, h2] at h1
    · have h1 := hc i (by omega)
      have e : (⟨b, off, none⟩ : Addr).add i = ⟨b, off + i, none⟩ := by simp [Addr.add]
      rw [e] at h1
      rw [h1]
      simp only [List.getD_eq_getElem?_getD]
      rw [List.getElem?_take, if_pos hi]

theorem ret_bool {a b : Bool} (h : a = b) : Ending.returned (.bool a) = .returned (.bool b) := by rw [h]

/-- Are the two lists one? -/
def eqB (xs ys : List Int) : Bool := decide (xs = ys)

theorem eqB_len {xs ys : List Int} (h : xs.length ≠ ys.length) : eqB xs ys = false := decide_eq_false fun e => h (by rw [e])
theorem eqB_at {xs ys : List Int} (k : Nat) (h : xs.getD k 0 ≠ ys.getD k 0) : eqB xs ys = false := decide_eq_false fun e => h (by rw [e])
theorem eqB_all {xs ys : List Int} (hl : xs.length = ys.length) (h : ∀ i, i < xs.length → xs.getD i 0 = ys.getD i 0) : eqB xs ys = true := by
  refine decide_eq_true (List.ext_getElem hl fun i h1 h2 => ?_)
  have := h i h1
  simpa [h1, h2] using this
theorem step_all {xs ys : List Int} {k : Nat} (h : ∀ i, i < k → xs.getD i 0 = ys.getD i 0) (hk : xs.getD k 0 = ys.getD k 0) : ∀ i, i < k + 1 → xs.getD i 0 = ys.getD i 0 := fun i hi => by
  by_cases e : i = k
  · subst e; exact hk
  · exact h i (by omega)
end Go.Proofs.Qxb6602778a
