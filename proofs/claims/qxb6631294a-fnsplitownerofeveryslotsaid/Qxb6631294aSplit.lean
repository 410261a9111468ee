/-
  The contract of hashslot.Split.
-/
import Derived.Test.Qxb6631294aRows
import Derived.Test.Qxb6631294aPlain
import Derived.WalkKit
import Derived.WalkLawsBesides
namespace Go.Proofs.Qxb6631294a
open Go.RowKit

theorem info25 : (Try.prog.info? 25).map (fun i => (i.zero, i.size, i.bytes)) = some (some (.agg #[.int .i64 0, .int .i64 0]), 2, 16) := by kernel_rfl

/-- The first k ranges stand in the cells. -/
def Row (n k : Nat) (cs : Array Value) : Prop :=
  cs.size = n * 2 ∧ ∀ j, j < k → cs[j * 2]? = some (.int .i64 (F n j)) ∧ cs[j * 2 + 1]? = some (.int .i64 (F n (j + 1) - 1))

theorem Row.step {n k : Nat} {cs : Array Value} (h : Row n k cs) (hk : k < n) :
    Row n (k + 1) ((cs.setIfInBounds (k * 2) (.int .i64 (F n k))).setIfInBounds (k * 2 + 1) (.int .i64 (F n (k + 1) - 1))) := by
  refine ⟨by simpa using h.1, fun j hj => ?_⟩
  have hs := h.1
  by_cases e : j = k
  · subst e
    constructor
    · rw [Array.getElem?_setIfInBounds, if_neg (by omega), Array.getElem?_setIfInBounds, if_pos rfl, if_pos (by omega)]
    · rw [Array.getElem?_setIfInBounds, if_pos rfl, if_pos (by simp; omega)]
  · have := h.2 j (by omega)
    constructor
    · rw [Array.getElem?_setIfInBounds, if_neg (by omega), Array.getElem?_setIfInBounds, if_neg (by omega)]
      exact this.1
    · rw [Array.getElem?_setIfInBounds, if_neg (by omega), Array.getElem?_setIfInBounds, if_neg (by omega)]
      exact this.2

/-- The row behind the two stores of one range. -/
theorem blk_step {wr : World} {B : Nat} {cs : Array Value} (h : wr.heap[B]? = some (.cells cs 25 (0, 0))) (i : Nat) (u v : Value) :
    ((wr.setCell ⟨B, i, none⟩ u).setCell ⟨B, i + 1, none⟩ v).heap[B]? = some (.cells ((cs.setIfInBounds i u).setIfInBounds (i + 1) v) 25 (0, 0)) :=
  heap_setCell_same _ B (i + 1) _ 25 v (heap_setCell_same wr B i cs 25 u h)

theorem row_cell {wr : World} {B : Nat} {cs : Array Value} (h : wr.heap[B]? = some (.cells cs 25 (0, 0))) (i : Nat) (hi : i < cs.size) : ∃ v, wr.cell? ⟨B, i, none⟩ = some v :=
  ⟨cs[i], by rw [cell_of_row wr B i cs 25 (0, 0) h]; simp [hi]⟩

theorem split_any (n : Nat) (w : World) (h1 : 1 ≤ n) (h2 : n ≤ 16384) :
    Calls Try.prog 5 #[.int .i64 n] w fun e w' => e = .returned (.slice (some ⟨w.heap.size, 0, none⟩) n n) ∧ Below w.heap.size w w' ∧ w.heap.size < w'.heap.size ∧
      ∃ cs, Row n n cs ∧ w'.heap[w.heap.size]? = some (.cells cs 25 (0, 0)) := by
  obtain ⟨i0, hi, hz0, hz1, hz2⟩ := info_parts info25
  go_enter Try.func5, Try.ntmps5
  go_wp2_with (first | (at_make; refine wpList_make_full _ rfl _ _ 22 rfl w.heap.size 25 i0 (.agg #[.int .i64 0, .int .i64 0]) 2 Try.underlying22 hi hz0 hz1 _ _ _ _ n rfl rfl rfl rfl (by rw [hz2]; omega) (by unfold maxLen; omega) (Nat.le_refl _) ?_; intro w1 hown hgrow))
  go_loopw [4, 11] (fun f i wr => ∃ (k : Nat) (cs : Array Value), k ≤ n ∧ i = .int .i64 k ∧ f = .int .i64 (F n k) ∧ Row n k cs ∧ wr.heap[w.heap.size]? = some (.cells cs 25 (0, 0)) ∧ Below w.heap.size w wr) (fun _ i _ => n - (intOf i).toNat)
  case atStart =>
    rcases hown.2 with ⟨h', _⟩ | ⟨g', cap', cur, h', _, hg, _, _, hcs, _⟩
    · simp at h'
    · simp only [Value.slice.injEq, Option.some.injEq, Addr.mk.injEq, and_true, true_and] at h'
      obtain ⟨rfl, rfl⟩ := h'
      exact ⟨0, cur, Nat.zero_le _, rfl, by rw [F_zero], ⟨hcs, by omega⟩, hg, (Below.refl _ _).grown hgrow (Nat.le_refl _) (by simp)⟩
  case round =>
    obtain ⟨k, cs, hk, rfl, rfl, hrow, hblk, hbel⟩ := hrel
    have bd := F_bd n k h1 h2 hk
    have qp := q_pos n h1 h2
    by_cases hlt : k < n
    · obtain ⟨c0, hc0⟩ := row_cell hblk (k * 2) (by rw [hrow.1]; omega)
      obtain ⟨c1, hc1⟩ := row_cell hblk (k * 2 + 1) (by rw [hrow.1]; omega)
      have hf0 := frozen_of_row wr w.heap.size (k * 2) cs 25 hblk
      have hf1 := frozen_of_row wr w.heap.size (k * 2 + 1) cs 25 hblk
      have HROW : Hid _ := hrow.step hlt
      have HBLK : Hid _ := fun u v => blk_step hblk (k * 2) u v
      clear hown hgrow hrow hblk
      by_cases hr : (k : Int) < 16384 % (n : Int)
      · have HF : Hid _ := F_lo n k hr
        go_wp2_with fail
        go_roundw
        case rel =>
          refine ⟨k + 1, _, by omega, by go_num, by rw [HF.out], HROW.out, ?_, (hbel.setCell (Nat.le_refl _) _).setCell (Nat.le_refl _) _⟩
          rw [HF.out]
          exact HBLK.out _ _
        case measure => simp [intOf]; omega
      · have HF : Hid _ := F_hi n k hr
        go_wp2_with fail
        go_roundw
        case rel =>
          refine ⟨k + 1, _, by omega, by go_num, by rw [HF.out], HROW.out, ?_, (hbel.setCell (Nat.le_refl _) _).setCell (Nat.le_refl _) _⟩
          rw [HF.out]
          exact HBLK.out _ _
        case measure => simp [intOf]; omega
    · obtain rfl : k = n := by omega
      clear hown hgrow
      go_wp2_with fail
      go_ret
      refine ⟨rfl, hbel, ?_, cs, hrow, hblk⟩
      by_cases h : w.heap.size < wr.heap.size
      · exact h
      · rw [Array.getElem?_eq_none (by omega)] at hblk
        cases hblk
end Go.Proofs.Qxb6631294a
