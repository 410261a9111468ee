/-
  Wrapping sums of lists of numbers; what the walks say of memory. No function of the program in sight.
-/
import Derived.WalkKit
namespace Go.Proofs.Qxb6632223a
open Go.RowKit

/-- The plain sum. -/
def tot : List Int → Int
  | [] => 0
  | x :: l => x + tot l

theorem tot_append (a b : List Int) : tot (a ++ b) = tot a + tot b := by
  induction a with
  | nil => simp [tot]
  | cons x a ih => simp only [List.cons_append, tot, ih]; omega
theorem tot_reverse (a : List Int) : tot a.reverse = tot a := by
  induction a with
  | nil => rfl
  | cons x a ih => rw [List.reverse_cons, tot_append, ih]; simp only [tot]; omega
theorem tot_take_succ (l : List Int) (k : Nat) (h : k < l.length) : tot (l.take (k + 1)) = tot (l.take k) + l[k] := by
  rw [List.take_succ_eq_append_getElem h, tot_append]
  simp only [tot]
  omega
theorem wrap_step (a b : Int) : wrap64 (wrap64 a + b) = wrap64 (a + b) := by unfold wrap64; omega
theorem wrap_both (a b : Int) : wrap64 (wrap64 a + wrap64 b) = wrap64 (a + b) := by unfold wrap64; omega
theorem wrap_id (a : Int) (h1 : -9223372036854775808 ≤ a) (h2 : a ≤ 9223372036854775807) : wrap64 a = a := by unfold wrap64; omega

/-- A row of strings that came in: each element's cell holds a string. -/
def StrRow (w : World) (a : Option Addr) (len : Nat) : Prop :=
  ∀ i, i < len → ∃ b off s, a = some ⟨b, off, none⟩ ∧ w.cell? ⟨b, off + i, none⟩ = some (.string s)
/-- A row of int64 that came in. -/
def IntRow (w : World) (a : Option Addr) (zs : List Int) : Prop :=
  ∀ (i : Nat) (h : i < zs.length), ∃ b off, a = some ⟨b, off, none⟩ ∧ w.cell? ⟨b, off + i, none⟩ = some (.int .i64 zs[i])
/-- A row of grants of the call's own making: four strings and the shares, an element. -/
def GrantRow (w : World) (a : Option Addr) (xs : List Int) : Prop :=
  ∀ (j : Nat) (h : j < xs.length), ∃ g s0 s1 s2 s3, a = some ⟨g, 0, none⟩ ∧ w.cell? ⟨g, j * 5, none⟩ = some (.string s0) ∧ w.cell? ⟨g, j * 5 + 1, none⟩ = some (.string s1) ∧
    w.cell? ⟨g, j * 5 + 1 + 1, none⟩ = some (.string s2) ∧ w.cell? ⟨g, j * 5 + 1 + 1 + 1, none⟩ = some (.string s3) ∧ w.cell? ⟨g, j * 5 + 1 + 1 + 1 + 1, none⟩ = some (.int .i64 xs[j])

theorem cell_kept {w w' : World} {B : Nat} {p : Addr} {v : Value} (hb : Below B w w') (hp : p.block < B) (h : w.cell? p = some v) : w'.cell? p = some v := (hb.cell hp).trans h

theorem StrRow.below {w w' : World} {a : Option Addr} {n : Nat} (h : StrRow w a n) (hb : Below w.heap.size w w') : StrRow w' a n := by
  intro i hi
  obtain ⟨b, off, s, rfl, hc⟩ := h i hi
  exact ⟨b, off, s, rfl, cell_kept hb (block_lt_of_cell hc) hc⟩
theorem IntRow.below {w w' : World} {a : Option Addr} {zs : List Int} (h : IntRow w a zs) (hb : Below w.heap.size w w') : IntRow w' a zs := by
  intro i hi
  obtain ⟨b, off, rfl, hc⟩ := h i hi
  exact ⟨b, off, rfl, cell_kept hb (block_lt_of_cell hc) hc⟩
theorem GrantRow.below {w w' : World} {a : Option Addr} {xs : List Int} (h : GrantRow w a xs) (hb : Below w.heap.size w w') : GrantRow w' a xs := by
  intro j hj
  obtain ⟨g, s0, s1, s2, s3, rfl, h0, h1, h2, h3, h4⟩ := h j hj
  exact ⟨g, s0, s1, s2, s3, rfl, cell_kept hb (block_lt_of_cell h0) h0, cell_kept hb (block_lt_of_cell h1) h1, cell_kept hb (block_lt_of_cell h2) h2, cell_kept hb (block_lt_of_cell h3) h3, cell_kept hb (block_lt_of_cell h4) h4⟩
theorem GrantRow.nil (w : World) (a : Option Addr) : GrantRow w a [] := by
  intro j hj
  simp at hj

end Go.Proofs.Qxb6632223a
